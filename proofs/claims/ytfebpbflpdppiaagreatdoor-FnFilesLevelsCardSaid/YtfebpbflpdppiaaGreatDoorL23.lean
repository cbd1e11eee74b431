/- The plain law: a level within a level that is ended is as if it had not been begun. No program · The plain law: what is written is read. No program · The law's own functions: levels, scripts; what a run has told, as a source · The law's own functions: whether Files is awake · The law's own functions: scripts within a level; two rows of bytes are the same · FnFiles, walked. -/
import Derived.Test.YtfebpbflpdppiaaGreatDoorL22
import Derived.Test.YtfebpbflpdppiaaGreatDoorL20
namespace Go.Proofs.YtfebpbflpdppiaaGreatDoor
open Go Go.Sl
set_option maxRecDepth 100000
/-- a rollback's open transaction, without the levels that are beneath -/
structure AB where
  bytes : List Int
  wrote : List Bool
  shadow : Nat
  B : List (List Int × List Bool)
  ls : Bool
  ms : Bool
/-- with them -/
def emb (y0 : Ly) (pts : List Int) (vg : Bool) (u : AB) (A : List (List Int × List Bool)) : SS := ⟨[y0, ⟨.roll, 0, u.bytes, u.wrote, u.shadow, A ++ u.B⟩], pts, u.ls, vg, u.ms⟩
/-- how deep calls go -/
def dpF (d : ByteArray) (k : Int) : Int := if d = sBegin then k + 1 else if d = sEnd ∨ d = sRoll then k - 1 else k
def wthF : Int → List Stp → Bool
  | k, [] => decide (k = 0)
  | k, x :: l => if x.d = sClose then false else if dpF x.d k < 0 then false else wthF (dpF x.d k) l
section
variable {y0 : Ly} {pts : List Int} {vg : Bool}
/-- a call does not look at the levels that are beneath -/
theorem emb_do (u : AB) (st : Stp) (hB : st.d = sEnd ∨ st.d = sRoll → u.B ≠ []) (hc : st.d ≠ sClose) : ∃ (u' : AB) (w : Wnt) (q : Bool), (∀ A, A ≠ [] → doF (emb y0 pts vg u A) st.d st.off st.n st.bs = (emb y0 pts vg u' A, w, q)) ∧ ((q = true → (u'.B.length : Int) = dpF st.d u.B.length)) := by
  obtain ⟨d, off, n, bs⟩ := st
  obtain ⟨by', wr, sh, B, ls, ms⟩ := u
  dsimp only at hB hc ⊢
  by_cases hl : ls = true ∨ off < -262144 ∨ n < -262144
  · refine ⟨⟨by', wr, sh, B, true, ms⟩, w0, false, fun A hA => ?_, fun h => by cases h⟩
    unfold doF
    have hp : (emb y0 pts vg ⟨by', wr, sh, B, ls, ms⟩ A).ls = true ∨ off < -262144 ∨ n < -262144 ∨ shortF (emb y0 pts vg ⟨by', wr, sh, B, ls, ms⟩ A).ys = true := by
      rcases hl with h | h | h
      · exact .inl h
      · exact .inr (.inl h)
      · exact .inr (.inr (.inl h))
    rw [if_pos hp]
    rfl
  have hsh : ∀ A, shortF (emb y0 pts vg ⟨by', wr, sh, B, ls, ms⟩ A).ys = false := fun A => rfl
  have hl2 : ∀ A, ¬((emb y0 pts vg ⟨by', wr, sh, B, ls, ms⟩ A).ls = true ∨ off < -262144 ∨ n < -262144 ∨ shortF (emb y0 pts vg ⟨by', wr, sh, B, ls, ms⟩ A).ys = true) := fun A h => by
    rw [hsh] at h
    rcases h with h | h | h | h
    · exact hl (.inl h)
    · exact hl (.inr (.inl h))
    · exact hl (.inr (.inr h))
    · cases h
  have hls : ls = false := by cases ls with | false => rfl | true => exact absurd (.inl rfl) hl
  have hdp : ∀ k : Int, d ≠ sBegin → ¬(d = sEnd ∨ d = sRoll) → dpF d k = k := fun k h1 h2 => by unfold dpF; rw [if_neg h1, if_neg h2]
  unfold doF
  simp only [if_neg (hl2 _)]
  by_cases h1 : d = sWrite
  · subst h1
    simp only [if_pos]
    unfold doW
    by_cases ho : off < 0
    · simp only [if_pos ho]
      by_cases hb : bs.length = 0
      · simp only [if_pos hb]
        exact ⟨_, _, _, fun A _ => rfl, fun h => by cases h⟩
      · simp only [if_neg hb]
        exact ⟨_, _, _, fun A _ => rfl, fun _ => rfl⟩
    · simp only [if_neg ho]
      by_cases hb : bs.length = 0 ∧ (by'.length : Int) < off
      · refine ⟨⟨by', wr, sh, B, true, ms⟩, w0, false, fun A hA => ?_, fun h => by cases h⟩
        cases A with
        | nil => exact absurd rfl hA
        | cons a A =>
          have hsz : sizeF (emb y0 pts vg ⟨by', wr, sh, B, ls, ms⟩ (a :: A)).ys (lastK (emb y0 pts vg ⟨by', wr, sh, B, ls, ms⟩ (a :: A))) = (by'.length : Nat) := rfl
          rw [hsz, if_pos hb]
          rfl
      · refine ⟨⟨wrF (grF by' sh (off.toNat + (kn bs).length)) off.toNat (kn bs), mkF wr off.toNat (kn bs).length, sh, B, ls, grM by' sh (off.toNat + (kn bs).length) || ms⟩, ⟨0, (bs.length : Nat), []⟩, true, fun A hA => ?_, fun _ => rfl⟩
        cases A with
        | nil => exact absurd rfl hA
        | cons a A =>
          have hsz : sizeF (emb y0 pts vg ⟨by', wr, sh, B, ls, ms⟩ (a :: A)).ys (lastK (emb y0 pts vg ⟨by', wr, sh, B, ls, ms⟩ (a :: A))) = (by'.length : Nat) := rfl
          rw [hsz, if_neg hb]
          rfl
  simp only [if_neg h1]
  by_cases h2 : d = sRead
  · subst h2
    simp only [if_pos]
    unfold doRd
    by_cases hn : n < 1
    · simp only [if_pos hn]
      exact ⟨⟨by', wr, sh, B, decide (n < 0), ms⟩, _, _, fun A _ => rfl, fun h => by cases h⟩
    · simp only [if_neg hn]
      by_cases ho : off < 0
      · simp only [if_pos ho]
        exact ⟨_, _, _, fun A _ => rfl, fun _ => rfl⟩
      · simp only [if_neg ho]
        refine ⟨⟨by', wr, sh, B, ls, ms⟩, ⟨if min (off + n).toNat by'.length = by'.length then -2 else if ((min (off + n).toNat by'.length - min off.toNat by'.length : Nat) : Int) < n then 1 else 0, ((min (off + n).toNat by'.length - min off.toNat by'.length : Nat) : Int), (by'.take (min (off + n).toNat by'.length)).drop (min off.toNat by'.length)⟩, true, fun A hA => ?_, fun _ => rfl⟩
        cases A with
        | nil => exact absurd rfl hA
        | cons a A =>
          have hrd : ∀ p fr to, rdE (emb y0 pts vg ⟨by', wr, sh, B, ls, ms⟩ (a :: A)) n p fr to = if to = p.length then -2 else if ((to - fr : Nat) : Int) < n then 1 else 0 := fun p fr to => by
            unfold rdE
            have : inT (emb y0 pts vg ⟨by', wr, sh, B, ls, ms⟩ (a :: A)) = true := by
              show decide (0 < (a :: A ++ B).length) = true
              simp
            rw [this]
            by_cases ht : to = p.length
            · rw [if_pos ⟨by show 0 < 1; omega, ht, rfl⟩, if_pos ht]
            · rw [if_neg (fun h => ht h.2.1), if_neg ht]
          rw [hrd]
          rfl
  simp only [if_neg h2]
  by_cases h3 : d = sSize
  · subst h3
    simp only [if_pos]
    refine ⟨⟨by', wr, sh, B, ls, ms⟩, ⟨0, (by'.length : Nat), []⟩, true, fun A hA => ?_, fun _ => rfl⟩
    cases A with
    | nil => exact absurd rfl hA
    | cons a A => rfl
  simp only [if_neg h3]
  by_cases h4 : d = sTrunc
  · subst h4
    simp only [if_pos]
    unfold doTr
    by_cases hn : n < 0
    · simp only [if_pos hn]
      exact ⟨⟨by', wr, sh, B, ls, ms⟩, ⟨-1, 0, []⟩, true, fun A _ => rfl, fun _ => rfl⟩
    · simp only [if_neg hn]
      refine ⟨⟨cutF (grF by' (if n.toNat < by'.length then max sh by'.length else sh) n.toNat) n.toNat, wr.take n.toNat, if n.toNat < by'.length then max sh by'.length else sh, B, ls, grM by' (if n.toNat < by'.length then max sh by'.length else sh) n.toNat || ms⟩, ⟨0, 0, []⟩, true, fun A hA => ?_, fun _ => rfl⟩
      cases A with
      | nil => exact absurd rfl hA
      | cons a A => rfl
  simp only [if_neg h4]
  by_cases h5 : d = sPunch
  · subst h5
    simp only [if_pos]
    refine ⟨⟨by', wr, sh, B, true, ms⟩, w0, false, fun A hA => ?_, fun h => by cases h⟩
    unfold doPu
    have : inT (emb y0 pts vg ⟨by', wr, sh, B, ls, ms⟩ A) = true := by
      show decide (0 < (A ++ B).length) = true
      have := List.length_pos_iff.2 hA
      simp; omega
    rw [if_neg (by show ¬(1 = 0); omega), if_pos this]
    rfl
  simp only [if_neg h5]
  by_cases h6 : d = sBegin
  · subst h6
    simp only [if_pos]
    refine ⟨⟨by', wr, sh, B ++ [(by', wr)], ls, ms⟩, ⟨0, 0, []⟩, !ls, fun A hA => ?_, fun _ => ?_⟩
    · cases A with
      | nil => exact absurd rfl hA
      | cons a A =>
        have hb : begY (emb y0 pts vg ⟨by', wr, sh, B, ls, ms⟩ (a :: A)) 0 ⟨.roll, 0, by', wr, sh, (a :: A) ++ B⟩ = ⟨.roll, 0, by', wr, sh, (a :: A) ++ B⟩ := by
          unfold begY
          rw [if_neg (by simp)]
        have hd : deedT (emb y0 pts vg ⟨by', wr, sh, B, ls, ms⟩ (a :: A)) .begin = (emb y0 pts vg ⟨by', wr, sh, B ++ [(by', wr)], ls, ms⟩ (a :: A), 0) := by
          show (begF (emb y0 pts vg ⟨by', wr, sh, B, ls, ms⟩ (a :: A)) 0 ⟨.roll, 0, by', wr, sh, (a :: A) ++ B⟩, 0) = _
          unfold begF
          rw [hb]
          unfold emb
          simp
        unfold doDe
        rw [if_neg (by show ¬(1 = 0); omega), hd]
        rfl
    · unfold dpF
      rw [if_pos rfl]
      simp
  simp only [if_neg h6]
  by_cases h7 : d = sEnd
  · subst h7
    simp only [if_pos]
    have hB := hB (.inl rfl)
    refine ⟨⟨by', wr, sh, B.dropLast, ls, ms⟩, ⟨0, 0, []⟩, !ls, fun A hA => ?_, fun _ => ?_⟩
    · have hne : A ++ B ≠ [] := by simp [hA]
      have hlen : 1 < (A ++ B).length := by
        have h1 := List.length_pos_iff.2 hA
        have h2 := List.length_pos_iff.2 hB
        simp; omega
      have hd : deedT (emb y0 pts vg ⟨by', wr, sh, B, ls, ms⟩ A) .fin = (emb y0 pts vg ⟨by', wr, sh, B.dropLast, ls, ms⟩ A, 0) := by
        show (if A ++ B = [] then (emb y0 pts vg ⟨by', wr, sh, B, ls, ms⟩ A, 3) else (endF (emb y0 pts vg ⟨by', wr, sh, B, ls, ms⟩ A) 0 ⟨.roll, 0, by', wr, sh, A ++ B⟩, 0)) = _
        rw [if_neg hne]
        unfold endF
        rw [if_pos hlen]
        unfold endY emb
        dsimp only
        rw [List.dropLast_append_of_ne_nil hB]
        rfl
      unfold doDe
      rw [if_neg (by show ¬(1 = 0); omega), hd]
      rfl
    · unfold dpF
      rw [if_neg (by decide), if_pos (.inl rfl)]
      have h2 := List.length_pos_iff.2 hB
      simp; omega
  simp only [if_neg h7]
  by_cases h8 : d = sRoll
  · subst h8
    simp only [if_pos]
    have hB := hB (.inr rfl)
    refine ⟨⟨(B.getLast?.getD ([], [])).1, (B.getLast?.getD ([], [])).2, sh, B.dropLast, ls, ms⟩, ⟨0, 0, []⟩, !ls, fun A hA => ?_, fun _ => ?_⟩
    · have hne : A ++ B ≠ [] := by simp [hA]
      have hd : deedT (emb y0 pts vg ⟨by', wr, sh, B, ls, ms⟩ A) .roll = (emb y0 pts vg ⟨(B.getLast?.getD ([], [])).1, (B.getLast?.getD ([], [])).2, sh, B.dropLast, ls, ms⟩ A, 0) := by
        show (if A ++ B = [] then (emb y0 pts vg ⟨by', wr, sh, B, ls, ms⟩ A, 3) else (rollF (emb y0 pts vg ⟨by', wr, sh, B, ls, ms⟩ A) 0 ⟨.roll, 0, by', wr, sh, A ++ B⟩, 0)) = _
        rw [if_neg hne]
        unfold rollF emb lastL
        dsimp only
        rw [List.dropLast_append_of_ne_nil hB, List.getLast?_append, List.getLast?_eq_some_getLast hB]
        rfl
      unfold doDe
      rw [if_neg (by show ¬(1 = 0); omega), hd]
      rfl
    · unfold dpF
      rw [if_neg (by decide), if_pos (.inr rfl)]
      have h2 := List.length_pos_iff.2 hB
      simp; omega
  simp only [if_neg h8]
  by_cases h9 : d = sSync
  · subst h9
    simp only [if_pos]
    exact ⟨_, _, _, fun A _ => rfl, fun _ => rfl⟩
  simp only [if_neg h9]
  exact ⟨⟨by', wr, sh, B, true, ms⟩, w0, false, fun A _ => rfl, fun h => by cases h⟩
/-- calls within a level -/
theorem emb_run : ∀ (l : List Stp) (u : AB), wthF u.B.length l = true → ∃ (u' : AB) (q : Bool), (∀ A, A ≠ [] → saidR (emb y0 pts vg u A) l = (emb y0 pts vg u' A, q)) ∧ (q = true → u'.B = [])
  | [], u, h => ⟨u, true, fun A _ => by rw [saidR_nil], fun _ => by
    unfold wthF at h
    have := of_decide_eq_true h
    exact List.length_eq_zero_iff.1 (by omega)⟩
  | st :: l, u, h => by
    unfold wthF at h
    split at h
    · cases h
    · rename_i hc
      split at h
      · cases h
      · rename_i hd
        have hB : st.d = sEnd ∨ st.d = sRoll → u.B ≠ [] := fun he hb => by
          apply hd
          unfold dpF
          rw [if_neg (by rcases he with e | e <;> rw [e] <;> decide), if_pos he, hb]
          decide
        obtain ⟨u', w, q, hu, hq⟩ := emb_do (y0 := y0) (pts := pts) (vg := vg) u st hB hc
        cases q with
        | false =>
          refine ⟨u', false, fun A hA => ?_, fun h => by cases h⟩
          rw [saidR_cons, hu A hA]
          rfl
        | true =>
          rw [← hq rfl] at h
          obtain ⟨u2, q2, hu2, hq2⟩ := emb_run l u' h
          refine ⟨u2, q2, fun A hA => ?_, hq2⟩
          rw [saidR_cons, hu A hA, if_pos rfl]
          exact hu2 A hA
end
abbrev stB : Stp := ⟨sBegin, 0, 0, []⟩
abbrev stE : Stp := ⟨sEnd, 0, 0, []⟩
theorem saidR_app {l1 : List Stp} {s s' : SS} {q : Bool} (h : saidR s l1 = (s', q)) (l2 : List Stp) : saidR s (l1 ++ l2) = if q = true then saidR s' l2 else (s', q) := by rw [saidR_append, h]
theorem doF_ls {s : SS} (h : s.ls = true) (d : ByteArray) (off n : Int) (bs : List UInt8) : doF s d off n bs = ({ s with ls := true }, w0, false) := by
  unfold doF
  rw [if_pos (.inl h)]
theorem emb_g {y0 : Ly} {pts : List Int} {vg ms : Bool} {by' : List Int} {wr : List Bool} {sh : Nat} {A : List (List Int × List Bool)} : ¬((emb y0 pts vg ⟨by', wr, sh, [], false, ms⟩ A).ls = true ∨ (0 : Int) < -262144 ∨ (0 : Int) < -262144 ∨ shortF (emb y0 pts vg ⟨by', wr, sh, [], false, ms⟩ A).ys = true) := by
  rintro (h | h | h | h)
  · cases h
  · exact absurd h (by decide)
  · exact absurd h (by decide)
  · cases h
/-- a level begins, and ends, within another one -/
theorem emb_beg {y0 : Ly} {pts : List Int} {vg : Bool} (u : AB) (hB : u.B = []) (A : List (List Int × List Bool)) (hA : A ≠ []) (rest : List Stp) (h : (saidR (emb y0 pts vg u A) (stB :: rest)).2 = true) :
    saidR (emb y0 pts vg u A) (stB :: rest) = saidR (emb y0 pts vg u (A ++ [(u.bytes, u.wrote)])) rest := by
  obtain ⟨by', wr, sh, B, ls, ms⟩ := u
  dsimp only at hB
  subst hB
  cases ls with
  | true =>
    exfalso
    rw [saidR_cons, doF_ls rfl] at h
    cases h
  | false =>
    cases A with
    | nil => exact absurd rfl hA
    | cons a A =>
      have hb : begY (emb y0 pts vg ⟨by', wr, sh, [], false, ms⟩ (a :: A)) 0 ⟨.roll, 0, by', wr, sh, (a :: A) ++ []⟩ = ⟨.roll, 0, by', wr, sh, (a :: A) ++ []⟩ := by
        unfold begY
        rw [if_neg (by simp)]
      have hd : deedT (emb y0 pts vg ⟨by', wr, sh, [], false, ms⟩ (a :: A)) .begin = (emb y0 pts vg ⟨by', wr, sh, [], false, ms⟩ ((a :: A) ++ [(by', wr)]), 0) := by
        show (begF (emb y0 pts vg ⟨by', wr, sh, [], false, ms⟩ (a :: A)) 0 ⟨.roll, 0, by', wr, sh, (a :: A) ++ []⟩, 0) = _
        unfold begF
        rw [hb]
        unfold emb
        simp
      have hf : doF (emb y0 pts vg ⟨by', wr, sh, [], false, ms⟩ (a :: A)) stB.d stB.off stB.n stB.bs = (emb y0 pts vg ⟨by', wr, sh, [], false, ms⟩ ((a :: A) ++ [(by', wr)]), ⟨0, 0, []⟩, true) := by
        unfold doF
        rw [if_neg emb_g, if_neg (by decide), if_neg (by decide), if_neg (by decide), if_neg (by decide), if_neg (by decide), if_pos rfl]
        unfold doDe
        rw [if_neg (by show ¬(1 = 0); omega), hd]
        rfl
      rw [saidR_cons, hf]
      rfl
theorem emb_end {y0 : Ly} {pts : List Int} {vg : Bool} (u : AB) (hB : u.B = []) (A : List (List Int × List Bool)) (hA : A ≠ []) (m : List Int × List Bool) (rest : List Stp) (h : (saidR (emb y0 pts vg u (A ++ [m])) (stE :: rest)).2 = true) :
    saidR (emb y0 pts vg u (A ++ [m])) (stE :: rest) = saidR (emb y0 pts vg u A) rest := by
  obtain ⟨by', wr, sh, B, ls, ms⟩ := u
  dsimp only at hB
  subst hB
  cases ls with
  | true =>
    exfalso
    rw [saidR_cons, doF_ls rfl] at h
    cases h
  | false =>
    have hd : deedT (emb y0 pts vg ⟨by', wr, sh, [], false, ms⟩ (A ++ [m])) .fin = (emb y0 pts vg ⟨by', wr, sh, [], false, ms⟩ A, 0) := by
      show (if A ++ [m] ++ [] = [] then (emb y0 pts vg ⟨by', wr, sh, [], false, ms⟩ (A ++ [m]), 3) else (endF (emb y0 pts vg ⟨by', wr, sh, [], false, ms⟩ (A ++ [m])) 0 ⟨.roll, 0, by', wr, sh, A ++ [m] ++ []⟩, 0)) = _
      rw [if_neg (by simp)]
      unfold endF
      rw [if_pos (by have := List.length_pos_iff.2 hA; simp; omega)]
      unfold endY emb
      dsimp only
      rw [List.append_nil, List.append_nil, List.dropLast_concat]
      rfl
    have hf : doF (emb y0 pts vg ⟨by', wr, sh, [], false, ms⟩ (A ++ [m])) stE.d stE.off stE.n stE.bs = (emb y0 pts vg ⟨by', wr, sh, [], false, ms⟩ A, ⟨0, 0, []⟩, true) := by
      unfold doF
      rw [if_neg emb_g, if_neg (by decide), if_neg (by decide), if_neg (by decide), if_neg (by decide), if_neg (by decide), if_neg (by decide), if_pos rfl]
      unfold doDe
      rw [if_neg (by show ¬(1 = 0); omega), hd]
      rfl
    rw [saidR_cons, hf]
    rfl
/-- the two scripts -/
def nstL (a b c : List Stp) : List Stp := stB :: ((a ++ (stB :: (b ++ [stE])) ++ c) ++ [stE])
def fltL (a b c : List Stp) : List Stp := stB :: ((a ++ b ++ c) ++ [stE])
def rollL : List (ByteArray × Int) := [(sRb, 0)]
theorem s0_beg (ib : List UInt8) (rest : List Stp) : saidR (s0 ib rollL) (stB :: rest) = saidR (emb ⟨.base, 0, kn ib, [], 0, []⟩ [] false ⟨kn ib, [], 0, [], false, false⟩ [(kn ib, [])]) rest := by
  have hf : doF (s0 ib rollL) stB.d stB.off stB.n stB.bs = (emb ⟨.base, 0, kn ib, [], 0, []⟩ [] false ⟨kn ib, [], 0, [], false, false⟩ [(kn ib, [])], ⟨0, 0, []⟩, true) := rfl
  rw [saidR_cons, hf]
  rfl
/-- both scripts leave the same -/
theorem levels_eq (ib : List UInt8) (a b c : List Stp) (ha : wthF 0 a = true) (hb : wthF 0 b = true) (hs : (saidR (s0 ib rollL) (nstL a b c)).2 = true) : saidR (s0 ib rollL) (nstL a b c) = saidR (s0 ib rollL) (fltL a b c) := by
  unfold nstL at hs ⊢
  unfold fltL
  rw [s0_beg] at hs ⊢
  rw [s0_beg]
  generalize (⟨.base, 0, kn ib, [], 0, []⟩ : Ly) = y0 at hs ⊢
  have hA : [(kn ib, ([] : List Bool))] ≠ [] := by simp
  generalize [(kn ib, ([] : List Bool))] = A at hA hs ⊢
  obtain ⟨u1, q1, h1, h1B⟩ := emb_run (y0 := y0) (pts := []) (vg := false) a ⟨kn ib, [], 0, [], false, false⟩ ha
  simp only [List.append_assoc] at hs ⊢
  rw [saidR_app (h1 A hA)] at hs ⊢
  rw [saidR_app (h1 A hA)]
  cases q1 with
  | false => cases hs
  | true =>
    rw [if_pos rfl] at hs ⊢
    rw [if_pos rfl]
    simp only [List.cons_append, List.append_assoc] at hs ⊢
    rw [emb_beg u1 (h1B rfl) A hA _ hs]
    rw [emb_beg u1 (h1B rfl) A hA _ hs] at hs
    have hBb : wthF u1.B.length b = true := by rw [h1B rfl]; exact hb
    obtain ⟨u2, q2, h2, h2B⟩ := emb_run (y0 := y0) (pts := []) (vg := false) b u1 hBb
    rw [saidR_app (h2 _ (by simp))] at hs ⊢
    rw [saidR_app (h2 A hA)]
    cases q2 with
    | false => cases hs
    | true =>
      rw [if_pos rfl] at hs ⊢
      rw [if_pos rfl]
      simp only [List.nil_append] at hs ⊢
      exact emb_end u2 (h2B rfl) A hA _ _ hs
/-- what the machine leaves behind both scripts -/
theorem levels_same {ib : List UInt8} {a b c : List Stp} {T1 T2 : List Tld} {σ1 σ2 : MS} (ha : wthF 0 a = true) (hb : wthF 0 b = true) (hf1 : ∀ x ∈ nstL a b c, x.few) (hf2 : ∀ x ∈ fltL a b c, x.few)
    (h1 : saidF ib rollL (nstL a b c) = true) (hF1 : FRes (cfOf (rollL.map kindO)) ⟨ov (fun _ => 0) 0 ib, ib.length, [], .idle⟩ (nstL a b c) T1 σ1) (hF2 : FRes (cfOf (rollL.map kindO)) ⟨ov (fun _ => 0) 0 ib, ib.length, [], .idle⟩ (fltL a b c) T2 σ2) :
    rng σ1.c 0 σ1.s = rng σ2.c 0 σ2.s ∧ σ1.l = σ2.l := by
  unfold saidF at h1
  rw [if_neg (by decide)] at h1
  unfold saidV at h1
  simp only [Bool.and_eq_true, Bool.not_eq_true'] at h1
  obtain ⟨⟨⟨hs, hl⟩, hv⟩, hm⟩ := h1
  have he := levels_eq ib a b c ha hb hs
  have s1 := said_fin (sim0 ib rollL) hF1 hf1 hs
  have s2 := said_fin (sim0 ib rollL) hF2 hf2 (by rw [← he]; exact hs)
  rw [← he] at s2
  have hn := nn_said (nstL a b c) (s0 ib rollL) (fun _ y hy => by
    have : y = ⟨.base, 0, kn ib, [], 0, []⟩ ∨ y = ⟨.roll, 0, [], [], 0, []⟩ := by
      have hy : y ∈ [(⟨.base, 0, kn ib, [], 0, []⟩ : Ly), ⟨.roll, 0, [], [], 0, []⟩] := hy
      simpa using hy
    rcases this with rfl | rfl
    · exact ⟨nn_kn ib, fun e he => by cases he⟩
    · exact ⟨(fun v hv => by cases hv), (fun e he => by cases he)⟩) hm
  have hb0 : ∀ v ∈ baseB (saidR (s0 ib rollL) (nstL a b c)).1, 0 ≤ v := by
    unfold baseB
    cases hx : (saidR (s0 ib rollL) (nstL a b c)).1.ys[0]? with
    | none => exact fun v hv => by cases hv
    | some x => exact (hn x (List.mem_of_getElem? hx)).1
  exact ⟨kn_inj ((fits_to s1.base hb0).trans (fits_to s2.base hb0).symm), (s1.pt hv).trans (s2.pt hv).symm⟩
end Go.Proofs.YtfebpbflpdppiaaGreatDoor
namespace Go.Proofs.YtfebpbflpdppiaaGreatDoor
open Go Go.Sl
set_option maxRecDepth 100000
def aw0 : Stp := ⟨sWrite, 0, 0, [120]⟩
def aw1 : Stp := ⟨sSize, 0, 0, []⟩
def awS : SS := ⟨[⟨.base, 0, [120], [], 0, []⟩], [], false, false, false⟩
theorem aw_told {e q : Int} {dat : List UInt8} {d : ByteArray} (hd : d = sWrite ∨ d = sSize) (h : toldF ⟨0, 1, []⟩ e q dat d = true) : e = 0 ∧ q = 1 := by
  have hr : d ≠ sRead := by rcases hd with rfl | rfl <;> decide
  unfold toldF at h
  dsimp only at h
  rw [if_neg (by decide)] at h
  by_cases hn : ((0 : Int) = -2 ∧ e ≠ 0 ∧ e ≠ 1) ∨ ((0 : Int) ≠ -2 ∧ e ≠ 0)
  · rw [if_pos hn] at h
    cases h
  · rw [if_neg hn, if_neg hr, if_pos hd] at h
    simp at h
    exact ⟨by omega, h⟩
theorem awake_plain {TT : List Tld} {σ : MS} (hF : FRes (cfOf (([] : List (ByteArray × Int)).map kindO)) ⟨ov (fun _ => 0) 0 [], 0, [], .idle⟩ [aw0, aw1] TT σ) : ∃ q d1 d2, TT = [⟨0, q, d1⟩, ⟨0, 1, d2⟩] ∧ rng σ.c 0 σ.s = [120] := by
  have h := files_fit (ib := []) (ly := []) hF (fun x hx => by
    simp only [List.mem_cons, List.not_mem_nil, or_false] at hx
    rcases hx with rfl | rfl
    · exact ⟨⟨by decide, by decide⟩, ⟨by decide, by decide⟩, by decide⟩
    · exact ⟨⟨by decide, by decide⟩, ⟨by decide, by decide⟩, by decide⟩)
  unfold fitF at h
  rw [if_neg (by decide)] at h
  have h1 : doF (s0 [] []) aw0.d aw0.off aw0.n aw0.bs = (awS, ⟨0, 1, []⟩, true) := rfl
  have h2 : doF awS aw1.d aw1.off aw1.n aw1.bs = (awS, ⟨0, 1, []⟩, true) := rfl
  rw [fitR_cons, h1, if_neg (by decide)] at h
  cases TT with
  | nil => cases h
  | cons t1 TT =>
    dsimp only at h
    split at h
    · cases h
    rename_i g1
    have g1 : toldF ⟨0, 1, []⟩ t1.e t1.q t1.dat aw0.d = true := by
      cases hh : toldF ⟨0, 1, []⟩ t1.e t1.q t1.dat aw0.d with
      | true => rfl
      | false => exact absurd ⟨rfl, hh⟩ g1
    rw [if_neg (by decide), fitR_cons, h2, if_neg (by decide)] at h
    cases TT with
    | nil => cases h
    | cons t2 TT =>
      dsimp only at h
      split at h
      · cases h
      rename_i g2
      have g2 : toldF ⟨0, 1, []⟩ t2.e t2.q t2.dat aw1.d = true := by
        cases hh : toldF ⟨0, 1, []⟩ t2.e t2.q t2.dat aw1.d with
        | true => rfl
        | false => exact absurd ⟨rfl, hh⟩ g2
      rw [if_neg (by decide), fitR_nil] at h
      have h : fitE awS (TT.length + 1 + 1) 2 (rng σ.c 0 σ.s) σ.l = true := h
      unfold fitE at h
      split at h
      · cases h
      rename_i g3
      obtain ⟨e1, e2⟩ := aw_told (.inl rfl) g1
      obtain ⟨e3, e4⟩ := aw_told (.inr rfl) g2
      obtain ⟨a1, a2, a3⟩ := t1
      obtain ⟨b1, b2, b3⟩ := t2
      dsimp only at e1 e2 e3 e4
      obtain rfl : a1 = 0 := by omega
      obtain rfl : b1 = 0 := by omega
      subst e4
      have hT : TT = [] := by
        apply List.length_eq_zero_iff.1
        by_cases hl : TT.length + 1 + 1 ≠ 2
        · exact absurd (.inl hl) g3
        · omega
      subst hT
      refine ⟨a2, a3, b3, rfl, ?_⟩
      have hf : fitsF [120] (rng σ.c 0 σ.s) = true := by
        cases hh : fitsF [120] (rng σ.c 0 σ.s) with
        | true => rfl
        | false => exact absurd (.inr hh) g3
      exact kn_inj (fits_to hf (by decide))
end Go.Proofs.YtfebpbflpdppiaaGreatDoor
namespace Go.Proofs.YtfebpbflpdppiaaGreatDoor
open Go Go.Sl
set_option maxRecDepth 100000
theorem wthF_cons (k : Int) (x : Stp) (l : List Stp) : wthF k (x :: l) = if x.d = sClose then false else if dpF x.d k < 0 then false else wthF (dpF x.d k) l := rfl
section
variable {n : Nat} {ds : List Deferred} {σ : Env} {m : Amb} {L : List HP} {Φ : Act → World → Prop}
/-- bytes that are told, as a source -/
theorem td_src {sl : Value} {dat : List UInt8} (h : ∀ a c, sl = .slice a dat.length c → dat.length ≤ 1048576 → Src [tdH sl dat] 1 sl dat.length (u8s dat) → G n ds σ m (tdH sl dat :: L) Φ) : G n ds σ m (tdH sl dat :: L) Φ := fun ac w h1 h2 h3 h4 => by
  obtain ⟨g, _, hA⟩ := h4.2.2.2.head
  rcases hA with ⟨e1, e2⟩ | ⟨db, k, kk, nw, e1, e2, e3, e4, e5, e6⟩
  · subst e1 e2
    exact h none 0 rfl (by simp) .nil ac w h1 h2 h3 h4
  · have hl : dat.length = k := by rw [e5, List.length_take]; omega
    refine h _ _ (by rw [e1, hl]) (by omega) ?_ ac w h1 h2 h3 h4
    rw [e1, hl]
    refine .some db 0 k kk _ (by rw [u8s_length, hl]; omega) (RdN.of fun j v hv m2 w2 hw => ?_)
    obtain ⟨g2, hs2, hA2⟩ := hw.2.2.2.head
    rcases hA2 with ⟨f1, f2⟩ | ⟨db', k', kk', nw', f1, f2, f3, f4, f5, f6⟩
    · cases f1
    · simp only [Value.slice.injEq, Option.some.injEq, Addr.mk.injEq, and_true] at f1
      obtain ⟨rfl, rfl, rfl⟩ := f1
      have hb : w2.heap[db]? = some (cl (u8s nw') 5) := hs2 _ _ f6
      rw [f5] at hv
      have hv2 : (u8s nw')[j]? = some v := by
        rw [← u8s_take, List.getElem?_take] at hv
        split at hv
        · exact hv
        · cases hv
      rw [Nat.zero_add]
      simp only [World.cell?, hb, cl]
      simpa using hv2
end
attribute [local irreducible] wpList Code.wp Exit.then Exit.inBlock bodyPost RunS RunV G St Ct Sat Ent At Rd GQ QL wpAny wpOp wpQuiet slP Sl.ex sep
section
variable {I : HP}
set_option maxHeartbeats 8000000 in
theorem within_c (ls : List (Stp × Value)) (la : Option Addr) (nl lc : Nat) (hl : Src [I] 4 (.slice la nl lc) nl (ls.flatMap stC)) (hll : ls.length = nl) (hn : nl ≤ 1000) :
    Ct Tryz.prog 13 #[.slice la nl lc] [I] (fun v B => v = .bool (wthF 0 (ls.map (·.1))) ∧ B = [I]) nev := by
  refine Ct.of Tryz.func13 rfl Tryz.ntmps13 rfl fun m F => ?_
  repeat (first | refine wZ ?_ | intro b)
  refine c_loop (α := Nat × Int) (fun y => [(4, .int .i64 (y.1 : Nat)), (3, .int .i64 y.2), (0, .slice la nl lc)]) (fun _ => I :: F) (fun y => y.1 ≤ nl ∧ (0 ≤ y.2 ∧ y.2 ≤ y.1) ∧ wthF 0 (ls.map (·.1)) = wthF y.2 ((ls.drop y.1).map (·.1))) (fun y => nl - y.1) (0, 0) ⟨Nat.zero_le _, ⟨by decide, by decide⟩, rfl⟩ (by exact ⟨rfl, rfl, rfl, trivial⟩) (Ent.refl _) ?_
  rintro ⟨i, k⟩ ⟨hi, hk, hw⟩
  dsimp only at hi hk hw ⊢
  by_cases hlt : i < nl
  · obtain ⟨yb, yo, rfl, hyr⟩ := src_addr hl (by omega)
    obtain ⟨x, hx⟩ : ∃ x, ls[i]? = some x := ⟨ls[i]'(by omega), List.getElem?_eq_getElem (by omega)⟩
    have hrd : RdN [I] yb (yo + i * 4) (stC x) := rd_part (f := stC) (fun _ => rfl) hyr hx
    rw [drop_at hx, List.map_cons, wthF_cons] at hw
    obtain ⟨⟨d, off, n, bs⟩, slv⟩ := x
    dsimp only at hw
    repeat (first | refine wZ ?_ | intro b)
    rw [decide_eq_true (by omega : (i : Int) < (nl : Int))]
    repeat (first | refine wZ ?_ | intro b)
    refine l_plain rfl ?_
    apply s_val rfl rfl
    · exact RunS.v (r_index (i := i) rfl rfl rfl hlt)
    repeat (first | refine wZ ?_ | intro b)
    refine l_plain rfl ?_
    apply s_val (v := .string d) rfl rfl
    · exact r_load rfl rfl ((RdN.ent hrd (Ent.pick1 (i := 0) rfl)).get (j := 0) rfl)
    repeat (first | refine wZ ?_ | intro b)
    by_cases h1 : d = sBegin
    · subst h1
      rw [if_neg (by decide), show dpF sBegin k = k + 1 from rfl, if_neg (by omega)] at hw
      repeat (first | refine wZ ?_ | intro b)
      rw [decide_eq_false (by omega : ¬ k + 1 < 0)]
      repeat (first | refine wZ ?_ | intro b)
      exact at_intro (i + 1, k + 1) ⟨⟨hlt, ⟨by dsimp only; omega, by dsimp only; omega⟩, hw⟩, by dsimp only; omega⟩ ⟨rfl, rfl, rfl, trivial⟩ (Ent.refl _)
    rw [show (d.data.toList == [98, 101, 103, 105, 110]) = false from ne_lit h1]
    repeat (first | refine wZ ?_ | intro b)
    by_cases h2 : d = sEnd ∨ d = sRoll
    · have hc : d ≠ sClose := by rcases h2 with rfl | rfl <;> decide
      have hdp : dpF d k = k - 1 := by unfold dpF; rw [if_neg h1, if_pos h2]
      rw [if_neg hc, hdp] at hw
      rcases h2 with h2 | h2
      · subst h2
        repeat (first | refine wZ ?_ | intro b)
        by_cases hn : k - 1 < 0
        · rw [decide_eq_true hn]
          repeat (first | refine wZ ?_ | intro b)
          rw [if_pos hn] at hw
          exact e_ret1 _ rfl rfl ⟨by rw [hw], rfl⟩ (Ent.refl _)
        · rw [decide_eq_false hn]
          repeat (first | refine wZ ?_ | intro b)
          rw [if_neg hn] at hw
          exact at_intro (i + 1, k - 1) ⟨⟨hlt, ⟨by dsimp only; omega, by dsimp only; omega⟩, hw⟩, by dsimp only; omega⟩ ⟨rfl, rfl, rfl, trivial⟩ (Ent.refl _)
      · subst h2
        repeat (first | refine wZ ?_ | intro b)
        by_cases hn : k - 1 < 0
        · rw [decide_eq_true hn]
          repeat (first | refine wZ ?_ | intro b)
          rw [if_pos hn] at hw
          exact e_ret1 _ rfl rfl ⟨by rw [hw], rfl⟩ (Ent.refl _)
        · rw [decide_eq_false hn]
          repeat (first | refine wZ ?_ | intro b)
          rw [if_neg hn] at hw
          exact at_intro (i + 1, k - 1) ⟨⟨hlt, ⟨by dsimp only; omega, by dsimp only; omega⟩, hw⟩, by dsimp only; omega⟩ ⟨rfl, rfl, rfl, trivial⟩ (Ent.refl _)
    have h3 : d ≠ sEnd := fun h => h2 (.inl h)
    have h4 : d ≠ sRoll := fun h => h2 (.inr h)
    rw [show (d.data.toList == [101, 110, 100]) = false from ne_lit h3]
    repeat (first | refine wZ ?_ | intro b)
    rw [show (d.data.toList == [114, 111, 108, 108, 98, 97, 99, 107]) = false from ne_lit h4]
    repeat (first | refine wZ ?_ | intro b)
    by_cases h5 : d = sClose
    · rw [if_pos h5] at hw
      subst h5
      repeat (first | refine wZ ?_ | intro b)
      exact e_ret1 _ rfl rfl ⟨by rw [hw], rfl⟩ (Ent.refl _)
    · have hdp : dpF d k = k := by unfold dpF; rw [if_neg h1, if_neg h2]
      rw [if_neg h5, hdp, if_neg (by omega)] at hw
      rw [show (d.data.toList == [99, 108, 111, 115, 101]) = false from ne_lit h5]
      repeat (first | refine wZ ?_ | intro b)
      rw [decide_eq_false (by omega : ¬ k < 0)]
      repeat (first | refine wZ ?_ | intro b)
      exact at_intro (i + 1, k) ⟨⟨hlt, ⟨by dsimp only; omega, by dsimp only; omega⟩, hw⟩, by dsimp only; omega⟩ ⟨rfl, rfl, rfl, trivial⟩ (Ent.refl _)
  · repeat (first | refine wZ ?_ | intro b)
    rw [decide_eq_false (by omega : ¬ (i : Int) < (nl : Int))]
    rw [List.drop_of_length_le (by omega)] at hw
    repeat (first | refine wZ ?_ | intro b)
    refine e_ret1 _ rfl rfl ⟨?_, rfl⟩ (Ent.refl _)
    rw [hw]
    rfl
end
end Go.Proofs.YtfebpbflpdppiaaGreatDoor
namespace Go.Proofs.YtfebpbflpdppiaaGreatDoor
open Go Go.Sl
set_option maxRecDepth 100000
section
variable {P : Program} {n : Nat} {ds : List Deferred} {σ : Env} {m : Amb} {L R : List HP} {Q : Exit → Act → World → Prop} {K : Act → World → Prop}
variable {d : Nat} {ty : TypeId} {pos : String} {aft : Array Edge} {gd : Option (Nat × Bool)} {x : Operand} {t e : TypeId}
/-- []byte("..") of a literal: the row is marked -/
theorem s_convS {i b k c : Nat} {l : List Value} [h1 : TyU P t (.slice e)] [h2 : TyU P e (.int .u8)] (hx : opd σ x = some (.slice (some ⟨b, 0, none⟩) k c)) (hi : takeAt i L = some (blk b (cl l e), R)) (hk : Nat.blt d n = true)
    (h : G n ds ((d, .slice (some ⟨b, 0, none⟩) k c) :: σ) m (ro b e l :: R) K) : G n ds σ m L (St P ⟨some d, .convert t t x, ty, pos, aft, gd⟩ K Q) := by
  refine s_eff rfl hk fun a w g hw => ?_
  have hb := hw.at_ hi
  have hlt : b < w.heap.size := (Array.getElem?_eq_some_iff.1 hb).1
  have hfz : w.freeze ⟨b, l.length, none⟩ 1 = { w with heap := w.heap.setIfInBounds b (.cells l.toArray e (l.length, l.length + 1)) } := by
    unfold World.freeze
    rw [if_neg (by decide)]
    congr 1
    apply Array.ext_getElem?
    intro j
    rw [Array.getElem?_modify, Array.getElem?_setIfInBounds]
    by_cases hj : b = j
    · subst hj
      rw [if_pos rfl, if_pos rfl, if_pos hlt, hb]
      simp [cl]
    · rw [if_neg hj, if_neg hj]
  refine ⟨.slice (some ⟨b, 0, none⟩) k c, _, ?_, _, (Sat.setObj hw hi (.cells l.toArray e (l.length, l.length + 1))).ent (Ent.imp fun hp hh => ⟨_, _, hh, by simp⟩), h⟩
  have hsh : w.heap[b]? = some (.cells l.toArray e (0, 0)) := hb
  simp only [execOp, opd_eval g hx]
  have hsp : w.shape? b = some (e, l.length) := by simp [World.shape?, hb, cl]
  simp [convert, run_und h1, run_und h2, markStringish, hsp, hfz]
end
attribute [local irreducible] wpList Code.wp Exit.then Exit.inBlock bodyPost RunS RunV G St Ct Sat Ent At Rd GQ QL wpAny wpOp wpQuiet slP Sl.ex sep
section
variable {glb : HP} {ea : Addr}
set_option maxHeartbeats 8000000 in
theorem awake_c (hglb : Rd [glb] ⟨1, 0, none⟩ (eofV ea)) : Ct Tryz.prog 8 #[] [glb] (fun v B => v = .bool true ∧ B = [glb]) nev := by
  refine Ct.of Tryz.func8 rfl Tryz.ntmps8 rfl fun m F => ?_
  repeat (first | refine wZ ?_ | intro b)
  refine G.ent (L' := sep [] :: glb :: F) (sep_shut [] _) ?_
  refine l_plain rfl (s_call rfl rfl (copied_c (I := sep []) [] none 0 0 Src.nil (by omega)) [0] rfl ?_ (fun _ _ h => h.elim))
  rintro _ _ ⟨a1, c1, rfl, rfl⟩
  repeat (first | refine wZ ?_ | intro b)
  revert b; intro xb
  refine l_plain rfl (s_convS (i := 0) rfl rfl rfl ?_)
  refine l_plain rfl ?_
  apply s_val rfl rfl
  · exact RunS.v (r_build (cells := #[.string sWrite, .int .i64 0, .int .i64 0, .slice (some ⟨xb, 0, none⟩) 1 1]) rfl (by kernel_rfl))
  refine l_plain rfl ?_
  apply s_val rfl rfl
  · exact RunS.v (r_build (cells := #[.string sSize, .int .i64 0, .int .i64 0, .slice none 0 0]) rfl (by kernel_rfl))
  refine l_plain rfl (s_build (size := 4) (vs := [.agg #[.string sWrite, .int .i64 0, .int .i64 0, .slice (some ⟨xb, 0, none⟩) 1 1], .agg #[.string sSize, .int .i64 0, .int .i64 0, .slice none 0 0]]) (l := [(aw0, .slice (some ⟨xb, 0, none⟩) 1 1), (aw1, .slice none 0 0)].flatMap stC) rfl rfl rfl rfl rfl (by intro v hv; simp at hv; rcases hv with rfl | rfl <;> rfl) (by simp [Value.cells, stC, aw0, aw1]) rfl rfl fun stb => ?_)
  refine G.ent (Ent.trans (arr_ent 0 [0, 0] _) (sep_shut [_, _] _)) ?_
  generalize hI1 : sep [blk stb (cl ([(aw0, Value.slice (some ⟨xb, 0, none⟩) 1 1), (aw1, Value.slice none 0 0)].flatMap stC) 43), ro xb 5 [.int .u8 120]] = I1
  have hsx : Src [I1] 1 (.slice (some ⟨xb, 0, none⟩) 1 1) 1 (u8s [120]) := by
    rw [← hI1]
    exact Src.some _ _ _ _ _ rfl (RdN.ent (rdn_ro (L := [ro xb 5 [.int .u8 120]]) 0 rfl) sep2_r)
  have hss : Src [I1] 4 (.slice (some ⟨stb, 0, none⟩) 2 2) 2 ([(aw0, Value.slice (some ⟨xb, 0, none⟩) 1 1), (aw1, Value.slice none 0 0)].flatMap stC) := by
    rw [← hI1]
    exact Src.some _ _ _ _ _ rfl (RdN.ent (rdn_all (L := [blk stb (cl ([(aw0, Value.slice (some ⟨xb, 0, none⟩) 1 1), (aw1, Value.slice none 0 0)].flatMap stC) 43)]) 0 rfl) sep2_l)
  refine l_plain rfl (s_call rfl rfl (copies_c (I := I1) [(aw0, Value.slice (some ⟨xb, 0, none⟩) 1 1), (aw1, Value.slice none 0 0)] (fun x hx => by
    simp only [List.mem_cons, List.not_mem_nil, or_false] at hx
    rcases hx with rfl | rfl
    · exact ⟨show 1 ≤ 131072 by decide, hsx⟩
    · exact ⟨show 0 ≤ 131072 by decide, Src.nil⟩) (some ⟨stb, 0, none⟩) 2 2 hss rfl (by omega)) [0] rfl ?_ (fun _ _ h => h.elim))
  rintro _ _ ⟨a2, c2, ls', W, rfl, hm, hW, rfl⟩
  refine G.ent (Ent.trans (arr_ent 0 [4] _) (Ent.refl _)) ?_
  refine src_sl1 fun hi1 hi2 => ?_
  refine G.ent (Ent.trans (arr_ent 0 [2] _) (Ent.refl _)) ?_
  refine src_sl1 fun hs1 hs2 => ?_
  have hml : ls'.map (·.1) = [aw0, aw1] := hm
  have hll : ls'.length = 2 := by have := congrArg List.length hml; simpa using this
  have hfw : ∀ x ∈ ls', x.1.few := fun x hx => by
    have h1 : x.1 ∈ ls'.map (·.1) := List.mem_map.2 ⟨x, hx, rfl⟩
    rw [hml] at h1
    simp only [List.mem_cons, List.not_mem_nil, or_false] at h1
    rcases h1 with h1 | h1 <;> rw [h1]
    · exact ⟨⟨by decide, by decide⟩, ⟨by decide, by decide⟩, by decide⟩
    · exact ⟨⟨by decide, by decide⟩, ⟨by decide, by decide⟩, by decide⟩
  refine G.ent (L' := glb :: sep [slP (.slice a1 0 c1) 5 1 (u8s []), slP (.slice a2 2 c2) 43 4 (ls'.flatMap stC), W] :: F) (Ent.trans (arr_ent 2 [5, 1, 0, 1] _) (Ent.cons (sep_shut [_, _, _] F))) ?_
  generalize hI2 : sep [slP (.slice a1 0 c1) 5 1 (u8s []), slP (.slice a2 2 c2) 43 4 (ls'.flatMap stC), W] = I2
  have hp : ∀ (i : Nat) (A : HP) (R : List HP), takeAt i [slP (.slice a1 0 c1) 5 1 (u8s []), slP (.slice a2 2 c2) 43 4 (ls'.flatMap stC), W] = some (A, R) → Ent [I2] [A] := fun i A R h => by
    rw [← hI2]
    exact (sep_open [_, _, _] []).trans (Ent.pick1 (i := i) h)
  refine l_plain rfl (s_call rfl rfl (Files_c hglb [] a1 0 c1 (hi1.ent (hp 0 _ _ rfl)) hi2 (by omega) [] none 0 0 .nil rfl (by omega) (fun y hy => by cases hy) ls' a2 2 c2 (hs1.ent (hp 1 _ _ rfl)) hll (by omega) (fun x hx => ⟨hfw x hx, (hW x hx).ent (hp 2 _ _ rfl)⟩)) [0, 0] rfl ?_ (fun _ _ h => h.elim))
  rintro _ _ ⟨ta, tc, ov', pa, pc, TL, σ, hF, rfl, rfl⟩
  rw [hml] at hF
  obtain ⟨q, d1, d2, hT, hr⟩ := awake_plain hF
  have hlen : TL.length = 2 := by have := congrArg List.length hT; simpa using this
  obtain ⟨hc0, hc4⟩ : (TL.flatMap tdC)[0]? = some (.int .i64 0) ∧ (TL.flatMap tdC)[4]? = some (.int .i64 1) := by
    cases TL with
    | nil => cases hlen
    | cons x TL =>
      cases TL with
      | nil => cases hlen
      | cons y TL =>
        simp only [List.map_cons, List.cons.injEq] at hT
        simp [tdC, hT.1, hT.2.1]
  have hne : TL.flatMap tdC ≠ [] := fun h => by rw [h] at hc0; cases hc0
  rw [hr, hlen]
  generalize TL.flatMap tdC = cs at hc0 hc4 hne
  generalize σ.l.length = pl
  refine G.ent (Ent.trans (arr_ent 0 [2] _) (Ent.refl _)) ?_
  refine slP_some hne fun tb htb _ _ _ => ?_
  subst htb
  refine G.ent (Ent.trans (arr_ent 0 [4] _) (Ent.refl _)) ?_
  refine td_src fun oa oc hov hol hos => ?_
  have hov : ov' = .slice oa 1 oc := hov
  subst hov
  repeat (first | refine wZ ?_ | intro b)
  refine l_yes rfl rfl rfl ?_
  apply s_val rfl rfl
  · exact RunS.v (r_index (i := 0) rfl rfl rfl (by decide))
  repeat (first | refine wZ ?_ | intro b)
  refine l_yes rfl rfl rfl ?_
  apply s_val rfl rfl
  · exact r_load rfl rfl (rd_sl 1 rfl hc0)
  repeat (first | refine wZ ?_ | intro b)
  refine l_yes rfl rfl rfl ?_
  apply s_val rfl rfl
  · exact RunS.v (r_index (i := 1) rfl rfl rfl (by decide))
  repeat (first | refine wZ ?_ | intro b)
  refine l_yes rfl rfl rfl ?_
  apply s_val rfl rfl
  · exact r_load rfl rfl (rd_sl 1 rfl hc4)
  repeat (first | refine wZ ?_ | intro b)
  refine l_yes rfl rfl rfl ?_
  apply s_val rfl rfl
  · exact r_bStr (bs := [120]) rfl (Src.ent hos (Ent.pick1 (i := 0) rfl)) rfl
  repeat (first | refine wZ ?_ | intro b)
  exact e_ret1 _ rfl rfl ⟨rfl, rfl⟩ (arr_ent 5 [2] _)
end
end Go.Proofs.YtfebpbflpdppiaaGreatDoor
namespace Go.Proofs.YtfebpbflpdppiaaGreatDoor
open Go Go.Sl
set_option maxRecDepth 100000
def stN (d : ByteArray) : Stp × Value := (⟨d, 0, 0, []⟩, .slice none 0 0)
theorem stN_one (d : ByteArray) : ([stN d].flatMap stC).all (·.oneCell') = true := rfl
attribute [local irreducible] wpList Code.wp Exit.then Exit.inBlock bodyPost RunS RunV G St Ct Sat Ent At Rd GQ QL wpAny wpOp wpQuiet slP Sl.ex sep
section
variable {I : HP}
set_option maxHeartbeats 8000000 in
theorem between_c (d1 d2 : ByteArray) (ls : List (Stp × Value)) (hls : ∀ x ∈ ls, ∃ a k c, x.2 = .slice a k c) (la : Option Addr) (nl lc : Nat) (hl : Src [I] 4 (.slice la nl lc) nl (ls.flatMap stC)) (hll : ls.length = nl) (hn : nl ≤ 1000) :
    Ct Tryz.prog 14 #[.string d1, .slice la nl lc, .string d2] [I] (fun v B => ∃ a' c', v = .slice a' (nl + 2) c' ∧ B = [I, slP (.slice a' (nl + 2) c') 43 4 ((stN d1 :: (ls ++ [stN d2])).flatMap stC)]) nev := by
  refine Ct.of Tryz.func14 rfl Tryz.ntmps14 rfl fun m F => ?_
  repeat (first | refine wZ ?_ | intro b)
  refine l_plain rfl ?_
  apply s_val rfl rfl
  · exact RunS.v (r_build (cells := #[.string d1, .int .i64 0, .int .i64 0, .slice none 0 0]) rfl (by kernel_rfl))
  refine l_plain rfl (s_build (size := 4) (vs := [.agg #[.string d1, .int .i64 0, .int .i64 0, .slice none 0 0]]) (l := [stN d1].flatMap stC) rfl rfl rfl rfl rfl (by intro v hv; simp at hv; subst hv; rfl) (by simp [Value.cells, stC, stN]) rfl rfl fun b1 => ?_)
  refine G.ent (slP_blk (k := 1) (size := 4) rfl (by unfold maxLen; omega)) ?_
  repeat (first | refine wZ ?_ | intro b)
  refine l_plain rfl (s_append (i := 0) (kk := nl) rfl rfl rfl (Src.ent hl (Ent.pick1 (i := 1) rfl)) rfl rfl rfl (sts_one ls hls) (by omega) (by simp only [maxLen]; omega) rfl ?_)
  intro a1 c1
  repeat (first | refine wZ ?_ | intro b)
  refine l_plain rfl ?_
  apply s_val rfl rfl
  · exact RunS.v (r_build (cells := #[.string d2, .int .i64 0, .int .i64 0, .slice none 0 0]) rfl (by kernel_rfl))
  refine l_plain rfl (s_build (size := 4) (vs := [.agg #[.string d2, .int .i64 0, .int .i64 0, .slice none 0 0]]) (l := [stN d2].flatMap stC) rfl rfl rfl rfl rfl (by intro v hv; simp at hv; subst hv; rfl) (by simp [Value.cells, stC, stN]) rfl rfl fun b2 => ?_)
  refine l_plain rfl (s_append (i := 1) (kk := 1) rfl rfl rfl (Src.some _ _ _ _ _ rfl (rdn_all 0 rfl)) rfl rfl (by rw [List.length_append, st_flen, st_flen, hll]; simp; omega) (stN_one d2) (by omega) (by simp only [maxLen]; omega) rfl ?_)
  intro a2 c2
  repeat (first | refine wZ ?_ | intro b)
  have he : [stN d1].flatMap stC ++ ls.flatMap stC ++ [stN d2].flatMap stC = (stN d1 :: (ls ++ [stN d2])).flatMap stC := by simp
  rw [he, show 1 + nl + 1 = nl + 2 from by omega]
  exact e_ret1 _ rfl rfl ⟨a2, c2, rfl, rfl⟩ (arr_ent 1 [2, 0] _)
theorem same_c (bs : List UInt8) (a a' : Option Addr) (k c k' c' : Nat) (h1 : Src [I] 1 (.slice a k c) k (u8s bs)) (h2 : Src [I] 1 (.slice a' k' c') k' (u8s bs)) :
    Ct Tryz.prog 16 #[.slice a k c, .slice a' k' c'] [I] (fun v B => v = .bool true ∧ B = [I]) nev := by
  refine Ct.of Tryz.func16 rfl Tryz.ntmps16 rfl fun m F => ?_
  repeat (first | refine wZ ?_ | intro b)
  refine l_plain rfl ?_
  apply s_val rfl rfl
  · exact r_bStr (bs := bs) rfl (Src.ent h1 (Ent.pick1 (i := 0) rfl)) rfl
  repeat (first | refine wZ ?_ | intro b)
  refine l_plain rfl ?_
  apply s_val rfl rfl
  · exact r_bStr (bs := bs) rfl (Src.ent h2 (Ent.pick1 (i := 0) rfl)) rfl
  repeat (first | refine wZ ?_ | intro b)
  rw [beq_self_eq_true]
  repeat (first | refine wZ ?_ | intro b)
  exact e_ret1 _ rfl rfl ⟨rfl, rfl⟩ (Ent.refl _)
end
end Go.Proofs.YtfebpbflpdppiaaGreatDoor
namespace Go.Proofs.YtfebpbflpdppiaaGreatDoor
open Go Go.Sl
set_option maxRecDepth 100000
theorem cf_le : ∀ (l : List (ByteArray × Int)), (∀ y ∈ l, 0 ≤ y.2 ∧ y.2 ≤ 65536) → ∀ g : Cf, ((l.map kindO).foldl cfAdd g).T + ((l.map kindO).foldl cfAdd g).u ≤ g.T + g.u + 65536 * l.length
  | [], _, g => by simp
  | y :: l, h, g => by
    have ih := cf_le l (fun z hz => h z (by simp [hz])) (cfAdd g (kindO y))
    have h2 := h y (by simp)
    simp only [List.map_cons, List.foldl_cons, List.length_cons]
    by_cases hin : y.1 = sInner
    · rw [(lyY_in hin).2] at ih ⊢
      have h1 := cfAdd_le g (some y.2.toNat)
      dsimp only at h1
      omega
    · rw [(lyY_ro hin).2] at ih ⊢
      have h1 := cfAdd_le g none
      dsimp only at h1
      omega
/-- how much a run leaves -/
theorem fres_len {ib : List UInt8} {ly : List (ByteArray × Int)} {steps : List Stp} {TT : List Tld} {σ : MS} (hF : FRes (cfOf (ly.map kindO)) ⟨ov (fun _ => 0) 0 ib, ib.length, [], .idle⟩ steps TT σ) (hi : ib.length ≤ 65536) (hl : ly.length ≤ 6) (ho : ∀ y ∈ ly, 0 ≤ y.2 ∧ y.2 ≤ 65536) (hf : ∀ x ∈ steps, x.few) : σ.l.length ≤ steps.length ∧ TT.length ≤ steps.length := by
  have hg : (cfOf (ly.map kindO)).T + (cfOf (ly.map kindO)).u ≤ 400000 := by
    have h : (cfOf (ly.map kindO)).T + (cfOf (ly.map kindO)).u ≤ 0 + 0 + 65536 * ly.length := cf_le ly ho cf0
    omega
  have h0 : (⟨ov (fun _ => 0) 0 ib, ib.length, [], .idle⟩ : MS).bnd (cfOf (ly.map kindO)) 0 := ⟨by dsimp only; omega, Nat.le_refl _, trivial⟩
  rcases hF with hr | ⟨pre, x, post, tl, rfl, hr, hb, rfl⟩
  · exact ⟨(Run.bnd hg h0 hr hf).2.1, Nat.le_of_eq hr.len⟩
  · have h1 := (Run.bnd hg h0 hr fun x hx => hf x (List.mem_append_left _ hx)).2.1
    have h2 := hr.len
    simp only [List.length_append, List.length_cons, List.length_nil]
    omega
attribute [local irreducible] wpList Code.wp Exit.then Exit.inBlock bodyPost RunS RunV G St Ct Sat Ent At Rd GQ QL wpAny wpOp wpQuiet slP Sl.ex sep
end Go.Proofs.YtfebpbflpdppiaaGreatDoor
