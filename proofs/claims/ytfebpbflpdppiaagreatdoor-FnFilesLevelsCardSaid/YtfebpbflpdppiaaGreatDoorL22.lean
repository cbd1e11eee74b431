/- The plain law: reads, transactions. No program · The plain law: the end of a transaction; a call of whatever kind. No program · The plain law: whole runs. No program · The plain law: where nothing is masked, all bytes are known. No program. -/
import Derived.Test.YtfebpbflpdppiaaGreatDoorL21
namespace Go.Proofs.YtfebpbflpdppiaaGreatDoor
open Go Go.Sl
set_option maxRecDepth 100000
/-- what is read fits -/
theorem rd_fit {V : List Int} {c : Cn} {a : Nat} (h : Kn V fun i b => c (a + i) = b) (o n : Nat) : fitsF ((V.take (min (o + n) V.length)).drop (min o V.length)) (rng c (a + o) (min n (V.length - o))) = true := by
  refine fits_of ?_ fun i v hv h0 => ?_
  · rw [List.length_drop, List.length_take, rng_length]
    omega
  · rw [List.getElem?_drop, List.getElem?_take] at hv
    split at hv
    · rename_i hi
      obtain ⟨b, e, hF⟩ := h _ v hv h0
      refine ⟨b, e, ?_⟩
      show (rng c (a + o) (min n (V.length - o)))[i]? = some b
      rw [rng_get _ _ _ _ (by omega), ← hF]
      congr 2
      omega
    · cases hv
theorem rdd_take {old : List UInt8} {c : Cn} {o k : Nat} : (rdd old c o k).take k = rng c o k := by
  unfold rdd
  rw [List.take_append_of_le_length (by simp), List.take_of_length_le (by simp)]
section
variable {g : Cf} {s : SS} {σ σ' : MS} {e : Nat} {q : Int} {dat : List UInt8} {off n : Int} {bs : List UInt8}
/-- a read -/
theorem sim_r (h : Sim g s σ) (hs : shortF s.ys = false) (hn1 : n ≤ 65536) (hst : if n < 0 ∨ 1048576 < n then e = 0 ∧ q = 0 ∧ dat = [] ∧ σ' = σ else σ' = σ ∧ ∃ (k : Nat) (nw : List UInt8), StR g off (List.replicate n.toNat 0) σ k e nw ∧ q = (k : Int) ∧ dat = nw.take k) : StOk g σ' (doRd s off n) e q dat sRead := by
  have hK : lastK s = s.ys.length - 1 := rfl
  unfold doRd
  by_cases h1 : n < 1
  · rw [if_pos h1]
    by_cases h0 : n < 0
    · exact .inl ⟨decide_eq_true h0, rfl⟩
    · rw [if_neg (by omega)] at hst
      obtain ⟨rfl, _⟩ := hst
      exact .inr ⟨(fun h => by cases h), h.same rfl (decide_eq_false h0) rfl rfl⟩
  rw [if_neg h1]
  rw [if_neg (by omega)] at hst
  obtain ⟨rfl, k, nw, hst, rfl, rfl⟩ := hst
  unfold StR at hst
  have hrl : (List.replicate n.toNat (0 : UInt8)).length = n.toNat := List.length_replicate
  by_cases ho : off < 0
  · rw [if_pos ho] at hst ⊢
    obtain ⟨_, he, _⟩ := hst
    have := he (by omega)
    exact .inr ⟨fun _ => told_any rfl (by omega) (by omega), h⟩
  rw [if_neg ho] at hst ⊢
  generalize hV : viewF s.ys (lastK s) = V
  have hto : (off + n).toNat = off.toNat + n.toNat := by omega
  right
  refine ⟨fun _ => ?_, h⟩
  -- outside a transaction
  have hid : ∀ A : Nat, A + V.length = σ'.s → V = (viewF s.ys 0).drop A → inT s = false ∨ topF s.ys = 0 → k = min n.toNat (σ'.s - (A + off.toNat)) → e = (if n.toNat ≤ σ'.s - (A + off.toNat) then 0 else 1) → nw = rdd (List.replicate n.toNat 0) σ'.c (A + off.toNat) k →
      toldF ⟨rdE s n V (min off.toNat V.length) (min (off + n).toNat V.length), ((min (off + n).toNat V.length - min off.toNat V.length : Nat) : Int), (V.take (min (off + n).toNat V.length)).drop (min off.toNat V.length)⟩ e (k : Int) (nw.take k) sRead = true := fun A hA hVd hit hk he hnw => by
    have hrd : rdE s n V (min off.toNat V.length) (min (off + n).toNat V.length) = if n.toNat ≤ σ'.s - (A + off.toNat) then 0 else 1 := by
      unfold rdE
      rw [if_neg]
      · split <;> split <;> omega
      · rintro ⟨q1, q2, q3⟩
        rcases hit with hit | hit
        · rw [hit] at q3; cases q3
        · omega
    refine told_rd ?_ (.inr ⟨?_, ?_⟩) ?_ ?_
    · dsimp only; rw [hrd]; split <;> decide
    · dsimp only; rw [hrd]; split <;> decide
    · dsimp only; rw [hrd, he]; split <;> rfl
    · dsimp only; omega
    · dsimp only
      have hk2 : k = min n.toNat (V.length - off.toNat) := by omega
      rw [hnw, rdd_take, hto, hk2]
      refine rd_fit ?_ off.toNat n.toNat
      rw [hVd]
      exact h.b.k.drop A
  by_cases ht : topF s.ys = 0
  · rw [h.hasF ht] at hst
    have hfl := h.flV ht hs
    rw [hV] at hfl
    unfold TrR at hst
    dsimp only at hst
    rw [if_neg ho, hrl] at hst
    exact hid g.T (by omega) hfl.1 (.inr ht) hst.1 hst.2.1 hst.2.2
  · have ht : 0 < topF s.ys := by omega
    rw [h.hasT ht] at hst
    dsimp only at hst
    cases hts : σ'.t with
    | brk => exact absurd hts h.nb
    | idle =>
      rw [hts] at hst
      obtain ⟨x, hx, hl, q1, q2, q3⟩ := h.idV ht hts hs
      rw [hV] at q1 q2
      unfold TrR at hst
      dsimp only at hst
      rw [if_neg (by omega), hrl, Int.toNat_natCast, ← Nat.add_assoc] at hst
      exact hid (g.T + g.u) (by omega) q1 (.inl q3) hst.1 hst.2.1 hst.2.2
    | act L r =>
      rw [hts] at hst
      obtain ⟨x, l0, fs, hx, hl, hF, q1, q2, q3⟩ := h.actV ht hts hs
      rw [hV] at q1 q2
      unfold TrR at hst
      dsimp only at hst
      rw [if_neg (by omega), hrl, Int.toNat_natCast] at hst
      obtain ⟨hk, he, he2, hnw⟩ := hst
      have hrd : rdE s n V (min off.toNat V.length) (min (off + n).toNat V.length) = if V.length ≤ off.toNat + n.toNat then -2 else 0 := by
        unfold rdE
        rw [q3]
        split
        · rw [if_pos (by omega)]
        · rename_i hh
          have hlt : ¬ V.length ≤ off.toNat + n.toNat := fun hle => hh ⟨ht, by omega, rfl⟩
          rw [if_neg (by omega), if_neg hlt]
      refine told_rd ?_ ?_ ?_ ?_
      · dsimp only; rw [hrd]; split <;> decide
      · dsimp only
        rw [hrd]
        split
        · exact .inl ⟨rfl, by omega⟩
        · exact .inr ⟨by decide, by have := he2 (by omega); omega⟩
      · dsimp only; omega
      · dsimp only
        have hk2 : k = min n.toNat (V.length - off.toNat) := by omega
        rw [hnw, rdd_take, hto, hk2]
        refine rd_fit ?_ off.toNat n.toNat
        rw [q1]
        exact (hF.1.k.mono fun i b _ hq => hq.1).drop g.u
/-- the size -/
theorem sim_s (h : Sim g s σ) (hs : shortF s.ys = false) (hst : StS g σ q) : toldF ⟨0, sizeF s.ys (lastK s), []⟩ 0 q dat sSize = true := by
  refine told_pl rfl (by omega) (by decide) fun _ => .inr ?_
  dsimp only
  rw [h.sz hs]
  unfold StS at hst
  by_cases ht : topF s.ys = 0
  · rw [h.hasF ht] at hst
    have hfl := h.flV ht hs
    dsimp only at hst
    omega
  · have ht : 0 < topF s.ys := by omega
    rw [h.hasT ht] at hst
    obtain ⟨q0, h1, h2⟩ := hst
    have h1 := h1 h.nb
    cases hts : σ.t with
    | brk => exact absurd hts h.nb
    | idle =>
      rw [hts] at h1
      obtain ⟨x, hx, hl, q1, q2, q3⟩ := h.idV ht hts hs
      have h1 : (q0 : Int) = ((σ.s - g.T : Nat) : Int) := h1
      omega
    | act L r =>
      rw [hts] at h1
      obtain ⟨x, l0, fs, hx, hl, hF, q1, q2, q3⟩ := h.actV ht hts hs
      have h1 : (q0 : Int) = (L.s : Int) := h1
      omega
/-- a hole -/
theorem sim_p (h : Sim g s σ) (hst : StX g TrP σ e σ') : StOk g σ' (doPu s off n) e q dat sPunch := by
  unfold StX at hst
  unfold doPu
  by_cases ht : topF s.ys = 0
  · rw [h.hasF ht] at hst
    rw [if_pos ht]
    obtain ⟨_, rfl⟩ := hst
    exact .inr ⟨(fun h => by cases h), h⟩
  · rw [if_neg ht]
    have ht : 0 < topF s.ys := by omega
    rw [h.hasT ht] at hst
    obtain ⟨t, hst, rfl⟩ := hst
    by_cases hi : inT s = true
    · rw [if_pos hi]
      exact .inl ⟨rfl, rfl⟩
    rw [if_neg hi]
    cases hts : σ.t with
    | brk => exact absurd hts h.nb
    | act L r =>
      exfalso
      obtain ⟨x, hx, hT⟩ := h.t ht
      rw [hts] at hT
      obtain ⟨l0, fs, hl, _⟩ := hT
      apply hi
      unfold inT
      rw [hx]
      dsimp only
      rw [hl]
      simp
    | idle =>
      rw [hts] at hst
      obtain ⟨rfl, rfl⟩ := hst
      have e1 : σ.to .idle = σ := by rw [← hts]; rfl
      rw [e1]
      split
      · exact .inr ⟨fun _ => told_any rfl (by omega) (by omega), h⟩
      · exact .inr ⟨fun _ => told_pl rfl (by omega) (by decide) fun h => absurd h (by decide), h⟩
/-- a transaction's step, where there is a rollback -/
theorem deedT_eq {x : Ly} (hx : s.ys[topF s.ys]? = some x) (d : DK) : deedT s d = deedAt s (topF s.ys - 1) x d := by
  unfold deedT
  rw [hx]
theorem DK_no (d : DK) : d.s ≠ sRead ∧ ¬(d.s = sWrite ∨ d.s = sSize) := by cases d <;> decide
theorem told_de {w : Wnt} (e : Int) (h : w.e = e) (h0 : 0 ≤ e) (d : DK) : toldF w e q dat d.s = true := told_pl h.symm h0 (DK_no d).1 fun hh => absurd hh (DK_no d).2
theorem sim_de0 (h : Sim g s σ) (ht : topF s.ys = 0) (d : DK) : StOk g σ (doDe s d) e q dat d.s := by
  unfold doDe
  rw [if_pos ht]
  exact .inr ⟨(fun h => by cases h), h⟩
theorem de_of {x : Ly} (ht : 0 < topF s.ys) (hx : s.ys[topF s.ys]? = some x) (d : DK) (r : SS) (hd : deedAt s (topF s.ys - 1) x d = (r, e)) (hr : Sim g r σ') : StOk g σ' (doDe s d) e q dat d.s := by
  unfold doDe
  rw [if_neg (by omega), deedT_eq hx, hd]
  exact .inr ⟨fun _ => told_de (e : Int) rfl (Int.natCast_nonneg e) d, hr⟩
theorem sim_b (h : Sim g s σ) (hs : shortF s.ys = false) (hst : StX g (TrB (shC g.T σ.c) (σ.s - g.T)) σ e σ') : StOk g σ' (doDe s .begin) e q dat sBegin := by
  unfold StX at hst
  by_cases ht : topF s.ys = 0
  · rw [h.hasF ht] at hst
    obtain ⟨_, rfl⟩ := hst
    exact sim_de0 h ht .begin
  have ht : 0 < topF s.ys := by omega
  have e1 : topF s.ys - 1 + 1 = topF s.ys := by omega
  rw [h.hasT ht] at hst
  obtain ⟨t, hst, rfl⟩ := hst
  cases hts : σ.t with
  | brk => exact absurd hts h.nb
  | idle =>
    rw [hts] at hst
    obtain ⟨rfl, bb, rfl⟩ := hst
    obtain ⟨x, hx, hl, q1, q2, q3⟩ := h.idV ht hts hs
    have hbl := h.shp.below h.low ht
    have h5 := hbl.2 hs
    have h6 := h.b.len
    refine de_of ht hx .begin (begF s (topF s.ys - 1) x) rfl ?_
    refine h.setT ht hx (x' := { begY s (topF s.ys - 1) x with levels := x.levels ++ [((begY s (topF s.ys - 1) x).bytes, (begY s (topF s.ys - 1) x).wrote)] }) (by unfold begF; rw [e1]) ?_ ?_ h.ls rfl rfl rfl rfl rfl ?_
    · exact (begY_kd s _ x).1
    · exact (begY_kd s _ x).2
    · unfold begY
      rw [if_pos hl, hl]
      refine ⟨_, [], rfl, ?_, trivial⟩
      refine Fr1.first ?_ ?_ bb
      · show (viewF s.ys (topF s.ys - 1)).length = σ.s - g.T
        omega
      · show Kn (viewF s.ys (topF s.ys - 1)) _
        rw [hbl.1]
        exact h.b.k.drop g.T
  | act L r =>
    rw [hts] at hst
    obtain ⟨rfl, bb, rfl⟩ := hst
    obtain ⟨x, l0, fs, hx, hl, hF, q1, q2, q3⟩ := h.actV ht hts hs
    have hb : begY s (topF s.ys - 1) x = x := by
      unfold begY
      rw [if_neg (by rw [hl]; simp)]
    refine de_of ht hx .begin (begF s (topF s.ys - 1) x) rfl ?_
    refine h.setT ht hx (x' := { x with levels := x.levels ++ [(x.bytes, x.wrote)] }) (by unfold begF; rw [e1, hb]) rfl rfl h.ls rfl rfl rfl rfl rfl ?_
    refine ⟨l0, (x.bytes, x.wrote) :: fs, ?_, hF.1.begin bb, hF⟩
    dsimp only
    rw [hl]
    simp
theorem sim_o (h : Sim g s σ) (hs : shortF s.ys = false) (hst : StX g TrO σ e σ') : StOk g σ' (doDe s .roll) e q dat sRoll := by
  unfold StX at hst
  by_cases ht : topF s.ys = 0
  · rw [h.hasF ht] at hst
    obtain ⟨_, rfl⟩ := hst
    exact sim_de0 h ht .roll
  have ht : 0 < topF s.ys := by omega
  have e1 : topF s.ys - 1 + 1 = topF s.ys := by omega
  rw [h.hasT ht] at hst
  obtain ⟨t, hst, rfl⟩ := hst
  cases hts : σ.t with
  | brk => exact absurd hts h.nb
  | idle =>
    rw [hts] at hst
    obtain ⟨rfl, rfl⟩ := hst
    obtain ⟨x, hx, hl, q1, q2, q3⟩ := h.idV ht hts hs
    have e2 : σ.to .idle = σ := by rw [← hts]; rfl
    rw [e2]
    refine de_of ht hx .roll s ?_ h
    rw [show deedAt s (topF s.ys - 1) x .roll = if x.levels = [] then (s, 3) else (rollF s (topF s.ys - 1) x, 0) from rfl, if_pos hl]
  | act L r =>
    obtain ⟨x, l0, fs, hx, hl, hF, q1, q2, q3⟩ := h.actV ht hts hs
    have hne : x.levels ≠ [] := by rw [hl]; simp
    have hd : deedAt s (topF s.ys - 1) x .roll = (rollF s (topF s.ys - 1) x, 0) := by
      rw [show deedAt s (topF s.ys - 1) x .roll = if x.levels = [] then (s, 3) else (rollF s (topF s.ys - 1) x, 0) from rfl, if_neg hne]
    cases r with
    | nil =>
      rw [hts] at hst
      obtain ⟨rfl, rfl⟩ := hst
      cases fs with
      | cons f fs => exact hF.2.elim
      | nil =>
        refine de_of ht hx .roll _ hd ?_
        refine h.setT ht hx (x' := { x with bytes := (lastL x).1, wrote := (lastL x).2, levels := x.levels.dropLast }) (by unfold rollF; rw [e1]) rfl rfl h.ls rfl rfl rfl rfl rfl ?_
        show x.levels.dropLast = []
        rw [hl]
        rfl
    | cons L2 r =>
      rw [hts] at hst
      obtain ⟨rfl, rfl⟩ := hst
      cases fs with
      | nil => exact hF.2.elim
      | cons f fs =>
        refine de_of ht hx .roll _ hd ?_
        refine h.setT ht hx (x' := { x with bytes := (lastL x).1, wrote := (lastL x).2, levels := x.levels.dropLast }) (by unfold rollF; rw [e1]) rfl rfl h.ls rfl rfl rfl rfl rfl ?_
        have hlast : lastL x = f := by
          unfold lastL
          rw [hl, List.reverse_cons, ← List.cons_append, List.getLast?_concat]
          rfl
        refine ⟨l0, fs, ?_, ?_⟩
        · show x.levels.dropLast = _
          rw [hl, List.reverse_cons, ← List.cons_append, List.dropLast_concat]
        · rw [hlast]
          exact hF.2
end
end Go.Proofs.YtfebpbflpdppiaaGreatDoor
namespace Go.Proofs.YtfebpbflpdppiaaGreatDoor
open Go Go.Sl
set_option maxRecDepth 100000
section
variable {g : Cf} {s : SS} {σ σ' : MS} {e : Nat} {q : Int} {dat : List UInt8} {off n : Int} {bs : List UInt8}
/-- what stands beneath, when a transaction has ended -/
theorem PBk.fin {p pb : List Int} {w : List Bool} {c : Cn} {sz T sh : Nat} {L : Lev} (h : PBk pb c sz) (hT : T ≤ sz) (hF : Fr1 (shC T c) (sz - T) sh (p, w) L []) (done : List Nat) (hd : ∀ j, j ∈ done ↔ L.d j = true) (hs : done = [] → sz = T + L.s) :
    PBk (cutF pb T ++ p) (endC L.c T c L.s done) (endS T sz L.s done) := by
  obtain ⟨h1, h2, h3⟩ := h
  have hpl : p.length = L.s := hF.len
  have hin : ∀ i, L.d (i / 4096) = true → endC L.c T c L.s done (T + i) = if i < L.s then L.c i else 0 := fun i hi => by
    have hm := (hd _).2 hi
    unfold endC
    rw [if_neg (fun hh => by rw [hh] at hm; cases hm)]
    unfold cutC
    rw [wC_in _ _ _ _ _ hm]
    split <;> split <;> first | rfl | omega
  have hno : ∀ i, (i < T ∨ L.d ((i - T) / 4096) = false) → i < T + L.s → endC L.c T c L.s done i = c i := fun i hi hl => by
    unfold endC
    split
    · rfl
    · unfold cutC
      rw [if_pos hl]
      exact wC_not _ _ _ _ _ (hi.imp id fun e hm => absurd (((hd _).1 hm).symm.trans e) (by decide))
  refine ⟨?_, fun i v hv h0 => ?_, fun i hi => ?_⟩
  · rw [List.length_append, cutF_length, hpl]
    unfold endS
    split
    · rename_i hh
      exact (hs hh).symm
    · rfl
  · by_cases hi : i < T
    · rw [List.getElem?_append_left (by rw [cutF_length]; exact hi), cutF_get, if_pos hi, if_pos (by omega)] at hv
      obtain ⟨b, e, hb⟩ := h2 i v hv h0
      exact ⟨b, e, (hno i (.inl hi) (by omega)).trans hb⟩
    · rw [List.getElem?_append_right (by rw [cutF_length]; omega), cutF_length] at hv
      have hl := (List.getElem?_eq_some_iff.1 hv).1
      obtain ⟨b, e, hb1, hb2⟩ := hF.k (i - T) v hv h0
      refine ⟨b, e, ?_⟩
      show endC L.c T c L.s done i = b
      cases ed : L.d ((i - T) / 4096) with
      | true =>
        have := hin (i - T) ed
        rw [show T + (i - T) = i from by omega, if_pos (by omega)] at this
        rw [this]
        exact hb1
      | false =>
        rw [hno i (.inr ed) (by omega)]
        have := hb2 ed
        have h5 : shC T c (i - T) = b := this
        unfold shC at h5
        rwa [show T + (i - T) = i from by omega] at h5
  · unfold endS at hi
    unfold endC
    split
    · rename_i hh
      rw [if_pos hh] at hi
      exact h3 i hi
    · rename_i hh
      rw [if_neg hh] at hi
      unfold cutC
      rw [if_neg (by omega)]
theorem benF_congr {l l' : List Ly} (h : l.map (·.kd) = l'.map (·.kd)) (k : Nat) : benF l k = benF l' k := benG_congr h _ _
theorem sim_e (h : Sim g s σ) (hs : shortF s.ys = false) (hst : StE g σ e σ') : StOk g σ' (doDe s .fin) e q dat sEnd := by
  unfold StE at hst
  by_cases ht : topF s.ys = 0
  · rw [h.hasF ht] at hst
    obtain ⟨_, rfl⟩ := hst
    exact sim_de0 h ht .fin
  have ht : 0 < topF s.ys := by omega
  have htl := topF_lt h.shp.n0
  have e1 : topF s.ys - 1 + 1 = topF s.ys := by omega
  rw [h.hasT ht] at hst
  dsimp only at hst
  cases hts : σ.t with
  | brk => exact absurd hts h.nb
  | idle =>
    rw [hts] at hst
    obtain ⟨rfl, hc, hz, hl', htt⟩ := hst
    obtain ⟨x, hx, hl, q1, q2, q3⟩ := h.idV ht hts hs
    have e2 : σ' = σ := by
      obtain ⟨c, sz, l, t⟩ := σ
      obtain ⟨c', sz', l2, t'⟩ := σ'
      dsimp only at hc hz hl' htt hts
      subst hc hz hl' htt hts
      rfl
    rw [e2]
    refine de_of ht hx .fin s ?_ h
    rw [show deedAt s (topF s.ys - 1) x .fin = if x.levels = [] then (s, 3) else (endF s (topF s.ys - 1) x, 0) from rfl, if_pos hl]
  | act L r =>
    obtain ⟨x, l0, fs, hx, hl, hF, q1, q2, q3⟩ := h.actV ht hts hs
    have hne : x.levels ≠ [] := by rw [hl]; simp
    have hd : deedAt s (topF s.ys - 1) x .fin = (endF s (topF s.ys - 1) x, 0) := by
      rw [show deedAt s (topF s.ys - 1) x .fin = if x.levels = [] then (s, 3) else (endF s (topF s.ys - 1) x, 0) from rfl, if_neg hne]
    cases r with
    | cons L2 r =>
      rw [hts] at hst
      obtain ⟨rfl, hc, hz, hl', done, hnd, hdn, htt⟩ := hst
      cases fs with
      | nil => exact hF.2.elim
      | cons f fs =>
        have hlen : 1 < x.levels.length := by rw [hl]; simp
        refine de_of ht hx .fin _ hd ?_
        refine h.setT ht hx (x' := { x with levels := x.levels.dropLast }) (by unfold endF; rw [if_pos hlen]; unfold endY; rw [e1]) rfl rfl (by unfold endF; rw [if_pos hlen]; exact h.ls) (by unfold endF; rw [if_pos hlen]) (by unfold endF; rw [if_pos hlen]) hc hz hl' ?_
        rw [htt]
        obtain ⟨f1, f2⟩ := f
        refine ⟨l0, fs, ?_, hF.1.fin hF.2.1 done hdn, hF.2.2⟩
        show x.levels.dropLast = _
        rw [hl, List.reverse_cons, ← List.cons_append, List.dropLast_concat]
    | nil =>
      rw [hts] at hst
      obtain ⟨htt, hst⟩ := hst
      cases fs with
      | cons f fs => exact hF.2.elim
      | nil =>
        have hlen : ¬ 1 < x.levels.length := by rw [hl]; simp
        have hY : endY s (topF s.ys - 1) x = s.ys.set (topF s.ys) { x with levels := x.levels.dropLast } := by unfold endY; rw [e1]
        have hYk : (endY s (topF s.ys - 1) x).map (fun x => (x.kd, x.off)) = s.ys.map (fun x => (x.kd, x.off)) := by rw [hY]; exact set_kd hx rfl rfl
        have hYk1 := map_of (f := fun x : Ly => (x.kd, x.off)) Prod.fst hYk
        have hYk2 := map_of (f := fun x : Ly => (x.kd, x.off)) Prod.snd hYk
        have hbf : benF (endY s (topF s.ys - 1) x) (topF s.ys - 1 + 1) = g.ro := by
          rw [h.shp.ro ht, e1]
          exact benF_congr hYk1 _
        obtain ⟨x0, hx0, hv0⟩ := h.ex0
        have hbl := h.shp.below h.low ht
        have h5 := hbl.2 hs
        have h6 := h.b.len
        have hTle : g.T ≤ σ.s := by omega
        have hY0 : (endY s (topF s.ys - 1) x)[0]? = some x0 := by rw [hY, List.getElem?_set_ne (by omega)]; exact hx0
        have hoS : oSum (endY s (topF s.ys - 1) x) (topF s.ys - 1) = g.T := by rw [oSum_congr hYk2]; exact (h.shp.top ht).2.2.2.1
        have hbe : becF (endY s (topF s.ys - 1) x) (topF s.ys - 1) x.bytes = (endY s (topF s.ys - 1) x).set 0 { x0 with bytes := cutF x0.bytes g.T ++ x.bytes } := by
          unfold becF
          rw [hY0, hoS]
        have hLv : (viewF (endY s (topF s.ys - 1) x) (topF s.ys - 1)).length = σ.s - g.T := by
          have h7 : Low (endY s (topF s.ys - 1) x) := fun j y hj hy hr => by
            rw [topF_congr hYk1] at hj
            rw [hY, List.getElem?_set_ne (by omega)] at hy
            exact h.low j y hj hy hr
          have h8 := ((h.shp.congr hYk).below h7 (by rw [topF_congr hYk1]; exact ht)).1
          rw [topF_congr hYk1] at h8
          rw [h8, List.length_drop]
          have : viewF (endY s (topF s.ys - 1) x) 0 = viewF s.ys 0 := by
            unfold viewF
            rw [hY0, hx0]
          rw [this, h6]
        -- the new state
        have hfin : ∀ (ss : SS) (done : List Nat), ss.ys = becF (endY s (topF s.ys - 1) x) (topF s.ys - 1) x.bytes → ss.ls = false → (ss.vg = false → σ'.l = ss.pts) → (∀ j, j ∈ done ↔ L.d j = true) → (done = [] → σ.s = g.T + L.s) → σ'.c = endC L.c g.T σ.c L.s done → σ'.s = endS g.T σ.s L.s done → Sim g ss σ' := fun ss done k1 k2 k3 k4 k5 k6 k7 => by
          obtain ⟨ys, pts, ls, vg, ms⟩ := ss
          dsimp only at k1 k2 k3
          subst k1 k2
          rw [hbe]
          have hk0 : ((endY s (topF s.ys - 1) x).set 0 { x0 with bytes := cutF x0.bytes g.T ++ x.bytes }).map (fun x => (x.kd, x.off)) = s.ys.map (fun x => (x.kd, x.off)) := (set_kd (y := { x0 with bytes := cutF x0.bytes g.T ++ x.bytes }) hY0 rfl rfl).trans hYk
          have hk1 := map_of (f := fun x : Ly => (x.kd, x.off)) Prod.fst hk0
          have htf := topF_congr hk1
          refine ⟨h.shp.congr hk0, fun j y hj hy hr => ?_, rfl, k3, ?_, fun _ => ⟨{ x with levels := x.levels.dropLast }, ?_, ?_⟩, by rw [htt]; intro hh; cases hh⟩
          · dsimp only at hj hy
            rw [htf] at hj
            by_cases hj0 : j = 0
            · subst hj0
              rw [List.getElem?_set_self (by rw [hY, List.length_set]; exact h.shp.n0)] at hy
              obtain rfl := Option.some.inj hy
              exact h.low 0 x0 hj hx0 hr
            · rw [List.getElem?_set_ne (by omega), hY, List.getElem?_set_ne (by omega)] at hy
              exact h.low j y hj hy hr
          · dsimp only
            have : viewF ((endY s (topF s.ys - 1) x).set 0 { x0 with bytes := cutF x0.bytes g.T ++ x.bytes }) 0 = cutF x0.bytes g.T ++ x.bytes := by
              unfold viewF
              rw [List.getElem?_set_self (by rw [hY, List.length_set]; exact h.shp.n0)]
            rw [this, k6, k7, ← hv0]
            exact h.b.fin hTle hF.1 done k4 k5
          · dsimp only
            rw [htf, List.getElem?_set_ne (by omega), hY, List.getElem?_set_self htl]
          · rw [htt]
            show x.levels.dropLast = []
            rw [hl]
            rfl
        have hpl : x.bytes.length = L.s := hF.1.len
        unfold doDe
        rw [if_neg (by omega), deedT_eq hx, hd]
        unfold endF
        rw [if_neg hlen, hbf]
        by_cases hro : g.ro = true
        · rw [if_pos hro]
          exact .inl ⟨rfl, rfl⟩
        rw [if_neg hro]
        rw [if_neg hro] at hst
        obtain ⟨rfl, done, hnd, hdn, hc, hz, hl'⟩ := hst
        by_cases hbw : belowF x.wrote x.bytes.length = false
        · rw [if_pos hbw]
          by_cases hll : x.bytes.length ≠ (viewF (endY s (topF s.ys - 1) x) (topF s.ys - 1)).length
          · rw [decide_eq_true hll]
            exact .inl ⟨rfl, rfl⟩
          · rw [decide_eq_false hll]
            right
            refine ⟨fun _ => told_de 0 rfl (Int.le_refl _) .fin, ?_⟩
            exact hfin _ done rfl rfl (fun hh => by cases hh) hdn (fun _ => by omega) hc hz
        · rw [if_neg hbw, if_pos (by rw [e1]; exact (topF_congr hYk1).symm)]
          have hdne : done ≠ [] := fun hh => by
            apply hbw
            unfold belowF
            rw [Bool.eq_false_iff]
            intro hany
            obtain ⟨b, hb, hbt⟩ := List.any_eq_true.1 hany
            obtain ⟨i, hi⟩ := List.mem_iff_getElem?.1 hb
            rw [List.getElem?_take] at hi
            split at hi
            · have hbt : b = true := hbt
              subst hbt
              have := hF.1.wr i hi
              unfold anyD at this
              rw [show anyD (i / 4096) [] = false from rfl, Bool.or_false] at this
              have := (hdn _).2 this
              rw [hh] at this
              cases this
            · cases hi
          right
          refine ⟨fun _ => told_de 0 rfl (Int.le_refl _) .fin, ?_⟩
          refine hfin _ done rfl h.ls (fun hv => ?_) hdn (fun hh => absurd hh hdne) hc hz
          dsimp only at hv ⊢
          rw [hl', h.pt hv]
          unfold endP
          rw [if_neg hdne, hpl]
/-- a call -/
theorem sim_step (h : Sim g s σ) (st : Stp) (hf : st.few) {td : Tld} (hst : StD g st.d st.off st.n st.bs σ td.e td.q td.dat σ') : StOk g σ' (doF s st.d st.off st.n st.bs) td.e td.q td.dat st.d := by
  obtain ⟨d, off, n, bs⟩ := st
  obtain ⟨e, q, dat⟩ := td
  obtain ⟨_, ⟨_, hn⟩, _⟩ := hf
  dsimp only at hst hn ⊢
  unfold doF
  by_cases hl : s.ls = true ∨ off < -262144 ∨ n < -262144 ∨ shortF s.ys = true
  · rw [if_pos hl]
    exact .inl ⟨rfl, rfl⟩
  rw [if_neg hl]
  have hs : shortF s.ys = false := by
    cases hh : shortF s.ys with
    | false => rfl
    | true => exact absurd (.inr (.inr (.inr hh))) hl
  unfold StD at hst
  by_cases h1 : d = sWrite
  · subst h1
    rw [if_pos rfl] at hst ⊢
    obtain ⟨hst, rfl⟩ := hst
    exact sim_w h hs hst
  rw [if_neg h1] at hst ⊢
  by_cases h2 : d = sRead
  · subst h2
    rw [if_pos rfl] at hst ⊢
    exact sim_r h hs hn hst
  rw [if_neg h2] at hst ⊢
  by_cases h3 : d = sSize
  · subst h3
    rw [if_neg (by decide), if_pos rfl] at hst
    rw [if_pos rfl]
    obtain ⟨⟨rfl, hst, rfl⟩, rfl⟩ := hst
    exact .inr ⟨fun _ => sim_s h hs hst, h⟩
  rw [if_neg h3]
  by_cases h4 : d = sTrunc
  · subst h4
    rw [if_pos rfl] at hst ⊢
    obtain ⟨hst, rfl, rfl⟩ := hst
    exact sim_t h hs hst
  rw [if_neg h4, if_neg h3] at hst
  rw [if_neg h4]
  by_cases h5 : d = sPunch
  · subst h5
    rw [if_pos rfl] at hst ⊢
    exact sim_p h hst.1
  rw [if_neg h5] at hst ⊢
  by_cases h6 : d = sBegin
  · subst h6
    rw [if_pos rfl] at hst ⊢
    exact sim_b h hs hst.1
  rw [if_neg h6] at hst ⊢
  by_cases h7 : d = sEnd
  · subst h7
    rw [if_pos rfl] at hst ⊢
    exact sim_e h hs hst.1
  rw [if_neg h7] at hst ⊢
  by_cases h8 : d = sRoll
  · subst h8
    rw [if_pos rfl] at hst ⊢
    exact sim_o h hs hst.1
  rw [if_neg h8] at hst ⊢
  by_cases h9 : d = sSync
  · subst h9
    rw [if_pos rfl] at hst ⊢
    obtain ⟨⟨rfl, rfl⟩, rfl, rfl⟩ := hst
    exact .inr ⟨fun _ => told_pl rfl (by omega) (by decide) fun hh => absurd hh (by decide), h⟩
  rw [if_neg h9]
  exact .inl ⟨rfl, rfl⟩
end
end Go.Proofs.YtfebpbflpdppiaaGreatDoor
namespace Go.Proofs.YtfebpbflpdppiaaGreatDoor
open Go Go.Sl
set_option maxRecDepth 100000
theorem benG_top {l : List Ly} (k : Nat) (hk : k < l.length) : benG l 1 k = decide (0 < topG l k) := by
  rw [Bool.eq_iff_iff, benG_iff, decide_eq_true_eq]
  constructor
  · rintro ⟨j, x, h1, h2, h3, h4⟩
    by_cases h0 : 0 < topG l k
    · exact h0
    · exact absurd ((topG_above k j x (by omega) (by omega) h3).symm.trans h4) (by decide)
  · intro h0
    have hle := topG_le l k
    obtain ⟨x, hx⟩ := get_ex (l := l) (k := topG l k) (by omega)
    exact ⟨topG l k, x, h0, by omega, hx, by rw [topG_isR k h0 x hx]; rfl⟩
theorem ys_get (ib : List UInt8) (ly : List (ByteArray × Int)) (k : Nat) : (s0 ib ly).ys[k + 1]? = (ly[k]?).map lyY := by
  unfold s0
  simp
theorem lyY_in {y : ByteArray × Int} (h : y.1 = sInner) : lyY y = ⟨.inner, y.2.toNat, [], [], 0, []⟩ ∧ kindO y = some y.2.toNat := by
  unfold lyY kindO
  rw [if_pos h, if_pos h]
  exact ⟨rfl, rfl⟩
theorem lyY_ro {y : ByteArray × Int} (h : y.1 ≠ sInner) : lyY y = ⟨.roll, 0, [], [], 0, []⟩ ∧ kindO y = none := by
  unfold lyY kindO
  rw [if_neg h, if_neg h]
  exact ⟨rfl, rfl⟩
/-- the configuration of the first layers -/
theorem cf_k (ib : List UInt8) (ly : List (ByteArray × Int)) : ∀ k, k ≤ ly.length → ∀ l, l = (s0 ib ly).ys → ∀ c, c = cfOf ((ly.take k).map kindO) →
    c.has = decide (0 < topG l k) ∧ (c.T = if topG l k = 0 then oSum l k else oSum l (topG l k - 1)) ∧ (c.u = if topG l k = 0 then 0 else oSum l k - oSum l (topG l k)) ∧ (0 < topG l k → c.ro = benF l (topG l k))
  | 0, _, l, _, c, hc => by
    subst hc
    exact ⟨rfl, rfl, rfl, fun h => by cases h⟩
  | k + 1, hk, l, hl, c, hc => by
    obtain ⟨y, hy⟩ : ∃ y, ly[k]? = some y := ⟨ly[k], List.getElem?_eq_getElem (by omega)⟩
    have hll : l.length = ly.length + 1 := by rw [hl]; unfold s0; simp
    have hx : l[k + 1]? = some (lyY y) := by rw [hl, ys_get, hy]; rfl
    obtain ⟨h1, h2, h3, h4⟩ := cf_k ib ly k (by omega) l hl _ rfl
    have htk : ly.take (k + 1) = ly.take k ++ [y] := by rw [List.take_add_one, hy]; rfl
    have hcc : c = cfAdd (cfOf ((ly.take k).map kindO)) (kindO y) := by
      rw [hc, htk, List.map_append, cfOf, List.foldl_append]
      rfl
    generalize hG : cfOf ((ly.take k).map kindO) = G at h1 h2 h3 h4 hcc
    obtain ⟨has, ro, T, u⟩ := G
    dsimp only at h1 h2 h3 h4
    have hle := topG_le l k
    have hmo := oSum_mono l hle
    subst hcc
    by_cases hin : y.1 = sInner
    · obtain ⟨e1, e2⟩ := lyY_in hin
      have ht1 : topG l (k + 1) = topG l k := by rw [topG_step hx, e1]; rfl
      rw [ht1, os_s hx, e1, e2]
      dsimp only
      by_cases h0 : topG l k = 0
      · rw [h0] at h1 h2 h3
        rw [if_pos rfl] at h2 h3
        subst h1 h2 h3
        rw [h0]
        exact ⟨rfl, rfl, rfl, fun h => by cases h⟩
      · rw [if_neg h0] at h2 h3
        rw [if_neg h0, if_neg h0]
        rw [decide_eq_true (by omega : 0 < topG l k)] at h1
        subst h1
        refine ⟨(decide_eq_true (by omega)).symm, h2, ?_, h4⟩
        show u + y.2.toNat = _
        omega
    · obtain ⟨e1, e2⟩ := lyY_ro hin
      have ht1 : topG l (k + 1) = k + 1 := by rw [topG_step hx, e1]; rfl
      rw [ht1, e2, Nat.add_sub_cancel, Nat.sub_self, if_neg (by omega), if_neg (by omega), decide_eq_true (by omega : 0 < k + 1)]
      have hben : benF l (k + 1) = decide (0 < topG l k) := by
        unfold benF
        exact benG_top k (by omega)
      rw [hben, ← h1]
      by_cases h0 : topG l k = 0
      · rw [h0] at h1 h2 h3
        rw [if_pos rfl] at h2 h3
        subst h1 h2 h3
        exact ⟨rfl, rfl, rfl, fun _ => rfl⟩
      · rw [if_neg h0] at h2 h3
        rw [decide_eq_true (by omega : 0 < topG l k)] at h1
        subst h1
        refine ⟨rfl, ?_, rfl, fun _ => rfl⟩
        show T + u = _
        obtain ⟨x2, hx2⟩ := get_ex (l := l) (k := topG l k) (by omega)
        have hkr := topG_isR k (by omega) x2 hx2
        have hx3 := hx2
        rw [show topG l k = (topG l k - 1) + 1 from by omega, hl, ys_get] at hx3
        obtain ⟨y2, hy2, rfl⟩ := Option.map_eq_some_iff.1 hx3
        have hoff : (lyY y2).off = 0 := by
          by_cases hin2 : y2.1 = sInner
          · rw [(lyY_in hin2).1] at hkr
            cases hkr
          · rw [(lyY_ro hin2).1]
        have hos := os_s (l := l) (k := topG l k - 1) (x := lyY y2) (by rw [show topG l k - 1 + 1 = topG l k from by omega]; exact hx2)
        rw [hoff, show topG l k - 1 + 1 = topG l k from by omega] at hos
        omega
theorem shp0 (ib : List UInt8) (ly : List (ByteArray × Int)) : Shp (cfOf (ly.map kindO)) (s0 ib ly).ys := by
  have hll : (s0 ib ly).ys.length = ly.length + 1 := by unfold s0; simp
  obtain ⟨h1, h2, h3, h4⟩ := cf_k ib ly ly.length (Nat.le_refl _) _ rfl _ rfl
  rw [List.take_of_length_le (Nat.le_refl _)] at h1 h2 h3 h4
  have ht : topG (s0 ib ly).ys ly.length = topF (s0 ib ly).ys := by
    unfold topF
    rw [hll, Nat.add_sub_cancel]
  rw [ht] at h1 h2 h3 h4
  refine ⟨by omega, fun k y hy => ?_, fun k y hy hr => ?_, h1, ?_, ?_, h4⟩
  · rw [ys_get] at hy
    obtain ⟨z, _, rfl⟩ := Option.map_eq_some_iff.1 hy
    by_cases hin : z.1 = sInner
    · rw [(lyY_in hin).1]; exact KD.noConfusion
    · rw [(lyY_ro hin).1]; exact KD.noConfusion
  · cases k with
    | zero =>
      unfold s0 at hy
      obtain rfl := Option.some.inj hy
      rfl
    | succ k =>
      rw [ys_get] at hy
      obtain ⟨z, _, rfl⟩ := Option.map_eq_some_iff.1 hy
      by_cases hin : z.1 = sInner
      · rw [(lyY_in hin).1] at hr; cases hr
      · rw [(lyY_ro hin).1]
  · rw [hll, Nat.add_sub_cancel]; exact h2
  · rw [hll, Nat.add_sub_cancel]; exact h3
/-- at the beginning -/
theorem sim0 (ib : List UInt8) (ly : List (ByteArray × Int)) : Sim (cfOf (ly.map kindO)) (s0 ib ly) ⟨ov (fun _ => 0) 0 ib, ib.length, [], .idle⟩ := by
  have hlv : ∀ (j : Nat) (x : Ly), (s0 ib ly).ys[j]? = some x → x.levels = [] := fun j x hx => by
    cases j with
    | zero =>
      unfold s0 at hx
      obtain rfl := Option.some.inj hx
      rfl
    | succ j =>
      rw [ys_get] at hx
      obtain ⟨z, _, rfl⟩ := Option.map_eq_some_iff.1 hx
      by_cases hin : z.1 = sInner
      · rw [(lyY_in hin).1]
      · rw [(lyY_ro hin).1]
  have hs := shp0 ib ly
  refine ⟨hs, fun j x _ hx _ => hlv j x hx, rfl, fun _ => rfl, ?_, fun h0 => ?_, fun hh => by cases hh⟩
  · show PBk (kn ib) (ov (fun _ => 0) 0 ib) ib.length
    refine ⟨kn_length ib, fun i v hv h0 => ?_, fun i hi => ?_⟩
    · rw [kn_get] at hv
      obtain ⟨b, hb, rfl⟩ := Option.map_eq_some_iff.1 hv
      have hl : i < ib.length := (List.getElem?_eq_some_iff.1 hb).1
      refine ⟨b, rfl, ?_⟩
      show ov (fun _ => 0) 0 ib i = b
      unfold ov
      rw [if_pos (by omega), Nat.sub_zero, List.getD_eq_getElem?_getD, hb]
      rfl
    · unfold ov
      rw [if_neg (by omega)]
  · obtain ⟨x, hx⟩ := get_ex (topF_lt hs.n0)
    exact ⟨x, hx, hlv _ x hx⟩
section
variable {g : Cf} {s : SS} {σ0 σ : MS} {l steps : List Stp} {tl TT : List Tld}
/-- a run of the machine, for the reference -/
theorem fit_run (h0 : Sim g s σ0) (hr : Run g σ0 l tl σ) (hf : ∀ x ∈ l, x.few) : ∀ post T', fitR s (l ++ post) (tl ++ T') = .inl true ∨ ∃ s', Sim g s' σ ∧ fitR s (l ++ post) (tl ++ T') = fitR s' post T' := by
  induction hr with
  | nil => exact fun post T' => .inr ⟨s, h0, rfl⟩
  | snoc h h2 ih =>
    rename_i σ1 σ2 l1 tl1 st td
    intro post T'
    rw [List.append_assoc, List.append_assoc, List.singleton_append, List.singleton_append]
    rcases ih (fun x hx => hf x (List.mem_append_left _ hx)) (st :: post) (td :: T') with e | ⟨s1, hs1, e⟩
    · exact .inl e
    rw [e, fitR_cons]
    rcases sim_step hs1 st (hf st (by simp)) h2 with ⟨q1, q2⟩ | ⟨q1, q2⟩
    · left
      rw [if_pos ⟨q1, q2⟩]
    · right
      refine ⟨_, q2, ?_⟩
      have q3 := q2.ls
      rw [if_neg (by rintro ⟨h3, _⟩; rw [q3] at h3; cases h3)]
      dsimp only
      rw [if_neg (by rintro ⟨h3, h4⟩; rw [q1 h3] at h4; cases h4), if_neg (by rw [q3]; decide)]
theorem Sim.base (h : Sim g s σ) : fitsF (baseB s) (rng σ.c 0 σ.s) = true := by
  have hb : baseB s = viewF s.ys 0 := by
    unfold baseB viewF
    cases s.ys[0]? <;> rfl
  rw [hb]
  refine fits_of (by rw [rng_length]; exact h.b.len) (h.b.k.mono fun i b hi hF => ?_)
  have := h.b.len
  rw [rng_get _ _ _ _ (by omega), Nat.zero_add, hF]
theorem fit_ok (h0 : Sim g s σ0) (hF : FRes g σ0 steps TT σ) (hf : ∀ x ∈ steps, x.few) : fitV (fitR s steps TT) TT.length steps.length (rng σ.c 0 σ.s) σ.l = true := by
  rcases hF with hr | ⟨pre, x, post, tl, rfl, hr, hb, rfl⟩
  · have hl := hr.len
    rcases fit_run h0 hr hf [] [] with e | ⟨s', hs, e⟩
    · rw [List.append_nil, List.append_nil] at e
      rw [e]
      rfl
    · rw [List.append_nil, List.append_nil, fitR_nil] at e
      rw [e]
      show fitE s' _ _ _ _ = true
      unfold fitE
      rw [if_neg (by rw [hs.base, hl]; simp)]
      split
      · rfl
      · rename_i hv
        exact decide_eq_true (hs.pt (by cases h : s'.vg with | false => rfl | true => exact absurd h hv))
  · rcases fit_run h0 hr (fun x hx => hf x (List.mem_append_left _ hx)) (x :: post) [⟨7, 0, []⟩] with e | ⟨s', hs, _⟩
    · rw [e]
      rfl
    · exact absurd hb hs.nb
theorem saidR_append : ∀ (l1 l2 : List Stp) (s : SS), saidR s (l1 ++ l2) = if (saidR s l1).2 = true then saidR (saidR s l1).1 l2 else saidR s l1
  | [], l2, s => by rw [saidR_nil]; rfl
  | st :: l1, l2, s => by
    rw [List.cons_append, saidR_cons, saidR_cons]
    split
    · exact saidR_append l1 l2 _
    · rfl
/-- a run of which all is said -/
theorem said_run (h0 : Sim g s σ0) (hr : Run g σ0 l tl σ) (hf : ∀ x ∈ l, x.few) : (saidR s l).2 = true → Sim g (saidR s l).1 σ := by
  induction hr with
  | nil => exact fun _ => by rw [saidR_nil]; exact h0
  | snoc h h2 ih =>
    rename_i σ1 σ2 l1 tl1 st td
    have ih := ih (fun x hx => hf x (List.mem_append_left _ hx))
    rw [saidR_append]
    split
    · rename_i h1
      have hs := ih h1
      rw [saidR_cons]
      intro hh
      split at hh
      · rename_i h3
        rw [if_pos h3, saidR_nil]
        rcases sim_step hs st (hf st (by simp)) h2 with ⟨q1, q2⟩ | ⟨q1, q2⟩
        · rw [q2] at h3; cases h3
        · exact q2
      · cases hh
    · rename_i h1
      exact fun h => absurd h h1
theorem said_fin (h0 : Sim g s σ0) (hF : FRes g σ0 steps TT σ) (hf : ∀ x ∈ steps, x.few) (hs : (saidR s steps).2 = true) : Sim g (saidR s steps).1 σ := by
  rcases hF with hr | ⟨pre, x, post, tl, rfl, hr, hb, rfl⟩
  · exact said_run h0 hr hf hs
  · rw [saidR_append] at hs
    split at hs
    · rename_i h1
      exact absurd hb (said_run h0 hr (fun x hx => hf x (List.mem_append_left _ hx)) h1).nb
    · rename_i h1
      exact absurd hs h1
end
/-- STACKS OF FILES, plainly: what the machine told is due -/
theorem files_fit {ib : List UInt8} {ly : List (ByteArray × Int)} {steps : List Stp} {TT : List Tld} {σ : MS} (hF : FRes (cfOf (ly.map kindO)) ⟨ov (fun _ => 0) 0 ib, ib.length, [], .idle⟩ steps TT σ) (hf : ∀ x ∈ steps, x.few) : fitF ib ly steps TT (rng σ.c 0 σ.s) σ.l = true := by
  unfold fitF
  split
  · rfl
  · exact fit_ok (sim0 ib ly) hF hf
end Go.Proofs.YtfebpbflpdppiaaGreatDoor
namespace Go.Proofs.YtfebpbflpdppiaaGreatDoor
open Go Go.Sl
set_option maxRecDepth 100000
def nnB (p : List Int) : Prop := ∀ v ∈ p, 0 ≤ v
def nnY (y : Ly) : Prop := nnB y.bytes ∧ ∀ e ∈ y.levels, nnB e.1
def nnL (l : List Ly) : Prop := ∀ y ∈ l, nnY y
theorem nn_get {p : List Int} (h : ∀ (i : Nat) (v : Int), p[i]? = some v → 0 ≤ v) : nnB p := fun v hv => by
  obtain ⟨i, hi⟩ := List.mem_iff_getElem?.1 hv
  exact h i v hi
theorem nn_at {p : List Int} (h : nnB p) {i : Nat} {v : Int} (hi : p[i]? = some v) : 0 ≤ v := h v (List.mem_of_getElem? hi)
theorem nn_gr {p : List Int} {sh n : Nat} (h : nnB p) (hm : grM p sh n = false) : nnB (grF p sh n) := nn_get fun i v hv => by
  rw [grF_get] at hv
  split at hv
  · exact nn_at h hv
  · split at hv
    · obtain rfl := Option.some.inj hv
      unfold grM at hm
      rw [Bool.and_eq_false_iff, decide_eq_false_iff_not, decide_eq_false_iff_not] at hm
      rw [if_neg (by omega)]
      exact Int.le_refl _
    · cases hv
theorem nn_wr {p b : List Int} {o : Nat} (h : nnB p) (hb : nnB b) : nnB (wrF p o b) := nn_get fun i v hv => by
  rw [wrF_get] at hv
  split at hv
  · exact nn_at hb hv
  · split at hv
    · exact nn_at h hv
    · split at hv
      · obtain rfl := Option.some.inj hv
        exact Int.le_refl _
      · cases hv
theorem nn_cut {p : List Int} {n : Nat} (h : nnB p) : nnB (cutF p n) := nn_get fun i v hv => by
  rw [cutF_get] at hv
  split at hv
  · split at hv
    · exact nn_at h hv
    · obtain rfl := Option.some.inj hv
      exact Int.le_refl _
  · cases hv
theorem nn_kn (bs : List UInt8) : nnB (kn bs) := fun v hv => by
  obtain ⟨b, _, rfl⟩ := List.mem_map.1 hv
  omega
theorem nn_set {l : List Ly} {j : Nat} {y : Ly} (h : nnL l) (hy : nnY y) : nnL (l.set j y) := fun z hz => by
  rcases List.mem_or_eq_of_mem_set hz with hz | rfl
  · exact h z hz
  · exact hy
theorem nn_view {l : List Ly} (h : nnL l) : ∀ k, nnB (viewF l k)
  | 0 => by
    unfold viewF
    cases hx : l[0]? with
    | none => exact fun v hv => by cases hv
    | some x => exact (h x (List.mem_of_getElem? hx)).1
  | k + 1 => by
    have ih := nn_view h k
    unfold viewF
    cases hx : l[k + 1]? with
    | none => exact fun v hv => by cases hv
    | some x =>
      dsimp only
      have hd : nnB ((viewF l k).drop x.off) := fun v hv => ih v (List.mem_of_mem_drop hv)
      unfold vwAt
      cases hk : x.kd with
      | base => exact hd
      | inner => exact hd
      | roll =>
        dsimp only
        cases x.levels with
        | nil => exact ih
        | cons e es => exact (h x (List.mem_of_getElem? hx)).1
theorem nn_ch {l : List Ly} (h : nnL l) (wr : Bool) {b : List Int} (hb : nnB b) : ∀ k o, (chF l k wr o b).2.1 = false → nnL (chF l k wr o b).1
  | 0, o, hm => by
    unfold chF at hm ⊢
    cases hx : l[0]? with
    | none => exact h
    | some x =>
      have hy := h x (List.mem_of_getElem? hx)
      refine nn_set h ⟨?_, hy.2⟩
      unfold chB0
      cases wr with
      | true => exact nn_wr hy.1 hb
      | false => exact nn_cut hy.1
  | k + 1, o, hm => by
    unfold chF at hm ⊢
    cases hx : l[k + 1]? with
    | none => exact h
    | some x =>
      have hy := h x (List.mem_of_getElem? hx)
      rw [hx] at hm
      dsimp only at hm ⊢
      cases hk : x.kd with
      | base =>
        rw [hk] at hm
        exact nn_ch h wr hb k _ hm
      | inner =>
        rw [hk] at hm
        exact nn_ch h wr hb k _ hm
      | roll =>
        rw [hk] at hm
        dsimp only at hm ⊢
        cases hl : x.levels with
        | nil => exact h
        | cons e es =>
          rw [hl] at hm
          dsimp only at hm ⊢
          refine nn_set h ⟨?_, hy.2⟩
          unfold chM at hm
          unfold chL
          cases wr with
          | true => exact nn_wr (nn_gr hy.1 hm) hb
          | false => exact nn_cut (nn_gr hy.1 hm)
theorem nn_bec {l : List Ly} (h : nnL l) (k : Nat) {p : List Int} (hp : nnB p) : nnL (becF l k p) := by
  unfold becF
  cases hx : l[0]? with
  | none => exact h
  | some x =>
    have hy := h x (List.mem_of_getElem? hx)
    refine nn_set h ⟨fun v hv => ?_, hy.2⟩
    rcases List.mem_append.1 hv with hv | hv
    · exact nn_cut hy.1 v hv
    · exact hp v hv
theorem nn_deed {s : SS} (h : nnL s.ys) (d : DK) : nnL (deedT s d).1.ys := by
  unfold deedT
  cases hx : s.ys[topF s.ys]? with
  | none => exact h
  | some x =>
    have hy := h x (List.mem_of_getElem? hx)
    have hdl : ∀ e ∈ x.levels.dropLast, nnB e.1 := fun e he => hy.2 e (List.dropLast_subset _ he)
    generalize topF s.ys - 1 = j
    dsimp only
    cases d with
    | begin =>
      have hb : nnB (begY s j x).bytes := by
        unfold begY
        split
        · exact nn_view h j
        · exact hy.1
      have hlv : (begY s j x).levels = x.levels := by unfold begY; split <;> rfl
      refine nn_set h ⟨hb, fun e he => ?_⟩
      rcases List.mem_append.1 he with he | he
      · exact hy.2 e he
      · rw [List.mem_singleton.1 he]
        exact hb
    | roll =>
      rw [deedAt_roll]
      split
      · exact h
      · rename_i hne
        have hlm : lastL x ∈ x.levels := by
          unfold lastL
          rw [List.getLast?_eq_some_getLast hne]
          exact List.getLast_mem hne
        exact nn_set h ⟨hy.2 _ hlm, hdl⟩
    | fin =>
      rw [deedAt_fin]
      have hE : nnL (endY s j x) := nn_set h ⟨hy.1, hdl⟩
      split
      · exact h
      · dsimp only
        unfold endF
        split
        · exact hE
        · split
          · exact hE
          · split
            · exact nn_bec hE j hy.1
            · exact nn_bec hE j hy.1
theorem ms_deed (s : SS) (d : DK) : (deedT s d).1.ms = s.ms := by
  unfold deedT
  cases hx : s.ys[topF s.ys]? with
  | none => rfl
  | some x =>
    dsimp only
    cases d with
    | begin => rfl
    | roll =>
      rw [deedAt_roll]
      split <;> rfl
    | fin =>
      rw [deedAt_fin]
      split
      · rfl
      · dsimp only
        unfold endF
        split
        · rfl
        · split
          · rfl
          · split <;> rfl
theorem nn_chS {s : SS} (h : s.ms = false → nnL s.ys) (wr : Bool) (o : Nat) {b : List Int} (hb : nnB b) (hm : (chS s wr o b).ms = false) : nnL (chS s wr o b).ys := by
  unfold chS at hm ⊢
  dsimp only at hm ⊢
  rw [Bool.or_eq_false_iff] at hm
  exact nn_ch (h hm.2) wr hb _ _ hm.1
theorem nn_do {s : SS} (h : s.ms = false → nnL s.ys) (st : Stp) (hm : (doF s st.d st.off st.n st.bs).1.ms = false) : nnL (doF s st.d st.off st.n st.bs).1.ys := by
  unfold doF at hm ⊢
  split
  · rename_i h1; rw [if_pos h1] at hm; exact h hm
  rename_i h1; rw [if_neg h1] at hm
  split
  · rename_i h1; rw [if_pos h1] at hm
    unfold doW at hm ⊢
    split
    · rename_i h1; rw [if_pos h1] at hm
      split
      · rename_i h1; rw [if_pos h1] at hm; exact h hm
      · rename_i h1; rw [if_neg h1] at hm; exact h hm
    · rename_i h1; rw [if_neg h1] at hm
      split
      · rename_i h1; rw [if_pos h1] at hm; exact h hm
      · rename_i h1; rw [if_neg h1] at hm; exact nn_chS h true _ (nn_kn _) hm
  rename_i h1; rw [if_neg h1] at hm
  split
  · rename_i h1; rw [if_pos h1] at hm
    unfold doRd at hm ⊢
    split
    · rename_i h1; rw [if_pos h1] at hm; exact h hm
    · rename_i h1; rw [if_neg h1] at hm
      split
      · rename_i h1; rw [if_pos h1] at hm; exact h hm
      · rename_i h1; rw [if_neg h1] at hm; exact h hm
  rename_i h1; rw [if_neg h1] at hm
  split
  · rename_i h1; rw [if_pos h1] at hm; exact h hm
  rename_i h1; rw [if_neg h1] at hm
  split
  · rename_i h1; rw [if_pos h1] at hm
    unfold doTr at hm ⊢
    split
    · rename_i h1; rw [if_pos h1] at hm
      split
      · rename_i h1; rw [if_pos h1] at hm; exact h hm
      · rename_i h1; rw [if_neg h1] at hm; exact h hm
    · rename_i h1; rw [if_neg h1] at hm; exact nn_chS h false _ (fun v hv => by cases hv) hm
  rename_i h1; rw [if_neg h1] at hm
  split
  · rename_i h1; rw [if_pos h1] at hm
    unfold doPu at hm ⊢
    split
    · rename_i h1; rw [if_pos h1] at hm; exact h hm
    · rename_i h1; rw [if_neg h1] at hm
      split
      · rename_i h1; rw [if_pos h1] at hm; exact h hm
      · rename_i h1; rw [if_neg h1] at hm
        split
        · rename_i h1; rw [if_pos h1] at hm; exact h hm
        · rename_i h1; rw [if_neg h1] at hm; exact h hm
  rename_i h1; rw [if_neg h1] at hm
  have hde : ∀ d, (doDe s d).1.ms = false → nnL (doDe s d).1.ys := fun d hm => by
    unfold doDe at hm ⊢
    split
    · rename_i h1; rw [if_pos h1] at hm; exact h hm
    · rename_i h1; rw [if_neg h1] at hm
      exact nn_deed (h ((ms_deed s d).symm.trans hm)) d
  split
  · rename_i h1; rw [if_pos h1] at hm; exact hde _ hm
  rename_i h1; rw [if_neg h1] at hm
  split
  · rename_i h1; rw [if_pos h1] at hm; exact hde _ hm
  rename_i h1; rw [if_neg h1] at hm
  split
  · rename_i h1; rw [if_pos h1] at hm; exact hde _ hm
  rename_i h1; rw [if_neg h1] at hm
  split
  · rename_i h1; rw [if_pos h1] at hm; exact h hm
  · rename_i h1; rw [if_neg h1] at hm; exact h hm
theorem nn_said : ∀ (l : List Stp) (s : SS), (s.ms = false → nnL s.ys) → (saidR s l).1.ms = false → nnL (saidR s l).1.ys
  | [], s, h, hm => by rw [saidR_nil] at hm ⊢; exact h hm
  | st :: l, s, h, hm => by
    have hstep : (doF s st.d st.off st.n st.bs).1.ms = false → nnL (doF s st.d st.off st.n st.bs).1.ys := nn_do h st
    rw [saidR_cons] at hm ⊢
    split
    · rename_i h1
      rw [if_pos h1] at hm
      exact nn_said l _ hstep hm
    · rename_i h1
      rw [if_neg h1] at hm
      exact hstep hm
end Go.Proofs.YtfebpbflpdppiaaGreatDoor
