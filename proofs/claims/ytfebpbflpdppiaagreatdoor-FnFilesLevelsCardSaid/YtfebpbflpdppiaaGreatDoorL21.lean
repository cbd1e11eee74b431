/- The plain law: lists, byte by byte; levels of a transaction against what the reference holds. No program · The plain law: stacks, what is seen through their layers. No program · The plain law: where machine and reference stand; each call keeps it. No program. -/
import Derived.Test.YtfebpbflpdppiaaGreatDoorL20
namespace Go.Proofs.YtfebpbflpdppiaaGreatDoor
open Go Go.Sl
set_option maxRecDepth 100000
theorem wrF_get (p : List Int) (o : Nat) (b : List Int) (i : Nat) : (wrF p o b)[i]? = if o ≤ i ∧ i < o + b.length then b[i - o]? else if i < p.length then p[i]? else if i < o + b.length then some 0 else none := by
  have hl : (p ++ List.replicate (o + b.length - p.length) 0).length = max p.length (o + b.length) := by simp; omega
  have h1 : ((p ++ List.replicate (o + b.length - p.length) 0).take o).length = o := by rw [List.length_take, hl]; omega
  have hq : ∀ j, (p ++ List.replicate (o + b.length - p.length) 0)[j]? = if j < p.length then p[j]? else if j < o + b.length then some 0 else none := fun j => by
    rw [List.getElem?_append, List.getElem?_replicate]
    split
    · rfl
    · split <;> split <;> first | rfl | omega
  unfold wrF
  by_cases h : o ≤ i ∧ i < o + b.length
  · rw [if_pos h, List.getElem?_append_left (by rw [List.length_append, h1]; omega), List.getElem?_append_right (by omega), h1]
  · rw [if_neg h, ← hq i]
    by_cases h2 : i < o
    · rw [List.getElem?_append_left (by rw [List.length_append, h1]; omega), List.getElem?_append_left (by omega), List.getElem?_take, if_pos h2]
    · rw [List.getElem?_append_right (by rw [List.length_append, h1]; omega), List.getElem?_drop, List.length_append, h1, show o + b.length + (i - (o + b.length)) = i from by omega]
theorem cutF_get (p : List Int) (n i : Nat) : (cutF p n)[i]? = if i < n then (if i < p.length then p[i]? else some 0) else none := by
  unfold cutF
  rw [List.getElem?_append, List.getElem?_replicate, List.getElem?_take, List.length_take]
  by_cases h : i < n <;> by_cases h2 : i < p.length
  · rw [if_pos (by omega), if_pos h, if_pos h, if_pos h2]
  · rw [if_neg (by omega), if_pos (by omega), if_pos h, if_neg h2]
  · rw [if_neg (by omega), if_neg (by omega), if_neg h]
  · rw [if_neg (by omega), if_neg (by omega), if_neg h]
theorem grF_get (p : List Int) (sh n i : Nat) : (grF p sh n)[i]? = if i < p.length then p[i]? else if i < n then some (if i < sh then -1 else 0) else none := by
  unfold grF
  rw [List.getElem?_append, List.getElem?_map]
  by_cases h2 : i < p.length
  · rw [if_pos h2, if_pos h2]
  · rw [if_neg h2, if_neg h2]
    by_cases h : i < n
    · rw [List.getElem?_range (by omega), if_pos h]
      simp only [Option.map_some, Option.some.injEq]
      rw [show p.length + (i - p.length) = i from by omega]
    · rw [List.getElem?_eq_none (by rw [List.length_range]; omega), if_neg h]
      rfl
theorem mkF_get {l : List Bool} {o n i : Nat} (h : (mkF l o n)[i]? = some true) : (o ≤ i ∧ i < o + n) ∨ l[i]? = some true := by
  have hl : (l ++ List.replicate (o + n - l.length) false).length = max l.length (o + n) := by simp; omega
  have h1 : ((l ++ List.replicate (o + n - l.length) false).take o).length = o := by rw [List.length_take, hl]; omega
  have hq : ∀ j, (l ++ List.replicate (o + n - l.length) false)[j]? = some true → l[j]? = some true := fun j hj => by
    rw [List.getElem?_append, List.getElem?_replicate] at hj
    split at hj
    · exact hj
    · split at hj <;> simp at hj
  by_cases h2 : o ≤ i ∧ i < o + n
  · exact .inl h2
  · right
    refine hq i ?_
    unfold mkF at h
    by_cases h3 : i < o
    · rw [List.getElem?_append_left (by rw [List.length_append, h1]; omega), List.getElem?_append_left (by omega), List.getElem?_take, if_pos h3] at h
      exact h
    · rw [List.getElem?_append_right (by rw [List.length_append, h1, List.length_replicate]; omega), List.getElem?_drop, List.length_append, h1, List.length_replicate, show o + n + (i - (o + n)) = i from by omega] at h
      exact h
/-- a file of an open transaction, written -/
theorem wg_get (p : List Int) (sh o : Nat) (b : List Int) (i : Nat) : (wrF (grF p sh (o + b.length)) o b)[i]? = if o ≤ i ∧ i < o + b.length then b[i - o]? else if i < p.length then p[i]? else if i < o + b.length then some (if i < sh then -1 else 0) else none := by
  rw [wrF_get, grF_length, grF_get]
  by_cases h : o ≤ i ∧ i < o + b.length
  · rw [if_pos h, if_pos h]
  · rw [if_neg h, if_neg h]
    by_cases h2 : i < p.length
    · rw [if_pos (by omega), if_pos h2]
    · rw [if_neg h2]
      by_cases h3 : i < o + b.length
      · rw [if_pos (by omega), if_pos h3]
      · rw [if_neg (by omega), if_neg h3, if_neg h3]
/-- a file of an open transaction, cut -/
theorem cg_get (p : List Int) (sh n i : Nat) : (cutF (grF p sh n) n)[i]? = if i < n then (if i < p.length then p[i]? else some (if i < sh then -1 else 0)) else none := by
  rw [cutF_get, grF_length, grF_get]
  by_cases h : i < n
  · rw [if_pos h, if_pos h, if_pos (by omega), if_pos h]
  · rw [if_neg h, if_neg h]
theorem kn_get (bs : List UInt8) (i : Nat) : (kn bs)[i]? = (bs[i]?).map fun b => (b.toNat : Int) := by simp [kn]
/-- bytes that are known, and what holds of each -/
def Kn (p : List Int) (F : Nat → UInt8 → Prop) : Prop := ∀ i v, p[i]? = some v → 0 ≤ v → ∃ b : UInt8, v = (b.toNat : Int) ∧ F i b
theorem Kn.mono {p : List Int} {F G : Nat → UInt8 → Prop} (h : Kn p F) (g : ∀ i b, i < p.length → F i b → G i b) : Kn p G := fun i v hv h0 => by
  obtain ⟨b, h1, h2⟩ := h i v hv h0
  exact ⟨b, h1, g i b (List.getElem?_eq_some_iff.1 hv).1 h2⟩
theorem Kn.drop {p : List Int} {F : Nat → UInt8 → Prop} (h : Kn p F) (u : Nat) : Kn (p.drop u) fun i b => F (u + i) b := fun i v hv h0 => by
  rw [List.getElem?_drop] at hv
  exact h _ v hv h0
/-- a write, of a file of an open transaction -/
theorem Kn.write {p : List Int} {F G : Nat → UInt8 → Prop} (h : Kn p F) (sh o : Nat) (bs : List UInt8) (h1 : ∀ i b, i < p.length → ¬(o ≤ i ∧ i < o + bs.length) → F i b → G i b) (h2 : ∀ i, p.length ≤ i → sh ≤ i → i < o → G i 0) (h3 : ∀ i b, bs[i]? = some b → G (o + i) b) :
    Kn (wrF (grF p sh (o + (kn bs).length)) o (kn bs)) G := fun i v hv h0 => by
  rw [wg_get, kn_length] at hv
  split at hv
  · rename_i hh
    rw [kn_get] at hv
    obtain ⟨b, hb, rfl⟩ := Option.map_eq_some_iff.1 hv
    refine ⟨b, rfl, ?_⟩
    have := h3 _ b hb
    rwa [show o + (i - o) = i from by omega] at this
  · rename_i hh
    split at hv
    · rename_i hl
      obtain ⟨b, e, hF⟩ := h i v hv h0
      exact ⟨b, e, h1 i b hl hh hF⟩
    · rename_i hl
      split at hv
      · rename_i hb
        obtain rfl := Option.some.inj hv
        by_cases hs : i < sh
        · rw [if_pos hs] at h0
          omega
        · rw [if_neg hs]
          exact ⟨0, rfl, h2 i (by omega) (by omega) (by omega)⟩
      · cases hv
theorem Kn.cut {p : List Int} {F G : Nat → UInt8 → Prop} (h : Kn p F) (sh n : Nat) (h1 : ∀ i b, i < n → i < p.length → F i b → G i b) (h2 : ∀ i, p.length ≤ i → sh ≤ i → i < n → G i 0) : Kn (cutF (grF p sh n) n) G := fun i v hv h0 => by
  rw [cg_get] at hv
  split at hv
  · rename_i hn
    split at hv
    · rename_i hl
      obtain ⟨b, e, hF⟩ := h i v hv h0
      exact ⟨b, e, h1 i b hn hl hF⟩
    · obtain rfl := Option.some.inj hv
      by_cases hs : i < sh
      · rw [if_pos hs] at h0
        omega
      · rw [if_neg hs]
        exact ⟨0, rfl, h2 i (by omega) (by omega) hn⟩
  · cases hv
/-- a plain file, written or cut -/
theorem Kn.writeB {p : List Int} {F G : Nat → UInt8 → Prop} (h : Kn p F) (o : Nat) (bs : List UInt8) (h1 : ∀ i b, i < p.length → ¬(o ≤ i ∧ i < o + bs.length) → F i b → G i b) (h2 : ∀ i, p.length ≤ i → i < o → G i 0) (h3 : ∀ i b, bs[i]? = some b → G (o + i) b) :
    Kn (wrF p o (kn bs)) G := fun i v hv h0 => by
  rw [wrF_get, kn_length] at hv
  split at hv
  · rename_i hh
    rw [kn_get] at hv
    obtain ⟨b, hb, rfl⟩ := Option.map_eq_some_iff.1 hv
    refine ⟨b, rfl, ?_⟩
    have := h3 _ b hb
    rwa [show o + (i - o) = i from by omega] at this
  · rename_i hh
    split at hv
    · rename_i hl
      obtain ⟨b, e, hF⟩ := h i v hv h0
      exact ⟨b, e, h1 i b hl hh hF⟩
    · split at hv
      · obtain rfl := Option.some.inj hv
        exact ⟨0, rfl, h2 i (by omega) (by omega)⟩
      · cases hv
theorem Kn.cutB {p : List Int} {F G : Nat → UInt8 → Prop} (h : Kn p F) (n : Nat) (h1 : ∀ i b, i < n → i < p.length → F i b → G i b) (h2 : ∀ i, p.length ≤ i → i < n → G i 0) : Kn (cutF p n) G := fun i v hv h0 => by
  rw [cutF_get] at hv
  split at hv
  · rename_i hn
    split at hv
    · rename_i hl
      obtain ⟨b, e, hF⟩ := h i v hv h0
      exact ⟨b, e, h1 i b hn hl hF⟩
    · obtain rfl := Option.some.inj hv
      exact ⟨0, rfl, h2 i (by omega) hn⟩
  · cases hv
theorem fits_of {p : List Int} {bs : List UInt8} (hl : p.length = bs.length) (h : Kn p fun i b => bs[i]? = some b) : fitsF p bs = true := by
  unfold fitsF
  rw [hl, beq_self_eq_true, Bool.true_and, List.all_eq_true]
  intro x hx
  obtain ⟨i, hi⟩ := List.mem_iff_getElem?.1 hx
  rw [List.getElem?_zip_eq_some] at hi
  obtain ⟨h1, h2⟩ := hi
  rw [Bool.or_eq_true, decide_eq_true_eq, decide_eq_true_eq]
  by_cases h0 : x.1 < 0
  · exact .inl h0
  · right
    obtain ⟨b, e, hb⟩ := h i _ h1 (by omega)
    rw [kn_get, hb] at h2
    rw [e]
    exact Option.some.inj h2
/-- where all bytes are known, what fits is told -/
theorem fits_to {p : List Int} {bs : List UInt8} (h : fitsF p bs = true) (hk : ∀ v ∈ p, 0 ≤ v) : kn bs = p := by
  unfold fitsF at h
  rw [Bool.and_eq_true, List.all_eq_true, beq_iff_eq] at h
  obtain ⟨hl, h⟩ := h
  apply List.ext_getElem?
  intro i
  by_cases hi : i < p.length
  · have h1 : p[i]? = some p[i] := List.getElem?_eq_getElem hi
    have h2 : (kn bs)[i]? = some ((kn bs)[i]'(by rw [kn_length]; omega)) := List.getElem?_eq_getElem _
    have := h (p[i], (kn bs)[i]'(by rw [kn_length]; omega)) (List.mem_iff_getElem?.2 ⟨i, List.getElem?_zip_eq_some.2 ⟨h1, h2⟩⟩)
    rw [Bool.or_eq_true, decide_eq_true_eq, decide_eq_true_eq] at this
    have h0 := hk _ (List.getElem_mem hi)
    rw [h1, h2]
    rcases this with h3 | h3
    · dsimp only at h3; omega
    · exact congrArg some h3.symm
  · rw [List.getElem?_eq_none (by rw [kn_length]; omega), List.getElem?_eq_none (by omega)]
theorem kn_inj {a b : List UInt8} (h : kn a = kn b) : a = b := by
  unfold kn at h
  exact (List.map_inj_right fun x y e => by
    have : x.toNat = y.toNat := by omega
    exact UInt8.toNat_inj.1 this).1 h
/-- a byte of a level, and of those beneath as far as they may be told -/
def Fact (c0 : Cn) (i : Nat) (b : UInt8) : List Lev → Prop
  | [] => c0 i = b
  | L :: r => L.c i = b ∧ (L.d (i / 4096) = false → Fact c0 i b r)
def anyD (p : Nat) : List Lev → Bool
  | [] => false
  | L :: r => L.d p || anyD p r
/-- a level, against what the reference has of it -/
structure Fr1 (c0 : Cn) (s0 sh : Nat) (f : List Int × List Bool) (L : Lev) (r : List Lev) : Prop where
  len : f.1.length = L.s
  k : Kn f.1 fun i b => Fact c0 i b (L :: r)
  z : ∀ i, L.s ≤ i → sh ≤ i → L.c i = 0
  sl : lvs s0 r ≤ max L.s sh
  wl : f.2.length ≤ L.s
  wr : ∀ i, f.2[i]? = some true → anyD (i / 4096) (L :: r) = true
def FrOk (c0 : Cn) (s0 sh : Nat) : List (List Int × List Bool) → List Lev → Prop
  | [], [] => True
  | f :: fs, L :: r => Fr1 c0 s0 sh f L r ∧ FrOk c0 s0 sh fs r
  | _, _ => False
theorem Fr1.up {c0 : Cn} {s0 sh sh' : Nat} {f : List Int × List Bool} {L : Lev} {r : List Lev} (h : Fr1 c0 s0 sh f L r) (hs : sh ≤ sh') : Fr1 c0 s0 sh' f L r := ⟨h.len, h.k, fun i h1 h2 => h.z i h1 (by omega), by have := h.sl; omega, h.wl, h.wr⟩
theorem FrOk.up {c0 : Cn} {s0 sh sh' : Nat} (hs : sh ≤ sh') : ∀ {fs : List (List Int × List Bool)} {r : List Lev}, FrOk c0 s0 sh fs r → FrOk c0 s0 sh' fs r
  | [], [], _ => trivial
  | _ :: _, _ :: _, h => ⟨h.1.up hs, FrOk.up hs h.2⟩
  | [], _ :: _, h => h.elim
  | _ :: _, [], h => h.elim
theorem fact_zero {c0 : Cn} {s0 sh : Nat} (hz : ∀ i, s0 ≤ i → c0 i = 0) : ∀ {fs : List (List Int × List Bool)} {r : List Lev}, FrOk c0 s0 sh fs r → ∀ i, lvs s0 r ≤ i → sh ≤ i → Fact c0 i 0 r
  | [], [], _, i, h1, _ => hz i h1
  | _ :: _, L :: r, h, i, h1, h2 => ⟨h.1.z i h1 h2, fun _ => fact_zero hz h.2 i (by have := h.1.sl; have h1 : L.s ≤ i := h1; omega) h2⟩
  | [], _ :: _, h, _, _, _ => h.elim
  | _ :: _, [], h, _, _, _ => h.elim
section
variable {c0 : Cn} {s0 sh : Nat} {p : List Int} {w : List Bool} {L : Lev} {r : List Lev} {fs : List (List Int × List Bool)}
/-- a level is written -/
theorem Fr1.write (hz : ∀ i, s0 ≤ i → c0 i = 0) (h : Fr1 c0 s0 sh (p, w) L r) (hr : FrOk c0 s0 sh fs r) (o : Nat) (bs : List UInt8) :
    Fr1 c0 s0 sh (wrF (grF p sh (o + (kn bs).length)) o (kn bs), mkF w o (kn bs).length) ⟨L.bb, ov L.c o bs, max L.s (o + bs.length), dw L.d o bs.length⟩ r := by
  obtain ⟨h1, h2, h3, h4, h5, h6⟩ := h
  dsimp only at h1 h2 h5 h6
  have hov : ∀ i, ¬(o ≤ i ∧ i < o + bs.length) → ov L.c o bs i = L.c i := fun i hi => by unfold ov; rw [if_neg hi]
  have hdd : ∀ j, dw L.d o bs.length j = false → L.d j = false := fun j hj => by
    unfold dw at hj
    rw [Bool.or_eq_false_iff] at hj
    exact hj.1
  have hdt : ∀ i, o ≤ i → i < o + bs.length → dw L.d o bs.length (i / 4096) = true := fun i hi hj => by
    unfold dw
    rw [decide_eq_true (by omega : 0 < bs.length), decide_eq_true (by omega : o / 4096 ≤ i / 4096), decide_eq_true (by omega : i / 4096 * 4096 < o + bs.length)]
    simp
  refine ⟨?_, ?_, fun i hi hs => ?_, ?_, ?_, fun i hi => ?_⟩
  · dsimp only
    rw [wrF_length, grF_length, kn_length, h1]
    omega
  · refine h2.write sh o bs (fun i b hp hn hF => ?_) (fun i hp hs ho => ?_) (fun i b hb => ?_)
    · exact ⟨(hov i hn).trans hF.1, fun hd => hF.2 (hdd _ hd)⟩
    · exact ⟨(hov i (by omega)).trans (h3 i (by omega) hs), fun _ => fact_zero hz hr i (by omega) hs⟩
    · have hl : i < bs.length := (List.getElem?_eq_some_iff.1 hb).1
      refine ⟨?_, fun hd => ?_⟩
      · show ov L.c o bs (o + i) = b
        unfold ov
        rw [if_pos (by omega), Nat.add_sub_cancel_left, List.getD_eq_getElem?_getD, hb]
        rfl
      · exact absurd ((hdt (o + i) (by omega) (by omega)).symm.trans hd) (by decide)
  · dsimp only at hi ⊢
    rw [hov i (by omega)]
    exact h3 i (by omega) hs
  · dsimp only
    omega
  · dsimp only
    rw [mkF_length, kn_length]
    omega
  · dsimp only at hi
    rw [kn_length] at hi
    show (dw L.d o bs.length (i / 4096) || anyD (i / 4096) r) = true
    rcases mkF_get hi with hh | hh
    · rw [hdt i hh.1 hh.2]
      rfl
    · have := h6 i hh
      unfold anyD at this
      unfold dw
      rw [Bool.or_eq_true] at this
      rcases this with e | e <;> rw [e] <;> simp
/-- a level is cut -/
theorem Fr1.cut (hz : ∀ i, s0 ≤ i → c0 i = 0) (h : Fr1 c0 s0 sh (p, w) L r) (hr : FrOk c0 s0 sh fs r) (n sh' : Nat) (hsh : sh' = if n < p.length then max sh p.length else sh) :
    Fr1 c0 s0 sh' (cutF (grF p sh' n) n, w.take n) ⟨L.bb, tc (lvb c0 s0 r) L.c n, n, td L.d n⟩ r := by
  obtain ⟨h1, h2, h3, h4, h5, h6⟩ := h
  dsimp only at h1 h2 h5 h6
  have hs1 : sh ≤ sh' := by rw [hsh]; split <;> omega
  have hs2 : max L.s sh ≤ max n sh' := by rw [hsh]; split <;> omega
  have hpn : ∀ i, i < n → ¬ pgn n ≤ i / 4096 := fun i hi => by unfold pgn; omega
  have hc : ∀ i, i < n → tc (lvb c0 s0 r) L.c n i = L.c i := fun i hi => by unfold tc; rw [if_neg (hpn i hi)]
  have hd : ∀ i, i < n → td L.d n (i / 4096) = L.d (i / 4096) := fun i hi => by
    unfold td
    rw [decide_eq_true (by have := hpn i hi; omega : i / 4096 < pgn n), Bool.and_true]
  refine ⟨?_, ?_, fun i hi hs => ?_, ?_, ?_, fun i hi => ?_⟩
  · dsimp only
    rw [cutF_length]
  · refine h2.cut sh' n (fun i b hn hp hF => ?_) (fun i hp hs hn => ?_)
    · exact ⟨(hc i hn).trans hF.1, fun hdd => hF.2 ((hd i hn).symm.trans hdd)⟩
    · exact ⟨(hc i hn).trans (h3 i (by omega) (by omega)), fun _ => fact_zero hz hr i (by omega) (by omega)⟩
  · dsimp only at hi ⊢
    unfold tc
    split
    · unfold lvb cutC
      rw [if_neg (by omega)]
    · exact h3 i (by omega) (by omega)
  · dsimp only
    omega
  · dsimp only
    rw [List.length_take]
    omega
  · dsimp only at hi
    rw [List.getElem?_take] at hi
    split at hi
    · rename_i hn
      show (td L.d n (i / 4096) || anyD (i / 4096) r) = true
      rw [hd i hn]
      exact h6 i hi
    · cases hi
/-- a level is begun -/
theorem Fr1.begin (h : Fr1 c0 s0 sh (p, w) L r) (bb : Nat) : Fr1 c0 s0 sh (p, w) ⟨bb, lvb c0 s0 (L :: r), L.s, fun _ => false⟩ (L :: r) := by
  obtain ⟨h1, h2, h3, h4, h5, h6⟩ := h
  dsimp only at h1 h2 h5 h6
  refine ⟨h1, h2.mono fun i b hi hF => ⟨?_, fun _ => hF⟩, fun i hi _ => ?_, Nat.le_max_left _ _, h5, fun i hi => ?_⟩
  · show cutC L.c L.s i = b
    unfold cutC
    rw [if_pos (by omega)]
    exact hF.1
  · show cutC L.c L.s i = 0
    unfold cutC
    rw [if_neg (by dsimp only at hi; omega)]
  · show (false || anyD (i / 4096) (L :: r)) = true
    rw [Bool.false_or]
    exact h6 i hi
/-- the first level -/
theorem Fr1.first (hp : p.length = s0) (hk : Kn p fun i b => c0 i = b) (bb : Nat) : Fr1 c0 s0 0 (p, []) ⟨bb, lvb c0 s0 [], s0, fun _ => false⟩ [] := by
  refine ⟨hp, hk.mono fun i b hi hF => ⟨?_, fun _ => hF⟩, fun i hi _ => ?_, Nat.le_max_left _ _, Nat.zero_le _, fun i hi => ?_⟩
  · show cutC c0 s0 i = b
    unfold cutC
    rw [if_pos (by omega)]
    exact hF
  · show cutC c0 s0 i = 0
    unfold cutC
    rw [if_neg (by dsimp only at hi; omega)]
  · simp at hi
theorem wC_not (cc : Cn) (T : Nat) : ∀ (done : List Nat) (c : Cn) (i : Nat), (i < T ∨ (i - T) / 4096 ∉ done) → wC cc T c done i = c i
  | [], _, _, _ => rfl
  | j :: done, c, i, hi => by
    show wC cc T (ov c (T + j * 4096) (pgl cc j)) done i = c i
    rw [wC_not cc T done _ i (hi.imp id fun h hm => h (List.mem_cons_of_mem _ hm))]
    unfold ov
    rw [pgl_length, if_neg]
    rintro ⟨h1, h2⟩
    rcases hi with h | h
    · omega
    · exact h (List.mem_cons.2 (.inl (by omega)))
theorem wC_in (cc : Cn) (T : Nat) : ∀ (done : List Nat) (c : Cn) (i : Nat), i / 4096 ∈ done → wC cc T c done (T + i) = cc i
  | j :: done, c, i, hi => by
    show wC cc T (ov c (T + j * 4096) (pgl cc j)) done (T + i) = cc i
    by_cases hm : i / 4096 ∈ done
    · exact wC_in cc T done _ i hm
    · have hj : i / 4096 = j := (List.mem_cons.1 hi).resolve_right hm
      rw [wC_not cc T done _ (T + i) (.inr (by rwa [Nat.add_sub_cancel_left]))]
      unfold ov
      rw [pgl_length, if_pos (by omega), List.getD_eq_getElem?_getD]
      unfold pgl
      rw [rng_get _ _ _ _ (by omega)]
      show cc _ = cc i
      congr 1
      omega
theorem wD_get : ∀ (done : List Nat) (d : Nat → Bool) (j : Nat), wD d done j = (d j || done.contains j)
  | [], d, j => by simp [wD]
  | k :: done, d, j => by
    show wD (dw d (k * 4096) 4096) done j = _
    rw [wD_get done]
    unfold dw
    by_cases h : j = k
    · subst h
      rw [decide_eq_true (by omega : 0 < 4096), decide_eq_true (by omega : j * 4096 / 4096 ≤ j), decide_eq_true (by omega : j * 4096 < j * 4096 + 4096)]
      simp
    · have : (decide (0 < 4096) && decide (k * 4096 / 4096 ≤ j) && decide (j * 4096 < k * 4096 + 4096)) = false := by
        rw [Bool.and_eq_false_iff]
        by_cases h2 : k ≤ j
        · right
          exact decide_eq_false (by omega)
        · left
          rw [Bool.and_eq_false_iff]
          right
          exact decide_eq_false (by omega)
      rw [this, Bool.or_false]
      simp [h]
/-- a level ends, within another one -/
theorem Fr1.fin {L2 : Lev} {p2 : List Int} {w2 : List Bool} (h : Fr1 c0 s0 sh (p, w) L (L2 :: r)) (h2 : Fr1 c0 s0 sh (p2, w2) L2 r) (done : List Nat) (hd : ∀ j, j ∈ done ↔ L.d j = true) :
    Fr1 c0 s0 sh (p, w) ⟨L2.bb, tc (lvb c0 s0 r) (wC L.c 0 L2.c done) L.s, L.s, td (wD L2.d done) L.s⟩ r := by
  obtain ⟨h1, hk, h3, h4, h5, h6⟩ := h
  dsimp only at h1 hk h5 h6
  have h4 : L2.s ≤ max L.s sh := h4
  have hpn : ∀ i, i < L.s → ¬ pgn L.s ≤ i / 4096 := fun i hi => by unfold pgn; omega
  have hdd : ∀ i, i < L.s → td (wD L2.d done) L.s (i / 4096) = (L2.d (i / 4096) || L.d (i / 4096)) := fun i hi => by
    unfold td
    rw [decide_eq_true (by have := hpn i hi; omega : i / 4096 < pgn L.s), Bool.and_true, wD_get]
    congr 1
    rw [Bool.eq_iff_iff, List.contains_iff_mem]
    exact hd _
  have hin : ∀ i, L.d (i / 4096) = true → wC L.c 0 L2.c done i = L.c i := fun i hi => by
    have := wC_in L.c 0 done L2.c i ((hd _).2 hi)
    rwa [Nat.zero_add] at this
  have hno : ∀ i, L.d (i / 4096) = false → wC L.c 0 L2.c done i = L2.c i := fun i hi => wC_not _ _ _ _ _ (.inr fun hm => by
    rw [Nat.sub_zero] at hm
    exact absurd (((hd _).1 hm).symm.trans hi) (by decide))
  refine ⟨h1, hk.mono fun i b hi hF => ⟨?_, fun hf => ?_⟩, fun i hi hs => ?_, ?_, h5, fun i hi => ?_⟩
  · show tc (lvb c0 s0 r) (wC L.c 0 L2.c done) L.s i = b
    unfold tc
    rw [if_neg (hpn i (by omega))]
    cases e : L.d (i / 4096) with
    | true => rw [hin i e]; exact hF.1
    | false => rw [hno i e]; exact (hF.2 e).1
  · have hf : td (wD L2.d done) L.s (i / 4096) = false := hf
    rw [hdd i (by omega), Bool.or_eq_false_iff] at hf
    exact (hF.2 hf.2).2 hf.1
  · show tc (lvb c0 s0 r) (wC L.c 0 L2.c done) L.s i = 0
    have hi : L.s ≤ i := hi
    unfold tc
    split
    · unfold lvb cutC
      rw [if_neg]
      have := h2.sl
      omega
    · cases e : L.d (i / 4096) with
      | true => rw [hin i e]; exact h3 i hi hs
      | false => rw [hno i e]; exact h2.z i (by omega) hs
  · dsimp only
    have := h2.sl
    omega
  · show (td (wD L2.d done) L.s (i / 4096) || anyD (i / 4096) r) = true
    have hil : i < L.s := by
      have := (List.getElem?_eq_some_iff.1 hi).1
      dsimp only at this
      omega
    rw [hdd i hil]
    have := h6 i hi
    unfold anyD at this
    unfold anyD at this
    rw [Bool.or_eq_true, Bool.or_eq_true] at this
    rcases this with e | e | e <;> rw [e] <;> simp
end
end Go.Proofs.YtfebpbflpdppiaaGreatDoor
namespace Go.Proofs.YtfebpbflpdppiaaGreatDoor
open Go Go.Sl
set_option maxRecDepth 100000
def noR (l : List Ly) (i k : Nat) : Prop := ∀ j x, i < j → j ≤ k → l[j]? = some x → x.kd.isR = false
def idl (l : List Ly) (k : Nat) : Prop := ∀ j x, 0 < j → j ≤ k → l[j]? = some x → x.kd = .roll → x.levels = [] ∧ x.off = 0
/-- an inner layer begins within what is beneath it -/
def lnk (l : List Ly) : Prop := ∀ k x, l[k + 1]? = some x → x.kd = .inner → x.off ≤ (viewF l k).length
section
variable {l : List Ly} {k : Nat} {x : Ly}
theorem vw_s (hx : l[k + 1]? = some x) : viewF l (k + 1) = vwAt x (viewF l k) := by
  conv => lhs; unfold viewF
  rw [hx]
theorem os_s (hx : l[k + 1]? = some x) : oSum l (k + 1) = oSum l k + x.off := by
  conv => lhs; unfold oSum
  rw [hx]
theorem sz_s (hx : l[k + 1]? = some x) : sizeF l (k + 1) = szAt x (sizeF l k) (viewF l (k + 1)) := by
  conv => lhs; unfold sizeF
  rw [hx]
theorem ch_s (hx : l[k + 1]? = some x) (hk : x.kd.isR = false) (wr : Bool) (o : Nat) (b : List Int) : chF l (k + 1) wr o b = chF l k wr (o + x.off) b := by
  conv => lhs; unfold chF
  rw [hx]
  cases h : x.kd with
  | base => simp only [h]
  | inner => simp only [h]
  | roll => rw [h] at hk; cases hk
theorem vwAt_no (U : List Int) (hk : x.kd.isR = false) : vwAt x U = U.drop x.off := by
  unfold vwAt
  cases h : x.kd with
  | base => rfl
  | inner => rfl
  | roll => rw [h] at hk; cases hk
end
section
variable {l : List Ly}
theorem get_ex {k : Nat} (h : k < l.length) : ∃ x, l[k]? = some x := ⟨l[k], List.getElem?_eq_getElem h⟩
theorem view_idle : ∀ k, k < l.length → idl l k → viewF l k = (viewF l 0).drop (oSum l k)
  | 0, _, _ => rfl
  | k + 1, hk, h => by
    obtain ⟨x, hx⟩ := get_ex hk
    have ih := view_idle k (by omega) fun j y h1 h2 => h j y h1 (by omega)
    rw [vw_s hx, os_s hx, ih]
    cases hr : x.kd with
    | roll =>
      obtain ⟨h1, h2⟩ := h (k + 1) x (by omega) (Nat.le_refl _) hx hr
      unfold vwAt
      rw [hr, h1, h2]
      rfl
    | inner => rw [vwAt_no _ (by rw [hr]; rfl), List.drop_drop]
    | base => rw [vwAt_no _ (by rw [hr]; rfl), List.drop_drop]
theorem view_up (t : Nat) : ∀ k, t + k < l.length → noR l t (t + k) → viewF l (t + k) = (viewF l t).drop (oSum l (t + k) - oSum l t)
  | 0, _, _ => by rw [Nat.add_zero, Nat.sub_self]; rfl
  | k + 1, hk, h => by
    obtain ⟨x, hx⟩ := get_ex (show t + k + 1 < l.length from hk)
    have ih := view_up t k (by omega) fun j y h1 h2 => h j y h1 (by omega)
    have hm := oSum_mono l (show t ≤ t + k by omega)
    rw [show t + (k + 1) = t + k + 1 from rfl, vw_s hx, os_s hx, ih, vwAt_no _ (h (t + k + 1) x (by omega) (by omega) hx), List.drop_drop]
    congr 1
    omega
theorem ch_up (t : Nat) (wr : Bool) (b : List Int) : ∀ k o, t + k < l.length → noR l t (t + k) → chF l (t + k) wr o b = chF l t wr (o + (oSum l (t + k) - oSum l t)) b
  | 0, o, _, _ => by rw [Nat.add_zero, Nat.sub_self]; rfl
  | k + 1, o, hk, h => by
    obtain ⟨x, hx⟩ := get_ex (show t + k + 1 < l.length from hk)
    have hm := oSum_mono l (show t ≤ t + k by omega)
    rw [show t + (k + 1) = t + k + 1 from rfl, ch_s hx (h (t + k + 1) x (by omega) (by omega) hx), ch_up t wr b k _ (by omega) fun j y h1 h2 => h j y h1 (by omega), os_s hx]
    congr 1
    omega
theorem shortG_no : ∀ (n i : Nat), shortG l i n = false → ∀ j, i ≤ j → j < i + n → shortA l j = false
  | 0, i, _, j, h1, h2 => by omega
  | n + 1, i, h, j, h1, h2 => by
    unfold shortG at h
    rw [Bool.or_eq_false_iff] at h
    by_cases hj : i = j
    · subst hj
      exact h.1
    · exact shortG_no n (i + 1) h.2 j (by omega) (by omega)
theorem size_view (hs : shortF l = false) (hb : ∀ k y, l[k + 1]? = some y → y.kd ≠ .base) : ∀ k, k < l.length → sizeF l k = ((viewF l k).length : Nat)
  | 0, _ => rfl
  | k + 1, hk => by
    obtain ⟨x, hx⟩ := get_ex hk
    have ih := size_view hs hb k (by omega)
    have hsa := shortG_no _ _ hs (k + 1) (by omega) (by omega)
    unfold shortA at hsa
    rw [hx] at hsa
    dsimp only at hsa
    rw [sz_s hx] at hsa ⊢
    cases hr : x.kd with
    | base => exact absurd hr (hb k x hx)
    | roll =>
      unfold szAt
      rw [hr]
    | inner =>
      unfold szAt at hsa ⊢
      rw [hr] at hsa ⊢
      have : ¬ (sizeF l k - (x.off : Int) < 0) := by
        intro h
        simp only [KD.isI, Bool.true_and, decide_eq_false_iff_not] at hsa
        exact hsa h
      dsimp only
      rw [vw_s hx, vwAt_no _ (by rw [hr]; rfl), List.length_drop]
      omega
theorem lnk_of (hs : shortF l = false) (hb : ∀ k y, l[k + 1]? = some y → y.kd ≠ .base) : lnk l := fun k x hx hr => by
  have hk := (List.getElem?_eq_some_iff.1 hx).1
  have ih := size_view hs hb k (by omega)
  have hsa := shortG_no _ _ hs (k + 1) (by omega) (by omega)
  unfold shortA at hsa
  rw [hx] at hsa
  dsimp only at hsa
  rw [sz_s hx] at hsa
  unfold szAt at hsa
  rw [hr] at hsa
  simp only [KD.isI, Bool.true_and, decide_eq_false_iff_not] at hsa
  omega
theorem len_up (hl : lnk l) (hb : ∀ k y, l[k + 1]? = some y → y.kd ≠ .base) (t : Nat) : ∀ k, t + k < l.length → noR l t (t + k) → (viewF l t).length = (viewF l (t + k)).length + (oSum l (t + k) - oSum l t)
  | 0, _, _ => by rw [Nat.add_zero, Nat.sub_self]; rfl
  | k + 1, hk, h => by
    obtain ⟨x, hx⟩ := get_ex (show t + k + 1 < l.length from hk)
    have ih := len_up hl hb t k (by omega) fun j y h1 h2 => h j y h1 (by omega)
    have hm := oSum_mono l (show t ≤ t + k by omega)
    have hno := h (t + k + 1) x (by omega) (by omega) hx
    have hle : x.off ≤ (viewF l (t + k)).length := by
      cases hr : x.kd with
      | base => exact absurd hr (hb _ x hx)
      | roll => rw [hr] at hno; cases hno
      | inner => exact hl _ x hx hr
    rw [ih, show t + (k + 1) = t + k + 1 from rfl, vw_s hx, os_s hx, vwAt_no _ hno, List.length_drop]
    omega
theorem len_idle (hl : lnk l) (hb : ∀ k y, l[k + 1]? = some y → y.kd ≠ .base) : ∀ k, k < l.length → idl l k → (viewF l 0).length = (viewF l k).length + oSum l k
  | 0, _, _ => rfl
  | k + 1, hk, h => by
    obtain ⟨x, hx⟩ := get_ex hk
    have ih := len_idle hl hb k (by omega) fun j y h1 h2 => h j y h1 (by omega)
    rw [ih, vw_s hx, os_s hx]
    cases hr : x.kd with
    | base => exact absurd hr (hb _ x hx)
    | roll =>
      obtain ⟨h1, h2⟩ := h (k + 1) x (by omega) (Nat.le_refl _) hx hr
      unfold vwAt
      rw [hr, h1, h2]
      rfl
    | inner =>
      have := hl _ x hx hr
      rw [vwAt_no _ (by rw [hr]; rfl), List.length_drop]
      omega
theorem benG_iff : ∀ (n i : Nat), benG l i n = true ↔ ∃ j x, i ≤ j ∧ j < i + n ∧ l[j]? = some x ∧ x.kd.isR = true
  | 0, i => by
    constructor
    · intro h; cases h
    · rintro ⟨j, x, h1, h2, _⟩; omega
  | n + 1, i => by
    unfold benG
    rw [Bool.or_eq_true, benG_iff n (i + 1)]
    constructor
    · rintro (h | ⟨j, x, h1, h2, h3⟩)
      · cases hx : l[i]? with
        | none => rw [hx] at h; cases h
        | some x => rw [hx] at h; exact ⟨i, x, Nat.le_refl _, by omega, hx, h⟩
      · exact ⟨j, x, by omega, by omega, h3⟩
    · rintro ⟨j, x, h1, h2, h3, h4⟩
      by_cases hj : i = j
      · subst hj
        left
        rw [h3]
        exact h4
      · exact .inr ⟨j, x, by omega, by omega, h3, h4⟩
end
theorem benG_congr {l l' : List Ly} (h : l.map (·.kd) = l'.map (·.kd)) : ∀ n i, benG l i n = benG l' i n
  | 0, _ => rfl
  | n + 1, i => by
    unfold benG
    rw [benG_congr h n (i + 1)]
    have e : (l[i]?).map (·.kd) = (l'[i]?).map (·.kd) := by rw [← List.getElem?_map, ← List.getElem?_map, h]
    congr 1
    cases h1 : l[i]? with
    | none =>
      rw [h1] at e
      cases h2 : l'[i]? with
      | none => rfl
      | some y => rw [h2] at e; cases e
    | some x =>
      rw [h1] at e
      cases h2 : l'[i]? with
      | none => rw [h2] at e; cases e
      | some y =>
        rw [h2] at e
        simp only [Option.map_some, Option.some.injEq] at e
        dsimp only
        rw [e]
/-- a stack's layers, against the machine's configuration -/
structure Shp (g : Cf) (l : List Ly) : Prop where
  n0 : 0 < l.length
  hb : ∀ (k : Nat) (y : Ly), l[k + 1]? = some y → y.kd ≠ .base
  r0 : ∀ (k : Nat) (y : Ly), l[k]? = some y → y.kd = .roll → y.off = 0
  has : g.has = decide (0 < topF l)
  T : g.T = if topF l = 0 then oSum l (l.length - 1) else oSum l (topF l - 1)
  u : g.u = if topF l = 0 then 0 else oSum l (l.length - 1) - oSum l (topF l)
  ro : 0 < topF l → g.ro = benF l (topF l)
theorem Shp.congr {g : Cf} {l l' : List Ly} (h : Shp g l) (e : l'.map (fun x => (x.kd, x.off)) = l.map (fun x => (x.kd, x.off))) : Shp g l' := by
  have e1 : l'.map (·.kd) = l.map (·.kd) := map_of (f := fun x : Ly => (x.kd, x.off)) Prod.fst e
  have e2 : l'.map (·.off) = l.map (·.off) := map_of (f := fun x : Ly => (x.kd, x.off)) Prod.snd e
  have hl : l'.length = l.length := by simpa using congrArg List.length e1
  have ht := topF_congr e1
  have ho := oSum_congr e2
  have hg : ∀ (k : Nat) (y : Ly), l'[k]? = some y → ∃ z, l[k]? = some z ∧ z.kd = y.kd ∧ z.off = y.off := fun k y hy => by
    have e3 : (l'[k]?).map (fun x => (x.kd, x.off)) = (l[k]?).map (fun x => (x.kd, x.off)) := by rw [← List.getElem?_map, ← List.getElem?_map, e]
    rw [hy] at e3
    cases h2 : l[k]? with
    | none => rw [h2] at e3; cases e3
    | some z =>
      rw [h2] at e3
      simp only [Option.map_some, Option.some.injEq, Prod.mk.injEq] at e3
      exact ⟨z, rfl, e3.1.symm, e3.2.symm⟩
  refine ⟨by rw [hl]; exact h.n0, fun k y hy => ?_, fun k y hy hr => ?_, by rw [ht]; exact h.has, by rw [ht, hl, ho, ho]; exact h.T, by rw [ht, hl, ho, ho]; exact h.u, fun h0 => ?_⟩
  · obtain ⟨z, h1, h2, h3⟩ := hg _ y hy
    rw [← h2]
    exact h.hb k z h1
  · obtain ⟨z, h1, h2, h3⟩ := hg _ y hy
    rw [← h3]
    exact h.r0 k z h1 (h2.trans hr)
  · rw [ht] at h0 ⊢
    rw [h.ro h0]
    exact (benG_congr e1 _ _).symm
/-- beneath the topmost rollback none has a transaction -/
def Low (l : List Ly) : Prop := ∀ j x, j < topF l → l[j]? = some x → x.kd = .roll → x.levels = []
section
variable {g : Cf} {l : List Ly}
theorem topF_noR (l : List Ly) : noR l (topF l) (l.length - 1) := fun _ _ h1 _ hx => topF_above h1 hx
theorem Shp.idl (h : Shp g l) (hl : Low l) : idl l (topF l - 1) := fun j x h1 h2 hx hr => ⟨hl j x (by omega) hx hr, h.r0 j x hx hr⟩
/-- without a rollback -/
theorem Shp.flat (h : Shp g l) (ht : topF l = 0) : viewF l (l.length - 1) = (viewF l 0).drop g.T ∧ (∀ wr o b, chF l (l.length - 1) wr o b = chF l 0 wr (o + g.T) b) ∧ (shortF l = false → (viewF l 0).length = (viewF l (l.length - 1)).length + g.T) ∧ g.u = 0 ∧ g.has = false := by
  have hn := topF_noR l
  have hT := h.T
  have hu := h.u
  have hh := h.has
  rw [ht] at hn hT hu hh
  rw [if_pos rfl] at hT hu
  have hl := h.n0
  have e : 0 + (l.length - 1) = l.length - 1 := Nat.zero_add _
  have e2 : oSum l (l.length - 1) - oSum l 0 = g.T := by rw [hT]; exact Nat.sub_zero _
  have h1 := view_up (l := l) 0 (l.length - 1) (by omega) (by rw [e]; exact hn)
  have h3 := fun hs => len_up (l := l) (lnk_of hs h.hb) h.hb 0 (l.length - 1) (by omega) (by rw [e]; exact hn)
  rw [e, e2] at h1 h3
  refine ⟨h1, fun wr o b => ?_, h3, hu, hh⟩
  have h2 := ch_up (l := l) 0 wr b (l.length - 1) o (by omega) (by rw [e]; exact hn)
  rw [e, e2] at h2
  exact h2
/-- with one -/
theorem Shp.top (h : Shp g l) (ht : 0 < topF l) : viewF l (l.length - 1) = (viewF l (topF l)).drop g.u ∧ (∀ wr o b, chF l (l.length - 1) wr o b = chF l (topF l) wr (o + g.u) b) ∧ (shortF l = false → (viewF l (topF l)).length = (viewF l (l.length - 1)).length + g.u) ∧ oSum l (topF l - 1) = g.T ∧ g.has = true := by
  have hn := topF_noR l
  have hT := h.T
  have hu := h.u
  have hh := h.has
  rw [if_neg (by omega)] at hT hu
  rw [decide_eq_true ht] at hh
  have htl := topF_lt h.n0
  have e : topF l + (l.length - 1 - topF l) = l.length - 1 := by omega
  have h1 := view_up (l := l) (topF l) (l.length - 1 - topF l) (by omega) (by rw [e]; exact hn)
  have h3 := fun hs => len_up (l := l) (lnk_of hs h.hb) h.hb (topF l) (l.length - 1 - topF l) (by omega) (by rw [e]; exact hn)
  rw [e, ← hu] at h1 h3
  refine ⟨h1, fun wr o b => ?_, h3, hT.symm, hh⟩
  have h2 := ch_up (l := l) (topF l) wr b (l.length - 1 - topF l) o (by omega) (by rw [e]; exact hn)
  rw [e, ← hu] at h2
  exact h2
theorem Shp.below (h : Shp g l) (hl : Low l) (ht : 0 < topF l) : viewF l (topF l - 1) = (viewF l 0).drop g.T ∧ (shortF l = false → (viewF l 0).length = (viewF l (topF l - 1)).length + g.T) := by
  have htl := topF_lt h.n0
  have h1 := view_idle (l := l) (topF l - 1) (by omega) (h.idl hl)
  have h2 := fun hs => len_idle (l := l) (lnk_of hs h.hb) h.hb (topF l - 1) (by omega) (h.idl hl)
  rw [(h.top ht).2.2.2.1] at h1 h2
  exact ⟨h1, h2⟩
theorem Shp.tv (_h : Shp g l) (ht : 0 < topF l) {x : Ly} (hx : l[topF l]? = some x) : viewF l (topF l) = match x.levels with | [] => viewF l (topF l - 1) | _ => x.bytes := by
  have e : topF l - 1 + 1 = topF l := by omega
  have := vw_s (l := l) (k := topF l - 1) (x := x) (by rw [e]; exact hx)
  rw [e] at this
  rw [this]
  unfold vwAt
  rw [topF_isR ht hx]
  cases x.levels <;> rfl
theorem Shp.tch (_h : Shp g l) (ht : 0 < topF l) {x : Ly} (hx : l[topF l]? = some x) (wr : Bool) (o : Nat) (b : List Int) : chF l (topF l) wr o b = match x.levels with | [] => (l, false, 3) | _ => (l.set (topF l) (chL x wr o b), chM x wr o b, 0) := by
  obtain ⟨j, hj⟩ : ∃ j, topF l = j + 1 := ⟨topF l - 1, by omega⟩
  have hr := topF_isR ht hx
  rw [hj] at hx ⊢
  unfold chF
  rw [hx]
  simp only [hr]
  cases x.levels <;> rfl
end
end Go.Proofs.YtfebpbflpdppiaaGreatDoor
namespace Go.Proofs.YtfebpbflpdppiaaGreatDoor
open Go Go.Sl
set_option maxRecDepth 100000
/-- a plain file -/
structure PBk (p : List Int) (c : Cn) (s : Nat) : Prop where
  len : p.length = s
  k : Kn p fun i b => c i = b
  z : ∀ i, s ≤ i → c i = 0
/-- the topmost rollback -/
def TopOk (g : Cf) (c : Cn) (s : Nat) (x : Ly) : TS → Prop
  | .idle => x.levels = []
  | .act L r => ∃ l0 fs, x.levels = l0 :: fs.reverse ∧ FrOk (shC g.T c) (s - g.T) x.shadow ((x.bytes, x.wrote) :: fs) (L :: r)
  | .brk => False
/-- where machine and reference stand -/
structure Sim (g : Cf) (s : SS) (σ : MS) : Prop where
  shp : Shp g s.ys
  low : Low s.ys
  ls : s.ls = false
  pt : s.vg = false → σ.l = s.pts
  b : PBk (viewF s.ys 0) σ.c σ.s
  t : 0 < topF s.ys → ∃ x, s.ys[topF s.ys]? = some x ∧ TopOk g σ.c σ.s x σ.t
  nb : σ.t ≠ .brk
/-- a call of both -/
def StOk (g : Cf) (σ' : MS) (r : SS × Wnt × Bool) (e : Int) (q : Int) (dat : List UInt8) (d : ByteArray) : Prop :=
  (r.1.ls = true ∧ r.2.2 = false) ∨ ((r.2.2 = true → toldF r.2.1 e q dat d = true) ∧ Sim g r.1 σ')
theorem told_any {w : Wnt} {e q : Int} {dat : List UInt8} {d : ByteArray} (h : w.e = -1) (h0 : e ≠ 0) (h7 : e ≠ 7) : toldF w e q dat d = true := by
  unfold toldF
  rw [if_pos h, decide_eq_false h0, decide_eq_false h7]
  rfl
theorem told_pl {w : Wnt} {e q : Int} {dat : List UInt8} {d : ByteArray} (h : e = w.e) (h0 : 0 ≤ e) (hr : d ≠ sRead) (hq : (d = sWrite ∨ d = sSize) → 0 < w.e ∨ q = w.n) : toldF w e q dat d = true := by
  unfold toldF
  rw [if_neg (by omega), if_neg (by omega), if_neg hr]
  split
  · rename_i hd
    rcases hq hd with h | h
    · rw [decide_eq_true h]
      rfl
    · rw [decide_eq_true h, Bool.or_true]
  · rfl
theorem told_rd {w : Wnt} {e q : Int} {dat : List UInt8} (h1 : w.e ≠ -1) (h : (w.e = -2 ∧ (e = 0 ∨ e = 1)) ∨ (w.e ≠ -2 ∧ e = w.e)) (hq : q = w.n) (hf : fitsF w.b dat = true) : toldF w e q dat sRead = true := by
  unfold toldF
  rw [if_neg h1, if_neg (by omega), if_pos rfl, decide_eq_true hq, hf]
  rfl
theorem Sim.same {g : Cf} {s s' : SS} {σ : MS} (h : Sim g s σ) (h1 : s'.ys = s.ys) (h2 : s'.ls = false) (h3 : s'.vg = s.vg) (h4 : s'.pts = s.pts) : Sim g s' σ := by
  obtain ⟨ys, pts, ls, vg, ms⟩ := s'
  dsimp only at h1 h2 h3 h4
  subst h1 h2 h3 h4
  exact ⟨h.shp, h.low, rfl, h.pt, h.b, h.t, h.nb⟩
theorem set_kd {l : List Ly} {j : Nat} {x y : Ly} (hx : l[j]? = some x) (h1 : y.kd = x.kd) (h2 : y.off = x.off) : (l.set j y).map (fun x => (x.kd, x.off)) = l.map (fun x => (x.kd, x.off)) := set_map (fun x : Ly => (x.kd, x.off)) hx (by rw [h1, h2])
theorem top_set {l : List Ly} {j : Nat} {x y : Ly} (hx : l[j]? = some x) (h1 : y.kd = x.kd) : topF (l.set j y) = topF l := topF_congr (set_map (fun x : Ly => x.kd) hx h1)
/-- the topmost rollback is another one -/
theorem Sim.setT {g : Cf} {s s' : SS} {σ σ' : MS} (h : Sim g s σ) (ht : 0 < topF s.ys) {x x' : Ly} (hx : s.ys[topF s.ys]? = some x) (h1 : s'.ys = s.ys.set (topF s.ys) x') (hk : x'.kd = x.kd) (ho : x'.off = x.off) (h2 : s'.ls = false) (h3 : s'.vg = s.vg) (h4 : s'.pts = s.pts)
    (hc : σ'.c = σ.c) (hs : σ'.s = σ.s) (hl : σ'.l = σ.l) (hT : TopOk g σ.c σ.s x' σ'.t) : Sim g s' σ' := by
  obtain ⟨ys, pts, ls, vg, ms⟩ := s'
  obtain ⟨c, sz, l, t⟩ := σ'
  dsimp only at h1 h2 h3 h4 hc hs hl hT
  subst h1 h2 h3 h4 hc hs hl
  have htl := topF_lt h.shp.n0
  have e := top_set hx hk
  refine ⟨h.shp.congr (set_kd hx hk ho), fun j y hj hy hr => ?_, rfl, h.pt, ?_, fun h0 => ⟨x', ?_, hT⟩, ?_⟩
  · dsimp only at hj hy
    rw [e] at hj
    rw [List.getElem?_set_ne (by omega)] at hy
    exact h.low j y hj hy hr
  · have : viewF (s.ys.set (topF s.ys) x') 0 = viewF s.ys 0 := by
      unfold viewF
      rw [List.getElem?_set_ne (by omega)]
    rw [this]
    exact h.b
  · dsimp only
    rw [e, List.getElem?_set_self htl]
  · dsimp only
    intro hb
    rw [hb] at hT
    exact hT
theorem PBk.sh {p : List Int} {c : Cn} {s : Nat} (h : PBk p c s) (T : Nat) : ∀ i, s - T ≤ i → shC T c i = 0 := fun i hi => h.z _ (by omega)
section
variable {g : Cf} {s : SS} {σ σ' : MS} {e : Nat} {q : Int} {dat : List UInt8} {off n : Int} {bs : List UInt8}
/-- what a stack without a rollback holds, and how much of it is seen -/
theorem Sim.ex0 (h : Sim g s σ) : ∃ x0, s.ys[0]? = some x0 ∧ viewF s.ys 0 = x0.bytes := by
  obtain ⟨x0, hx⟩ := get_ex h.shp.n0
  refine ⟨x0, hx, ?_⟩
  unfold viewF
  rw [hx]
theorem Sim.sz (h : Sim g s σ) (hs : shortF s.ys = false) : sizeF s.ys (lastK s) = ((viewF s.ys (lastK s)).length : Nat) := size_view hs h.shp.hb _ (by have := h.shp.n0; unfold lastK; omega)
/-- what is seen in a transaction -/
theorem Sim.actV (h : Sim g s σ) (ht : 0 < topF s.ys) {L : Lev} {r : List Lev} (ha : σ.t = .act L r) (hs : shortF s.ys = false) : ∃ x l0 fs, s.ys[topF s.ys]? = some x ∧ x.levels = l0 :: fs.reverse ∧ FrOk (shC g.T σ.c) (σ.s - g.T) x.shadow ((x.bytes, x.wrote) :: fs) (L :: r) ∧
    viewF s.ys (lastK s) = x.bytes.drop g.u ∧ L.s = (viewF s.ys (lastK s)).length + g.u ∧ inT s = true := by
  obtain ⟨x, hx, hT⟩ := h.t ht
  rw [ha] at hT
  obtain ⟨l0, fs, hl, hF⟩ := hT
  have h1 := h.shp.top ht
  have h2 := h.shp.tv ht hx
  rw [hl] at h2
  dsimp only at h2
  have h3 := h1.2.2.1 hs
  rw [h2] at h3
  refine ⟨x, l0, fs, hx, hl, hF, ?_, ?_, ?_⟩
  · rw [← h2]
    exact h1.1
  · rw [← hF.1.len]
    exact h3
  · unfold inT
    rw [hx]
    dsimp only
    rw [hl]
    simp
theorem Sim.idV (h : Sim g s σ) (ht : 0 < topF s.ys) (ha : σ.t = .idle) (hs : shortF s.ys = false) : ∃ x, s.ys[topF s.ys]? = some x ∧ x.levels = [] ∧ viewF s.ys (lastK s) = (viewF s.ys 0).drop (g.T + g.u) ∧ σ.s = (viewF s.ys (lastK s)).length + (g.T + g.u) ∧ inT s = false := by
  obtain ⟨x, hx, hT⟩ := h.t ht
  rw [ha] at hT
  have hT : x.levels = [] := hT
  have h1 := h.shp.top ht
  have h2 := h.shp.tv ht hx
  have h4 := h.shp.below h.low ht
  rw [hT] at h2
  dsimp only at h2
  have h3 := h1.2.2.1 hs
  have h5 := h4.2 hs
  rw [h2] at h3
  have h6 := h.b.len
  refine ⟨x, hx, hT, ?_, ?_, ?_⟩
  · show viewF s.ys (s.ys.length - 1) = _
    rw [h1.1, h2, h4.1, List.drop_drop]
  · show _ = (viewF s.ys (s.ys.length - 1)).length + _
    omega
  · unfold inT
    rw [hx]
    dsimp only
    rw [hT]
    rfl
theorem Sim.flV (h : Sim g s σ) (ht : topF s.ys = 0) (hs : shortF s.ys = false) : viewF s.ys (lastK s) = (viewF s.ys 0).drop g.T ∧ σ.s = (viewF s.ys (lastK s)).length + g.T := by
  have h1 := h.shp.flat ht
  have h2 := h1.2.2.1 hs
  have h6 := h.b.len
  refine ⟨h1.1, ?_⟩
  show _ = (viewF s.ys (s.ys.length - 1)).length + _
  omega
theorem Sim.hasF (h : Sim g s σ) (ht : topF s.ys = 0) : g.has = false := (h.shp.flat ht).2.2.2.2
theorem Sim.hasT (h : Sim g s σ) (ht : 0 < topF s.ys) : g.has = true := (h.shp.top ht).2.2.2.2
/-- the base is written or cut -/
theorem Sim.set0 (h : Sim g s σ) (ht : topF s.ys = 0) {x0 x' : Ly} (hx : s.ys[0]? = some x0) (hk : x'.kd = x0.kd) (ho : x'.off = x0.off) {s' : SS} (h1 : s'.ys = s.ys.set 0 x') (h2 : s'.ls = false) (h3 : s'.vg = s.vg) (h4 : s'.pts = s.pts) (hl : σ'.l = σ.l) (hb : PBk x'.bytes σ'.c σ'.s) (hn : σ'.t = σ.t) : Sim g s' σ' := by
  obtain ⟨ys, pts, ls, vg, ms⟩ := s'
  obtain ⟨c, sz, l, t⟩ := σ'
  dsimp only at h1 h2 h3 h4 hl hb hn
  subst h1 h2 h3 h4 hl hn
  have e := top_set hx hk
  refine ⟨h.shp.congr (set_kd hx hk ho), fun j y hj hy hr => ?_, rfl, h.pt, ?_, fun h0 => ?_, h.nb⟩
  · dsimp only at hj
    rw [e] at hj
    omega
  · have : viewF (s.ys.set 0 x') 0 = x'.bytes := by
      unfold viewF
      rw [List.getElem?_set_self h.shp.n0]
    dsimp only
    rw [this]
    exact hb
  · dsimp only at h0
    rw [e] at h0
    omega
theorem PBk.write {p : List Int} {c : Cn} {sz : Nat} (h : PBk p c sz) (o : Nat) (bs : List UInt8) (ho : bs.length = 0 → o ≤ sz) : PBk (wrF p o (kn bs)) (ov c o bs) (if bs.length = 0 then sz else max sz (o + bs.length)) := by
  obtain ⟨h1, h2, h3⟩ := h
  have hov : ∀ i, ¬(o ≤ i ∧ i < o + bs.length) → ov c o bs i = c i := fun i hi => by unfold ov; rw [if_neg hi]
  refine ⟨?_, h2.writeB o bs (fun i b hp hn hF => (hov i hn).trans hF) (fun i hp ho => (hov i (by omega)).trans (h3 i (by omega))) (fun i b hb => ?_), fun i hi => ?_⟩
  · rw [wrF_length, kn_length, h1]
    split
    · have := ho (by omega)
      omega
    · rfl
  · have hl : i < bs.length := (List.getElem?_eq_some_iff.1 hb).1
    show ov c o bs (o + i) = b
    unfold ov
    rw [if_pos (by omega), Nat.add_sub_cancel_left, List.getD_eq_getElem?_getD, hb]
    rfl
  · split at hi
    · rw [hov i (by omega)]
      exact h3 i hi
    · rw [hov i (by omega)]
      exact h3 i (by omega)
theorem PBk.cut {p : List Int} {c : Cn} {sz : Nat} (h : PBk p c sz) (n : Nat) : PBk (cutF p n) (cutC c n) n := by
  obtain ⟨h1, h2, h3⟩ := h
  have hc : ∀ i, i < n → cutC c n i = c i := fun i hi => by unfold cutC; rw [if_pos hi]
  refine ⟨cutF_length _ _, h2.cutB n (fun i b hn hp hF => (hc i hn).trans hF) (fun i hp hn => (hc i hn).trans (h3 i (by omega))), fun i hi => ?_⟩
  unfold cutC
  rw [if_neg (by omega)]
/-- a write -/
theorem sim_w (h : Sim g s σ) (hs : shortF s.ys = false) (hst : StW g off bs σ q e σ') : StOk g σ' (doW s off bs) e q [] sWrite := by
  unfold StW at hst
  unfold doW
  have hK : lastK s = s.ys.length - 1 := rfl
  by_cases ho : off < 0
  · rw [if_pos ho] at hst ⊢
    obtain ⟨h1, rfl⟩ := hst
    by_cases hb : bs.length = 0
    · rw [if_pos hb]
      exact .inr ⟨(fun h => by cases h), h⟩
    · rw [if_neg hb]
      have := h1 (fun hb2 => hb (by rw [hb2]; rfl))
      exact .inr ⟨fun _ => told_any rfl (by omega) (by omega), h⟩
  rw [if_neg ho] at hst ⊢
  by_cases hz : bs.length = 0 ∧ sizeF s.ys (lastK s) < off
  · rw [if_pos hz]
    exact .inl ⟨rfl, rfl⟩
  rw [if_neg hz]
  have hz2 : bs.length = 0 → off.toNat ≤ (viewF s.ys (lastK s)).length := fun h0 => by
    rw [h.sz hs] at hz
    omega
  by_cases ht : topF s.ys = 0
  · rw [h.hasF ht] at hst
    obtain ⟨rfl, rfl, rfl⟩ := hst
    obtain ⟨x0, hx, hv⟩ := h.ex0
    have hch : chF s.ys (lastK s) true off.toNat (kn bs) = (s.ys.set 0 (chB0 x0 true (off.toNat + g.T) (kn bs)), false, 0) := by
      rw [hK, (h.shp.flat ht).2.1]
      unfold chF
      rw [hx]
    have hfl := h.flV ht hs
    right
    refine ⟨fun _ => told_pl (by dsimp only; rw [hch]) (by omega) (by decide) fun _ => .inr ?_, ?_⟩
    · dsimp only
      rw [hch, if_pos rfl]
    · have hb := h.b.write (g.T + off.toNat) bs (fun h0 => by have := hz2 h0; omega)
      rw [hv] at hb
      refine h.set0 ht hx (x' := chB0 x0 true (off.toNat + g.T) (kn bs)) rfl rfl (by unfold chS; rw [hch]) h.ls rfl rfl rfl ?_ rfl
      show PBk (wrF x0.bytes (off.toNat + g.T) (kn bs)) _ _
      rw [Nat.add_comm off.toNat g.T]
      exact hb
  · have ht : 0 < topF s.ys := by omega
    rw [h.hasT ht] at hst
    obtain ⟨t, hst, rfl⟩ := hst
    cases hts : σ.t with
    | brk => exact absurd hts h.nb
    | idle =>
      rw [hts] at hst
      obtain ⟨rfl, rfl, rfl⟩ := hst
      obtain ⟨x, hx, hl, _⟩ := h.idV ht hts hs
      have hch : chF s.ys (lastK s) true off.toNat (kn bs) = (s.ys, false, 3) := by
        rw [hK, (h.shp.top ht).2.1, h.shp.tch ht hx, hl]
      right
      refine ⟨fun _ => told_pl (by dsimp only; rw [hch]) (by omega) (by decide) fun _ => .inl ?_, ?_⟩
      · dsimp only
        rw [hch]
        exact (by decide : (0 : Int) < 3)
      · have e1 : σ.to .idle = σ := by rw [← hts]; rfl
        rw [e1]
        exact h.same (by unfold chS; rw [hch]) h.ls rfl rfl
    | act L r =>
      rw [hts] at hst
      unfold TrW at hst
      dsimp only at hst
      rw [if_neg (by omega)] at hst
      obtain ⟨rfl, rfl, rfl⟩ := hst
      obtain ⟨x, l0, fs, hx, hl, hF, _⟩ := h.actV ht hts hs
      have hch : chF s.ys (lastK s) true off.toNat (kn bs) = (s.ys.set (topF s.ys) (chL x true (off.toNat + g.u) (kn bs)), chM x true (off.toNat + g.u) (kn bs), 0) := by
        rw [hK, (h.shp.top ht).2.1, h.shp.tch ht hx, hl]
      right
      refine ⟨fun _ => told_pl (by dsimp only; rw [hch]) (by omega) (by decide) fun _ => .inr ?_, ?_⟩
      · dsimp only
        rw [hch, if_pos rfl]
      · refine h.setT ht hx (x' := chL x true (off.toNat + g.u) (kn bs)) (by unfold chS; rw [hch]) rfl rfl h.ls rfl rfl rfl rfl rfl ?_
        refine ⟨l0, fs, hl, ?_, hF.2⟩
        have := hF.1.write (h.b.sh g.T) hF.2 (off.toNat + g.u) bs
        rw [Int.toNat_natCast, Nat.add_comm g.u]
        exact this
/-- it is cut -/
theorem sim_t (h : Sim g s σ) (hs : shortF s.ys = false) (hst : StT g n σ e σ') : StOk g σ' (doTr s n) e q dat sTrunc := by
  unfold StT at hst
  unfold doTr
  have hK : lastK s = s.ys.length - 1 := rfl
  by_cases hn : n < 0
  · rw [if_pos hn]
    by_cases hi : isIn s = true
    · rw [if_pos hi]
      exact .inl ⟨rfl, rfl⟩
    rw [if_neg hi]
    have hlast : lastK s = topF s.ys := by
      have htl := topF_lt h.shp.n0
      by_cases hlt : topF s.ys < lastK s
      · exfalso
        obtain ⟨y, hy⟩ := get_ex (show lastK s < s.ys.length by omega)
        have h1 := topF_above hlt hy
        have h2 := h.shp.hb (lastK s - 1) y (by rw [show lastK s - 1 + 1 = lastK s from by omega]; exact hy)
        unfold isIn at hi
        rw [hy] at hi
        dsimp only at hi
        cases hk : y.kd with
        | base => exact h2 hk
        | inner => rw [hk] at hi; exact hi rfl
        | roll => rw [hk] at h1; cases h1
      · omega
    by_cases ht : topF s.ys = 0
    · have hT : g.T = 0 := by
        rw [h.shp.T, if_pos ht, ← hK, hlast, ht]
        rfl
      rw [h.hasF ht] at hst
      dsimp only at hst
      rw [hT, if_pos (by omega)] at hst
      obtain ⟨rfl, rfl⟩ := hst
      exact .inr ⟨fun _ => told_any rfl (by omega) (by omega), h⟩
    · have ht : 0 < topF s.ys := by omega
      have hu : g.u = 0 := by
        rw [h.shp.u, if_neg (by omega), ← hK, hlast, Nat.sub_self]
      rw [h.hasT ht] at hst
      obtain ⟨t, hst, rfl⟩ := hst
      cases hts : σ.t with
      | brk => exact absurd hts h.nb
      | idle =>
        rw [hts] at hst
        obtain ⟨rfl, rfl⟩ := hst
        have e1 : σ.to .idle = σ := by rw [← hts]; rfl
        rw [e1]
        exact .inr ⟨fun _ => told_any rfl (by omega) (by omega), h⟩
      | act L r =>
        rw [hts] at hst
        unfold TrT at hst
        dsimp only at hst
        rw [hu, if_pos (by omega)] at hst
        obtain ⟨rfl, rfl⟩ := hst
        have e1 : σ.to (.act L r) = σ := by rw [← hts]; rfl
        rw [e1]
        exact .inr ⟨fun _ => told_any rfl (by omega) (by omega), h⟩
  rw [if_neg hn]
  by_cases ht : topF s.ys = 0
  · rw [h.hasF ht] at hst
    dsimp only at hst
    rw [if_neg (by omega)] at hst
    obtain ⟨rfl, rfl⟩ := hst
    obtain ⟨x0, hx, hv⟩ := h.ex0
    have hch : chF s.ys (lastK s) false n.toNat [] = (s.ys.set 0 (chB0 x0 false (n.toNat + g.T) []), false, 0) := by
      rw [hK, (h.shp.flat ht).2.1]
      unfold chF
      rw [hx]
    right
    refine ⟨fun _ => told_pl (by dsimp only; rw [hch]) (by omega) (by decide) fun h => absurd h (by decide), ?_⟩
    have hb := h.b.cut (n.toNat + g.T)
    rw [hv] at hb
    refine h.set0 ht hx (x' := chB0 x0 false (n.toNat + g.T) []) rfl rfl (by unfold chS; rw [hch]) h.ls rfl rfl rfl ?_ rfl
    dsimp only
    rw [show ((g.T : Int) + n).toNat = n.toNat + g.T from by omega]
    exact hb
  · have ht : 0 < topF s.ys := by omega
    rw [h.hasT ht] at hst
    obtain ⟨t, hst, rfl⟩ := hst
    cases hts : σ.t with
    | brk => exact absurd hts h.nb
    | idle =>
      rw [hts] at hst
      obtain ⟨rfl, rfl⟩ := hst
      obtain ⟨x, hx, hl, _⟩ := h.idV ht hts hs
      have hch : chF s.ys (lastK s) false n.toNat [] = (s.ys, false, 3) := by
        rw [hK, (h.shp.top ht).2.1, h.shp.tch ht hx, hl]
      right
      refine ⟨fun _ => told_pl (by dsimp only; rw [hch]) (by omega) (by decide) fun h => absurd h (by decide), ?_⟩
      have e1 : σ.to .idle = σ := by rw [← hts]; rfl
      rw [e1]
      exact h.same (by unfold chS; rw [hch]) h.ls rfl rfl
    | act L r =>
      rw [hts] at hst
      unfold TrT at hst
      dsimp only at hst
      rw [if_neg (by omega)] at hst
      obtain ⟨rfl, rfl⟩ := hst
      obtain ⟨x, l0, fs, hx, hl, hF, _⟩ := h.actV ht hts hs
      have hch : chF s.ys (lastK s) false n.toNat [] = (s.ys.set (topF s.ys) (chL x false (n.toNat + g.u) []), chM x false (n.toNat + g.u) [], 0) := by
        rw [hK, (h.shp.top ht).2.1, h.shp.tch ht hx, hl]
      right
      refine ⟨fun _ => told_pl (by dsimp only; rw [hch]) (by omega) (by decide) fun h => absurd h (by decide), ?_⟩
      refine h.setT ht hx (x' := chL x false (n.toNat + g.u) []) (by unfold chS; rw [hch]) rfl rfl h.ls rfl rfl rfl rfl rfl ?_
      have hfc := hF.1.cut (h.b.sh g.T) hF.2 (n.toNat + g.u) _ rfl
      refine ⟨l0, fs, hl, ?_, hF.2.up (by show x.shadow ≤ (if n.toNat + g.u < x.bytes.length then max x.shadow x.bytes.length else x.shadow); split <;> omega)⟩
      rw [show (n + (g.u : Int)).toNat = n.toNat + g.u from by omega]
      exact hfc
end
end Go.Proofs.YtfebpbflpdppiaaGreatDoor
