/- The calculus of this claim's walks: lists of separate heap assertions, frames as short lists of slots, one law an operation. Nothing of a program stands here. -/
import Derived.Deep.Quiet
import Derived.Defers
import Derived.Recover
import Derived.RegionTactic
import Derived.WalkKit
import Derived.KernelRfl
import Derived.ScopeJumps
namespace Go.Sl
open Go

/- 1. parts of the heap -/
abbrev PH := Nat → Option Obj
def PH.sub (h H : PH) : Prop := ∀ k o, h k = some o → H k = some o
def PH.dj (h g : PH) : Prop := ∀ k, h k = none ∨ g k = none
def PH.union (h g : PH) : PH := fun k => match h k with | some o => some o | none => g k

abbrev HP := PH → Prop

def SatL : List HP → PH → Prop
  | [], _ => True
  | A :: L, H => ∃ h g : PH, h.sub H ∧ g.sub H ∧ h.dj g ∧ A h ∧ SatL L g

theorem PH.sub.trans {a b c : PH} (h : a.sub b) (g : b.sub c) : a.sub c := fun k o e => g k o (h k o e)
theorem PH.sub.refl (a : PH) : a.sub a := fun _ _ e => e
theorem PH.dj.symm {a b : PH} (h : a.dj b) : b.dj a := fun k => (h k).symm
theorem PH.dj.mono {a b a' b' : PH} (h : a.dj b) (ha : a'.sub a) (hb : b'.sub b) : a'.dj b' := fun k => by
  rcases h k with e | e
  · left
    cases e' : a' k with
    | none => rfl
    | some o => rw [ha k o e'] at e; cases e
  · right
    cases e' : b' k with
    | none => rfl
    | some o => rw [hb k o e'] at e; cases e
theorem PH.union_sub {a b c : PH} (h : a.sub c) (g : b.sub c) : (a.union b).sub c := fun k o e => by
  unfold PH.union at e
  split at e
  · rename_i o' e'; cases e; exact h k _ e'
  · exact g k o e
theorem PH.sub_union_left (a b : PH) : a.sub (a.union b) := fun k o e => by simp [PH.union, e]
theorem PH.sub_union_right {a b : PH} (hd : a.dj b) : b.sub (a.union b) := fun k o e => by
  unfold PH.union
  rcases hd k with h | h
  · simp [h, e]
  · rw [h] at e; cases e
theorem PH.dj_union {a b c : PH} (h : c.dj a) (g : c.dj b) : c.dj (a.union b) := fun k => by
  rcases h k with e | e
  · exact .inl e
  · rcases g k with e' | e'
    · exact .inl e'
    · right; simp [PH.union, e, e']

theorem SatL.sub {L : List HP} {H H' : PH} (h : SatL L H) (s : H.sub H') : SatL L H' := by
  cases L with
  | nil => trivial
  | cons A L =>
    obtain ⟨a, b, h1, h2, h3, h4, h5⟩ := h
    exact ⟨a, b, h1.trans s, h2.trans s, h3, h4, h5⟩

theorem SatL.tail {A : HP} {L : List HP} {H : PH} (h : SatL (A :: L) H) : SatL L H := by
  obtain ⟨a, b, _, h2, _, _, h5⟩ := h
  exact h5.sub h2

theorem SatL.swap {A B : HP} {L : List HP} {H : PH} (h : SatL (A :: B :: L) H) : SatL (B :: A :: L) H := by
  obtain ⟨a, g, h1, h2, h3, hA, b, c, g1, g2, g3, hB, hL⟩ := h
  have hab : a.dj b := h3.mono (PH.sub.refl _) g1
  have hac : a.dj c := h3.mono (PH.sub.refl _) g2
  exact ⟨b, a.union c, g1.trans h2, PH.union_sub h1 (g2.trans h2), PH.dj_union hab.symm g3, hB,
    a, c, PH.sub_union_left _ _, PH.sub_union_right hac, hac, hA, hL⟩

def Ent (L L' : List HP) : Prop := ∀ H, SatL L H → SatL L' H
theorem Ent.refl (L : List HP) : Ent L L := fun _ h => h
theorem Ent.trans {a b c : List HP} (h : Ent a b) (g : Ent b c) : Ent a c := fun H x => g H (h H x)
theorem Ent.cons {A : HP} {L L' : List HP} (h : Ent L L') : Ent (A :: L) (A :: L') := fun _ ⟨a, b, h1, h2, h3, h4, h5⟩ => ⟨a, b, h1, h2, h3, h4, h _ h5⟩
theorem Ent.imp {A B : HP} {L : List HP} (h : ∀ g, A g → B g) : Ent (A :: L) (B :: L) := fun _ ⟨a, b, h1, h2, h3, h4, h5⟩ => ⟨a, b, h1, h2, h3, h _ h4, h5⟩
theorem Ent.append (X : List HP) {L L' : List HP} (h : Ent L L') : Ent (X ++ L) (X ++ L') := by
  induction X with
  | nil => exact h
  | cons A X ih => exact Ent.cons ih

/-- take the element at a place to the front -/
def takeAt : Nat → List HP → Option (HP × List HP)
  | _, [] => none
  | 0, A :: L => some (A, L)
  | n + 1, A :: L => match takeAt n L with
    | some (B, R) => some (B, A :: R)
    | none => none

theorem takeAt_ent {i : Nat} : ∀ {L : List HP} {A : HP} {R : List HP}, takeAt i L = some (A, R) → Ent L (A :: R) := by
  induction i with
  | zero => intro L A R h; cases L <;> simp [takeAt] at h; obtain ⟨rfl, rfl⟩ := h; exact Ent.refl _
  | succ n ih =>
    intro L A R h
    cases L with
    | nil => simp [takeAt] at h
    | cons B L =>
      simp only [takeAt] at h
      cases e : takeAt n L with
      | none => simp [e] at h
      | some p =>
        obtain ⟨C, S⟩ := p
        simp [e] at h
        obtain ⟨rfl, rfl⟩ := h
        exact (Ent.cons (ih e)).trans fun H x => x.swap


/-- some elements (each by its place among those that are left), then what is left behind the first r of the rest -/
def pick : List Nat → List HP → Option (List HP × List HP)
  | [], L => some ([], L)
  | i :: is, L => match takeAt i L with
    | some (A, R) => match pick is R with
      | some (B, S) => some (A :: B, S)
      | none => none
    | none => none

theorem pick_ent {is : List Nat} : ∀ {L B S : List HP}, pick is L = some (B, S) → Ent L (B ++ S) := by
  induction is with
  | nil => intro L B S h; simp [pick] at h; obtain ⟨rfl, rfl⟩ := h; exact Ent.refl _
  | cons i is ih =>
    intro L B S h
    simp only [pick] at h
    cases e : takeAt i L with
    | none => simp [e] at h
    | some p =>
      obtain ⟨A, R⟩ := p
      simp only [e] at h
      cases e' : pick is R with
      | none => simp [e'] at h
      | some q =>
        obtain ⟨B', S'⟩ := q
        simp [e'] at h
        obtain ⟨rfl, rfl⟩ := h
        exact (takeAt_ent e).trans (Ent.cons (ih e'))

theorem drop_ent (r : Nat) : ∀ L : List HP, Ent L (L.drop r) := by
  induction r with
  | zero => intro L; exact Ent.refl _
  | succ n ih => intro L; cases L with
    | nil => exact Ent.refl _
    | cons A L => exact Ent.trans (fun _ h => h.tail) (ih L)

/-- the elements at these places (each among those that are left), then the rest behind r that are let go -/
def arr : List Nat → Nat → List HP → List HP
  | [], r, L => L.drop r
  | i :: is, r, L => match takeAt i L with
    | some (A, R) => A :: arr is r R
    | none => []

theorem arr_ent (r : Nat) : ∀ (is : List Nat) (L : List HP), Ent L (arr is r L) := by
  intro is
  induction is with
  | nil => intro L; exact drop_ent r L
  | cons i is ih =>
    intro L
    simp only [arr]
    cases e : takeAt i L with
    | none => exact fun _ _ => trivial
    | some p => exact (takeAt_ent e).trans (Ent.cons (ih _))

/-- one block -/
def blk (b : Nat) (o : Obj) : HP := fun h => h b = some o
def PH.upd (H : PH) (b : Nat) (o : Obj) : PH := fun k => if k = b then some o else H k
theorem PH.upd_same (H : PH) (b : Nat) (o : Obj) : (H.upd b o) b = some o := if_pos rfl
theorem PH.upd_other (H : PH) {b k : Nat} (o : Obj) (h : k ≠ b) : (H.upd b o) k = H k := if_neg h

theorem SatL.blk {b : Nat} {o : Obj} {L : List HP} {H : PH} (h : SatL (Sl.blk b o :: L) H) : H b = some o := by
  obtain ⟨a, g, h1, _, _, hA, _⟩ := h
  exact h1 b o hA

theorem SatL.head {A : HP} {L : List HP} {H : PH} (h : SatL (A :: L) H) : ∃ a : PH, a.sub H ∧ A a := by
  obtain ⟨a, g, h1, _, _, hA, _⟩ := h
  exact ⟨a, h1, hA⟩

theorem SatL.put {b : Nat} {o o' : Obj} {L : List HP} {H : PH} (h : SatL (Sl.blk b o :: L) H) : SatL (Sl.blk b o' :: L) (H.upd b o') := by
  obtain ⟨a, g, h1, h2, h3, hA, hL⟩ := h
  have hg : g b = none := by
    rcases h3 b with e | e
    · have : a b = some o := hA
      rw [this] at e; cases e
    · exact e
  refine ⟨fun k => if k = b then some o' else none, g, ?_, ?_, ?_, ?_, hL⟩
  · intro k x e
    dsimp only at e
    split at e
    · rename_i hk; subst hk; cases e; exact PH.upd_same _ _ _
    · cases e
  · intro k x e
    have hk : k ≠ b := fun hk => by subst hk; rw [hg] at e; cases e
    rw [PH.upd_other _ _ hk]; exact h2 k x e
  · intro k
    by_cases hk : k = b
    · right; subst hk; exact hg
    · left; dsimp only; rw [if_neg hk]
  · show (if b = b then some o' else none) = some o'
    rw [if_pos rfl]

theorem SatL.fresh {b : Nat} {o : Obj} {L : List HP} {H : PH} (h : SatL L H) (hb : H b = none) : SatL (Sl.blk b o :: L) (H.upd b o) := by
  refine ⟨fun k => if k = b then some o else none, H, ?_, ?_, ?_, ?_, h⟩
  · intro k x e
    dsimp only at e
    split at e
    · rename_i hk; subst hk; cases e; exact PH.upd_same _ _ _
    · cases e
  · intro k x e
    have hk : k ≠ b := fun hk => by subst hk; rw [hb] at e; cases e
    rw [PH.upd_other _ _ hk]; exact e
  · intro k
    by_cases hk : k = b
    · right; subst hk; exact hb
    · left; dsimp only; rw [if_neg hk]
  · show (if b = b then some o else none) = some o
    rw [if_pos rfl]


/-- a bundle of assertions as one -/
def sep (A : List HP) : HP := fun h => SatL A h

theorem sep_open (A L : List HP) : Ent (sep A :: L) (A ++ L) := by
  induction A with
  | nil => exact fun _ h => h.tail
  | cons B A ih =>
    intro H h
    obtain ⟨a, g, h1, h2, h3, ⟨b, c, b1, b2, b3, hB, hA⟩, hL⟩ := h
    have hbg : b.dj g := h3.mono b1 (PH.sub.refl _)
    have hcg : c.dj g := h3.mono b2 (PH.sub.refl _)
    refine ⟨b, c.union g, b1.trans h1, PH.union_sub (b2.trans h1) h2, PH.dj_union b3 hbg, hB, ih _ ?_⟩
    exact ⟨c, g, PH.sub_union_left _ _, PH.sub_union_right hcg, hcg, hA, hL⟩

theorem sep_shut (A L : List HP) : Ent (A ++ L) (sep A :: L) := by
  induction A with
  | nil =>
    intro H h
    exact ⟨fun _ => none, H, (fun _ _ e => (by cases e)), PH.sub.refl _, (fun _ => Or.inl rfl), trivial, h⟩
  | cons B A ih =>
    intro H h
    obtain ⟨b, g, h1, h2, h3, hB, hr⟩ := h
    obtain ⟨a, l, a1, a2, a3, hA, hL⟩ := ih _ hr
    have hba : b.dj a := h3.mono (PH.sub.refl _) a1
    have hbl : b.dj l := h3.mono (PH.sub.refl _) a2
    exact ⟨b.union a, l, PH.union_sub h1 (a1.trans h2), a2.trans h2, (PH.dj_union hbl.symm a3.symm).symm,
      ⟨b, a, PH.sub_union_left _ _, PH.sub_union_right hba, hba, hB, hA⟩, hL⟩

/-- an assertion over something that is there -/
def ex {α : Type} (A : α → HP) : HP := fun h => ∃ x, A x h
theorem SatL.ex {α : Type} {A : α → HP} {L : List HP} {H : PH} (h : SatL (Sl.ex A :: L) H) : ∃ x, SatL (A x :: L) H := by
  obtain ⟨a, g, h1, h2, h3, ⟨x, hA⟩, hL⟩ := h
  exact ⟨x, a, g, h1, h2, h3, hA, hL⟩
theorem ex_shut {α : Type} (A : α → HP) (x : α) (L : List HP) : Ent (A x :: L) (Sl.ex A :: L) := Ent.imp fun _ h => ⟨x, h⟩

/-- a fact beside an assertion -/
def also (p : Prop) (A : HP) : HP := fun h => p ∧ A h
theorem SatL.also {p : Prop} {A : HP} {L : List HP} {H : PH} (h : SatL (Sl.also p A :: L) H) : p ∧ SatL (A :: L) H := by
  obtain ⟨a, g, h1, h2, h3, ⟨hp, hA⟩, hL⟩ := h
  exact ⟨hp, a, g, h1, h2, h3, hA, hL⟩
theorem also_shut {p : Prop} (hp : p) (A : HP) (L : List HP) : Ent (A :: L) (Sl.also p A :: L) := Ent.imp fun _ h => ⟨hp, h⟩

/- 2. worlds -/
structure Amb where
  os : Os
  tape : Nat → Question → Nat
  output : Array (Nat × ByteArray)
def ph (w : World) : PH := fun k => w.heap[k]?
def Sat (m : Amb) (L : List HP) (w : World) : Prop := w.os = m.os ∧ w.tape = m.tape ∧ w.output = m.output ∧ SatL L (ph w)
theorem Sat.ent {m : Amb} {L L' : List HP} {w : World} (h : Sat m L w) (e : Ent L L') : Sat m L' w := ⟨h.1, h.2.1, h.2.2.1, e _ h.2.2.2⟩
theorem Sat.drawn {m : Amb} {L : List HP} {w : World} (h : Sat m L w) (n : Nat) : Sat m L { w with drawn := n } := h
theorem Sat.at_ {m : Amb} {L : List HP} {w : World} {i b : Nat} {o : Obj} {R : List HP} (h : Sat m L w) (hi : takeAt i L = some (blk b o, R)) : w.heap[b]? = some o :=
  (takeAt_ent hi _ h.2.2.2).blk

theorem ph_push (w : World) (o : Obj) : ph { w with heap := w.heap.push o } = (ph w).upd w.heap.size o := by
  funext k
  unfold ph PH.upd
  show (w.heap.push o)[k]? = _
  rw [Array.getElem?_push]
theorem ph_size (w : World) : ph w w.heap.size = none := by simp [ph]

theorem Sat.new {m : Amb} {L : List HP} {w : World} (h : Sat m L w) (o : Obj) : Sat m (blk w.heap.size o :: L) { w with heap := w.heap.push o } :=
  ⟨h.1, h.2.1, h.2.2.1, by rw [ph_push]; exact h.2.2.2.fresh (ph_size w)⟩

theorem ph_setCell (w : World) (a : Addr) (v : Value) {c : Array Value} {e : TypeId} {fz : Nat × Nat} (h : w.heap[a.block]? = some (.cells c e fz)) :
    ph (w.setCell a v) = (ph w).upd a.block (.cells (if a.spot.isSome then c else c.setIfInBounds a.off v) e fz) := by
  funext k
  unfold ph PH.upd World.setCell
  simp only [Array.getElem?_modify]
  by_cases hk : k = a.block
  · subst hk
    simp only [if_true, h, Option.map_some]
  · rw [if_neg (fun e => hk e.symm), if_neg hk]

theorem ph_setObj (w : World) (r : Nat) (o o' : Obj) (h : w.heap[r]? = some o) : ph { w with heap := w.heap.setIfInBounds r o' } = (ph w).upd r o' := by
  funext k
  unfold ph PH.upd
  show (w.heap.setIfInBounds r o')[k]? = _
  have hr : r < w.heap.size := (Array.getElem?_eq_some_iff.1 h).1
  rw [Array.getElem?_setIfInBounds]
  by_cases hk : k = r
  · subst hk
    simp only [hr, if_true]
  · rw [if_neg (fun e => hk e.symm), if_neg hk]

theorem Sat.set {m : Amb} {i : Nat} {L R : List HP} {w : World} {a : Addr} {c : Array Value} {e : TypeId} {fz : Nat × Nat} (h : Sat m L w)
    (hi : takeAt i L = some (blk a.block (.cells c e fz), R)) (hs : a.spot = none) (v : Value) : Sat m (blk a.block (.cells (c.setIfInBounds a.off v) e fz) :: R) (w.setCell a v) := by
  refine ⟨h.1, h.2.1, h.2.2.1, ?_⟩
  rw [ph_setCell w a v (h.at_ hi), hs]
  exact (takeAt_ent hi _ h.2.2.2).put

theorem Sat.setObj {m : Amb} {i : Nat} {L R : List HP} {w : World} {r : Nat} {o : Obj} (h : Sat m L w)
    (hi : takeAt i L = some (blk r o, R)) (o' : Obj) : Sat m (blk r o' :: R) { w with heap := w.heap.setIfInBounds r o' } := by
  refine ⟨h.1, h.2.1, h.2.2.1, ?_⟩
  rw [ph_setObj w r o o' (h.at_ hi)]
  exact (takeAt_ent hi _ h.2.2.2).put


/- 3. frames -/
abbrev Env := List (Nat × Value)
def lk : Env → Nat → Option Value
  | [], _ => none
  | (k, v) :: σ, x => match Nat.beq k x with
    | true => some v
    | false => lk σ x
def Agr (σ : Env) (t : Array Value) : Prop := ∀ x v, lk σ x = some v → t[x]? = some v
def covL : Env → Env → Prop
  | [], _ => True
  | (x, v) :: σ', σ => lk σ x = some v ∧ covL σ' σ
theorem ltOf {d n : Nat} (h : Nat.blt d n = true) : d < n := Nat.le_of_ble_eq_true h
theorem covL.agr {σ' σ : Env} {t : Array Value} (h : covL σ' σ) (g : Agr σ t) : Agr σ' t := by
  induction σ' with
  | nil => intro x v e; cases e
  | cons p σ' ih =>
    obtain ⟨k, u⟩ := p
    intro x v e
    simp only [lk] at e
    split at e
    · rename_i hk
      have hk := Nat.eq_of_beq_eq_true hk
      subst hk
      cases e
      exact g _ _ h.1
    · exact ih h.2 x v e

theorem Agr.put {σ : Env} {t : Array Value} (h : Agr σ t) {d : Nat} (hd : d < t.size) (v : Value) : Agr ((d, v) :: σ) (t.setIfInBounds d v) := by
  intro x u e
  simp only [lk] at e
  split at e
  · rename_i hk
    have hk := Nat.eq_of_beq_eq_true hk
    subst hk
    cases e
    simp [hd]
  · rename_i hk
    have hk : d ≠ x := fun e' => by subst e'; rw [Nat.beq_refl] at hk; cases hk
    rw [Array.getElem?_setIfInBounds_ne hk]
    exact h x u e

def opd (σ : Env) : Operand → Option Value
  | .tmp t => lk σ t
  | .const v => some v
  | .global g => some (.pointer (some ⟨g, 0, none⟩))
  | .func f => some (.func (.func f) #[] #[])

theorem opd_eval {σ : Env} {a : Act} {x : Operand} {v : Value} (h : Agr σ a.tmps) (e : opd σ x = some v) : a.eval x = v := by
  cases x with
  | tmp t => simp only [opd] at e; have := h t v e; simp [Act.eval, this]
  | const u => simp only [opd] at e; cases e; rfl
  | global g => simp only [opd] at e; cases e; rfl
  | func f => simp only [opd] at e; cases e; rfl

/-- what holds in every frame and world that agree -/
def G (n : Nat) (ds : List Deferred) (σ : Env) (m : Amb) (L : List HP) (Φ : Act → World → Prop) : Prop :=
  ∀ a w, a.defers = ds → a.tmps.size = n → Agr σ a.tmps → Sat m L w → Φ a w

section
variable {P : Program} {n : Nat} {ds : List Deferred} {σ : Env} {m : Amb} {L : List HP} {Q : Exit → Act → World → Prop} {ops : Array Oper}

theorem G.ent {Φ : Act → World → Prop} {L' : List HP} (e : Ent L L') (g : G n ds σ m L' Φ) : G n ds σ m L Φ :=
  fun a w h1 h2 h3 h4 => g a w h1 h2 h3 (h4.ent e)
theorem G.mono {Φ Ψ : Act → World → Prop} (g : G n ds σ m L Φ) (h : ∀ a w, Φ a w → Ψ a w) : G n ds σ m L Ψ :=
  fun a w h1 h2 h3 h4 => h _ _ (g a w h1 h2 h3 h4)
theorem G.exE {α : Type} {A : α → HP} {Φ : Act → World → Prop} (h : ∀ x, G n ds σ m (A x :: L) Φ) : G n ds σ m (Sl.ex A :: L) Φ :=
  fun a w h1 h2 h3 h4 => let ⟨x, hx⟩ := h4.2.2.2.ex; h x a w h1 h2 h3 ⟨h4.1, h4.2.1, h4.2.2.1, hx⟩
theorem G.alsoE {p : Prop} {A : HP} {Φ : Act → World → Prop} (h : p → G n ds σ m (A :: L) Φ) : G n ds σ m (Sl.also p A :: L) Φ :=
  fun a w h1 h2 h3 h4 => let ⟨hp, hx⟩ := h4.2.2.2.also; h hp a w h1 h2 h3 ⟨h4.1, h4.2.1, h4.2.2.1, hx⟩
/-- a fact that the heap shows -/
theorem G.fact {p : Prop} {Φ : Act → World → Prop} (hp : ∀ H, SatL L H → p) (h : p → G n ds σ m L Φ) : G n ds σ m L Φ :=
  fun a w h1 h2 h3 h4 => h (hp _ h4.2.2.2) a w h1 h2 h3 h4

/- code -/
theorem c_seq {x y : Code} (h : G n ds σ m L (x.wp P (Exit.then (y.wp P Q) Q))) : G n ds σ m L ((Code.seq x y).wp P Q) :=
  fun a w h1 h2 h3 h4 => wp_seq (h a w h1 h2 h3 h4)
theorem c_block {id : Nat} {c : Code} (h : G n ds σ m L (c.wp P (Exit.inBlock id Q))) : G n ds σ m L ((Code.block id c).wp P Q) :=
  fun a w h1 h2 h3 h4 => wp_block (h a w h1 h2 h3 h4)
theorem c_ret (h : G n ds σ m L (Q .ret)) : G n ds σ m L (Code.ret.wp P Q) := fun a w h1 h2 h3 h4 => wp_ret (h a w h1 h2 h3 h4)
theorem c_skip (h : G n ds σ m L (Q .normal)) : G n ds σ m L (Code.skip.wp P Q) := fun a w h1 h2 h3 h4 => wp_skip (h a w h1 h2 h3 h4)
theorem c_exit {id : Nat} (h : G n ds σ m L (Q (.exit id))) : G n ds σ m L ((Code.exit id).wp P Q) := fun a w h1 h2 h3 h4 => wp_exit (h a w h1 h2 h3 h4)
theorem c_goto {l : Nat} (h : G n ds σ m L (Q (.goto l))) : G n ds σ m L ((Code.goto l).wp P Q) := fun a w h1 h2 h3 h4 => wp_goto (h a w h1 h2 h3 h4)
theorem c_label {l : Nat} (h : G n ds σ m L (Q .normal)) : G n ds σ m L ((Code.label l).wp P Q) := fun a w h1 h2 h3 h4 => wp_label (h a w h1 h2 h3 h4)
theorem c_cond {c : Operand} {x y : Code} {b : Bool} (hc : opd σ c = some (.bool b)) (ht : b = true → G n ds σ m L (x.wp P Q)) (hf : b = false → G n ds σ m L (y.wp P Q)) :
    G n ds σ m L ((Code.cond c x y).wp P Q) := fun a w h1 h2 h3 h4 => by
  refine wp_cond_split (t := b) (opd_eval h3 hc) (fun e => ht e a w h1 h2 h3 h4) (fun e => hf e a w h1 h2 h3 h4)
theorem c_condT {c : Operand} {x y : Code} (hc : opd σ c = some (.bool true)) (ht : G n ds σ m L (x.wp P Q)) :
    G n ds σ m L ((Code.cond c x y).wp P Q) := fun a w h1 h2 h3 h4 => wp_cond_true (opd_eval h3 hc) (ht a w h1 h2 h3 h4)
theorem c_condF {c : Operand} {x y : Code} (hc : opd σ c = some (.bool false)) (hf : G n ds σ m L (y.wp P Q)) :
    G n ds σ m L ((Code.cond c x y).wp P Q) := fun a w h1 h2 h3 h4 => wp_cond_false (opd_eval h3 hc) (hf a w h1 h2 h3 h4)
/- exits -/
theorem q_then_n {K : Act → World → Prop} (h : G n ds σ m L K) : G n ds σ m L (Exit.then K Q .normal) := h
theorem q_then_x {K : Act → World → Prop} {id : Nat} (h : G n ds σ m L (Q (.exit id))) : G n ds σ m L (Exit.then K Q (.exit id)) := h
theorem q_then_g {K : Act → World → Prop} {id : Nat} (h : G n ds σ m L (Q (.goto id))) : G n ds σ m L (Exit.then K Q (.goto id)) := h
theorem q_then_r {K : Act → World → Prop} (h : G n ds σ m L (Q .ret)) : G n ds σ m L (Exit.then K Q .ret) := h
theorem q_then_p {K : Act → World → Prop} {c : List PanicEntry} (h : G n ds σ m L (Q (.panic c))) : G n ds σ m L (Exit.then K Q (.panic c)) := h
theorem q_block_n {i : Nat} (h : G n ds σ m L (Q .normal)) : G n ds σ m L (Exit.inBlock i Q .normal) := h
theorem q_block_x {i : Nat} (h : G n ds σ m L (Q .normal)) : G n ds σ m L (Exit.inBlock i Q (.exit i)) := fun a w h1 h2 h3 h4 => by
  show (if i = i then Q .normal a w else Q (.exit i) a w); rw [if_pos rfl]; exact h a w h1 h2 h3 h4
theorem q_block_y {i j : Nat} (hij : Nat.beq j i = false) (h : G n ds σ m L (Q (.exit j))) : G n ds σ m L (Exit.inBlock i Q (.exit j)) := fun a w h1 h2 h3 h4 => by
  have hne : j ≠ i := fun e => by subst e; rw [Nat.beq_refl] at hij; cases hij
  show (if j = i then Q .normal a w else Q (.exit j) a w); rw [if_neg hne]; exact h a w h1 h2 h3 h4
theorem q_block_g {i l : Nat} (h : G n ds σ m L (Q (.goto l))) : G n ds σ m L (Exit.inBlock i Q (.goto l)) := h
theorem q_block_r {i : Nat} (h : G n ds σ m L (Q .ret)) : G n ds σ m L (Exit.inBlock i Q .ret) := h
theorem q_block_p {i : Nat} {c : List PanicEntry} (h : G n ds σ m L (Q (.panic c))) : G n ds σ m L (Exit.inBlock i Q (.panic c)) := h

/- meeting again -/
def At {α : Type} (n : Nat) (ds : List Deferred) (m : Amb) (S : α → Env) (H : α → List HP) (J : α → Prop) : Act → World → Prop :=
  fun a w => ∃ y, J y ∧ a.defers = ds ∧ a.tmps.size = n ∧ Agr (S y) a.tmps ∧ Sat m (H y) w
theorem at_intro {α : Type} {S : α → Env} {H : α → List HP} {J : α → Prop} (y : α) (hJ : J y) (hS : covL (S y) σ) (hH : Ent L (H y)) : G n ds σ m L (At n ds m S H J) :=
  fun _ _ h1 h2 h3 h4 => ⟨y, hJ, h1, h2, hS.agr h3, h4.ent hH⟩
theorem c_cut {α : Type} {x y : Code} (S : α → Env) (H : α → List HP) (J : α → Prop) (hx : G n ds σ m L (x.wp P (Exit.then (At n ds m S H J) Q)))
    (hy : ∀ z, J z → G n ds (S z) m (H z) (y.wp P Q)) : G n ds σ m L ((Code.seq x y).wp P Q) := fun a w h1 h2 h3 h4 => by
  refine wp_seq (wp_mono (hx a w h1 h2 h3 h4) fun e a' w' q => ?_)
  cases e with
  | normal => obtain ⟨z, hJ, g1, g2, g3, g4⟩ := q; exact hy z hJ a' w' g1 g2 g3 g4
  | _ => exact q
theorem c_loop {α : Type} {c : Code} (S : α → Env) (H : α → List HP) (I : α → Prop) (μ : α → Nat) (x0 : α) (h0 : I x0) (hS : covL (S x0) σ) (hH : Ent L (H x0))
    (round : ∀ x, I x → G n ds (S x) m (H x) (c.wp P (Exit.then (At n ds m S H fun y => I y ∧ μ y < μ x) Q))) : G n ds σ m L ((Code.loop c).wp P Q) := fun a w h1 h2 h3 h4 => by
  intro b k cs
  have key : ∀ r x a w, μ x = r → I x → a.defers = ds → a.tmps.size = n → Agr (S x) a.tmps → Sat m (H x) w →
      ∃ e a' w', Q e a' w' ∧ Arrives P (lone (b.at a (.code c :: .inLoop c :: k)) cs w) b k cs e a' w' := by
    intro r
    induction r using Nat.strongRecOn with
    | _ r ih =>
      intro x a w hr hI g1 g2 g3 g4
      obtain ⟨e, a₁, w₁, hq, harr⟩ := round x hI a w g1 g2 g3 g4 b (.inLoop c :: k) cs
      cases e with
      | normal =>
        obtain ⟨y, ⟨hy, hlt⟩, k1, k2, k3, k4⟩ := hq
        obtain ⟨e₂, a₂, w₂, hq₂, harr₂⟩ := ih (μ y) (hr ▸ hlt) y a₁ w₁ rfl hy k1 k2 k3 k4
        exact ⟨e₂, a₂, w₂, hq₂, .of_steps (Steps.trans harr (.one step_inLoop)) harr₂⟩
      | exit id => exact ⟨_, a₁, w₁, hq, .pass (x := .inLoop c) rfl (fun _ _ => .inl (by simp)) harr⟩
      | goto l => exact ⟨_, a₁, w₁, hq, .pass (x := .inLoop c) rfl (fun _ _ => .inl (by simp)) harr⟩
      | ret => exact ⟨_, a₁, w₁, hq, .pass (x := .inLoop c) rfl (fun _ _ => .inl (by simp)) harr⟩
      | panic ch => exact ⟨_, a₁, w₁, hq, .pass (x := .inLoop c) rfl (fun _ _ => .inl (by simp)) harr⟩
      | outgrown => exact ⟨_, a₁, w₁, hq, .pass (x := .inLoop c) rfl (fun _ _ => .inl (by simp)) harr⟩
  obtain ⟨e, a', w', hq, harr⟩ := key _ x0 a w rfl h0 h1 h2 (hS.agr h3) (h4.ent hH)
  exact ⟨e, a', w', hq, .of_steps (.one step_loop) harr⟩

/- regions -/
theorem c_region {id : Nat} {l : List Oper} (h : G n ds σ m L (wpList P l.toArray Q l)) : G n ds σ m L ((Code.region id l.toArray false).wp P Q) :=
  fun a w h1 h2 h3 h4 => wp_region_lit (h a w h1 h2 h3 h4)
theorem l_nil (h : G n ds σ m L (Q .normal)) : G n ds σ m L (wpList P ops Q []) := h
/-- one operation that is carried out -/
def St (P : Program) (o : Oper) (K : Act → World → Prop) (Q : Exit → Act → World → Prop) : Act → World → Prop := fun a w => o.wp P a w K Q
theorem l_plain {o : Oper} {rest : List Oper} (hg : o.guard = none) (h : G n ds σ m L (St P o (wpList P ops Q rest) Q)) : G n ds σ m L (wpList P ops Q (o :: rest)) :=
  fun a w h1 h2 h3 h4 => by
    unfold wpList
    rw [if_pos (by simp [Region.wanted, hg])]
    exact .inl (h a w h1 h2 h3 h4)
theorem wanted_of {o : Oper} {j d : Nat} {want b : Bool} {a : Act} (hg : o.guard = some (j, want)) (hj : (ops[j]?).bind (·.dst) = some d) (hb : lk σ d = some (.bool b)) (h : Agr σ a.tmps) :
    Region.wanted o (yielded ops a.tmps) = (b == want) := by
  have := h d _ hb
  simp [Region.wanted, hg, yielded, hj, this]
theorem unwanted_of {o : Oper} {j d : Nat} {want : Bool} {a : Act} (hg : o.guard = some (j, want)) (hj : (ops[j]?).bind (·.dst) = some d) (hb : lk σ d = some undef) (h : Agr σ a.tmps) :
    Region.wanted o (yielded ops a.tmps) = false := by
  have := h d _ hb
  simp [Region.wanted, hg, yielded, hj, this, undef]
theorem l_yes {o : Oper} {rest : List Oper} {j d : Nat} {want : Bool} (hg : o.guard = some (j, want)) (hj : (ops[j]?).bind (·.dst) = some d) (hb : lk σ d = some (.bool want))
    (h : G n ds σ m L (St P o (wpList P ops Q rest) Q)) : G n ds σ m L (wpList P ops Q (o :: rest)) :=
  fun a w h1 h2 h3 h4 => by
    unfold wpList
    rw [if_pos (by rw [wanted_of hg hj hb h3]; cases want <;> rfl)]
    exact .inl (h a w h1 h2 h3 h4)
theorem l_no {o : Oper} {rest : List Oper} {j d k : Nat} {want b : Bool} (hg : o.guard = some (j, want)) (hd : o.dst = some k) (hk : Nat.blt k n = true) (hj : (ops[j]?).bind (·.dst) = some d) (hb : lk σ d = some (.bool b)) (hne : (b == want) = false)
    (h : G n ds ((k, undef) :: σ) m L (wpList P ops Q rest)) : G n ds σ m L (wpList P ops Q (o :: rest)) :=
  fun a w h1 h2 h3 h4 => by
    unfold wpList
    rw [if_neg (by rw [wanted_of hg hj hb h3, hne]; simp)]
    have hk : k < a.tmps.size := by rw [h2]; exact ltOf hk
    refine h _ w ?_ ?_ ?_ h4
    · simp [Act.put, hd, h1]
    · simp [Act.put, hd, h2]
    · simp only [Act.put, hd]; exact h3.put hk _
theorem l_noU {o : Oper} {rest : List Oper} {j d k : Nat} {want : Bool} (hg : o.guard = some (j, want)) (hd : o.dst = some k) (hk : Nat.blt k n = true) (hj : (ops[j]?).bind (·.dst) = some d) (hb : lk σ d = some undef)
    (h : G n ds ((k, undef) :: σ) m L (wpList P ops Q rest)) : G n ds σ m L (wpList P ops Q (o :: rest)) :=
  fun a w h1 h2 h3 h4 => by
    unfold wpList
    rw [if_neg (by rw [unwanted_of hg hj hb h3]; simp)]
    have hk : k < a.tmps.size := by rw [h2]; exact ltOf hk
    refine h _ w ?_ ?_ ?_ h4
    · simp [Act.put, hd, h1]
    · simp [Act.put, hd, h2]
    · simp only [Act.put, hd]; exact h3.put hk _

/- what an operation yields that leaves the world alone -/
def RunS (P : Program) (o : Oper) (σ : Env) (v : Value) : Prop := ∀ (a : Act) (w : World), Agr σ a.tmps → (execOp a.eval o).run P w = .ok (.value v) w
def RunV (P : Program) (o : Oper) (σ : Env) (m : Amb) (L : List HP) (v : Value) : Prop := ∀ (a : Act) (w : World), Agr σ a.tmps → Sat m L w → (execOp a.eval o).run P w = .ok (.value v) w
theorem RunS.v {o : Oper} {v : Value} (h : RunS P o σ v) : RunV P o σ m L v := fun a w g _ => h a w g

theorem s_val {K : Act → World → Prop} {o : Oper} {d : Nat} {v : Value} (hd : o.dst = some d) (hk : Nat.blt d n = true) (hr : RunV P o σ m L v) (h : G n ds ((d, v) :: σ) m L K) :
    G n ds σ m L (St P o K Q) := fun a w h1 h2 h3 h4 => by
  have hk : d < a.tmps.size := by rw [h2]; exact ltOf hk
  show Oper.upon P o a K Q _
  rw [hr a w h3 h4]
  show K (a.put o.dst v) w
  rw [hd]
  exact h _ w h1 (by simp [Act.put, h2]) (h3.put hk v) h4
end

/- 4. what the program's tables say, found by the type's number -/
class TyU (P : Program) (t : TypeId) (d : outParam TypeDesc) : Prop where
  h : P.underlying t = some d
class TyI (P : Program) (t : TypeId) (size bytes : outParam Nat) (zero : outParam Value) : Prop where
  h : ∃ i, P.info? t = some i ∧ i.size = size ∧ i.bytes = bytes ∧ i.zero = some zero
class EnF (P : Program) (f : FuncId) : Prop where
  h : ∀ args w, (callFunc f args).run P w = .ok (.enter f args) w
class Meth (P : Program) (t : TypeId) (name : String) (f : outParam FuncId) : Prop where
  h : ∀ v w, (method (P.types.size + Made.depth) t v name).run P w = .ok (f, v) w

theorem TyI.of {P : Program} {t : TypeId} {s b : Nat} {z : Value} (h : (P.info? t).map (fun i => (i.zero, i.size, i.bytes)) = some (some z, s, b)) : TyI P t s b z := by
  cases hi : P.info? t with
  | none => simp [hi] at h
  | some i =>
    simp [hi] at h
    exact ⟨i, hi, h.2.1, h.2.2, h.1⟩
theorem EnF.of {P : Program} {f : FuncId} {fn : Func} (hf : P.funcs[f]? = some fn) (hn : (fn.name == "runtime.NumGoroutine") = false) (hb : fn.body.isNone = false) : EnF P f :=
  ⟨fun args w => by simp only [callFunc, Sem.run_bind, run_program, Result.andThen_ok, hf, hn, hb, Bool.false_eq_true, if_false, Sem.run_pure]⟩
theorem run_sizeOf {P : Program} {t : TypeId} {s b : Nat} {z : Value} (h : TyI P t s b z) (w : World) : (sizeOf t).run P w = .ok s w := by
  obtain ⟨i, hi, h1, h2, h3⟩ := h.h
  simp [sizeOf, typeInfo, hi, h1]
theorem run_zeroValue {P : Program} {t : TypeId} {s b : Nat} {z : Value} (h : TyI P t s b z) (w : World) : (zeroValue t).run P w = .ok z w := by
  obtain ⟨i, hi, h1, h2, h3⟩ := h.h
  simp [zeroValue, typeInfo, hi, h3]
theorem run_und {P : Program} {t : TypeId} {d : TypeDesc} (h : TyU P t d) (w : World) : (underlying t).run P w = .ok d w := run_underlying h.h w

section
variable {P : Program} {σ : Env} {m : Amb} {L : List HP} {d : Option Tmp} {ty : TypeId} {pos : String} {aft : Array Edge} {gd : Option (Nat × Bool)}

theorem r_move {x : Operand} {v : Value} (h : opd σ x = some v) : RunS P ⟨d, .move x, ty, pos, aft, gd⟩ σ v := fun a w g => by
  simp only [execOp, opd_eval g h]; rfl
theorem r_assign {x : Operand} {v : Value} (h : opd σ x = some v) : RunS P ⟨d, .assign x, ty, pos, aft, gd⟩ σ v := fun a w g => by
  simp only [execOp, opd_eval g h]; rfl
theorem r_pickT {c x y : Operand} {v : Value} (hc : opd σ c = some (.bool true)) (h : opd σ x = some v) : RunS P ⟨d, .pick c x y, ty, pos, aft, gd⟩ σ v := fun a w g => by
  simp only [execOp, opd_eval g hc, opd_eval g h]; rfl
theorem r_pickF {c x y : Operand} {v : Value} (hc : opd σ c = some (.bool false)) (h : opd σ y = some v) : RunS P ⟨d, .pick c x y, ty, pos, aft, gd⟩ σ v := fun a w g => by
  simp only [execOp, opd_eval g hc, opd_eval g h]; rfl

/- whole numbers -/
section
variable {x y : Operand} {k : IntKind} {a b : Int} {t u : TypeId}
theorem r_bin {op : BinOp} {v : Value} (hx : opd σ x = some (.int k a)) (hy : opd σ y = some (.int k b))
    (h : ∀ w, (binOp op t (.int k a) (.int k b)).run P w = .ok v w) : RunS P ⟨d, .binOp op t x y u, ty, pos, aft, gd⟩ σ v := fun c w g => by
  simp only [execOp, opd_eval g hx, opd_eval g hy, eqGuard]
  cases op <;> simp [h]
theorem r_add (hx : opd σ x = some (.int k a)) (hy : opd σ y = some (.int k b)) : RunS P ⟨d, .binOp .add t x y u, ty, pos, aft, gd⟩ σ (.int k (k.wrap (a + b))) :=
  r_bin hx hy fun w => by simp [binOp, Op.intArith]
theorem r_sub (hx : opd σ x = some (.int k a)) (hy : opd σ y = some (.int k b)) : RunS P ⟨d, .binOp .sub t x y u, ty, pos, aft, gd⟩ σ (.int k (k.wrap (a - b))) :=
  r_bin hx hy fun w => by simp [binOp, Op.intArith]
theorem r_mul (hx : opd σ x = some (.int k a)) (hy : opd σ y = some (.int k b)) : RunS P ⟨d, .binOp .mul t x y u, ty, pos, aft, gd⟩ σ (.int k (k.wrap (a * b))) :=
  r_bin hx hy fun w => by simp [binOp, Op.intArith]
theorem wrap_i64 {n : Int} (h : -9223372036854775808 ≤ n ∧ n ≤ 9223372036854775807) : IntKind.i64.wrap n = n := by
  unfold IntKind.wrap
  simp only [show IntKind.i64.bits = 64 from rfl, show IntKind.i64.signed = true from rfl, Bool.true_and]
  have e : (2 : Int) ^ 64 = 18446744073709551616 := by decide
  have e' : (2 : Int) ^ (64 - 1) = 9223372036854775808 := by decide
  simp only [e, e', ge_iff_le, decide_eq_true_eq]
  split <;> omega
theorem r_add64 (hx : opd σ x = some (.int .i64 a)) (hy : opd σ y = some (.int .i64 b)) (h : -9223372036854775808 ≤ a + b ∧ a + b ≤ 9223372036854775807) :
    RunS P ⟨d, .binOp .add t x y u, ty, pos, aft, gd⟩ σ (.int .i64 (a + b)) := by have := r_add (P := P) (d := d) (t := t) (u := u) (ty := ty) (pos := pos) (aft := aft) (gd := gd) hx hy; rwa [wrap_i64 h] at this
theorem r_sub64 (hx : opd σ x = some (.int .i64 a)) (hy : opd σ y = some (.int .i64 b)) (h : -9223372036854775808 ≤ a - b ∧ a - b ≤ 9223372036854775807) :
    RunS P ⟨d, .binOp .sub t x y u, ty, pos, aft, gd⟩ σ (.int .i64 (a - b)) := by have := r_sub (P := P) (d := d) (t := t) (u := u) (ty := ty) (pos := pos) (aft := aft) (gd := gd) hx hy; rwa [wrap_i64 h] at this
theorem r_mul64 (hx : opd σ x = some (.int .i64 a)) (hy : opd σ y = some (.int .i64 b)) (h : -9223372036854775808 ≤ a * b ∧ a * b ≤ 9223372036854775807) :
    RunS P ⟨d, .binOp .mul t x y u, ty, pos, aft, gd⟩ σ (.int .i64 (a * b)) := by have := r_mul (P := P) (d := d) (t := t) (u := u) (ty := ty) (pos := pos) (aft := aft) (gd := gd) hx hy; rwa [wrap_i64 h] at this
theorem r_lss (hx : opd σ x = some (.int k a)) (hy : opd σ y = some (.int k b)) : RunS P ⟨d, .binOp .lss t x y u, ty, pos, aft, gd⟩ σ (.bool (decide (a < b))) :=
  r_bin hx hy fun w => by simp [binOp, Op.intCmp]
theorem r_leq (hx : opd σ x = some (.int k a)) (hy : opd σ y = some (.int k b)) : RunS P ⟨d, .binOp .leq t x y u, ty, pos, aft, gd⟩ σ (.bool (decide (a ≤ b))) :=
  r_bin hx hy fun w => by simp [binOp, Op.intCmp]
theorem r_gtr (hx : opd σ x = some (.int k a)) (hy : opd σ y = some (.int k b)) : RunS P ⟨d, .binOp .gtr t x y u, ty, pos, aft, gd⟩ σ (.bool (decide (b < a))) :=
  r_bin hx hy fun w => by simp [binOp, Op.intCmp]
theorem r_geq (hx : opd σ x = some (.int k a)) (hy : opd σ y = some (.int k b)) : RunS P ⟨d, .binOp .geq t x y u, ty, pos, aft, gd⟩ σ (.bool (decide (b ≤ a))) :=
  r_bin hx hy fun w => by simp [binOp, Op.intCmp]
theorem r_eql (hx : opd σ x = some (.int k a)) (hy : opd σ y = some (.int k b)) : RunS P ⟨d, .binOp .eql t x y u, ty, pos, aft, gd⟩ σ (.bool (decide (a = b))) :=
  r_bin hx hy fun w => by simp [binOp, Op.intCmp, BEq.beq]
theorem r_neq (hx : opd σ x = some (.int k a)) (hy : opd σ y = some (.int k b)) : RunS P ⟨d, .binOp .neq t x y u, ty, pos, aft, gd⟩ σ (.bool (!decide (a = b))) :=
  r_bin hx hy fun w => by simp [binOp, Op.intCmp, bne, BEq.beq]
theorem r_bits {op : BinOp} {r : Int} (hx : opd σ x = some (.int k a)) (hy : opd σ y = some (.int k b)) (h : ∀ w, (Op.intBits op k a b).run P w = .ok (.int k r) w)
    (ho : op = .and ∨ op = .or ∨ op = .xor ∨ op = .andNot) : RunS P ⟨d, .binOp op t x y u, ty, pos, aft, gd⟩ σ (.int k r) :=
  r_bin hx hy fun w => by rcases ho with rfl | rfl | rfl | rfl <;> simp [binOp, h]
theorem r_shr {j : IntKind} {c : Int} (hx : opd σ x = some (.int k a)) (hy : opd σ y = some (.int j c)) (h : 0 ≤ c) : RunS P ⟨d, .binOp .shr t x y u, ty, pos, aft, gd⟩ σ (.int k (a.fdiv (2 ^ (min c.toNat k.bits)))) := fun e w g => by
  simp only [execOp, opd_eval g hx, opd_eval g hy, eqGuard]
  simp [binOp, Op.shift, Int.not_lt.2 h]
theorem r_shl {j : IntKind} {c : Int} (hx : opd σ x = some (.int k a)) (hy : opd σ y = some (.int j c)) (h : 0 ≤ c) : RunS P ⟨d, .binOp .shl t x y u, ty, pos, aft, gd⟩ σ (.int k (k.wrap (a * 2 ^ (min c.toNat k.bits)))) := fun e w g => by
  simp only [execOp, opd_eval g hx, opd_eval g hy, eqGuard]
  simp [binOp, Op.shift, Int.not_lt.2 h]
theorem r_conv {s e : TypeId} {j : IntKind} {p : TypeDesc} (hx : opd σ x = some (.int k a)) [h1 : TyU P s p] [h2 : TyU P e (.int j)] : RunS P ⟨d, .convert s e x, ty, pos, aft, gd⟩ σ (.int j (j.wrap a)) := fun c w g => by
  simp only [execOp, opd_eval g hx]
  simp [convert, run_und h1, run_und h2, Conv.intToInt]
theorem r_not {b : Bool} (hx : opd σ x = some (.bool b)) : RunS P ⟨d, .unOp .not t x, ty, pos, aft, gd⟩ σ (.bool (!b)) := fun c w g => by
  simp only [execOp, opd_eval g hx]
  simp [Op.unary]
theorem r_max {T : Array TypeId} (hx : opd σ x = some (.int k a)) (hy : opd σ y = some (.int k b)) : RunS P ⟨d, .call ⟨.builtin .max, #[x, y], T⟩, ty, pos, aft, gd⟩ σ (.int k (max a b)) := fun c w g => by
  simp only [execOp, resolve, List.map_toArray, List.map_cons, List.map_nil, opd_eval g hx, opd_eval g hy]
  simp [invoke, builtin, Builtin.max_, Builtin.max2]
  split <;> omega
theorem r_min {T : Array TypeId} (hx : opd σ x = some (.int k a)) (hy : opd σ y = some (.int k b)) : RunS P ⟨d, .call ⟨.builtin .min, #[x, y], T⟩, ty, pos, aft, gd⟩ σ (.int k (min a b)) := fun c w g => by
  simp only [execOp, resolve, List.map_toArray, List.map_cons, List.map_nil, opd_eval g hx, opd_eval g hy]
  simp [invoke, builtin, Builtin.min_, Builtin.min2]
  split <;> omega
end
/- strings, bools, nil -/
section
variable {x y : Operand} {t u : TypeId}
theorem r_str {op : BinOp} {s r : ByteArray} {v : Value} (hx : opd σ x = some (.string s)) (hy : opd σ y = some (.string r)) (h : ∀ w, (Op.stringOp op s r).run P w = .ok v w)
    (ho : op ≠ .shl ∧ op ≠ .shr) : RunS P ⟨d, .binOp op t x y u, ty, pos, aft, gd⟩ σ v := fun c w g => by
  simp only [execOp, opd_eval g hx, opd_eval g hy, eqGuard]
  cases op <;> simp_all [binOp]
theorem r_strEq {s r : ByteArray} (hx : opd σ x = some (.string s)) (hy : opd σ y = some (.string r)) : RunS P ⟨d, .binOp .eql t x y u, ty, pos, aft, gd⟩ σ (.bool (s.toList == r.toList)) :=
  r_str hx hy (fun w => by simp [Op.stringOp]) (by simp)
theorem r_strNe {s r : ByteArray} (hx : opd σ x = some (.string s)) (hy : opd σ y = some (.string r)) : RunS P ⟨d, .binOp .neq t x y u, ty, pos, aft, gd⟩ σ (.bool !(s.toList == r.toList)) :=
  r_str hx hy (fun w => by simp [Op.stringOp]) (by simp)
theorem run_eq_of {t : TypeId} {x y : Value} {r : Bool} (h : ∀ dd w, (Op.equalIn (dd + 1) t x y).run P w = .ok r w) (w : World) : (Op.equal t x y).run P w = .ok r w := h 9999 w
theorem q_bool {p q : Bool} (h : TyU P t .bool) (dd : Nat) (w : World) : (Op.equalIn (dd + 1) t (.bool p) (.bool q)).run P w = .ok (p == q) w := by simp [Op.equalIn, run_und h]
theorem q_IN {ms : Array (String × TypeId)} {T : TypeId} {v : Value} (h : TyU P t (.interface ms)) (dd : Nat) (w : World) : (Op.equalIn (dd + 1) t (.iface T v) .nilIface).run P w = .ok false w := by simp [Op.equalIn, run_und h]
theorem q_NI {ms : Array (String × TypeId)} {T : TypeId} {v : Value} (h : TyU P t (.interface ms)) (dd : Nat) (w : World) : (Op.equalIn (dd + 1) t .nilIface (.iface T v)).run P w = .ok false w := by simp [Op.equalIn, run_und h]
theorem q_NN {ms : Array (String × TypeId)} (h : TyU P t (.interface ms)) (dd : Nat) (w : World) : (Op.equalIn (dd + 1) t .nilIface .nilIface).run P w = .ok true w := by simp [Op.equalIn, run_und h]
theorem q_PN {e : TypeId} {p : Option Addr} (h : TyU P t (.pointer e)) (dd : Nat) (w : World) : (Op.equalIn (dd + 1) t (.pointer p) (.pointer none)).run P w = .ok p.isNone w := by cases p <;> simp [Op.equalIn, run_und h]
theorem q_FN {ps rs : Array TypeId} {vd : Bool} {fn : Fn} {a b : Array Value} (h : TyU P t (.func ps rs vd)) (dd : Nat) (w : World) : (Op.equalIn (dd + 1) t (.func fn a b) .nilFunc).run P w = .ok false w := by simp [Op.equalIn, run_und h]
theorem q_NF {ps rs : Array TypeId} {vd : Bool} (h : TyU P t (.func ps rs vd)) (dd : Nat) (w : World) : (Op.equalIn (dd + 1) t .nilFunc .nilFunc).run P w = .ok true w := by simp [Op.equalIn, run_und h]
theorem r_eqBool {p q : Bool} (hx : opd σ x = some (.bool p)) (hy : opd σ y = some (.bool q)) [h : TyU P t .bool] : RunS P ⟨d, .binOp .eql t x y u, ty, pos, aft, gd⟩ σ (.bool (p == q)) := fun c w g => by
  simp only [execOp, opd_eval g hx, opd_eval g hy, eqGuard, binOp]; simp [run_eq_of (q_bool h)]
theorem r_eqIN {ms : Array (String × TypeId)} {T : TypeId} {v : Value} (hx : opd σ x = some (.iface T v)) (hy : opd σ y = some .nilIface) [h : TyU P t (.interface ms)] :
    RunS P ⟨d, .binOp .eql t x y u, ty, pos, aft, gd⟩ σ (.bool false) := fun c w g => by
  simp only [execOp, opd_eval g hx, opd_eval g hy, eqGuard, binOp]; simp [run_eq_of (q_IN h)]
theorem r_neIN {ms : Array (String × TypeId)} {T : TypeId} {v : Value} (hx : opd σ x = some (.iface T v)) (hy : opd σ y = some .nilIface) [h : TyU P t (.interface ms)] :
    RunS P ⟨d, .binOp .neq t x y u, ty, pos, aft, gd⟩ σ (.bool true) := fun c w g => by
  simp only [execOp, opd_eval g hx, opd_eval g hy, eqGuard, binOp]; simp [run_eq_of (q_IN h)]
theorem r_eqNI {ms : Array (String × TypeId)} {T : TypeId} {v : Value} (hx : opd σ x = some .nilIface) (hy : opd σ y = some (.iface T v)) [h : TyU P t (.interface ms)] :
    RunS P ⟨d, .binOp .eql t x y u, ty, pos, aft, gd⟩ σ (.bool false) := fun c w g => by
  simp only [execOp, opd_eval g hx, opd_eval g hy, eqGuard, binOp]; simp [run_eq_of (q_NI h)]
theorem r_eqNN {ms : Array (String × TypeId)} (hx : opd σ x = some .nilIface) [h : TyU P t (.interface ms)] :
    RunS P ⟨d, .binOp .eql t x (.const .nilIface) u, ty, pos, aft, gd⟩ σ (.bool true) := fun c w g => by
  have e : c.eval (.const .nilIface) = .nilIface := rfl
  simp only [execOp, opd_eval g hx, e, eqGuard, binOp]; simp [run_eq_of (q_NN h)]
theorem r_neNN {ms : Array (String × TypeId)} (hx : opd σ x = some .nilIface) [h : TyU P t (.interface ms)] :
    RunS P ⟨d, .binOp .neq t x (.const .nilIface) u, ty, pos, aft, gd⟩ σ (.bool false) := fun c w g => by
  have e : c.eval (.const .nilIface) = .nilIface := rfl
  simp only [execOp, opd_eval g hx, e, eqGuard, binOp]; simp [run_eq_of (q_NN h)]
theorem r_eqPN {e : TypeId} {p : Option Addr} (hx : opd σ x = some (.pointer p)) (hy : opd σ y = some (.pointer none)) [h : TyU P t (.pointer e)] :
    RunS P ⟨d, .binOp .eql t x y u, ty, pos, aft, gd⟩ σ (.bool p.isNone) := fun c w g => by
  simp only [execOp, opd_eval g hx, opd_eval g hy, eqGuard, binOp]; simp [run_eq_of (q_PN h)]
theorem r_nePN {e : TypeId} {p : Option Addr} (hx : opd σ x = some (.pointer p)) (hy : opd σ y = some (.pointer none)) [h : TyU P t (.pointer e)] :
    RunS P ⟨d, .binOp .neq t x y u, ty, pos, aft, gd⟩ σ (.bool (!p.isNone)) := fun c w g => by
  simp only [execOp, opd_eval g hx, opd_eval g hy, eqGuard, binOp]; simp [run_eq_of (q_PN h)]
theorem r_eqFN {ps rs : Array TypeId} {vd : Bool} {fn : Fn} {a b : Array Value} (hx : opd σ x = some (.func fn a b)) (hy : opd σ y = some .nilFunc) [h : TyU P t (.func ps rs vd)] :
    RunS P ⟨d, .binOp .eql t x y u, ty, pos, aft, gd⟩ σ (.bool false) := fun c w g => by
  simp only [execOp, opd_eval g hx, opd_eval g hy, eqGuard, binOp]; simp [run_eq_of (q_FN h)]
theorem r_neNF {ps rs : Array TypeId} {vd : Bool} (hx : opd σ x = some .nilFunc) (hy : opd σ y = some .nilFunc) [h : TyU P t (.func ps rs vd)] :
    RunS P ⟨d, .binOp .neq t x y u, ty, pos, aft, gd⟩ σ (.bool false) := fun c w g => by
  simp only [execOp, opd_eval g hx, opd_eval g hy, eqGuard, binOp]; simp [run_eq_of (q_NF h)]
end
/- values that are put together and taken apart -/
section
variable {x y : Operand} {t u : TypeId}
theorem r_extract {vs : Array Value} {i : Nat} {v : Value} (hx : opd σ x = some (.tuple vs)) (h : vs[i]? = some v) : RunS P ⟨d, .extract x i, ty, pos, aft, gd⟩ σ v := fun c w g => by
  simp only [execOp, opd_eval g hx]; simp [Instr.extract, h]
theorem r_iface {v : Value} {p : TypeDesc} (hx : opd σ x = some v) [h : TyU P t p] (hp : (match p with | .interface _ => true | _ => false) = false) : RunS P ⟨d, .makeInterface t x, ty, pos, aft, gd⟩ σ (.iface t v) := fun c w g => by
  simp only [execOp, opd_eval g hx]
  simp only [Instr.makeInterface, Sem.run_bind, run_und h, Result.andThen_ok]
  cases p <;> simp_all
theorem r_nilP {a : Addr} (hx : opd σ x = some (.pointer (some a))) : RunS P ⟨d, .nilCheck x, ty, pos, aft, gd⟩ σ (.pointer (some a)) := fun c w g => by
  simp only [execOp, opd_eval g hx]; simp
theorem r_lenSl {a : Option Addr} {l c : Nat} {e : TypeId} (hx : opd σ x = some (.slice a l c)) [h : TyU P t (.slice e)] : RunS P ⟨d, .call ⟨.builtin .len, #[x], #[t]⟩, ty, pos, aft, gd⟩ σ (.int .i64 l) := fun c w g => by
  simp only [execOp, resolve, List.map_toArray, List.map_cons, List.map_nil, opd_eval g hx]
  simp [invoke, builtin, Builtin.len_, run_und h, goInt]
theorem r_lenStr {s : ByteArray} (hx : opd σ x = some (.string s)) [h : TyU P t .string] : RunS P ⟨d, .call ⟨.builtin .len, #[x], #[t]⟩, ty, pos, aft, gd⟩ σ (.int .i64 s.size) := fun c w g => by
  simp only [execOp, resolve, List.map_toArray, List.map_cons, List.map_nil, opd_eval g hx]
  simp [invoke, builtin, Builtin.len_, run_und h, goInt]
theorem r_complex {T : Array TypeId} {k : FloatKind} {p q : Nat} (hx : opd σ x = some (.float k p)) (hy : opd σ y = some (.float k q)) : RunS P ⟨d, .call ⟨.builtin .complex, #[x, y], T⟩, ty, pos, aft, gd⟩ σ (.complex k p q) := fun c w g => by
  simp only [execOp, resolve, List.map_toArray, List.map_cons, List.map_nil, opd_eval g hx, opd_eval g hy]
  have e : ∀ t, Builtin.complex_ T t #[.float k p, .float k q] = pure (.complex k p q) := fun t => if_pos rfl
  simp [invoke, builtin, e]
theorem r_real {T : Array TypeId} {k : FloatKind} {p q : Nat} (hx : opd σ x = some (.complex k p q)) : RunS P ⟨d, .call ⟨.builtin .real, #[x], T⟩, ty, pos, aft, gd⟩ σ (.float k p) := fun c w g => by
  simp only [execOp, resolve, List.map_toArray, List.map_cons, List.map_nil, opd_eval g hx]
  have e : ∀ t, Builtin.real_ T t #[.complex k p q] = pure (.float k p) := fun t => rfl
  simp [invoke, builtin, e]
theorem r_imag {T : Array TypeId} {k : FloatKind} {p q : Nat} (hx : opd σ x = some (.complex k p q)) : RunS P ⟨d, .call ⟨.builtin .imag, #[x], T⟩, ty, pos, aft, gd⟩ σ (.float k q) := fun c w g => by
  simp only [execOp, resolve, List.map_toArray, List.map_cons, List.map_nil, opd_eval g hx]
  have e : ∀ t, Builtin.imag_ T t #[.complex k p q] = pure (.float k q) := fun t => rfl
  simp [invoke, builtin, e]
theorem r_fltEq {k : FloatKind} {p q : Nat} (hx : opd σ x = some (.float k p)) (hy : opd σ y = some (.float k q)) : RunS P ⟨d, .binOp .eql t x y u, ty, pos, aft, gd⟩ σ (.bool (k.format.order p q == some .eq)) := fun c w g => by
  simp only [execOp, opd_eval g hx, opd_eval g hy, eqGuard, binOp]; simp [Op.floatCmp]
theorem r_fltNe {k : FloatKind} {p q : Nat} (hx : opd σ x = some (.float k p)) (hy : opd σ y = some (.float k q)) : RunS P ⟨d, .binOp .neq t x y u, ty, pos, aft, gd⟩ σ (.bool (k.format.order p q != some .eq)) := fun c w g => by
  simp only [execOp, opd_eval g hx, opd_eval g hy, eqGuard, binOp]; simp [Op.floatCmp]
/-- the place of an element of a slice -/
theorem r_index {k : IntKind} {b o len cap i s z : Nat} {e : TypeId} {j : Int} {zv : Value} (hx : opd σ x = some (.slice (some ⟨b, o, none⟩) len cap)) (hy : opd σ y = some (.int k j)) [h : TyU P t (.slice e)] [h' : TyI P e s z zv] (hj : j = (i : Int)) (hi : i < len) :
    RunS P ⟨d, .indexAddr t x y, ty, pos, aft, gd⟩ σ (.pointer (some ⟨b, o + i * s, none⟩)) := fun c w g => by
  subst hj
  simp only [execOp, opd_eval g hx, opd_eval g hy]
  have h1 : ((i : Nat) : Int) < (len : Int) := by omega
  simp [Instr.indexAt, asIntOf, run_und h, run_sizeOf h', hi, Addr.add]
/-- the place of an element of an array behind a pointer -/
theorem r_indexA {k : IntKind} {b o len i s z : Nat} {e : TypeId} {j : Int} {zv : Value} (hx : opd σ x = some (.pointer (some ⟨b, o, none⟩))) (hy : opd σ y = some (.int k j)) [h : TyU P t (.array len e)] [h' : TyI P e s z zv] (hj : j = (i : Int)) (hi : i < len) :
    RunS P ⟨d, .indexAddr t x y, ty, pos, aft, gd⟩ σ (.pointer (some ⟨b, o + i * s, none⟩)) := fun c w g => by
  subst hj
  simp only [execOp, opd_eval g hx, opd_eval g hy]
  have h1 : ((i : Nat) : Int) < (len : Int) := by omega
  simp [Instr.indexAt, asIntOf, Instr.sureAddr, run_und h, run_sizeOf h', hi, Addr.add]
end
end

/- 5. memory -/
/-- a block of cells, as a list -/
def cl (l : List Value) (e : TypeId) : Obj := .cells l.toArray e (0, 0)
/-- all that stood in a world -/
def old (W : World) : HP := fun h => ∀ k, k < W.heap.size → h k = W.heap[k]?
/-- a row with room behind: the block b has n cells, the first ones are l -/
def row (b : Nat) (e : TypeId) (l : List Value) (n : Nat) : HP := fun h => ∃ c : Array Value, h b = some (.cells c e (0, 0)) ∧ c.size = n ∧ c.toList.take l.length = l

/-- the cell at a place holds this -/
def Rd (L : List HP) (a : Addr) (v : Value) : Prop := ∀ m w, Sat m L w → w.cell? a = some v
theorem rd_blk {L R : List HP} {b o : Nat} {l : List Value} {e : TypeId} {v : Value} (i : Nat) (hi : takeAt i L = some (blk b (cl l e), R)) (hv : l[o]? = some v) : Rd L ⟨b, o, none⟩ v := fun m w h => by
  have := h.at_ hi
  simp [World.cell?, this, cl, hv]
theorem row_cell {w : World} {m : Amb} {L : List HP} {b o n : Nat} {e : TypeId} {l : List Value} (h : Sat m (row b e l n :: L) w) {v : Value} (hv : l[o]? = some v) : w.cell? ⟨b, o, none⟩ = some v := by
  obtain ⟨g, hg, c, hc, hn, ht⟩ := h.2.2.2.head
  have := hg _ _ hc
  have e2 : w.heap[b]? = some (.cells c e (0, 0)) := this
  rw [← ht, List.getElem?_take] at hv
  split at hv
  · simp [World.cell?, e2]; simpa using hv
  · cases hv

/-- cells in a row -/
def RdN (L : List HP) (b o : Nat) : List Value → Prop
  | [] => True
  | v :: vs => Rd L ⟨b, o, none⟩ v ∧ RdN L b (o + 1) vs
theorem RdN.get {L : List HP} {b : Nat} : ∀ {vs : List Value} {o j : Nat} {v : Value}, RdN L b o vs → vs[j]? = some v → Rd L ⟨b, o + j, none⟩ v := by
  intro vs
  induction vs with
  | nil => intro o j v _ h; simp at h
  | cons u us ih =>
    intro o j v h hv
    cases j with
    | zero => simp at hv; subst hv; exact h.1
    | succ j =>
      have := ih h.2 (j := j) (by simpa using hv)
      rwa [show o + 1 + j = o + (j + 1) from by omega] at this
theorem RdN.of {L : List HP} {b : Nat} : ∀ {vs : List Value} {o : Nat}, (∀ j v, vs[j]? = some v → Rd L ⟨b, o + j, none⟩ v) → RdN L b o vs := by
  intro vs
  induction vs with
  | nil => intro o _; trivial
  | cons u us ih =>
    intro o h
    refine ⟨by simpa using h 0 u rfl, ih fun j v hv => ?_⟩
    have := h (j + 1) v (by simpa using hv)
    rwa [show o + (j + 1) = o + 1 + j from by omega] at this

theorem addr_add (b o j : Nat) : (⟨b, o, none⟩ : Addr).add j = ⟨b, o + j, none⟩ := by
  unfold Addr.add; split <;> simp_all

def aggD : TypeDesc → Bool
  | .struct _ | .array _ _ => true
  | _ => false
theorem run_isAgg' {P : Program} {t : TypeId} {d : TypeDesc} (h : TyU P t d) (w : World) : (isAgg t).run P w = .ok (aggD d) w := by
  simp only [isAgg, Sem.run_bind, run_und h, Result.andThen_ok]
  cases d <;> rfl

section
variable {P : Program} {n : Nat} {ds : List Deferred} {σ : Env} {m : Amb} {L R : List HP} {Q : Exit → Act → World → Prop} {K : Act → World → Prop}
variable {d : Nat} {ty : TypeId} {pos : String} {aft : Array Edge} {gd : Option (Nat × Bool)} {x y : Operand} {t u e : TypeId}

theorem r_load {od : Option Tmp} {a : Addr} {v : Value} {p : TypeDesc} (hx : opd σ x = some (.pointer (some a))) [h : TyU P t p] (hp : aggD p = false) (hr : Rd L a v) :
    RunV P ⟨od, .load t x, ty, pos, aft, gd⟩ σ m L v := fun c w g hw => by
  simp only [execOp, opd_eval g hx]
  simp [Instr.loadAt, Instr.sureAddr, loadVar, run_isAgg' h, hp, hr m w hw]
theorem r_loadN {od : Option Tmp} {b o s z : Nat} {vs : List Value} {p : TypeDesc} {zv : Value} (hx : opd σ x = some (.pointer (some ⟨b, o, none⟩))) [h : TyU P t p] [h' : TyI P t s z zv] (hp : aggD p = true) (hs : vs.length = s) (hr : RdN L b o vs) :
    RunV P ⟨od, .load t x, ty, pos, aft, gd⟩ σ m L (.agg vs.toArray) := fun c w g hw => by
  simp only [execOp, opd_eval g hx]
  have hl := run_loadCells_list (P := P) w ⟨b, o, none⟩ vs (fun j v hv => by rw [addr_add]; exact hr.get hv m w hw)
  rw [hs] at hl
  simp [Instr.loadAt, Instr.sureAddr, loadVar, run_isAgg' h, hp, run_sizeOf h', hl]

/-- whatever an operation does -/
theorem s_eff {o : Oper} (hd : o.dst = some d) (hk : Nat.blt d n = true) (hr : ∀ (a : Act) (w : World), Agr σ a.tmps → Sat m L w → ∃ v w', (execOp a.eval o).run P w = .ok (.value v) w' ∧ ∃ L', Sat m L' w' ∧ G n ds ((d, v) :: σ) m L' K) :
    G n ds σ m L (St P o K Q) := fun a w h1 h2 h3 h4 => by
  have hk : d < a.tmps.size := by rw [h2]; exact ltOf hk
  obtain ⟨v, w', hrun, L', hs, hg⟩ := hr a w h3 h4
  show Oper.upon P o a K Q _
  rw [hrun]
  show K (a.put o.dst v) w'
  rw [hd]
  exact hg _ w' h1 (by simp [Act.put, h2]) (h3.put hk v) hs
theorem s_effU {o : Oper} (hd : o.dst = none) (hr : ∀ (a : Act) (w : World), Agr σ a.tmps → Sat m L w → ∃ w', (execOp a.eval o).run P w = .ok .skip w' ∧ ∃ L', Sat m L' w' ∧ G n ds σ m L' K) :
    G n ds σ m L (St P o K Q) := fun a w h1 h2 h3 h4 => by
  obtain ⟨w', hrun, L', hs, hg⟩ := hr a w h3 h4
  show Oper.upon P o a K Q _
  rw [hrun]
  show K (a.put o.dst undef) w'
  rw [hd]
  exact hg _ w' h1 h2 h3 hs
theorem s_panic {o : Oper} (hr : ∀ (a : Act) (w : World), Agr σ a.tmps → Sat m L w → ∃ v w', (execOp a.eval o).run P w = .halt (.panic v) w' ∧ ∃ L', Sat m L' w' ∧ G n ds σ m L' (Q (.panic [{ v, recovered := false }]))) :
    G n ds σ m L (St P o K Q) := fun a w h1 h2 h3 h4 => by
  obtain ⟨v, w', hrun, L', hs, hg⟩ := hr a w h3 h4
  show Oper.upon P o a K Q _
  rw [hrun]
  exact hg _ w' h1 h2 h3 hs

/- new blocks -/
theorem s_alloc {s z : Nat} {zv : Value} {l : List Value} [h' : TyI P e s z zv] (hz : zv.cells = l.toArray) (hk : Nat.blt d n = true)
    (h : ∀ b, G n ds ((d, .pointer (some ⟨b, 0, none⟩)) :: σ) m (blk b (cl l e) :: L) K) : G n ds σ m L (St P ⟨some d, .alloc e, ty, pos, aft, gd⟩ K Q) :=
  s_eff rfl hk fun a w _ hw => ⟨.pointer (some ⟨w.heap.size, 0, none⟩), { w with heap := w.heap.push (cl l e) }, by simp [execOp, Instr.alloc, run_zeroValue h', newVar, newRow, hz, cl], _, hw.new (cl l e), h w.heap.size⟩
theorem s_box {v : Value} {l : List Value} (hx : opd σ x = some v) (hv : v.cells = l.toArray) (hk : Nat.blt d n = true)
    (h : ∀ b, G n ds ((d, .pointer (some ⟨b, 0, none⟩)) :: σ) m (blk b (cl l e) :: L) K) : G n ds σ m L (St P ⟨some d, .box e x, ty, pos, aft, gd⟩ K Q) :=
  s_eff rfl hk fun a w g hw => ⟨.pointer (some ⟨w.heap.size, 0, none⟩), { w with heap := w.heap.push (cl l e) }, by simp [execOp, Instr.box, opd_eval g hx, newVar, newRow, hv, cl], _, hw.new (cl l e), h w.heap.size⟩

/- stores -/
theorem s_store {i b o : Nat} {l : List Value} {v : Value} {eb : TypeId} {s z : Nat} {zv : Value} [h' : TyI P t s z zv] (hx : opd σ x = some (.pointer (some ⟨b, o, none⟩))) (hy : opd σ y = some v)
    (hi : takeAt i L = some (blk b (cl l eb), R)) (hs : v.cells = #[v]) (h1 : v.oneCell' = true) (hs1 : Nat.beq s 1 = true) (ho : Nat.blt o l.length = true)
    (h : G n ds σ m (blk b (cl (l.set o v) eb) :: R) K) : G n ds σ m L (St P ⟨none, .store t x y, ty, pos, aft, gd⟩ K Q) := by
  have hs1 := Nat.eq_of_beq_eq_true hs1
  subst hs1
  refine s_effU rfl fun a w g hw => ⟨w.setCell ⟨b, o, none⟩ v, ?_, _, ?_, h⟩
  · have hb := hw.at_ hi
    have hc : w.cell? ⟨b, o, none⟩ = some (l[o]'(ltOf ho)) := by simp [World.cell?, hb, cl, ltOf ho]
    have hf : w.frozen? ⟨b, o, none⟩ = false := by simp [World.frozen?, hb, cl]
    simp [execOp, opd_eval g hx, opd_eval g hy, Instr.storeAt, Instr.sureAddr, storeVar, hs, run_sizeOf h', storeCells, Addr.add, run_store P w _ v .plain h1, hc, hf]
  · have := Sat.set (a := ⟨b, o, none⟩) hw hi rfl v
    simpa [cl] using this

/- calls -/
def fin (R : Value → List HP → Prop) (E : List PanicEntry → List HP → Prop) (m : Amb) (F : List HP) : Ending → World → Prop
  | .returned v, w => ∃ B, R v B ∧ Sat m (B ++ F) w
  | .panicked c, w => ∃ B, E c B ∧ Sat m (B ++ F) w
  | .outgrown, _ => False
def Ct (P : Program) (f : FuncId) (args : Array Value) (A : List HP) (R : Value → List HP → Prop) (E : List PanicEntry → List HP → Prop) : Prop :=
  ∀ m F w, Sat m (A ++ F) w → Calls P f args w (fin R E m F)
/-- it does not panic -/
def nev : List PanicEntry → List HP → Prop := fun _ _ => False

theorem Ct.mono {f : FuncId} {args : Array Value} {A : List HP} {R R' : Value → List HP → Prop} {E E' : List PanicEntry → List HP → Prop} (h : Ct P f args A R E)
    (hR : ∀ v B, R v B → R' v B) (hE : ∀ c B, E c B → E' c B) : Ct P f args A R' E' := fun m F w hw => (h m F w hw).mono fun e w' he => by
  cases e with
  | returned v => exact let ⟨B, h1, h2⟩ := he; ⟨B, hR _ _ h1, h2⟩
  | panicked c => exact let ⟨B, h1, h2⟩ := he; ⟨B, hE _ _ h1, h2⟩
  | outgrown => exact he

def argEnv : Nat → List Value → Env
  | _, [] => []
  | k, v :: vs => (k, v) :: argEnv (k + 1) vs
theorem argEnv_agr : ∀ (vs : List Value) (k : Nat) (t : Array Value), (∀ j v, vs[j]? = some v → t[k + j]? = some v) → Agr (argEnv k vs) t := by
  intro vs
  induction vs with
  | nil => intro k t _ x v h; cases h
  | cons u us ih =>
    intro k t h x v hx
    simp only [argEnv, lk] at hx
    split at hx
    · rename_i hk
      have hk := Nat.eq_of_beq_eq_true hk
      subst hk
      cases hx
      simpa using h 0 _ rfl
    · exact ih (k + 1) t (fun j v hv => by have := h (j + 1) v (by simpa using hv); rwa [show k + (j + 1) = k + 1 + j from by omega] at this) x v hx

theorem Ct.of {f : FuncId} {fn : Func} {c : Code} {args : Array Value} {A : List HP} {R : Value → List HP → Prop} {E : List PanicEntry → List HP → Prop}
    (hf : P.funcs[f]? = some fn) (hb : fn.body = some c) (hn : fn.ntmps = n) (ha : Nat.ble args.size n = true)
    (h : ∀ m F, G n [] (argEnv 0 args.toList) m (A ++ F) (c.wp P (bodyPost P fn (fin R E m F)))) : Ct P f args A R E := fun m F w hw => by
  refine calls_of_wp hf hb (h m F _ w rfl ?_ ?_ hw)
  · have := Nat.le_of_ble_eq_true ha
    simp [hn]; omega
  · refine argEnv_agr _ 0 _ fun j v hv => ?_
    simp only [Nat.zero_add]
    have hj : j < args.size := by
      rcases Nat.lt_or_ge j args.size with h' | h'
      · exact h'
      · simp [Array.getElem?_eq_none h'] at hv
    rw [Array.getElem?_append_left hj]
    simpa using hv
theorem Ct.ofD {f : FuncId} {fn : Func} {c : Code} {args : Array Value} {A : List HP} {R : Value → List HP → Prop} {E : List PanicEntry → List HP → Prop}
    (hf : P.funcs[f]? = some fn) (hb : fn.body = some c) (hn : fn.ntmps = n) (ha : Nat.ble args.size n = true)
    (h : ∀ m F, G n [] (argEnv 0 args.toList) m (A ++ F) (c.wp P (bodyPostD P fn (fin R E m F)))) : Ct P f args A R E := fun m F w hw => by
  refine calls_of_wp_defers hf hb (h m F _ w rfl ?_ ?_ hw)
  · have := Nat.le_of_ble_eq_true ha
    simp [hn]; omega
  · refine argEnv_agr _ 0 _ fun j v hv => ?_
    simp only [Nat.zero_add]
    have hj : j < args.size := by
      rcases Nat.lt_or_ge j args.size with h' | h'
      · exact h'
      · simp [Array.getElem?_eq_none h'] at hv
    rw [Array.getElem?_append_left hj]
    simpa using hv

def opds (σ : Env) : List Operand → Option (List Value)
  | [] => some []
  | x :: xs => match opd σ x with
    | some v => match opds σ xs with
      | some vs => some (v :: vs)
      | none => none
    | none => none
theorem opds_eval {a : Act} (g : Agr σ a.tmps) : ∀ {xs : List Operand} {vs : List Value}, opds σ xs = some vs → xs.map a.eval = vs := by
  intro xs
  induction xs with
  | nil => intro vs h; simp [opds] at h; subst h; rfl
  | cons x xs ih =>
    intro vs h
    simp only [opds] at h
    cases hx : opd σ x with
    | none => simp [hx] at h
    | some v =>
      simp only [hx] at h
      cases hy : opds σ xs with
      | none => simp [hy] at h
      | some us =>
        simp only [hy, Option.some.injEq] at h
        subst h
        simp [opd_eval g hx, ih hy]

theorem s_callAux {o : Oper} {f : FuncId} {args : Array Value} {A F : List HP} {is : List Nat} {RR : Value → List HP → Prop} {E : List PanicEntry → List HP → Prop} {od : Option Nat}
    (hd : o.dst = od) (hk : ∀ d, od = some d → d < n) (hen : ∀ (a : Act) (w : World), Agr σ a.tmps → (execOp a.eval o).run P w = .ok (.enter f args) w) (hc : Ct P f args A RR E) (hp : pick is L = some (A, F))
    (h : ∀ v B, RR v B → G n ds (match od with | some d => (d, v) :: σ | none => σ) m (B ++ F) K) (hE : ∀ c B, E c B → G n ds σ m (B ++ F) (Q (.panic c))) : G n ds σ m L (St P o K Q) := fun a w h1 h2 h3 h4 => by
  show Oper.upon P o a K Q _
  rw [hen a w h3]
  refine (hc m F w (h4.ent (pick_ent hp))).mono fun e w' he => ?_
  cases e with
  | returned v =>
    obtain ⟨B, hR, hB⟩ := he
    have := h v B hR
    cases od with
    | none => show K (a.put o.dst v) w'; rw [hd]; exact this a w' h1 h2 h3 hB
    | some d =>
      have hk := hk d rfl
      show K (a.put o.dst v) w'
      rw [hd]
      exact this _ w' h1 (by simp [Act.put, h2]) (h3.put (by rw [h2]; exact hk) v) hB
  | panicked c => obtain ⟨B, hR, hB⟩ := he; exact hE c B hR a w' h1 h2 h3 hB
  | outgrown => exact he.elim
theorem s_call {f : FuncId} {xs : List Operand} {T : Array TypeId} {vs : List Value} {A F : List HP} {RR : Value → List HP → Prop} {E : List PanicEntry → List HP → Prop} [he : EnF P f] (hk : Nat.blt d n = true)
    (hx : opds σ xs = some vs) (hc : Ct P f vs.toArray A RR E) (is : List Nat) (hp : pick is L = some (A, F))
    (h : ∀ v B, RR v B → G n ds ((d, v) :: σ) m (B ++ F) K) (hE : ∀ c B, E c B → G n ds σ m (B ++ F) (Q (.panic c))) :
    G n ds σ m L (St P ⟨some d, .call ⟨.value (.func f), xs.toArray, T⟩, ty, pos, aft, gd⟩ K Q) := by
  refine s_callAux (od := some d) rfl (fun d' e => by cases e; exact ltOf hk) (fun a w g => ?_) hc hp h hE
  simp only [execOp, resolve, Act.eval, Deferred.ofValue, List.map_toArray, opds_eval g hx]
  simp [invoke, he.h]

/- the end -/
theorem e_ret1 {fn : Func} {RR : Value → List HP → Prop} {E : List PanicEntry → List HP → Prop} {F : List HP} {t : Tmp} {v : Value} (B : List HP) (hf : fn.results = #[.tmp t]) (hv : lk σ t = some v) (hR : RR v B) (he : Ent L (B ++ F)) :
    G n [] σ m L (bodyPost P fn (fin RR E m F) .ret) := fun a w h1 h2 h3 h4 => by
  have := h3 t v hv
  refine ⟨h1, v, ?_, B, hR, h4.ent he⟩
  rw [results_tmp hf]; simp [this]
theorem e_nor0 {fn : Func} {RR : Value → List HP → Prop} {E : List PanicEntry → List HP → Prop} {F : List HP} (B : List HP) (hf : fn.results = #[]) (hR : RR (.tuple #[]) B) (he : Ent L (B ++ F)) :
    G n [] σ m L (bodyPost P fn (fin RR E m F) .normal) := fun _a _w h1 _h2 _h3 h4 =>
  ⟨h1, .tuple #[], results_none hf _ _ _, B, hR, h4.ent he⟩
theorem e_ret2 {fn : Func} {RR : Value → List HP → Prop} {E : List PanicEntry → List HP → Prop} {F : List HP} {t u : Tmp} {v v' : Value} (B : List HP) (hf : fn.results = #[.tmp t, .tmp u]) (hv : lk σ t = some v) (hv' : lk σ u = some v')
    (hR : RR (.tuple #[v, v']) B) (he : Ent L (B ++ F)) : G n [] σ m L (bodyPost P fn (fin RR E m F) .ret) := fun a w h1 h2 h3 h4 => by
  have e1 := h3 t v hv
  have e2 := h3 u v' hv'
  refine ⟨h1, .tuple #[v, v'], ?_, B, hR, h4.ent he⟩
  rw [results_tmp2 hf]; simp [e1, e2]
theorem e_pan {fn : Func} {RR : Value → List HP → Prop} {E : List PanicEntry → List HP → Prop} {F : List HP} {c : List PanicEntry} (B : List HP) (hR : E c B) (he : Ent L (B ++ F)) :
    G n [] σ m L (bodyPost P fn (fin RR E m F) (.panic c)) := fun _a _w h1 _h2 _h3 h4 => ⟨h1, B, hR, h4.ent he⟩
end
end Go.Sl
