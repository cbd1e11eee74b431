/- Filers beneath: an inner filer, a rollback outside a transaction · Filers beneath: a rollback outside a transaction · The open levels of a transaction, one over the other · Pages written to the level beneath, or to the filer beneath · The closure that is called at a checkpoint · A chain of inner filers over whatever filer · kind: the number of an error · fileStep: a call of a file. Printed by a program (wip/tools/genZ34.py) · fileStep: writes · fileStep: reads. -/
import Derived.Test.YtfebpbflpdppiaaGreatDoorL09
namespace Go.Proofs.YtfebpbflpdppiaaGreatDoor
open Go Go.Sl
set_option maxRecDepth 100000
section
variable {F : List HP} {g i x b : HP}
theorem re3 : Ent (g :: sep [i, x] :: b :: F) (i :: sep [g, x, b] :: F) :=
  (arr_ent 0 [1, 0, 0] _).trans ((sep_open [i, x] _).trans (Ent.cons ((arr_ent 0 [1, 0, 0] _).trans (sep_shut [g, x, b] F))))
theorem re3' : Ent (i :: sep [g, x, b] :: F) (g :: sep [i, x] :: b :: F) :=
  (Ent.cons (sep_open [g, x, b] F)).trans ((arr_ent 0 [1, 0, 0, 0] _).trans (Ent.cons (sep_shut [i, x] (b :: F))))
theorem re2 : Ent (sep [i, x] :: b :: F) (i :: sep [x, b] :: F) := (sep_open [i, x] _).trans (Ent.cons (sep_shut [x, b] F))
theorem re2' : Ent (i :: sep [x, b] :: F) (sep [i, x] :: b :: F) := (Ent.cons (sep_open [x, b] F)).trans (sep_shut [i, x] _)
end
section
variable {P : Program} {f : FuncId} {args : Array Value} {I X g b A : HP} {R : Value → List HP → Prop} {v : Value} {n : String} {vs : List Value}
/-- one block over a filer -/
theorem _root_.Go.Sl.Ct.lift1 {R' : Value → List HP → Prop} (h : Ct P f args [I, X] (wR I R) (wE I nev)) (hR : ∀ x B, R x B → ∃ Y, B = [Y] ∧ R' x [sep [I, Y]]) : Ct P f args [sep [I, X]] R' nev :=
  h.conv (fun F => sep_open [I, X] F) (fun x B ⟨B', h1, h2⟩ => by
    obtain ⟨Y, rfl, h3⟩ := hR x B' h1
    subst h2
    exact ⟨_, h3, fun F => sep_shut [I, Y] F⟩) (fun c B ⟨B', h1, _⟩ => h1.elim)
theorem _root_.Go.Sl.Ct.lift3 {R' : Value → List HP → Prop} (h : Ct P f args [I, sep [g, X, b]] (wR I (fun x B => ∃ B', R x B' ∧ B = [sep B'])) (wE I (fun c B => ∃ B', nev c B' ∧ B = [sep B'])))
    (hR : ∀ x B, R x B → ∃ Y b', B = [g, Y, b'] ∧ R' x [g, sep [I, Y], b']) : Ct P f args [g, sep [I, X], b] R' nev :=
  h.conv (fun F => re3) (fun x B ⟨B', ⟨B2, h1, h3⟩, h2⟩ => by
    obtain ⟨Y, b', rfl, h4⟩ := hR x B2 h1
    subst h3 h2
    exact ⟨_, h4, fun F => re3'⟩) (fun c B ⟨B', ⟨_, h1, _⟩, _⟩ => h1.elim)
theorem _root_.Go.Sl.Ct.lift2 {R' : Value → List HP → Prop} (h : Ct P f args [I, sep [X, b]] (wR I (fun x B => ∃ B', R x B' ∧ B = [sep B'])) (wE I (fun c B => ∃ B', nev c B' ∧ B = [sep B'])))
    (hR : ∀ x B, R x B → ∃ Y b', B = [Y, b'] ∧ R' x [sep [I, Y], b']) : Ct P f args [sep [I, X], b] R' nev :=
  h.conv (fun F => re2) (fun x B ⟨B', ⟨B2, h1, h3⟩, h2⟩ => by
    obtain ⟨Y, b', rfl, h4⟩ := hR x B2 h1
    subst h3 h2
    exact ⟨_, h4, fun F => re2'⟩) (fun c B ⟨B', ⟨_, h1, _⟩, _⟩ => h1.elim)
end
attribute [local irreducible] wpList Code.wp Exit.then Exit.inBlock bodyPost RunS RunV G St Ct Sat Ent At Rd GQ QL wpAny wpOp wpQuiet slP Sl.ex sep
attribute [local irreducible] zf memf pgl rng ov cutC zc mapO rdd bme bf bx
section
variable {glb : HP} {ea : Addr} {v : Value} {hp : Cn → Nat → HP} {T : Nat} {ro : Bool}
theorem bf_inner (B : BF glb ea v hp T ro) (ib off : Nat) (hT : T + off ≤ 1000000000) : BF glb ea (.iface 56 (.pointer (some ⟨ib, 0, none⟩))) (fun c s => sep [iP ib v off, hp c s]) (T + off) ro where
  name := fun c s => MCt.of ((IName_c (B.name c s)).lift1 fun x L ⟨h1, h2⟩ => ⟨_, h2, h1, rfl⟩)
  size := fun c s hs => MCt.of (by
    have h := ISize_c (ib := ib) (off := off) (E := nev) (by omega) (by omega) (B.size c s hs)
    refine h.conv (fun F => sep_open [_, _] F) ?_ (fun c B h => by obtain ⟨B', h1, _⟩ := h; exact h1.elim)
    intro x L h3
    obtain ⟨h1, h2⟩ := h3
    refine ⟨[sep [iP ib v off, hp c s]], ⟨?_, rfl⟩, fun F => by rw [h2]; exact sep_shut [_, _] F⟩
    rw [h1, show max (((s - T : Nat) : Int) - (off : Int)) 0 = ((s - (T + off) : Nat) : Int) from by omega])
  sync := fun c s => MCt.of ((ISync_c (B.sync c s)).lift1 fun x L ⟨h1, h2⟩ => ⟨_, h2, h1, rfl⟩)
  close := fun c s => MCt.of ((IClose_c (B.close c s)).lift1 fun x L ⟨h1, h2⟩ => ⟨_, h2, h1, rfl⟩)
  read := fun c s db e old k a hs hk hb => MCt.of ((IReadAt_c (off := off) (a := a) (by omega) (fun x L ⟨B', ⟨h1, _⟩, _⟩ => ⟨_, _, h1⟩) ((B.read c s db e old k (off + a) hs hk (by omega)).pack)).lift3 fun x L ⟨h1, h2⟩ => ⟨_, _, h2, by rw [h1, ← Nat.add_assoc], by rw [← Nat.add_assoc]⟩)
  readN := fun c s sl a ha => MCt.of ((IReadAt_n ha (B.name c s)).conv (fun F => sep_open [_, _] F) (fun x L ⟨b, h1, h2⟩ => ⟨_, ⟨b, h1, rfl⟩, fun F => by rw [h2]; exact sep_shut [_, _] F⟩) (fun c B h => h.elim))
  write := fun hro c s A bs al k cap a hs hc hb hsz => MCt.of ((IWriteAt_c (off := off) (a := a) (by omega) (fun x L ⟨B', ⟨h1, _⟩, _⟩ => ⟨_, _, h1⟩) ((B.write hro c s A bs al k cap (off + a) hs hc (by omega) hsz).pack)).lift2 fun x L ⟨h1, h2⟩ => ⟨_, _, h2, h1, by rw [← Nat.add_assoc]⟩)
  writeP := fun hro c s sl a ha => MCt.of ((IWriteAt_c (off := off) (a := a) (by omega) (fun x L ⟨b, h1, _⟩ => ⟨_, _, h1⟩) (B.writeP hro c s sl (off + a) (by omega))).lift1 fun x L ⟨b, h1, h2⟩ => ⟨_, h2, b, h1, rfl⟩)
  writeN := fun c s sl a ha => MCt.of ((IWriteAt_n ha (B.name c s)).conv (fun F => sep_open [_, _] F) (fun x L ⟨b, h1, h2⟩ => ⟨_, ⟨b, .inl h1, rfl⟩, fun F => by rw [h2]; exact sep_shut [_, _] F⟩) (fun c B h => h.elim))
  trunc := fun hro c s n hn hs => MCt.of ((ITruncate_c (off := off) (a := (n : Nat)) (R := fun x L => x = .nilIface ∧ L = [hp (cutC c (T + (off + n))) (T + (off + n))]) (E := nev) (by omega) (by
    rw [show ((n : Nat) : Int) + (off : Int) = ((off + n : Nat) : Int) from by omega]
    exact B.trunc hro c s (off + n) (by omega) hs)).lift1 fun x L ⟨h1, h2⟩ => ⟨_, h2, h1, by rw [← Nat.add_assoc]⟩)
  truncN := fun hro c s n hn hn2 hs => MCt.of ((ITruncate_c (off := off) (a := n) (R := fun x L => (x = .nilIface ∧ 0 ≤ ((T + off : Nat) : Int) + n ∧ L = [hp (cutC c (((T + off : Nat) : Int) + n).toNat) (((T + off : Nat) : Int) + n).toNat]) ∨ (((T + off : Nat) : Int) + n < 0 ∧ ∃ b, x = invV b ∧ L = [hp c s])) (E := nev) (by omega) (by
    by_cases h0 : n + (off : Int) < 0
    · refine (B.truncN hro c s (n + off) h0 (by omega) hs).mono (fun x L h => ?_) (fun _ _ h => h)
      rw [show ((T + off : Nat) : Int) + n = (T : Int) + (n + (off : Int)) from by omega]
      exact h
    · obtain ⟨k, hk⟩ : ∃ k : Nat, n + (off : Int) = (k : Nat) := ⟨(n + off).toNat, by omega⟩
      rw [hk]
      refine (B.trunc hro c s k (by omega) hs).mono (fun x L ⟨h1, h2⟩ => .inl ⟨h1, by omega, ?_⟩) (fun _ _ h => h)
      rw [h2, show (((T + off : Nat) : Int) + n).toNat = T + k from by omega])).lift1 fun x L h => by
        rcases h with ⟨h1, h2, h3⟩ | ⟨h1, b, h2, h3⟩
        · exact ⟨_, h3, .inl ⟨h1, h2, rfl⟩⟩
        · exact ⟨_, h3, .inr ⟨h1, b, h2, rfl⟩⟩)
  truncP := fun hro c s n hn hn2 => MCt.of ((ITruncate_c (off := off) (a := n) (by omega) (B.truncP hro c s (n + off) (by omega) (by omega))).lift1 fun x L ⟨b, h1, h2⟩ => ⟨_, h2, b, h1, rfl⟩)
  begin_ := fun hro c s => MCt.of ((IBeginUpdate_c (B.begin_ hro c s)).lift1 fun x L ⟨h1, h2⟩ => ⟨_, h2, h1, rfl⟩)
  end_ := fun hro c s => MCt.of ((IEndUpdate_c (B.end_ hro c s)).lift1 fun x L ⟨h1, h2⟩ => ⟨_, h2, h1, rfl⟩)
  roll := fun hro c s => MCt.of ((IRollback_c (B.roll hro c s)).lift1 fun x L ⟨h1, h2⟩ => ⟨_, h2, h1, rfl⟩)
  punch := fun hro c s a b ha hb => MCt.of ((IPunchHole_c (off := off) (a := a) (b := b) (by omega) (B.punch hro c s (off + a) b (by omega) (by omega))).lift1 fun x L ⟨h1, h2⟩ => ⟨_, h2, h1, rfl⟩)
end
end Go.Proofs.YtfebpbflpdppiaaGreatDoor
namespace Go.Proofs.YtfebpbflpdppiaaGreatDoor
open Go Go.Sl
set_option maxRecDepth 100000
/-- a rollback outside a transaction, closed or not -/
def rI (rb : Nat) (ck v' : Value) : HP := ex fun cld : Bool => rP rb none ck v' 0 cld
section
variable {P : Program} {f : FuncId} {args : Array Value} {X g b : HP} {rb : Nat} {ck v : Value}
theorem rI_shut {cld : Bool} {L : List HP} : Ent (rP rb none ck v 0 cld :: L) (rI rb ck v :: L) := ex_shut (fun cld : Bool => rP rb none ck v 0 cld) cld L
theorem _root_.Go.Sl.Ct.liftR {R : Bool → Value → List HP → Prop} {R' : Value → List HP → Prop} (h : ∀ cld, Ct P f args [rP rb none ck v 0 cld, X] (R cld) nev) (hR : ∀ cld x B, R cld x B → ∃ cld' Y, B = [rP rb none ck v 0 cld', Y] ∧ R' x [sep [rI rb ck v, Y]]) : Ct P f args [sep [rI rb ck v, X]] R' nev := by
  have h2 : Ct P f args [rI rb ck v, X] R' nev := Ct.exE fun cld => (h cld).conv (fun F => Ent.refl _) (fun x B hx => by
    obtain ⟨cld', Y, rfl, h3⟩ := hR cld x B hx
    exact ⟨_, h3, fun F => Ent.trans rI_shut (sep_shut [rI rb ck v, Y] F)⟩) (fun c B h => h.elim)
  exact h2.conv (fun F => sep_open [_, _] F) (fun x B h => ⟨_, h, fun F => Ent.refl _⟩) (fun c B h => h.elim)
theorem _root_.Go.Sl.Ct.liftR3 {R : Value → List HP → Prop} {R' : Value → List HP → Prop} (h : ∀ cld, Ct P f args [rP rb none ck v 0 cld, sep [g, X, b]] (wR (rP rb none ck v 0 cld) (fun x B => ∃ B', R x B' ∧ B = [sep B'])) nev)
    (hR : ∀ x B, R x B → ∃ Y b', B = [g, Y, b'] ∧ R' x [g, sep [rI rb ck v, Y], b']) : Ct P f args [g, sep [rI rb ck v, X], b] R' nev := by
  have h2 : Ct P f args [rI rb ck v, sep [g, X, b]] R' nev := Ct.exE fun cld => (h cld).conv (fun F => Ent.refl _) (fun x B hx => by
    obtain ⟨B', ⟨B2, h1, h3⟩, h2⟩ := hx
    obtain ⟨Y, b', rfl, h4⟩ := hR x B2 h1
    subst h3 h2
    exact ⟨_, h4, fun F => Ent.trans rI_shut re3'⟩) (fun c B h => h.elim)
  exact h2.conv (fun F => re3) (fun x B h => ⟨_, h, fun F => Ent.refl _⟩) (fun c B h => h.elim)
end
attribute [local irreducible] wpList Code.wp Exit.then Exit.inBlock bodyPost RunS RunV G St Ct Sat Ent At Rd GQ QL wpAny wpOp wpQuiet slP Sl.ex sep
attribute [local irreducible] zf memf pgl rng ov cutC zc mapO rdd bme bf bx
section
variable {glb : HP} {ea : Addr} {v : Value} {hp : Cn → Nat → HP} {T : Nat} {ro : Bool}
theorem bf_roll (B : BF glb ea v hp T ro) (rb : Nat) (ck : Value) : BF glb ea (.iface 58 (.pointer (some ⟨rb, 0, none⟩))) (fun c s => sep [rI rb ck v, hp c s]) T true where
  name := fun c s => MCt.of (Ct.liftR (fun cld => RName_c (B.name c s)) fun cld x L ⟨B', ⟨h1, h2⟩, h3⟩ => ⟨cld, _, by rw [h3, h2], h1, rfl⟩)
  size := fun c s hs => MCt.of (Ct.liftR (fun cld => RSize_0 (fun x L h => ⟨_, _, h.1⟩) (B.size c s hs)) fun cld x L ⟨B', ⟨h1, h2⟩, h3⟩ => ⟨cld, _, by rw [h3, h2], h1, rfl⟩)
  sync := fun c s => MCt.of (Ct.liftR (fun cld => RSync_c (B.sync c s)) fun cld x L ⟨B', ⟨h1, h2⟩, h3⟩ => ⟨cld, _, by rw [h3, h2], h1, rfl⟩)
  close := fun c s => MCt.of (Ct.liftR (R := fun cld x L => (isErr ea 0 x ∨ isErr ea 3 x) ∧ L = [rP rb none ck v 0 true, hp c s]) (fun cld => by
    cases cld with
    | true => exact (RClose_t (B.name c s)).mono (fun x L ⟨b, h1, h2⟩ => ⟨.inr ⟨b, h1⟩, h2⟩) (fun _ _ h => h)
    | false => exact RClose_f (B.name c s) (B.close c s)) fun cld x L ⟨h1, h2⟩ => ⟨true, _, h2, h1, rfl⟩)
  read := fun c s db e old k a hs hk hb => MCt.of (by
    have h := ((B.read c s db e old k a hs hk hb).pack).mono (fun _ _ h => h) (E' := nev) (fun _ _ h => nevP h)
    refine Ct.liftR3 (fun cld => RReadAt_0 (fun x L h => ?_) h) fun x L h => ⟨_, _, h.2, h.1, rfl⟩
    obtain ⟨B', ⟨h1, _⟩, _⟩ := h
    exact ⟨_, _, h1⟩)
  readN := fun c s sl a ha => MCt.of (Ct.liftR (fun cld => RReadAt_0 (fun x L ⟨b, h1, _⟩ => ⟨_, _, h1⟩) (B.readN c s sl a ha)) fun cld x L ⟨B', ⟨b, h1, h2⟩, h3⟩ => ⟨cld, _, by rw [h3, h2], b, h1, rfl⟩)
  write := fun h => by cases h
  writeP := fun _ c s sl a ha => MCt.of (Ct.liftR (fun cld => RWriteAt_0 _ _ (B.name c s)) fun cld x L ⟨b, h1, h2⟩ => ⟨cld, _, h2, b, h1, rfl⟩)
  writeN := fun c s sl a ha => MCt.of (Ct.liftR (fun cld => RWriteAt_0 _ _ (B.name c s)) fun cld x L ⟨b, h1, h2⟩ => ⟨cld, _, h2, b, .inr h1, rfl⟩)
  trunc := fun h => by cases h
  truncN := fun h => by cases h
  truncP := fun _ c s n _ _ => MCt.of (Ct.liftR (fun cld => RTruncate_0 _ (B.name c s)) fun cld x L ⟨b, h1, h2⟩ => ⟨cld, _, h2, b, h1, rfl⟩)
  begin_ := fun h => by cases h
  end_ := fun h => by cases h
  roll := fun h => by cases h
  punch := fun h => by cases h
end
end Go.Proofs.YtfebpbflpdppiaaGreatDoor
namespace Go.Proofs.YtfebpbflpdppiaaGreatDoor
open Go Go.Sl
set_option maxRecDepth 100000
structure Lev where
  bb : Nat
  c : Cn
  s : Nat
  d : Nat → Bool
def lvV (v0 : Value) : List Lev → Value
  | [] => v0
  | L :: _ => .iface 107 (.pointer (some ⟨L.bb, 0, none⟩))
def lvc (c0 : Cn) : List Lev → Cn
  | [] => c0
  | L :: _ => L.c
def lvs (s0 : Nat) : List Lev → Nat
  | [] => s0
  | L :: _ => L.s
/-- what a level shows where nothing was written in it -/
def lvb (c0 : Cn) (s0 : Nat) (r : List Lev) : Cn := cutC (lvc c0 r) (lvs s0 r)
def lvP (v0 : Value) (c0 : Cn) (s0 : Nat) (L : Lev) (r : List Lev) : HP := bf L.bb (lvV v0 r) (lvb c0 s0 r) L.c L.s L.d
def lvH (X : HP) (v0 : Value) (c0 : Cn) (s0 : Nat) : List Lev → HP
  | [] => X
  | L :: r => sep [lvH X v0 c0 s0 r, lvP v0 c0 s0 L r]
section
variable {F : List HP} {g x y b : HP}
theorem rq3 : Ent (g :: sep [x, y] :: b :: F) (g :: x :: y :: b :: F) := Ent.cons (sep_open [x, y] _)
theorem rq3' : Ent (g :: x :: y :: b :: F) (g :: sep [x, y] :: b :: F) := Ent.cons (sep_shut [x, y] (b :: F))
theorem rq2 : Ent (g :: sep [x, y] :: F) (g :: x :: y :: F) := Ent.cons (sep_open [x, y] _)
theorem rq2' : Ent (g :: x :: y :: F) (g :: sep [x, y] :: F) := Ent.cons (sep_shut [x, y] F)
end
attribute [local irreducible] wpList Code.wp Exit.then Exit.inBlock bodyPost RunS RunV G St Ct Sat Ent At Rd GQ QL wpAny wpOp wpQuiet slP Sl.ex sep
attribute [local irreducible] zf memf pgl rng ov cutC zc mapO rdd bme bf bx
section
variable {glb X : HP} {ea : Addr} {v0 : Value} {c0 : Cn} {s0 N : Nat} {M : Int}
theorem lvV_I (h : ∃ t u, v0 = .iface t u) : ∀ r : List Lev, ∃ t u, lvV v0 r = .iface t u
  | [] => h
  | _L :: _ => ⟨_, _, rfl⟩
theorem lv_size (hI : MCt Tryz.prog v0 "Size" [] [X] (fun x B => x = .tuple #[.int .i64 (s0 : Nat), .nilIface] ∧ B = [X]) nev) : ∀ r : List Lev,
    MCt Tryz.prog (lvV v0 r) "Size" [] [lvH X v0 c0 s0 r] (fun x B => x = .tuple #[.int .i64 (lvs s0 r : Nat), .nilIface] ∧ B = [lvH X v0 c0 s0 r]) nev
  | [] => hI
  | L :: r => MCt.of (((bSize_c (bb := L.bb) (pv := lvV v0 r) (cb := lvb c0 s0 r) (c := L.c) (s := L.s) (d := L.d)).frame [lvH X v0 c0 s0 r]).conv (fun F => (sep_open [lvH X v0 c0 s0 r, lvP v0 c0 s0 L r] F).trans (arr_ent 0 [1, 0] _)) (fun x B ⟨B', ⟨h1, h2⟩, h3⟩ => ⟨_, ⟨h1, rfl⟩, fun F => by
      subst h3 h2
      exact Ent.trans (arr_ent 0 [1, 0] _) (sep_shut [lvH X v0 c0 s0 r, lvP v0 c0 s0 L r] F)⟩) (fun c B ⟨_, h, _⟩ => h.elim))
theorem lv_rdc (hN : N ≤ 1000000000000) (hglb : Rd [glb] ⟨1, 0, none⟩ (eofV ea)) (hI : ∃ t u, v0 = .iface t u) (h0 : RdC v0 glb X ea N c0 s0) : ∀ r : List Lev, (∀ L ∈ r, L.s ≤ 900000000000) → 4096 * r.length ≤ N →
    RdC (lvV v0 r) glb (lvH X v0 c0 s0 r) ea (N - 4096 * r.length) (lvc c0 r) (lvs s0 r)
  | [], _, _ => h0
  | L :: r, hs, hn => fun db e old k off hk hb => by
    simp only [List.length_cons] at hn hb
    have ih := lv_rdc hN hglb hI h0 r (fun L' h => hs L' (List.mem_cons_of_mem _ h)) (by omega)
    obtain ⟨t, u, he⟩ := lvV_I hI r
    rw [he] at ih
    have h1 := bReadAt_c (bb := L.bb) (c := L.c) (d := L.d) (s := L.s) (cb := lvb c0 s0 r) (N := N - 4096 * r.length) (by omega) hglb ih rfl db e old k off hk (by omega) (hs L (by simp))
    refine MCt.of (h1.conv (fun F => ?_) (fun x B hx => ?_) (fun c B h => h.elim))
    · rw [← he]; exact rq3
    · obtain ⟨y, h2, h3, h4, h5⟩ := hx
      refine ⟨_, ⟨y, h2, h3, h4, rfl⟩, fun F => ?_⟩
      rw [h5, ← he]
      exact rq3'
theorem lv_rdm (hM : M ≤ 1000000000000000) (hglb : Rd [glb] ⟨1, 0, none⟩ (eofV ea)) (hI : ∃ t u, v0 = .iface t u) (h0 : RdM v0 glb X M) : ∀ r : List Lev, (∀ L ∈ r, L.s ≤ 900000000000) →
    RdM (lvV v0 r) glb (lvH X v0 c0 s0 r) (M - 4096 * (r.length : Int))
  | [], _ => by
    have : M - 4096 * (([] : List Lev).length : Int) = M := by simp
    rw [this]
    exact h0
  | L :: r, hs => fun a k cp off hk ho hb => by
    simp only [List.length_cons] at hb
    have ih := lv_rdm hM hglb hI h0 r (fun L' h => hs L' (List.mem_cons_of_mem _ h))
    obtain ⟨t, u, he⟩ := lvV_I hI r
    rw [he] at ih
    have h1 := bReadAt_n (bb := L.bb) (c := L.c) (d := L.d) (s := L.s) (cb := lvb c0 s0 r) hglb (by omega) ih a k cp off hk ho (by omega) (hs L (by simp))
    refine MCt.of (h1.conv (fun F => ?_) (fun x B hx => ?_) (fun c B h => h.elim))
    · rw [← he]; exact rq2
    · obtain ⟨b, h2, h5⟩ := hx
      refine ⟨_, ⟨b, h2, rfl⟩, fun F => ?_⟩
      rw [h5, ← he]
      exact rq2'
end
/-- pages laid in a level -/
def wC (cc : Cn) (T : Nat) (c : Cn) (done : List Nat) : Cn := done.foldl (fun c i => ov c (T + i * 4096) (pgl cc i)) c
def wS (T : Nat) (s : Nat) (done : List Nat) : Nat := done.foldl (fun s i => max s (T + i * 4096 + 4096)) s
def wD (d : Nat → Bool) (done : List Nat) : Nat → Bool := done.foldl (fun d i => dw d (i * 4096) 4096) d
theorem wC_add (cc : Cn) (T : Nat) (c : Cn) (done : List Nat) (i : Nat) : wC cc T c (done ++ [i]) = ov (wC cc T c done) (T + i * 4096) (pgl cc i) := by simp [wC]
theorem wS_add (T s : Nat) (done : List Nat) (i : Nat) : wS T s (done ++ [i]) = max (wS T s done) (T + i * 4096 + 4096) := by simp [wS]
theorem wD_add (d : Nat → Bool) (done : List Nat) (i : Nat) : wD d (done ++ [i]) = dw (wD d done) (i * 4096) 4096 := by simp [wD]
theorem wS_le {T N : Nat} : ∀ (s : Nat) (_ : s ≤ N) (done : List Nat), (∀ i ∈ done, T + i * 4096 + 4096 ≤ N) → wS T s done ≤ N
  | s, hs, [], _ => hs
  | s, hs, i :: l, h => wS_le (max s (T + i * 4096 + 4096)) (by have := h i (by simp); omega) l fun j hj => h j (by simp [hj])
end Go.Proofs.YtfebpbflpdppiaaGreatDoor
namespace Go.Proofs.YtfebpbflpdppiaaGreatDoor
open Go Go.Sl
set_option maxRecDepth 100000
theorem ov_congr0 (c : Cn) (o : Nat) (bs : List UInt8) : ov c (0 + o) bs = ov c o bs := by rw [Nat.zero_add]
attribute [local irreducible] wpList Code.wp Exit.then Exit.inBlock bodyPost RunS RunV G St Ct Sat Ent At Rd GQ QL wpAny wpOp wpQuiet slP Sl.ex sep
attribute [local irreducible] zf memf pgl rng ov cutC zc mapO rdd bme bf bx wC wS wD
section
variable {glb X : HP} {ea : Addr} {v0 : Value} {c0 : Cn} {s0 N : Nat}
/-- the level beneath, with pages laid in it -/
def lvT (glb X : HP) (v0 : Value) (c0 : Cn) (s0 : Nat) (L : Lev) (r : List Lev) (cc : Cn) (done : List Nat) : HP :=
  sep [glb, lvH X v0 c0 s0 r, bf L.bb (lvV v0 r) (lvb c0 s0 r) (wC cc 0 L.c done) (wS 0 L.s done) (wD L.d done)]
def lvT2 (glb X : HP) (v0 : Value) (c0 : Cn) (s0 : Nat) (L : Lev) (r : List Lev) (cc : Cn) (s : Nat) (done : List Nat) : HP :=
  sep [glb, lvH X v0 c0 s0 r, bf L.bb (lvV v0 r) (lvb c0 s0 r) (tc (lvb c0 s0 r) (wC cc 0 L.c done) s) s (td (wD L.d done) s)]
theorem lv_wrc (hN : N ≤ 1000000000000) (hglb : Rd [glb] ⟨1, 0, none⟩ (eofV ea)) (hI : ∃ t u, v0 = .iface t u) (h0 : RdC v0 glb X ea N c0 s0) (L : Lev) (r : List Lev) (hs : ∀ L' ∈ L :: r, L'.s ≤ 800000000000) (cc : Cn) (d : Nat → Bool) (s : Nat)
    (hd : ∀ j, d j = true → j * 4096 < s) (hsn : s ≤ 800000000000) (hn : s + 4096 * r.length + 8192 ≤ N) : WrC (lvV v0 (L :: r)) (lvT glb X v0 c0 s0 L r cc) true cc d := fun db done i hi hni hdone => by
  have hir := hd i hi
  have ih := lv_rdc hN hglb hI h0 r (fun L' h => by have := hs L' (List.mem_cons_of_mem _ h); omega) (by omega)
  obtain ⟨t, u, he⟩ := lvV_I hI r
  rw [he] at ih
  have hsz : wS 0 L.s done ≤ 900000000000 := wS_le _ (by have := hs L (by simp); omega) done fun j hj => by have := hd j (hdone j hj); omega
  have hsrc : Src [blk db (cl (u8s (pgl cc i)) 5)] 1 (.slice (some ⟨db, 0, none⟩) 4096 4096) 4096 (u8s (pgl cc i)) := .some db 0 4096 4096 _ (by simp) (rdn_all 0 rfl)
  have h1 := bWriteAt_c (bb := L.bb) (c := wC cc 0 L.c done) (d := wD L.d done) (s := wS 0 L.s done) (cb := lvb c0 s0 r) (N := N - 4096 * r.length) (A := blk db (cl (u8s (pgl cc i)) 5)) (by omega) hglb ih rfl (pgl cc i) (some ⟨db, 0, none⟩) 4096 4096 (i * 4096) hsrc (Nat.le_refl _) (by omega) hsz
  refine MCt.of (h1.conv (fun F => ?_) (fun x B hx => ?_) (fun c B h => h.elim))
  · unfold lvT
    rw [← he]
    exact sep_open [_, _, _] _
  · obtain ⟨h2, h3⟩ := hx
    refine ⟨_, .inl ⟨rfl, h2, rfl⟩, fun F => ?_⟩
    rw [h3, ← he]
    unfold lvT
    rw [wC_add, wS_add, wD_add, ov_congr0, Nat.zero_add]
    exact sep_shut [_, _, _] _
theorem lv_tr (L : Lev) (r : List Lev) (_hI : ∃ t u, v0 = .iface t u) (hs : L.s ≤ 800000000000) (cc : Cn) (s : Nat) (hsn : s ≤ 800000000000) (done : List Nat) (hdone : ∀ j ∈ done, j * 4096 < s) :
    MCt Tryz.prog (lvV v0 (L :: r)) "Truncate" [.int .i64 (s : Nat)] [lvT glb X v0 c0 s0 L r cc done] (fun v B => v = .nilIface ∧ B = [lvT2 glb X v0 c0 s0 L r cc s done]) nev := by
  have hsz : wS 0 L.s done ≤ 1000000000000 := wS_le _ (by omega) done fun j hj => by have := hdone j hj; omega
  have h1 := (bTruncate_c (bb := L.bb) (pv := lvV v0 r) (c := wC cc 0 L.c done) (d := wD L.d done) (s := wS 0 L.s done) (cb := lvb c0 s0 r) s (by omega) hsz).frame [glb, lvH X v0 c0 s0 r]
  refine MCt.of (h1.conv (fun F => ?_) (fun x B hx => ?_) (fun c B ⟨_, h, _⟩ => h.elim))
  · unfold lvT
    exact (sep_open [_, _, _] _).trans (arr_ent 0 [2, 0, 0] _)
  · obtain ⟨B', ⟨h2, h3⟩, h4⟩ := hx
    refine ⟨_, ⟨h2, rfl⟩, fun F => ?_⟩
    subst h4 h3
    unfold lvT2
    exact Ent.trans (arr_ent 0 [1, 1, 0] _) (sep_shut [_, _, _] _)
end
section
variable {glb : HP} {ea : Addr} {v : Value} {hp : Cn → Nat → HP} {T : Nat} {ro : Bool} {PT : HP}
def bsT (hp : Cn → Nat → HP) (PT : HP) (T : Nat) (c : Cn) (s : Nat) (cc : Cn) (done : List Nat) : HP := sep [hp (wC cc T c done) (wS T s done), PT]
theorem bs_wrc (B : BF glb ea v hp T false) (c : Cn) (s : Nat) (hsz : s ≤ 900000000000) (cc : Cn) (d : Nat → Bool) (sc : Nat) (hd : ∀ j, d j = true → j * 4096 < sc) (hsn : T + sc ≤ 800000000000) : WrC v (bsT hp PT T c s cc) true cc d := fun db done i hi hni hdone => by
  have hir := hd i hi
  have hs2 : wS T s done ≤ 900000000000 := wS_le _ hsz done fun j hj => by have := hd j (hdone j hj); omega
  have hsrc : Src [blk db (cl (u8s (pgl cc i)) 5)] 1 (.slice (some ⟨db, 0, none⟩) 4096 4096) 4096 (u8s (pgl cc i)) := .some db 0 4096 4096 _ (by simp) (rdn_all 0 rfl)
  have h1 := B.write rfl (wC cc T c done) (wS T s done) (blk db (cl (u8s (pgl cc i)) 5)) (pgl cc i) (some ⟨db, 0, none⟩) 4096 4096 (i * 4096) hsrc (Nat.le_refl _) (by omega) (by omega)
  obtain ⟨rt, u, f, e, m1, m2, h2⟩ := h1
  refine ⟨rt, u, f, e, m1, m2, (h2.frame [PT]).conv (fun F => ?_) (fun x B hx => ?_) (fun c B ⟨_, h, _⟩ => h.elim)⟩
  · unfold bsT
    exact (sep_open [_, _] _).trans (arr_ent 0 [0, 1, 0] _)
  · obtain ⟨B', ⟨h2, h3⟩, h4⟩ := hx
    refine ⟨_, .inl ⟨rfl, h2, rfl⟩, fun F => ?_⟩
    subst h4 h3
    unfold bsT
    rw [wC_add, wS_add, if_neg (by decide)]
    exact Ent.trans (arr_ent 0 [0, 1, 0] _) (sep_shut [_, _] _)
theorem bs_wrp (B : BF glb ea v hp T true) (c : Cn) (s : Nat) (cc : Cn) (d : Nat → Bool) (sc : Nat) (hd : ∀ j, d j = true → j * 4096 < sc) (hsn : T + sc ≤ 800000000000) : WrC v (fun _ => sep [hp c s, PT]) false cc d := fun db done i hi hni hdone => by
  have hir := hd i hi
  obtain ⟨rt, u, f, e, m1, m2, h2⟩ := B.writeP rfl c s (.slice (some ⟨db, 0, none⟩) 4096 4096) (i * 4096) (by omega)
  refine ⟨rt, u, f, e, m1, m2, (h2.frame [PT, blk db (cl (u8s (pgl cc i)) 5)]).conv (fun F => sep_open [_, _] _) (fun x B hx => ?_) (fun c B ⟨_, h, _⟩ => h.elim)⟩
  obtain ⟨B', ⟨b, h2, h3⟩, h4⟩ := hx
  refine ⟨_, .inr ⟨rfl, b, h2, rfl⟩, fun F => ?_⟩
  subst h4 h3
  exact sep_shut [_, _] _
end
end Go.Proofs.YtfebpbflpdppiaaGreatDoor
namespace Go.Proofs.YtfebpbflpdppiaaGreatDoor
open Go Go.Sl
set_option maxRecDepth 100000
def ints (l : List Int) : List Value := l.map fun i => .int .i64 i
/-- the sizes told at checkpoints -/
def ptsH (pb : Nat) (l : List Int) : HP := ex fun x : Option Addr × Nat => sep [blk pb (cl [.slice x.1 l.length x.2] 31), slP (.slice x.1 l.length x.2) 2 1 (ints l)]
attribute [local irreducible] wpList Code.wp Exit.then Exit.inBlock bodyPost RunS RunV G St Ct Sat Ent At Rd GQ QL wpAny wpOp wpQuiet slP Sl.ex sep
attribute [local irreducible] zf memf pgl rng ov cutC zc mapO rdd bme bf bx wC wS wD
section
variable {v : Value} {A A' : HP} {pb nb s : Nat} {l : List Int}
theorem check_c (hl : l.length ≤ 1000000) (h : MCt Tryz.prog v "Truncate" [.int .i64 (s : Nat)] [A] (fun x B => x = .nilIface ∧ B = [A']) nev) : Ct Tryz.prog 25 #[.int .i64 (s : Nat), .pointer (some ⟨pb, 0, none⟩), .pointer (some ⟨nb, 0, none⟩)] [A, ptsH pb l, blk nb (cl [v] 54)]
    (fun x B => x = .nilIface ∧ B = [A', ptsH pb (l ++ [(s : Int)]), blk nb (cl [v] 54)]) nev := by
  refine Ct.of Tryz.func25 rfl Tryz.ntmps25 rfl fun m F => ?_
  refine G.ent (arr_ent 0 [1, 0, 0] _) ?_
  refine G.exE fun x => ?_
  obtain ⟨a, c⟩ := x
  refine G.ent (sep_open _ _) ?_
  repeat (first | refine wZ ?_ | intro b)
  refine l_plain rfl (s_append (i := 2) rfl rfl rfl (Src.some _ _ _ _ _ rfl (rdn_all 0 rfl)) rfl rfl (by simp [ints]) rfl (by omega) (by simp only [maxLen]; omega) rfl ?_)
  intro a2 c2
  repeat (first | refine wZ ?_ | intro b)
  refine l_plain rfl (s_invokeM rfl rfl rfl h [3] rfl ?_ (fun _ _ h => h.elim))
  rintro _ _ ⟨rfl, rfl⟩
  repeat (first | refine wZ ?_ | intro b)
  refine e_ret1 _ rfl rfl ⟨rfl, rfl⟩ ?_
  have e1 : ints l ++ [.int .i64 (s : Nat)] = ints (l ++ [(s : Int)]) := by simp [ints]
  have e2 : l.length + 1 = (l ++ [(s : Int)]).length := by simp
  rw [e1, e2]
  refine Ent.trans (arr_ent 1 [1, 1, 0, 1] _) ?_
  refine Ent.trans (sep_shut [_, _] _) ?_
  exact Ent.trans (ex_shut (fun x : Option Addr × Nat => sep [blk pb (cl [.slice x.1 (l ++ [(s : Int)]).length x.2] 31), slP (.slice x.1 (l ++ [(s : Int)]).length x.2) 2 1 (ints (l ++ [(s : Int)]))]) (a2, c2) _) (arr_ent 0 [1, 0, 0] _)
end
end Go.Proofs.YtfebpbflpdppiaaGreatDoor
namespace Go.Proofs.YtfebpbflpdppiaaGreatDoor
open Go Go.Sl
set_option maxRecDepth 100000
/-- what stands behind a call, with blocks that are not touched -/
def xR (K : List HP) (R : Value → List HP → Prop) : Value → List HP → Prop := fun v B => ∃ B', R v B' ∧ B = K ++ B'
def xE (K : List HP) (E : List PanicEntry → List HP → Prop) : List PanicEntry → List HP → Prop := fun c B => ∃ B', E c B' ∧ B = K ++ B'
theorem _root_.Go.Sl.Ct.flat {P : Program} {f : FuncId} {args : Array Value} {I : HP} {L : List HP} {R : Value → List HP → Prop} {E : List PanicEntry → List HP → Prop}
    (h : Ct P f args [I, sep L] (wR I (fun x B => ∃ B', R x B' ∧ B = [sep B'])) (wE I (fun c B => ∃ B', E c B' ∧ B = [sep B']))) : Ct P f args (I :: L) (xR [I] R) (xE [I] E) :=
  h.conv (fun F => Ent.cons (sep_shut L F)) (fun x B ⟨B', ⟨B2, h1, h3⟩, h2⟩ => ⟨_, ⟨B2, h1, rfl⟩, fun F => by subst h3 h2; exact Ent.cons (sep_open B2 F)⟩)
    (fun c B ⟨B', ⟨B2, h1, h3⟩, h2⟩ => ⟨_, ⟨B2, h1, rfl⟩, fun F => by subst h3 h2; exact Ent.cons (sep_open B2 F)⟩)
theorem xR_cons {I : HP} {K : List HP} {R : Value → List HP → Prop} {v : Value} {B : List HP} (h : xR [I] (xR K R) v B) : xR (I :: K) R v B := by
  obtain ⟨B1, ⟨B2, h1, h2⟩, h3⟩ := h
  exact ⟨B2, h1, by rw [h3, h2]; rfl⟩
theorem xE_cons {I : HP} {K : List HP} {E : List PanicEntry → List HP → Prop} {c : List PanicEntry} {B : List HP} (h : xE [I] (xE K E) c B) : xE (I :: K) E c B := by
  obtain ⟨B1, ⟨B2, h1, h2⟩, h3⟩ := h
  exact ⟨B2, h1, by rw [h3, h2]; rfl⟩
/-- inner filers, from the outermost on: block and offset -/
def chV (v0 : Value) : List (Nat × Nat) → Value
  | [] => v0
  | (ib, _) :: _ => .iface 56 (.pointer (some ⟨ib, 0, none⟩))
def chB (v0 : Value) : List (Nat × Nat) → List HP
  | [] => []
  | (ib, off) :: l => iP ib (chV v0 l) off :: chB v0 l
def chT : List (Nat × Nat) → Nat
  | [] => 0
  | (_, off) :: l => chT l + off
section
variable {v0 : Value} {L : List HP} {R : Value → List HP → Prop} {E : List PanicEntry → List HP → Prop}
theorem ch0 {P : Program} {v : Value} {n : String} {vs : List Value} (h : MCt P v n vs L R E) : MCt P v n vs ([] ++ L) (xR [] R) (xE [] E) := h.mono (fun _v B h => ⟨B, h, rfl⟩) (fun _c B h => ⟨B, h, rfl⟩)
theorem ch_name (h : MCt Tryz.prog v0 "Name" [] L R E) : ∀ l, MCt Tryz.prog (chV v0 l) "Name" [] (chB v0 l ++ L) (xR (chB v0 l) R) (xE (chB v0 l) E)
  | [] => ch0 h
  | (_ib, _off) :: l => MCt.of ((IName_c (ch_name h l).pack).flat.mono (fun _ _ h => xR_cons h) (fun _ _ h => xE_cons h))
theorem ch_sync (h : MCt Tryz.prog v0 "Sync" [] L R E) : ∀ l, MCt Tryz.prog (chV v0 l) "Sync" [] (chB v0 l ++ L) (xR (chB v0 l) R) (xE (chB v0 l) E)
  | [] => ch0 h
  | (_ib, _off) :: l => MCt.of ((ISync_c (ch_sync h l).pack).flat.mono (fun _ _ h => xR_cons h) (fun _ _ h => xE_cons h))
theorem ch_close (h : MCt Tryz.prog v0 "Close" [] L R E) : ∀ l, MCt Tryz.prog (chV v0 l) "Close" [] (chB v0 l ++ L) (xR (chB v0 l) R) (xE (chB v0 l) E)
  | [] => ch0 h
  | (_ib, _off) :: l => MCt.of ((IClose_c (ch_close h l).pack).flat.mono (fun _ _ h => xR_cons h) (fun _ _ h => xE_cons h))
theorem ch_begin (h : MCt Tryz.prog v0 "BeginUpdate" [] L R E) : ∀ l, MCt Tryz.prog (chV v0 l) "BeginUpdate" [] (chB v0 l ++ L) (xR (chB v0 l) R) (xE (chB v0 l) E)
  | [] => ch0 h
  | (_ib, _off) :: l => MCt.of ((IBeginUpdate_c (ch_begin h l).pack).flat.mono (fun _ _ h => xR_cons h) (fun _ _ h => xE_cons h))
theorem ch_end (h : MCt Tryz.prog v0 "EndUpdate" [] L R E) : ∀ l, MCt Tryz.prog (chV v0 l) "EndUpdate" [] (chB v0 l ++ L) (xR (chB v0 l) R) (xE (chB v0 l) E)
  | [] => ch0 h
  | (_ib, _off) :: l => MCt.of ((IEndUpdate_c (ch_end h l).pack).flat.mono (fun _ _ h => xR_cons h) (fun _ _ h => xE_cons h))
theorem ch_roll (h : MCt Tryz.prog v0 "Rollback" [] L R E) : ∀ l, MCt Tryz.prog (chV v0 l) "Rollback" [] (chB v0 l ++ L) (xR (chB v0 l) R) (xE (chB v0 l) E)
  | [] => ch0 h
  | (_ib, _off) :: l => MCt.of ((IRollback_c (ch_roll h l).pack).flat.mono (fun _ _ h => xR_cons h) (fun _ _ h => xE_cons h))
theorem ch_punch {b : Int} : ∀ (l : List (Nat × Nat)) (a : Int), -1000000000000000 ≤ a → a + chT l ≤ 1000000000000000 → MCt Tryz.prog v0 "PunchHole" [.int .i64 ((chT l : Int) + a), .int .i64 b] L R E →
    MCt Tryz.prog (chV v0 l) "PunchHole" [.int .i64 a, .int .i64 b] (chB v0 l ++ L) (xR (chB v0 l) R) (xE (chB v0 l) E)
  | [], a, _, _, h => ch0 (by simpa [chT, chV] using h)
  | (ib, off) :: l, a, h1, h2, h => by
    simp only [chT] at h h2
    have h3 := ch_punch l ((off : Int) + a) (by omega) (by omega) (by rw [show (chT l : Int) + ((off : Int) + a) = ((chT l + off : Nat) : Int) + a from by omega]; exact h)
    exact MCt.of ((IPunchHole_c (off := off) (a := a) (b := b) (by omega) h3.pack).flat.mono (fun _ _ h => xR_cons h) (fun _ _ h => xE_cons h))
theorem ch_trunc : ∀ (l : List (Nat × Nat)) (a : Int), -1000000000000000 ≤ a → a + chT l ≤ 1000000000000000 → MCt Tryz.prog v0 "Truncate" [.int .i64 (a + (chT l : Int))] L R E →
    MCt Tryz.prog (chV v0 l) "Truncate" [.int .i64 a] (chB v0 l ++ L) (xR (chB v0 l) R) (xE (chB v0 l) E)
  | [], a, _, _, h => ch0 (by simpa [chT, chV] using h)
  | (ib, off) :: l, a, h1, h2, h => by
    simp only [chT] at h h2
    have h3 := ch_trunc l (a + (off : Int)) (by omega) (by omega) (by rw [show a + (off : Int) + (chT l : Int) = a + ((chT l + off : Nat) : Int) from by omega]; exact h)
    exact MCt.of ((ITruncate_c (off := off) (a := a) (by omega) h3.pack).flat.mono (fun _ _ h => xR_cons h) (fun _ _ h => xE_cons h))
theorem x2 {K : List HP} (hR2 : ∀ v B, R v B → ∃ x y, v = .tuple #[x, y]) : ∀ v B, (∃ B', xR K R v B' ∧ B = [sep B']) → ∃ x y, v = .tuple #[x, y] := fun v _B ⟨_, ⟨B2, h, _⟩, _⟩ => hR2 v B2 h
theorem ch_read {sl : Value} (hR2 : ∀ v B, R v B → ∃ x y, v = .tuple #[x, y]) : ∀ (l : List (Nat × Nat)) (a : Nat), a + chT l ≤ 1000000000000000 → MCt Tryz.prog v0 "ReadAt" [sl, .int .i64 ((chT l + a : Nat) : Int)] L R E →
    MCt Tryz.prog (chV v0 l) "ReadAt" [sl, .int .i64 (a : Nat)] (chB v0 l ++ L) (xR (chB v0 l) R) (xE (chB v0 l) E)
  | [], a, _, h => ch0 (by simpa [chT, chV] using h)
  | (ib, off) :: l, a, h2, h => by
    simp only [chT] at h h2
    have h3 := ch_read hR2 l (off + a) (by omega) (by rw [← Nat.add_assoc]; exact h)
    exact MCt.of ((IReadAt_c (off := off) (a := a) (by omega) (x2 hR2) h3.pack).flat.mono (fun _ _ h => xR_cons h) (fun _ _ h => xE_cons h))
theorem ch_write {sl : Value} (hR2 : ∀ v B, R v B → ∃ x y, v = .tuple #[x, y]) : ∀ (l : List (Nat × Nat)) (a : Nat), a + chT l ≤ 1000000000000000 → MCt Tryz.prog v0 "WriteAt" [sl, .int .i64 ((chT l + a : Nat) : Int)] L R E →
    MCt Tryz.prog (chV v0 l) "WriteAt" [sl, .int .i64 (a : Nat)] (chB v0 l ++ L) (xR (chB v0 l) R) (xE (chB v0 l) E)
  | [], a, _, h => ch0 (by simpa [chT, chV] using h)
  | (ib, off) :: l, a, h2, h => by
    simp only [chT] at h h2
    have h3 := ch_write hR2 l (off + a) (by omega) (by rw [← Nat.add_assoc]; exact h)
    exact MCt.of ((IWriteAt_c (off := off) (a := a) (by omega) (x2 hR2) h3.pack).flat.mono (fun _ _ h => xR_cons h) (fun _ _ h => xE_cons h))
theorem ch_size {s : Nat} (hs : s ≤ 1000000000000) (h : MCt Tryz.prog v0 "Size" [] L (fun x B => x = .tuple #[.int .i64 (s : Nat), .nilIface] ∧ B = L) E) : ∀ (l : List (Nat × Nat)), chT l ≤ 1000000000 →
    MCt Tryz.prog (chV v0 l) "Size" [] (chB v0 l ++ L) (fun x B => x = .tuple #[.int .i64 (s - chT l : Nat), .nilIface] ∧ B = chB v0 l ++ L) (xE (chB v0 l) E)
  | [], _ => h.mono (fun _ _ h => h) (fun c B h => ⟨B, h, rfl⟩)
  | (ib, off) :: l, hl => by
    simp only [chT] at hl
    have h3 := (ch_size hs h l (by omega)).pack
    have h4 : MCt Tryz.prog (chV v0 l) "Size" [] [sep (chB v0 l ++ L)] (fun x B => x = .tuple #[.int .i64 ((s - chT l : Nat) : Int), .nilIface] ∧ B = [sep (chB v0 l ++ L)]) (fun c B => ∃ B', xE (chB v0 l) E c B' ∧ B = [sep B']) := h3.mono (fun x B hx => by
      obtain ⟨B', ⟨h1, h2⟩, h3⟩ := hx
      exact ⟨h1, by rw [h3, h2]⟩) (fun _ _ h => h)
    have h5 := ISize_c (ib := ib) (off := off) (by omega) (by omega) h4
    refine MCt.of (h5.conv (fun F => Ent.cons (sep_shut _ F)) (fun x B hx => ?_) (fun c B hx => ?_))
    · obtain ⟨h1, h2⟩ := hx
      refine ⟨chB v0 ((ib, off) :: l) ++ L, ⟨?_, rfl⟩, fun F => ?_⟩
      · rw [h1, show max (((s - chT l : Nat) : Int) - (off : Int)) 0 = ((s - chT ((ib, off) :: l) : Nat) : Int) from by simp only [chT]; omega]
      · rw [h2]
        exact Ent.cons (sep_open (chB v0 l ++ L) F)
    · obtain ⟨B1, ⟨B2, ⟨B3, h1, h4⟩, h3⟩, h2⟩ := hx
      subst h2 h3 h4
      exact ⟨_, ⟨B3, h1, rfl⟩, fun F => Ent.cons (sep_open (chB v0 l ++ B3) F)⟩
end
end Go.Proofs.YtfebpbflpdppiaaGreatDoor
namespace Go.Proofs.YtfebpbflpdppiaaGreatDoor
open Go Go.Sl
set_option maxRecDepth 100000
attribute [local irreducible] wpList Code.wp Exit.then Exit.inBlock bodyPost RunS RunV G St Ct Sat Ent At Rd GQ QL wpAny wpOp wpQuiet slP Sl.ex sep
attribute [local irreducible] zf memf pgl rng ov cutC zc mapO rdd bme bf bx wC wS wD
section
variable {glb : HP} {ea : Addr}
theorem isEOF_t (hglb : Rd [glb] ⟨1, 0, none⟩ (eofV ea)) : Ct Tryz.prog 34 #[eofV ea] [glb] (fun v B => v = .bool true ∧ B = [glb]) nev := by
  refine Ct.of Tryz.func34 rfl Tryz.ntmps34 rfl fun m F => ?_
  unfold eofV at hglb ⊢
  repeat (first | refine wZ ?_ | intro b)
  refine l_plain rfl ?_
  apply s_val rfl rfl
  · exact r_load rfl rfl (Rd.at hglb 0 rfl)
  repeat (first | refine wZ ?_ | intro b)
  refine l_plain rfl ?_
  apply s_val rfl rfl
  · exact RunS.v (r_eqPP rfl rfl (by decide))
  repeat (first | refine wZ ?_ | intro b)
  exact e_ret1 _ rfl rfl ⟨rfl, rfl⟩ (Ent.refl _)
theorem kind_c (hglb : Rd [glb] ⟨1, 0, none⟩ (eofV ea)) (e : Nat) (v : Value) (h : isErr ea e v) : Ct Tryz.prog 26 #[v] [glb] (fun x B => x = .int .i64 (e : Nat) ∧ B = [glb]) nev := by
  refine Ct.of Tryz.func26 rfl Tryz.ntmps26 rfl fun m F => ?_
  match e, h with
  | 0, h =>
    obtain rfl := h
    repeat (first | refine wZ ?_ | intro b)
    exact e_ret1 _ rfl rfl ⟨rfl, rfl⟩ (Ent.refl _)
  | 1, h =>
    obtain rfl := h
    repeat (first | refine wZ ?_ | intro b)
    refine l_plain rfl (s_call rfl rfl (isEOF_t hglb) [0] rfl ?_ (fun _ _ h => h.elim))
    rintro _ _ ⟨rfl, rfl⟩
    repeat (first | refine wZ ?_ | intro b)
    exact e_ret1 _ rfl rfl ⟨rfl, rfl⟩ (Ent.refl _)
  | 2, h =>
    obtain ⟨b, rfl⟩ := h
    unfold invV
    repeat (first | refine wZ ?_ | intro b)
    exact e_ret1 _ rfl rfl ⟨rfl, rfl⟩ (Ent.refl _)
  | 3, h =>
    obtain ⟨b, rfl⟩ := h
    unfold permV
    repeat (first | refine wZ ?_ | intro b)
    exact e_ret1 _ rfl rfl ⟨rfl, rfl⟩ (Ent.refl _)
  | n + 4, h => exact h.elim
end
end Go.Proofs.YtfebpbflpdppiaaGreatDoor
namespace Go.Proofs.YtfebpbflpdppiaaGreatDoor
open Go Go.Sl
set_option maxRecDepth 100000
def stepV (d : ByteArray) (off n : Int) (sl : Value) : Value := .agg #[.string d, .int .i64 off, .int .i64 n, sl]
def toldV (e : Nat) (n : Int) (sl : Value) : Value := .agg #[.int .i64 (e : Nat), .int .i64 n, sl]
attribute [local irreducible] wpList Code.wp Exit.then Exit.inBlock bodyPost RunS RunV G St Ct Sat Ent At Rd GQ QL wpAny wpOp wpQuiet slP Sl.ex sep
attribute [local irreducible] zf memf pgl rng ov cutC zc mapO rdd bme bf bx wC wS wD
section
variable {glb A : HP} {ea : Addr} {v : Value} {off n : Int} {sl : Value} {Q : Nat → HP → Prop} {E : List PanicEntry → List HP → Prop}
theorem midrop {X Y : HP} {B R : List HP} : Ent (B ++ X :: Y :: R) (B ++ R) := ((Ent.mid B _).trans Ent.drop).trans ((Ent.mid B _).trans Ent.drop)
theorem fs_trunc (hglb : Rd [glb] ⟨1, 0, none⟩ (eofV ea)) (h : MCt Tryz.prog v "Truncate" [.int .i64 n] [glb, A] (fun x B => ∃ e A', isErr ea e x ∧ Q e A' ∧ B = [glb, A']) E) :
    Ct Tryz.prog 27 #[v, stepV ⟨#[116, 114, 117, 110, 99, 97, 116, 101]⟩ off n sl] [glb, A] (fun x B => ∃ e A', Q e A' ∧ x = toldV e 0 (.slice none 0 0) ∧ B = [glb, A']) E := by
  refine Ct.of Tryz.func27 rfl Tryz.ntmps27 rfl fun m F => ?_
  unfold stepV
  repeat (first | refine wZ ?_ | intro b)
  refine l_plain rfl (s_invokeM rfl rfl rfl h [2, 2] rfl ?_ ?_)
  · rintro x _ ⟨e, A', he, hQ, rfl⟩
    repeat (first | refine wZ ?_ | intro b)
    refine l_plain rfl (s_call rfl rfl (kind_c hglb e x he) [0] rfl ?_ (fun _ _ h => h.elim))
    rintro _ _ ⟨rfl, rfl⟩
    repeat (first | refine wZ ?_ | intro b)
    refine l_plain rfl ?_
    apply s_val rfl rfl
    · exact RunS.v (r_build (cells := #[.int .i64 (e : Nat), .int .i64 0, .slice none 0 0]) rfl (by kernel_rfl))
    repeat (first | refine wZ ?_ | intro b)
    exact e_retC1 (vs := [.int .i64 (e : Nat), .int .i64 0, .slice none 0 0]) [glb, A'] rfl rfl rfl rfl (rdn_all 0 rfl) ⟨e, A', hQ, rfl, rfl⟩ (arr_ent 2 [1, 1] _)
  · intro c B hE
    repeat (first | refine wZ ?_ | intro b)
    exact e_pan _ hE midrop
theorem fs_punch (hglb : Rd [glb] ⟨1, 0, none⟩ (eofV ea)) (h : MCt Tryz.prog v "PunchHole" [.int .i64 off, .int .i64 n] [glb, A] (fun x B => ∃ e A', isErr ea e x ∧ Q e A' ∧ B = [glb, A']) E) :
    Ct Tryz.prog 27 #[v, stepV ⟨#[112, 117, 110, 99, 104]⟩ off n sl] [glb, A] (fun x B => ∃ e A', Q e A' ∧ x = toldV e 0 (.slice none 0 0) ∧ B = [glb, A']) E := by
  refine Ct.of Tryz.func27 rfl Tryz.ntmps27 rfl fun m F => ?_
  unfold stepV
  repeat (first | refine wZ ?_ | intro b)
  refine l_plain rfl (s_invokeM rfl rfl rfl h [2, 2] rfl ?_ ?_)
  · rintro x _ ⟨e, A', he, hQ, rfl⟩
    repeat (first | refine wZ ?_ | intro b)
    refine l_plain rfl (s_call rfl rfl (kind_c hglb e x he) [0] rfl ?_ (fun _ _ h => h.elim))
    rintro _ _ ⟨rfl, rfl⟩
    repeat (first | refine wZ ?_ | intro b)
    refine l_plain rfl ?_
    apply s_val rfl rfl
    · exact RunS.v (r_build (cells := #[.int .i64 (e : Nat), .int .i64 0, .slice none 0 0]) rfl (by kernel_rfl))
    repeat (first | refine wZ ?_ | intro b)
    exact e_retC1 (vs := [.int .i64 (e : Nat), .int .i64 0, .slice none 0 0]) [glb, A'] rfl rfl rfl rfl (rdn_all 0 rfl) ⟨e, A', hQ, rfl, rfl⟩ (arr_ent 2 [1, 1] _)
  · intro c B hE
    repeat (first | refine wZ ?_ | intro b)
    exact e_pan _ hE midrop
theorem fs_begin (hglb : Rd [glb] ⟨1, 0, none⟩ (eofV ea)) (h : MCt Tryz.prog v "BeginUpdate" [] [glb, A] (fun x B => ∃ e A', isErr ea e x ∧ Q e A' ∧ B = [glb, A']) E) :
    Ct Tryz.prog 27 #[v, stepV ⟨#[98, 101, 103, 105, 110]⟩ off n sl] [glb, A] (fun x B => ∃ e A', Q e A' ∧ x = toldV e 0 (.slice none 0 0) ∧ B = [glb, A']) E := by
  refine Ct.of Tryz.func27 rfl Tryz.ntmps27 rfl fun m F => ?_
  unfold stepV
  repeat (first | refine wZ ?_ | intro b)
  refine l_plain rfl (s_invokeM rfl rfl rfl h [2, 2] rfl ?_ ?_)
  · rintro x _ ⟨e, A', he, hQ, rfl⟩
    repeat (first | refine wZ ?_ | intro b)
    refine l_plain rfl (s_call rfl rfl (kind_c hglb e x he) [0] rfl ?_ (fun _ _ h => h.elim))
    rintro _ _ ⟨rfl, rfl⟩
    repeat (first | refine wZ ?_ | intro b)
    refine l_plain rfl ?_
    apply s_val rfl rfl
    · exact RunS.v (r_build (cells := #[.int .i64 (e : Nat), .int .i64 0, .slice none 0 0]) rfl (by kernel_rfl))
    repeat (first | refine wZ ?_ | intro b)
    exact e_retC1 (vs := [.int .i64 (e : Nat), .int .i64 0, .slice none 0 0]) [glb, A'] rfl rfl rfl rfl (rdn_all 0 rfl) ⟨e, A', hQ, rfl, rfl⟩ (arr_ent 2 [1, 1] _)
  · intro c B hE
    repeat (first | refine wZ ?_ | intro b)
    exact e_pan _ hE midrop
theorem fs_end (hglb : Rd [glb] ⟨1, 0, none⟩ (eofV ea)) (h : MCt Tryz.prog v "EndUpdate" [] [glb, A] (fun x B => ∃ e A', isErr ea e x ∧ Q e A' ∧ B = [glb, A']) E) :
    Ct Tryz.prog 27 #[v, stepV ⟨#[101, 110, 100]⟩ off n sl] [glb, A] (fun x B => ∃ e A', Q e A' ∧ x = toldV e 0 (.slice none 0 0) ∧ B = [glb, A']) E := by
  refine Ct.of Tryz.func27 rfl Tryz.ntmps27 rfl fun m F => ?_
  unfold stepV
  repeat (first | refine wZ ?_ | intro b)
  refine l_plain rfl (s_invokeM rfl rfl rfl h [2, 2] rfl ?_ ?_)
  · rintro x _ ⟨e, A', he, hQ, rfl⟩
    repeat (first | refine wZ ?_ | intro b)
    refine l_plain rfl (s_call rfl rfl (kind_c hglb e x he) [0] rfl ?_ (fun _ _ h => h.elim))
    rintro _ _ ⟨rfl, rfl⟩
    repeat (first | refine wZ ?_ | intro b)
    refine l_plain rfl ?_
    apply s_val rfl rfl
    · exact RunS.v (r_build (cells := #[.int .i64 (e : Nat), .int .i64 0, .slice none 0 0]) rfl (by kernel_rfl))
    repeat (first | refine wZ ?_ | intro b)
    exact e_retC1 (vs := [.int .i64 (e : Nat), .int .i64 0, .slice none 0 0]) [glb, A'] rfl rfl rfl rfl (rdn_all 0 rfl) ⟨e, A', hQ, rfl, rfl⟩ (arr_ent 2 [1, 1] _)
  · intro c B hE
    repeat (first | refine wZ ?_ | intro b)
    exact e_pan _ hE midrop
theorem fs_roll (hglb : Rd [glb] ⟨1, 0, none⟩ (eofV ea)) (h : MCt Tryz.prog v "Rollback" [] [glb, A] (fun x B => ∃ e A', isErr ea e x ∧ Q e A' ∧ B = [glb, A']) E) :
    Ct Tryz.prog 27 #[v, stepV ⟨#[114, 111, 108, 108, 98, 97, 99, 107]⟩ off n sl] [glb, A] (fun x B => ∃ e A', Q e A' ∧ x = toldV e 0 (.slice none 0 0) ∧ B = [glb, A']) E := by
  refine Ct.of Tryz.func27 rfl Tryz.ntmps27 rfl fun m F => ?_
  unfold stepV
  repeat (first | refine wZ ?_ | intro b)
  refine l_plain rfl (s_invokeM rfl rfl rfl h [2, 2] rfl ?_ ?_)
  · rintro x _ ⟨e, A', he, hQ, rfl⟩
    repeat (first | refine wZ ?_ | intro b)
    refine l_plain rfl (s_call rfl rfl (kind_c hglb e x he) [0] rfl ?_ (fun _ _ h => h.elim))
    rintro _ _ ⟨rfl, rfl⟩
    repeat (first | refine wZ ?_ | intro b)
    refine l_plain rfl ?_
    apply s_val rfl rfl
    · exact RunS.v (r_build (cells := #[.int .i64 (e : Nat), .int .i64 0, .slice none 0 0]) rfl (by kernel_rfl))
    repeat (first | refine wZ ?_ | intro b)
    exact e_retC1 (vs := [.int .i64 (e : Nat), .int .i64 0, .slice none 0 0]) [glb, A'] rfl rfl rfl rfl (rdn_all 0 rfl) ⟨e, A', hQ, rfl, rfl⟩ (arr_ent 2 [1, 1] _)
  · intro c B hE
    repeat (first | refine wZ ?_ | intro b)
    exact e_pan _ hE midrop
theorem fs_sync (hglb : Rd [glb] ⟨1, 0, none⟩ (eofV ea)) (h : MCt Tryz.prog v "Sync" [] [glb, A] (fun x B => ∃ e A', isErr ea e x ∧ Q e A' ∧ B = [glb, A']) E) :
    Ct Tryz.prog 27 #[v, stepV ⟨#[115, 121, 110, 99]⟩ off n sl] [glb, A] (fun x B => ∃ e A', Q e A' ∧ x = toldV e 0 (.slice none 0 0) ∧ B = [glb, A']) E := by
  refine Ct.of Tryz.func27 rfl Tryz.ntmps27 rfl fun m F => ?_
  unfold stepV
  repeat (first | refine wZ ?_ | intro b)
  refine l_plain rfl (s_invokeM rfl rfl rfl h [2, 2] rfl ?_ ?_)
  · rintro x _ ⟨e, A', he, hQ, rfl⟩
    repeat (first | refine wZ ?_ | intro b)
    refine l_plain rfl (s_call rfl rfl (kind_c hglb e x he) [0] rfl ?_ (fun _ _ h => h.elim))
    rintro _ _ ⟨rfl, rfl⟩
    repeat (first | refine wZ ?_ | intro b)
    refine l_plain rfl ?_
    apply s_val rfl rfl
    · exact RunS.v (r_build (cells := #[.int .i64 (e : Nat), .int .i64 0, .slice none 0 0]) rfl (by kernel_rfl))
    repeat (first | refine wZ ?_ | intro b)
    exact e_retC1 (vs := [.int .i64 (e : Nat), .int .i64 0, .slice none 0 0]) [glb, A'] rfl rfl rfl rfl (rdn_all 0 rfl) ⟨e, A', hQ, rfl, rfl⟩ (arr_ent 2 [1, 1] _)
  · intro c B hE
    repeat (first | refine wZ ?_ | intro b)
    exact e_pan _ hE midrop
theorem fs_close (hglb : Rd [glb] ⟨1, 0, none⟩ (eofV ea)) (h : MCt Tryz.prog v "Close" [] [glb, A] (fun x B => ∃ e A', isErr ea e x ∧ Q e A' ∧ B = [glb, A']) E) :
    Ct Tryz.prog 27 #[v, stepV ⟨#[99, 108, 111, 115, 101]⟩ off n sl] [glb, A] (fun x B => ∃ e A', Q e A' ∧ x = toldV e 0 (.slice none 0 0) ∧ B = [glb, A']) E := by
  refine Ct.of Tryz.func27 rfl Tryz.ntmps27 rfl fun m F => ?_
  unfold stepV
  repeat (first | refine wZ ?_ | intro b)
  refine l_plain rfl (s_invokeM rfl rfl rfl h [2, 2] rfl ?_ ?_)
  · rintro x _ ⟨e, A', he, hQ, rfl⟩
    repeat (first | refine wZ ?_ | intro b)
    refine l_plain rfl (s_call rfl rfl (kind_c hglb e x he) [0] rfl ?_ (fun _ _ h => h.elim))
    rintro _ _ ⟨rfl, rfl⟩
    repeat (first | refine wZ ?_ | intro b)
    refine l_plain rfl ?_
    apply s_val rfl rfl
    · exact RunS.v (r_build (cells := #[.int .i64 (e : Nat), .int .i64 0, .slice none 0 0]) rfl (by kernel_rfl))
    repeat (first | refine wZ ?_ | intro b)
    exact e_retC1 (vs := [.int .i64 (e : Nat), .int .i64 0, .slice none 0 0]) [glb, A'] rfl rfl rfl rfl (rdn_all 0 rfl) ⟨e, A', hQ, rfl, rfl⟩ (arr_ent 2 [1, 1] _)
  · intro c B hE
    repeat (first | refine wZ ?_ | intro b)
    exact e_pan _ hE midrop
theorem fs_size (hglb : Rd [glb] ⟨1, 0, none⟩ (eofV ea)) {Q2 : Int → HP → Prop} (h : MCt Tryz.prog v "Size" [] [glb, A] (fun x B => ∃ q A', x = .tuple #[.int .i64 q, .nilIface] ∧ Q2 q A' ∧ B = [glb, A']) E) :
    Ct Tryz.prog 27 #[v, stepV ⟨#[115, 105, 122, 101]⟩ off n sl] [glb, A] (fun x B => ∃ q A', Q2 q A' ∧ x = toldV 0 q (.slice none 0 0) ∧ B = [glb, A']) E := by
  refine Ct.of Tryz.func27 rfl Tryz.ntmps27 rfl fun m F => ?_
  unfold stepV
  repeat (first | refine wZ ?_ | intro b)
  refine l_plain rfl (s_invokeM rfl rfl rfl h [2, 2] rfl ?_ ?_)
  · rintro x _ ⟨q, A', rfl, hQ, rfl⟩
    repeat (first | refine wZ ?_ | intro b)
    refine l_plain rfl (s_call rfl rfl (kind_c hglb 0 .nilIface rfl) [0] rfl ?_ (fun _ _ h => h.elim))
    rintro _ _ ⟨rfl, rfl⟩
    repeat (first | refine wZ ?_ | intro b)
    refine l_plain rfl ?_
    apply s_val rfl rfl
    · exact RunS.v (r_build (cells := #[.int .i64 (0 : Nat), .int .i64 q, .slice none 0 0]) rfl (by kernel_rfl))
    repeat (first | refine wZ ?_ | intro b)
    exact e_retC1 (vs := [.int .i64 (0 : Nat), .int .i64 q, .slice none 0 0]) [glb, A'] rfl rfl rfl rfl (rdn_all 0 rfl) ⟨q, A', hQ, rfl, rfl⟩ (arr_ent 2 [1, 1] _)
  · intro c B hE
    repeat (first | refine wZ ?_ | intro b)
    exact e_pan _ hE midrop
end
end Go.Proofs.YtfebpbflpdppiaaGreatDoor
namespace Go.Proofs.YtfebpbflpdppiaaGreatDoor
open Go Go.Sl
set_option maxRecDepth 100000
theorem src_sl1 {n : Nat} {ds : List Deferred} {σ : Env} {m : Amb} {L : List HP} {a : Option Addr} {e k c : Nat} {l : List Value} {size : Nat} {Φ : Act → World → Prop} (h : Src [slP (.slice a k c) e size l] size (.slice a k c) k l → k ≤ c → G n ds σ m (slP (.slice a k c) e size l :: L) Φ) :
    G n ds σ m (slP (.slice a k c) e size l :: L) Φ := fun ac w h1 h2 h3 h4 => by
  rcases slP_cases h4.2.2.2 with ⟨e0, h0⟩ | ⟨b, cap, k', e1, e2, e3, e4, _⟩
  · cases e0
    subst h0
    exact h Src.nil (Nat.le_refl _) ac w h1 h2 h3 h4
  · cases e1
    exact h (Src.some b 0 _ _ _ e2 (rdn_sl 0 rfl)) e3 ac w h1 h2 h3 h4
theorem RE {L R : List HP} {D : HP} {sl : Value} {k : Nat} {l : List Value} (h : Src [D] 1 sl k l) (i : Nat) (hi : takeAt i L = some (D, R)) : Src L 1 sl k l := h.ent ((takeAt_ent hi).trans (Ent.left [D] R))
attribute [local irreducible] wpList Code.wp Exit.then Exit.inBlock bodyPost RunS RunV G St Ct Sat Ent At Rd GQ QL wpAny wpOp wpQuiet slP Sl.ex sep
attribute [local irreducible] zf memf pgl rng ov cutC zc mapO rdd bme bf bx wC wS wD
section
variable {glb A D : HP} {ea : Addr} {v : Value} {off n : Int} {sl : Value} {Q3 : Nat → Int → HP → Prop} {E : List PanicEntry → List HP → Prop}
set_option maxHeartbeats 1000000 in
theorem fs_write (hglb : Rd [glb] ⟨1, 0, none⟩ (eofV ea)) (hm : ∃ rt u f, v = .iface rt u ∧ MethP Tryz.prog rt "WriteAt" f) (bs : List UInt8) (k : Nat) (hk : k ≤ 1000000000) (hs : Src [D] 1 sl k (u8s bs))
    (h : ∀ a cp, Src [slP (.slice a k cp) 5 1 (u8s bs)] 1 (.slice a k cp) k (u8s bs) → k ≤ cp → MCt Tryz.prog v "WriteAt" [.slice a k cp, .int .i64 off] [glb, A, slP (.slice a k cp) 5 1 (u8s bs)] (fun x B => ∃ n' y e A', x = .tuple #[.int .i64 n', y] ∧ isErr ea e y ∧ Q3 e n' A' ∧ B = [glb, A', slP (.slice a k cp) 5 1 (u8s bs)]) E) :
    Ct Tryz.prog 27 #[v, stepV ⟨#[119, 114, 105, 116, 101]⟩ off n sl] [glb, A, D] (fun x B => ∃ e n' A', Q3 e n' A' ∧ x = toldV e n' (.slice none 0 0) ∧ B = [glb, A', D]) (fun c B => ∃ B', E c B' ∧ B = B' ++ [D]) := by
  obtain ⟨rt, u, f, rfl, hmeth⟩ := hm
  refine Ct.of Tryz.func27 rfl Tryz.ntmps27 rfl fun m F => ?_
  unfold stepV
  repeat (first | refine wY ?_ | intro b)
  rename_i b1
  refine G.ent (L' := slP (.slice none 0 0) 5 1 [] :: blk b (cl [.int .i64 0, .int .i64 0, .slice none 0 0] 46) :: blk b1 (cl [.string ⟨#[119, 114, 105, 116, 101]⟩, .int .i64 off, .int .i64 n, sl] 43) :: glb :: A :: D :: F) (Ent.trans (Ent.refl _) slP_nil) ?_
  refine h_any [blk b1 (cl [.string ⟨#[119, 114, 105, 116, 101]⟩, .int .i64 off, .int .i64 n, sl] 43)] 15 rfl ?_
  have hE : Ent (slP (.slice none 0 0) 5 1 [] :: blk b (cl [.int .i64 0, .int .i64 0, .slice none 0 0] 46) :: blk b1 (cl [.string ⟨#[119, 114, 105, 116, 101]⟩, .int .i64 off, .int .i64 n, sl] 43) :: glb :: A :: D :: F) [blk b1 (cl [.string ⟨#[119, 114, 105, 116, 101]⟩, .int .i64 off, .int .i64 n, sl] 43)] := Ent.trans (arr_ent 0 [2] _) (Ent.left [_] _)
  refine h_take (by assumption) 0 rfl (by kernel_rfl) (by kernel_rfl) (by kernel_rfl) rfl rfl rfl pQ rV ?_
  refine h_take (by assumption) 1 rfl (by kernel_rfl) (by kernel_rfl) (by kernel_rfl) rfl rfl rfl pQ rV ?_
  refine h_take (by assumption) 2 rfl (by kernel_rfl) (by kernel_rfl) (by kernel_rfl) rfl rfl rfl pQ rV ?_
  refine h_take (by assumption) 4 rfl (by kernel_rfl) (by kernel_rfl) (by kernel_rfl) rfl rfl rfl pQ rV ?_
  refine h_take (by assumption) 5 rfl (by kernel_rfl) (by kernel_rfl) (by kernel_rfl) rfl rfl rfl pQ rV ?_
  refine h_take hE 6 rfl (by kernel_rfl) (by kernel_rfl) (by kernel_rfl) rfl rfl rfl pQ (RunS.v (r_mkMeth rfl)) ?_
  refine h_take hE 7 rfl (by kernel_rfl) (by kernel_rfl) (by kernel_rfl) rfl rfl rfl pQ (RunS.v (r_nilM rfl)) ?_
  refine h_take (by assumption) 8 rfl (by kernel_rfl) (by kernel_rfl) (by kernel_rfl) rfl rfl rfl pQ rV ?_
  refine h_one 3 (by kernel_rfl) rfl rfl ?_
  have hsrc := RE hs (L := slP (.slice none 0 0) 5 1 [] :: blk b (cl [.int .i64 0, .int .i64 0, .slice none 0 0] 46) :: blk b1 (cl [.string ⟨#[119, 114, 105, 116, 101]⟩, .int .i64 off, .int .i64 n, sl] 43) :: glb :: A :: D :: F) 5 rfl
  refine s_append (i := 0) rfl rfl rfl hsrc rfl rfl (by simp) (u8s_one _) (by omega) (by simp only [maxLen]; omega) rfl ?_
  intro a2 c2
  rw [List.nil_append, Nat.zero_add]
  refine src_sl1 fun hs2 hk2 => ?_
  have hE2 : Ent (slP (.slice a2 k c2) 5 1 (u8s bs) :: blk b (cl [.int .i64 0, .int .i64 0, .slice none 0 0] 46) :: blk b1 (cl [.string ⟨#[119, 114, 105, 116, 101]⟩, .int .i64 off, .int .i64 n, sl] 43) :: glb :: A :: D :: F) [blk b1 (cl [.string ⟨#[119, 114, 105, 116, 101]⟩, .int .i64 off, .int .i64 n, sl] 43)] := Ent.trans (arr_ent 0 [2] _) (Ent.left [_] _)
  refine h_then hE2 ?_
  refine h_one 9 (by kernel_rfl) rfl rfl ?_
  refine s_invokeM rfl rfl rfl (h a2 c2 hs2 hk2) [3, 3, 0] rfl ?_ ?_
  · rintro x _ ⟨n', y, e, A', rfl, he, hQ, rfl⟩
    refine h_then (Ent.trans (arr_ent 0 [4] _) (Ent.left [_] _)) ?_
    have hE4 : Ent ([glb, A', slP (.slice a2 k c2) 5 1 (u8s bs)] ++ blk b (cl [.int .i64 0, .int .i64 0, .slice none 0 0] 46) :: blk b1 (cl [.string ⟨#[119, 114, 105, 116, 101]⟩, .int .i64 off, .int .i64 n, sl] 43) :: D :: F) [blk b1 (cl [.string ⟨#[119, 114, 105, 116, 101]⟩, .int .i64 off, .int .i64 n, sl] 43)] := Ent.trans (arr_ent 0 [4] _) (Ent.left [_] _)
    refine h_take (by assumption) 10 rfl (by kernel_rfl) (by kernel_rfl) (by kernel_rfl) rfl rfl rfl pQ rV ?_
    refine h_take (by assumption) 11 rfl (by kernel_rfl) (by kernel_rfl) (by kernel_rfl) rfl rfl rfl pQ rV ?_
    refine h_take (by assumption) 12 rfl (by kernel_rfl) (by kernel_rfl) (by kernel_rfl) rfl rfl rfl pQ rV ?_
    refine h_take (by assumption) 13 rfl (by kernel_rfl) (by kernel_rfl) (by kernel_rfl) rfl rfl rfl pQ rV ?_
    refine h_take (by assumption) 14 rfl (by kernel_rfl) (by kernel_rfl) (by kernel_rfl) rfl rfl rfl pQ rV ?_
    refine h_done (by kernel_rfl) ?_
    refine q_then_n ?_
    repeat (first | refine wZ ?_ | intro b)
    refine l_plain rfl (s_call rfl rfl (kind_c hglb e y he) [0] rfl ?_ (fun _ _ h => h.elim))
    rintro _ _ ⟨rfl, rfl⟩
    repeat (first | refine wZ ?_ | intro b)
    refine l_plain rfl ?_
    apply s_val rfl rfl
    · exact RunS.v (r_build (cells := #[.int .i64 (e : Nat), .int .i64 n', .slice none 0 0]) rfl (by kernel_rfl))
    repeat (first | refine wZ ?_ | intro b)
    exact e_retC1 (vs := [.int .i64 (e : Nat), .int .i64 n', .slice none 0 0]) [glb, A', D] rfl rfl rfl rfl (rdn_all 0 rfl) ⟨e, n', A', hQ, rfl, rfl⟩ (arr_ent 3 [1, 1, 3] _)
  · intro c B hE5
    repeat (first | refine wZ ?_ | intro b)
    refine e_pan _ ⟨B, hE5, rfl⟩ (midrop.trans ?_)
    rw [List.append_assoc]
    exact Ent.refl _
end
end Go.Proofs.YtfebpbflpdppiaaGreatDoor
namespace Go.Proofs.YtfebpbflpdppiaaGreatDoor
open Go Go.Sl
set_option maxRecDepth 100000
attribute [local irreducible] wpList Code.wp Exit.then Exit.inBlock bodyPost RunS RunV G St Ct Sat Ent At Rd GQ QL wpAny wpOp wpQuiet slP Sl.ex sep
attribute [local irreducible] zf memf pgl rng ov cutC zc mapO rdd bme bf bx wC wS wD
section
variable {glb A : HP} {ea : Addr} {v : Value} {off : Int} {sl : Value} {Q4 : Nat → Nat → List UInt8 → HP → Prop} {E : List PanicEntry → List HP → Prop}
theorem fs_readB {n : Int} (hn : n < 0 ∨ 1048576 < n) : Ct Tryz.prog 27 #[v, stepV ⟨#[114, 101, 97, 100]⟩ off n sl] [] (fun x B => x = toldV 0 0 (.slice none 0 0) ∧ B = []) nev := by
  refine Ct.of Tryz.func27 rfl Tryz.ntmps27 rfl fun m F => ?_
  unfold stepV
  repeat (first | refine wZ ?_ | intro b)
  by_cases h0 : n < 0
  · rw [decide_eq_true h0]
    repeat (first | refine wZ ?_ | intro b)
    refine l_plain rfl ?_
    apply s_val rfl rfl
    · exact RunS.v (r_build (cells := #[.int .i64 0, .int .i64 0, .slice none 0 0]) rfl (by kernel_rfl))
    repeat (first | refine wZ ?_ | intro b)
    exact e_retC1 (vs := [.int .i64 0, .int .i64 0, .slice none 0 0]) [] rfl rfl rfl rfl (rdn_all 0 rfl) ⟨rfl, rfl⟩ (arr_ent 2 [] _)
  · rw [decide_eq_false h0]
    repeat (first | refine wZ ?_ | intro b)
    rw [decide_eq_true (by omega : 1048576 < n)]
    repeat (first | refine wZ ?_ | intro b)
    refine l_plain rfl ?_
    apply s_val rfl rfl
    · exact RunS.v (r_build (cells := #[.int .i64 0, .int .i64 0, .slice none 0 0]) rfl (by kernel_rfl))
    repeat (first | refine wZ ?_ | intro b)
    exact e_retC1 (vs := [.int .i64 0, .int .i64 0, .slice none 0 0]) [] rfl rfl rfl rfl (rdn_all 0 rfl) ⟨rfl, rfl⟩ (arr_ent 2 [] _)
set_option maxHeartbeats 1000000 in
theorem fs_read (hglb : Rd [glb] ⟨1, 0, none⟩ (eofV ea)) (k : Nat) (hk : k ≤ 1048576)
    (h : ∀ db, MCt Tryz.prog v "ReadAt" [.slice (some ⟨db, 0, none⟩) k k, .int .i64 off] [glb, A, blk db (cl (u8s (List.replicate k 0)) 5)] (fun x B => ∃ (n' : Nat) (y : Value) (e : Nat) (A' : HP) (nw : List UInt8), n' ≤ k ∧ x = .tuple #[.int .i64 (n' : Nat), y] ∧ isErr ea e y ∧ Q4 e n' nw A' ∧ B = [glb, A', blk db (cl (u8s nw) 5)]) E) :
    Ct Tryz.prog 27 #[v, stepV ⟨#[114, 101, 97, 100]⟩ off (k : Nat) sl] [glb, A] (fun x B => ∃ (e n' : Nat) (A' : HP) (nw : List UInt8) (db : Nat), Q4 e n' nw A' ∧ x = toldV e (n' : Nat) (.slice (some ⟨db, 0, none⟩) n' k) ∧ B = [glb, A', blk db (cl (u8s nw) 5)]) E := by
  refine Ct.of Tryz.func27 rfl Tryz.ntmps27 rfl fun m F => ?_
  unfold stepV
  repeat (first | refine wZ ?_ | intro b)
  rw [decide_eq_false (by omega : ¬ ((k : Nat) : Int) < 0)]
  repeat (first | refine wZ ?_ | intro b)
  rw [decide_eq_false (by omega : ¬ (1048576 : Int) < ((k : Nat) : Int))]
  repeat (first | refine wZ ?_ | intro b)
  refine l_plain rfl (s_mkSl (len := k) rfl rfl rfl (by omega) (by omega) rfl fun db => ?_)
  rw [← u8s_rep]
  repeat (first | refine wZ ?_ | intro b)
  refine l_plain rfl (s_invokeM rfl rfl rfl (h db) [3, 3, 0] rfl ?_ ?_)
  · rintro x _ ⟨n', y, e, A', nw, hnk, rfl, he, hQ, rfl⟩
    repeat (first | refine wY ?_ | intro b)
    refine h_any [] 9 rfl ?_
    refine h_take Ent.nil 0 rfl (by kernel_rfl) (by kernel_rfl) (by kernel_rfl) rfl rfl rfl pQ (RunS.v (r_move rfl)) ?_
    refine h_take Ent.nil 2 rfl (by kernel_rfl) (by kernel_rfl) (by kernel_rfl) rfl rfl rfl pQ (RunS.v (r_move rfl)) ?_
    refine h_take Ent.nil 3 rfl (by kernel_rfl) (by kernel_rfl) (by kernel_rfl) rfl rfl rfl pQ (RunS.v (r_move rfl)) ?_
    refine h_take Ent.nil 4 rfl (by kernel_rfl) (by kernel_rfl) (by kernel_rfl) rfl rfl rfl pQ (RunS.v (r_move rfl)) ?_
    refine h_take Ent.nil 5 rfl (by kernel_rfl) (by kernel_rfl) (by kernel_rfl) rfl rfl rfl pQ (RunS.v (r_max rfl rfl)) ?_
    rw [show max ((n' : Nat) : Int) 0 = ((n' : Nat) : Int) from by omega]
    refine h_take Ent.nil 6 rfl (by kernel_rfl) (by kernel_rfl) (by kernel_rfl) rfl rfl rfl pQ (RunS.v (r_slTo rfl rfl (by omega))) ?_
    refine h_one 1 (by kernel_rfl) rfl rfl ?_
    refine s_call rfl rfl (kind_c hglb e y he) [0] rfl ?_ (fun _ _ h => h.elim)
    rintro _ _ ⟨rfl, rfl⟩
    refine h_then Ent.nil ?_
    refine h_take Ent.nil 7 rfl (by kernel_rfl) (by kernel_rfl) (by kernel_rfl) rfl rfl rfl pQ (RunS.v (r_build (cells := #[.int .i64 (e : Nat), .int .i64 (n' : Nat), .slice (some ⟨db, 0, none⟩) n' k]) rfl (by kernel_rfl))) ?_
    refine h_one 8 (by kernel_rfl) rfl rfl ?_
    refine s_storeN (i := 3) rfl rfl rfl rfl rfl rfl ?_
    refine h_then Ent.nil ?_
    refine h_done (by kernel_rfl) ?_
    refine q_then_n ?_
    repeat (first | refine wZ ?_ | intro b)
    exact e_retC1 (vs := [.int .i64 (e : Nat), .int .i64 (n' : Nat), .slice (some ⟨db, 0, none⟩) n' k]) [glb, A', blk db (cl (u8s nw) 5)] rfl rfl rfl rfl (rdn_all 0 rfl) ⟨e, n', A', nw, db, hQ, rfl, rfl⟩ (arr_ent 2 [1, 1, 1] _)
  · intro c B hE
    repeat (first | refine wZ ?_ | intro b)
    exact e_pan _ hE (((Ent.mid B _).trans Ent.drop).trans ((Ent.mid B _).trans Ent.drop))
end
end Go.Proofs.YtfebpbflpdppiaaGreatDoor
