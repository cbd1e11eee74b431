/- The fourth part of the calculus: deferred calls that recover · The table of structs' fields. Printed by a program (wip/tools/genfld.py) · The fifth part of the calculus · The sixth part of the calculus: the steps of a walk, one after the other, as long as one fits · The seventh part of the calculus: maps with whole numbers as keys, copies, new slices, methods behind interfaces · The eighth part of the calculus: copies, new slices, methods behind interfaces, values of functions, strings put together, errors · The ninth part of the calculus: locks, and calls that are deferred · The table of methods. Printed by a program (wip/tools/genmeth.py) · The locks' functions and types, by their numbers. Printed by a program (wip/tools/genlocks.py). -/
import Derived.Test.YtfebpbflpdppiaaGreatDoorL02
import Derived.Maps.RangeRun
import Derived.Conc.RwLoneW
import Derived.Laws.OwnMore
import Derived.Test.YtfebpbflpdppiaaGreatDoorProg
import Derived.Conc.RwLib
import Derived.KernelRfl
namespace Go.Sl
open Go
section
variable {P : Program} {n : Nat} {ds : List Deferred} {σ : Env} {m : Amb} {L : List HP} {Q : Exit → Act → World → Prop} {K : Act → World → Prop}
variable {ty : TypeId} {pos : String} {aft : Array Edge} {gd : Option (Nat × Bool)} {x y : Operand}

theorem r_makeFn {od : Option Tmp} {f : FuncId} {xs : List Operand} {vs : List Value} (hx : opds σ xs = some vs) : RunS P ⟨od, .makeFunc (.func f) #[] xs.toArray, ty, pos, aft, gd⟩ σ (.func (.func f) #[] vs.toArray) := fun a w g => by
  simp only [execOp, List.map_toArray, opds_eval g hx]
  rfl
theorem s_defer {fn : Fn} {first cap : Array Value} {xs : List Operand} {vs : List Value} {T : Array TypeId} (hx : opd σ x = some (.func fn first cap)) (hy : opds σ xs = some vs)
    (h : G n ({ target := .fn fn cap, args := first ++ vs.toArray } :: ds) σ m L K) : G n ds σ m L (St P ⟨none, .defer ⟨.value x, xs.toArray, T⟩, ty, pos, aft, gd⟩ K Q) := fun a w h1 h2 h3 h4 => by
  have hrun : (execOp a.eval ⟨none, .defer ⟨.value x, xs.toArray, T⟩, ty, pos, aft, gd⟩).run P w = .ok (.defer { target := .fn fn cap, args := first ++ vs.toArray }) w := by
    simp [execOp, resolve, opd_eval h3 hx, Deferred.ofValue, opds_eval h3 hy]
  show Oper.upon P _ a K Q _
  rw [hrun]
  exact h _ w (by simp [Act.put, h1]) h2 h3 h4

/-- what a closure's body has done that was entered by a recovered panic -/
def QR (m : Amb) (L' : List HP) : Exit → Act → World → Prop := fun e a w => a.defers = [] ∧ (e = .normal ∨ e = .ret) ∧ Sat m L' w
theorem qr_n {L' : List HP} (h : Ent L L') : G n [] σ m L (QR m L' .normal) := fun _ _ h1 _ _ h4 => ⟨h1, .inl rfl, h4.ent h⟩

section
variable {f : FuncId} {fn' : Func} {rid tr tb it it2 y1 y2 nt : Nat} {p1 p2 : String} {a1 a2 : Array Edge} {TA : Array TypeId} {c1 : Code} {cap : Array Value} {ms : Array (String × TypeId)}
theorem rec_idle [hi : TyU P it (.interface ms)] (hf : P.funcs[f]? = some fn') (hb : fn'.body = some (.seq (.region rid #[⟨some tr, .call ⟨.builtin .recover, #[], TA⟩, y1, p1, a1, none⟩, ⟨some tb, .binOp .neq it (.tmp tr) (.const .nilIface) it2, y2, p2, a2, none⟩] false) (.cond (.tmp tb) c1 .skip)))
    (hr : fn'.results = #[]) (hn : fn'.ntmps = nt) (h1 : tr < nt) (h2 : tb < nt) (_hne : tb ≠ tr) (hcs : cap.size ≤ nt) (w : World) : CallsD P f cap .returning w fun e u' w' => e = .returned (.tuple #[]) ∧ u' = .returning ∧ w' = w := by
  refine callsD_of_wpS hf hb fun c₀ cs hu => ?_
  apply wpS_seq
  apply wpS_region
  have hsz : (cap ++ Array.replicate (nt - cap.size) undef).size = nt := by simp; omega
  have e1 : (Op.equal it Value.nilIface Value.nilIface).run P w = .ok true w := run_eq_of (q_NN hi) w
  simp [wpOpsS, List.range, List.range.loop, execOp, resolve, invoke, builtin, recoverD, hu, hn, Exit.thenS, Region.wanted, Act.put, Act.eval, Oper.upon, h1, hsz, eqGuard, binOp, e1]
  refine wpS_cond (t := false) (by simp [Act.eval, hsz, h2]) ?_
  refine wpS_of_wp (wp_skip ?_)
  cases c₀
  simp_all [bodyPostS, results]
theorem rec_caught [hi : TyU P it (.interface ms)] (hf : P.funcs[f]? = some fn') (hb : fn'.body = some (.seq (.region rid #[⟨some tr, .call ⟨.builtin .recover, #[], TA⟩, y1, p1, a1, none⟩, ⟨some tb, .binOp .neq it (.tmp tr) (.const .nilIface) it2, y2, p2, a2, none⟩] false) (.cond (.tmp tb) c1 .skip)))
    (hr : fn'.results = #[]) (hn : fn'.ntmps = nt) (h1 : tr < nt) (h2 : tb < nt) (_hne : tb ≠ tr) (hcs : cap.size ≤ nt) {T : TypeId} {v : Value} {L' : List HP}
    (hG : G nt [] ((tb, .bool true) :: (tr, .iface T v) :: argEnv 0 cap.toList) m L (c1.wp P (QR m L'))) {w : World} (hw : Sat m L w) :
    CallsD P f cap (.panicking [{ v := .iface T v, recovered := false }]) w fun e u' w' => e = .returned (.tuple #[]) ∧ u' = .panicking [{ v := .iface T v, recovered := true }] ∧ Sat m L' w' := by
  refine callsD_of_wpS hf hb fun c₀ cs hu => ?_
  apply wpS_seq
  apply wpS_region
  have hsz : (cap ++ Array.replicate (nt - cap.size) undef).size = nt := by simp; omega
  have e1 : (Op.equal it (Value.iface T v) Value.nilIface).run P w = .ok false w := run_eq_of (q_IN hi) w
  simp [wpOpsS, List.range, List.range.loop, execOp, resolve, invoke, builtin, recoverD, hu, hn, Exit.thenS, Region.wanted, Act.put, Act.eval, Oper.upon, h1, hsz, eqGuard, binOp, e1]
  refine wpS_cond (t := true) (by simp [Act.eval, hsz, h2]) ?_
  rw [if_pos rfl]
  refine wpS_of_wp (wp_mono (hG _ w rfl (by simp [hsz]) ?_ hw) fun e a' w' q => ?_)
  · refine Agr.put (Agr.put (argEnv_agr _ 0 _ fun j u hu => ?_) (by rw [hsz]; exact h1) _) (by simp [hsz, h2]) _
    simp only [Nat.zero_add]
    have hj : j < cap.size := by
      rcases Nat.lt_or_ge j cap.size with h' | h'
      · exact h'
      · simp [Array.getElem?_eq_none h'] at hu
    rw [Array.getElem?_append_left hj]
    simpa using hu
  · obtain ⟨q1, q2, q3⟩ := q
    rcases q2 with rfl | rfl <;> exact ⟨q1, _, rfl, .tuple #[], results_none hr _ _ _, rfl, rfl, q3⟩
/-- the end of a function whose one deferred call recovers -/
theorem e_retR [hi : TyU P it (.interface ms)] (hf : P.funcs[f]? = some fn') (hb : fn'.body = some (.seq (.region rid #[⟨some tr, .call ⟨.builtin .recover, #[], TA⟩, y1, p1, a1, none⟩, ⟨some tb, .binOp .neq it (.tmp tr) (.const .nilIface) it2, y2, p2, a2, none⟩] false) (.cond (.tmp tb) c1 .skip)))
    (hr : fn'.results = #[]) (hn : fn'.ntmps = nt) (h1 : tr < nt) (h2 : tb < nt) (hne : tb ≠ tr) (hcs : cap.size ≤ nt) [he : EnF P f] {fn : Func} {R : Ending → World → Prop}
    (h : ∀ tmps w, Agr σ tmps → Sat m L w → ∃ v, (results fn tmps).run P w = .ok v w ∧ R (.returned v) w) : G n [{ target := .fn (.func f) cap, args := #[] }] σ m L (bodyPostD P fn R .ret) := fun a w g1 g2 g3 g4 => by
  show Leaves P fn a.tmps R a.defers .returning w
  rw [g1]
  refine leaves_cons (f := f) (args := cap) (by simp) (by simp [invoke, he.h]) ?_
  refine (rec_idle hf hb hr hn h1 h2 hne hcs w).mono ?_
  rintro e u' w' ⟨rfl, rfl, rfl⟩
  exact h a.tmps _ g3 g4
theorem e_panR [hi : TyU P it (.interface ms)] (hf : P.funcs[f]? = some fn') (hb : fn'.body = some (.seq (.region rid #[⟨some tr, .call ⟨.builtin .recover, #[], TA⟩, y1, p1, a1, none⟩, ⟨some tb, .binOp .neq it (.tmp tr) (.const .nilIface) it2, y2, p2, a2, none⟩] false) (.cond (.tmp tb) c1 .skip)))
    (hr : fn'.results = #[]) (hn : fn'.ntmps = nt) (h1 : tr < nt) (h2 : tb < nt) (hne : tb ≠ tr) (hcs : cap.size ≤ nt) [he : EnF P f] {fn : Func} {R : Ending → World → Prop} {T : TypeId} {v : Value} (L' : List HP)
    (hG : G nt [] ((tb, .bool true) :: (tr, .iface T v) :: argEnv 0 cap.toList) m L (c1.wp P (QR m L')))
    (h : ∀ tmps w, Agr σ tmps → Sat m L' w → ∃ v, (results fn tmps).run P w = .ok v w ∧ R (.returned v) w) : G n [{ target := .fn (.func f) cap, args := #[] }] σ m L (bodyPostD P fn R (.panic [{ v := .iface T v, recovered := false }])) := fun a w g1 g2 g3 g4 => by
  show Leaves P fn a.tmps R a.defers (.panicking _) w
  rw [g1]
  refine leaves_cons (f := f) (args := cap) (by simp) (by simp [invoke, he.h]) ?_
  refine (rec_caught hf hb hr hn h1 h2 hne hcs hG g4).mono ?_
  rintro e u' w' ⟨rfl, rfl, hw'⟩
  exact h a.tmps _ g3 hw'
end
theorem e_retC1 {fn : Func} {RR : Value → List HP → Prop} {E : List PanicEntry → List HP → Prop} {F : List HP} {t tt b o s z : Nat} {pp : TypeDesc} {zv : Value} {vs : List Value} (B : List HP) (hf : fn.results = #[.cell t tt]) (hp : lk σ t = some (.pointer (some ⟨b, o, none⟩))) [h : TyU P tt pp] [h' : TyI P tt s z zv]
    (ha : aggD pp = true) (hs : vs.length = s) (hr : RdN L b o vs) (hR : RR (.agg vs.toArray) B) (he : Ent L (B ++ F)) : G n [] σ m L (bodyPost P fn (fin RR E m F) .ret) := fun ac w h1 h2 h3 h4 => by
  have e1 := h3 t _ hp
  have hl := run_loadCells_list (P := P) w ⟨b, o, none⟩ vs (fun j v hv => by rw [addr_add]; exact hr.get hv m w h4)
  rw [hs] at hl
  refine ⟨h1, .agg vs.toArray, ?_, B, hR, h4.ent he⟩
  simp [results, hf, e1, asAddr, loadVar, run_isAgg' h, ha, run_sizeOf h', hl]
end
/-- a struct's field: at which cell it lies -/
class Fld (P : Program) (t : TypeId) (i : Nat) (off : outParam Nat) : Prop where
  h : ∃ (fs : Array Field) (f : Field) (inf : TypeInfo), P.underlying t = some (.struct fs) ∧ fs[i]? = some f ∧ f.offset = off ∧ P.info? f.type = some inf ∧ inf.size ≠ 0
theorem Fld.of {P : Program} {t : TypeId} {i off : Nat} {fs : Array Field} (hu : P.underlying t = some (.struct fs)) (h : (fs[i]?).map (fun f => (f.offset, (P.info? f.type).map (fun i => i.size == 0))) = some (off, some false)) : Fld P t i off := by
  cases hf : fs[i]? with
  | none => simp [hf] at h
  | some f =>
    simp only [hf, Option.map_some, Option.some.injEq, Prod.mk.injEq] at h
    cases hi : P.info? f.type with
    | none => simp [hi] at h
    | some inf =>
      simp [hi] at h
      exact ⟨fs, f, inf, hu, hf, h.1, hi, h.2⟩
theorem r_fld {P : Program} {σ : Env} {d : Option Tmp} {ty t : TypeId} {pos : String} {aft : Array Edge} {gd : Option (Nat × Bool)} {x : Operand} {b o i off : Nat} (hx : opd σ x = some (.pointer (some ⟨b, o, none⟩))) [h : Fld P t i off] :
    RunS P ⟨d, .fieldAddr t x i, ty, pos, aft, gd⟩ σ (.pointer (some ⟨b, o + off, none⟩)) := fun c w g => by
  obtain ⟨fs, f, inf, hu, hf, ho, hi, hs⟩ := h.h
  have hsz : (sizeOf f.type).run P w = .ok inf.size w := by simp [sizeOf, typeInfo, hi]
  simp only [execOp, opd_eval g hx]
  simp only [Instr.fieldAt, Sem.run_bind, run_underlying hu, Result.andThen_ok, Instr.sureAddr, hf, fieldPlace, Addr.add]
  subst ho
  by_cases ho : f.offset = 0 <;> simp [ho, hsz, hs]
section
variable {P : Program} {n : Nat} {ds : List Deferred} {σ : Env} {m : Amb} {L : List HP} {Q : Exit → Act → World → Prop} {K : Act → World → Prop}
variable {d : Nat} {ty : TypeId} {pos : String} {aft : Array Edge} {gd : Option (Nat × Bool)} {x y : Operand} {t e : TypeId}
theorem r_strEqD {od : Option Tmp} {u : TypeId} {s r : ByteArray} (hx : opd σ x = some (.string s)) (hy : opd σ y = some (.string r)) : RunS P ⟨od, .binOp .eql t x y u, ty, pos, aft, gd⟩ σ (.bool (s.data.toList == r.data.toList)) := by
  have := r_strEq (P := P) (d := od) (t := t) (u := u) (ty := ty) (pos := pos) (aft := aft) (gd := gd) hx hy
  rwa [ByteArray.toList_eq, ByteArray.toList_eq] at this
end
section
variable {P : Program} {n : Nat} {σ : Env} {m : Amb} {L : List HP} {RR : Value → List HP → Prop} {E : List PanicEntry → List HP → Prop} {F : List HP} {fn : Func}
/-- results: a cell that holds a struct, and a slot -/
theorem e_retAT {t u tt b o s z : Nat} {pp : TypeDesc} {zv v' : Value} {vs : List Value} (B : List HP) (hf : fn.results = #[.cell t tt, .tmp u]) (hp : lk σ t = some (.pointer (some ⟨b, o, none⟩))) [h : TyU P tt pp] [h' : TyI P tt s z zv]
    (ha : aggD pp = true) (hs : vs.length = s) (hr : RdN L b o vs) (hv' : lk σ u = some v') (hR : RR (.tuple #[.agg vs.toArray, v']) B) (he : Ent L (B ++ F)) : G n [] σ m L (bodyPost P fn (fin RR E m F) .ret) := fun ac w h1 h2 h3 h4 => by
  have e1 := h3 t _ hp
  have e2 := h3 u _ hv'
  have hl := run_loadCells_list (P := P) w ⟨b, o, none⟩ vs (fun j v hv => by rw [addr_add]; exact hr.get hv m w h4)
  rw [hs] at hl
  refine ⟨h1, .tuple #[.agg vs.toArray, v'], ?_, B, hR, h4.ent he⟩
  simp [results, hf, e1, e2, asAddr, loadVar, run_isAgg' h, ha, run_sizeOf h', hl]
end
end Go.Sl
namespace Go.Proofs.YtfebpbflpdppiaaGreatDoor
open Go Go.Sl
set_option maxRecDepth 100000
instance : Fld Tryz.prog 29 0 0 := Fld.of Tryz.underlying29 (by kernel_rfl)
instance : Fld Tryz.prog 29 1 1 := Fld.of Tryz.underlying29 (by kernel_rfl)
instance : Fld Tryz.prog 43 0 0 := Fld.of Tryz.underlying43 (by kernel_rfl)
instance : Fld Tryz.prog 43 1 1 := Fld.of Tryz.underlying43 (by kernel_rfl)
instance : Fld Tryz.prog 43 2 2 := Fld.of Tryz.underlying43 (by kernel_rfl)
instance : Fld Tryz.prog 43 3 3 := Fld.of Tryz.underlying43 (by kernel_rfl)
instance : Fld Tryz.prog 46 0 0 := Fld.of Tryz.underlying46 (by kernel_rfl)
instance : Fld Tryz.prog 46 1 1 := Fld.of Tryz.underlying46 (by kernel_rfl)
instance : Fld Tryz.prog 70 0 0 := Fld.of Tryz.underlying70 (by kernel_rfl)
instance : Fld Tryz.prog 70 1 1 := Fld.of Tryz.underlying70 (by kernel_rfl)
instance : Fld Tryz.prog 70 2 2 := Fld.of Tryz.underlying70 (by kernel_rfl)
instance : Fld Tryz.prog 75 0 0 := Fld.of Tryz.underlying75 (by kernel_rfl)
instance : Fld Tryz.prog 75 1 1 := Fld.of Tryz.underlying75 (by kernel_rfl)
instance : Fld Tryz.prog 75 2 2 := Fld.of Tryz.underlying75 (by kernel_rfl)
instance : Fld Tryz.prog 75 3 3 := Fld.of Tryz.underlying75 (by kernel_rfl)
instance : Fld Tryz.prog 75 4 4 := Fld.of Tryz.underlying75 (by kernel_rfl)
instance : Fld Tryz.prog 80 0 0 := Fld.of Tryz.underlying80 (by kernel_rfl)
instance : Fld Tryz.prog 80 1 1 := Fld.of Tryz.underlying80 (by kernel_rfl)
instance : Fld Tryz.prog 80 2 2 := Fld.of Tryz.underlying80 (by kernel_rfl)
instance : Fld Tryz.prog 80 3 3 := Fld.of Tryz.underlying80 (by kernel_rfl)
instance : Fld Tryz.prog 80 4 4 := Fld.of Tryz.underlying80 (by kernel_rfl)
instance : Fld Tryz.prog 80 5 5 := Fld.of Tryz.underlying80 (by kernel_rfl)
instance : Fld Tryz.prog 85 0 0 := Fld.of Tryz.underlying85 (by kernel_rfl)
instance : Fld Tryz.prog 85 1 1 := Fld.of Tryz.underlying85 (by kernel_rfl)
instance : Fld Tryz.prog 89 0 0 := Fld.of Tryz.underlying89 (by kernel_rfl)
instance : Fld Tryz.prog 89 1 1 := Fld.of Tryz.underlying89 (by kernel_rfl)
instance : Fld Tryz.prog 110 0 0 := Fld.of Tryz.underlying110 (by kernel_rfl)
instance : Fld Tryz.prog 110 1 6 := Fld.of Tryz.underlying110 (by kernel_rfl)
instance : Fld Tryz.prog 110 2 12 := Fld.of Tryz.underlying110 (by kernel_rfl)
instance : Fld Tryz.prog 110 3 13 := Fld.of Tryz.underlying110 (by kernel_rfl)
instance : Fld Tryz.prog 110 4 14 := Fld.of Tryz.underlying110 (by kernel_rfl)
instance : Fld Tryz.prog 110 5 15 := Fld.of Tryz.underlying110 (by kernel_rfl)
instance : Fld Tryz.prog 110 6 16 := Fld.of Tryz.underlying110 (by kernel_rfl)
instance : Fld Tryz.prog 110 7 17 := Fld.of Tryz.underlying110 (by kernel_rfl)
instance : Fld Tryz.prog 110 8 18 := Fld.of Tryz.underlying110 (by kernel_rfl)
instance : Fld Tryz.prog 110 9 19 := Fld.of Tryz.underlying110 (by kernel_rfl)
instance : Fld Tryz.prog 127 0 0 := Fld.of Tryz.underlying127 (by kernel_rfl)
instance : Fld Tryz.prog 127 1 1 := Fld.of Tryz.underlying127 (by kernel_rfl)
instance : Fld Tryz.prog 127 3 3 := Fld.of Tryz.underlying127 (by kernel_rfl)
instance : Fld Tryz.prog 139 0 0 := Fld.of Tryz.underlying139 (by kernel_rfl)
instance : Fld Tryz.prog 139 1 1 := Fld.of Tryz.underlying139 (by kernel_rfl)
instance : Fld Tryz.prog 180 0 0 := Fld.of Tryz.underlying180 (by kernel_rfl)
instance : Fld Tryz.prog 180 1 1 := Fld.of Tryz.underlying180 (by kernel_rfl)
instance : Fld Tryz.prog 180 2 2 := Fld.of Tryz.underlying180 (by kernel_rfl)
instance : Fld Tryz.prog 194 0 0 := Fld.of Tryz.underlying194 (by kernel_rfl)
instance : Fld Tryz.prog 194 1 1 := Fld.of Tryz.underlying194 (by kernel_rfl)
instance : Fld Tryz.prog 194 2 2 := Fld.of Tryz.underlying194 (by kernel_rfl)
instance : Fld Tryz.prog 194 3 3 := Fld.of Tryz.underlying194 (by kernel_rfl)
instance : Fld Tryz.prog 194 4 4 := Fld.of Tryz.underlying194 (by kernel_rfl)
end Go.Proofs.YtfebpbflpdppiaaGreatDoor
namespace Go.Sl
open Go
section
variable {P : Program} {n : Nat} {ds : List Deferred} {σ : Env} {m : Amb} {L : List HP} {Q : Exit → Act → World → Prop} {K : Act → World → Prop} {ops : Array Oper} {fuel : Nat} {listed : Array Bool}
/-- a meeting behind a piece of code -/
theorem c_mid {α : Type} {c : Code} (S : α → Env) (H : α → List HP) (J : α → Prop) (h1 : G n ds σ m L (c.wp P (Exit.then (At n ds m S H J) Q))) (h2 : ∀ z, J z → G n ds (S z) m (H z) K) : G n ds σ m L (c.wp P (Exit.then K Q)) := fun a w g1 g2 g3 g4 => by
  refine wp_mono (h1 a w g1 g2 g3 g4) fun e a' w' q => ?_
  cases e with
  | normal => obtain ⟨z, hJ, k1, k2, k3, k4⟩ := q; exact h2 z hJ a' w' k1 k2 k3 k4
  | _ => exact q
end
end Go.Sl
namespace Go.Sl
open Go
structure Hold (p : Prop) : Prop where
  out : p
end Go.Sl
namespace Go.Sl
open Go

/- maps whose keys are of type int64 -/
structure ME where
  key : Int
  val : Value
  born : Nat
def ME.ent (e : ME) : MapEntry := ⟨.int .i64 e.key, e.val, e.born⟩
def mapO (l : List ME) (c : Nat) : Obj := .map (l.map ME.ent).toArray c
def mgo (k : Int) : List ME → Nat → Option (Nat × Value)
  | [], _ => none
  | e :: l, i => if k == e.key then some (i, e.val) else mgo k l (i + 1)
theorem findNow_ents (kd : IntKind) (k : Int) : ∀ (l : List ME) (i : Nat), Instr.findNow (.int kd) (.int .i64 k) (l.map ME.ent) i = some (mgo k l i)
  | [], _ => rfl
  | e :: l, i => by
    simp only [List.map_cons, Instr.findNow, ME.ent, Instr.sameNow, mgo, if_true]
    cases h : k == e.key
    · simp only [if_false, Bool.false_eq_true]; exact findNow_ents kd k l (i + 1)
    · rfl
theorem mgo_none {k : Int} : ∀ {l : List ME} {i : Nat}, mgo k l i = none ↔ ∀ e ∈ l, e.key ≠ k
  | [], _ => by simp [mgo]
  | e :: l, i => by
    simp only [mgo, List.mem_cons, forall_eq_or_imp]
    by_cases h : k == e.key
    · simp only [h, if_true]; simp at h; simp [h]
    · simp only [h, if_false, Bool.false_eq_true]
      rw [mgo_none]
      simp at h
      exact ⟨fun x => ⟨fun e => h e.symm, x⟩, fun x => x.2⟩
theorem mgo_some {k : Int} : ∀ {l : List ME} {i j : Nat} {v : Value}, mgo k l i = some (j, v) → i ≤ j ∧ ∃ e, l[j - i]? = some e ∧ e.key = k ∧ e.val = v
  | [], _, _, _, h => by simp [mgo] at h
  | e :: l, i, j, v, h => by
    simp only [mgo] at h
    by_cases hk : k == e.key
    · simp only [hk, if_true, Option.some.injEq, Prod.mk.injEq] at h
      obtain ⟨rfl, rfl⟩ := h
      simp at hk
      exact ⟨Nat.le_refl _, e, by simp, hk.symm, rfl⟩
    · simp only [hk, if_false, Bool.false_eq_true] at h
      obtain ⟨h1, e', h2, h3, h4⟩ := mgo_some h
      refine ⟨by omega, e', ?_, h3, h4⟩
      rw [show j - i = (j - (i + 1)) + 1 from by omega]
      simpa using h2
section
variable {P : Program} {n : Nat} {ds : List Deferred} {σ : Env} {m : Amb} {L R : List HP} {Q : Exit → Act → World → Prop} {K : Act → World → Prop}
variable {d : Nat} {ty : TypeId} {pos : String} {aft : Array Edge} {gd : Option (Nat × Bool)} {x y z : Operand} {t kt et e : TypeId}

theorem checkKey_int {kk : IntKind} (hk : TyU P kt (.int kk)) (b : Bool) (v : Value) (w : World) : (Instr.checkKey b 10000 kt v).run P w = .ok () w := by
  have aux : ∀ n, (Instr.checkKey b (n + 1) kt v).run P w = .ok () w := fun n => by
    simp only [Instr.checkKey, Sem.run_bind, run_und hk, Result.andThen_ok]
    rfl
  exact aux 9999
theorem run_findKey {kk : IntKind} (hk : TyU P kt (.int kk)) (k : Int) (l : List ME) (w : World) : (Instr.findKey kt (.int .i64 k) (l.map ME.ent)).run P w = .ok (mgo k l 0) w := by
  simp only [Instr.findKey, Sem.run_bind, run_und hk, Result.andThen_ok, findNow_ents, Sem.run_pure]
theorem run_lookup {kk : IntKind} {s b : Nat} {zv : Value} (h1 : TyU P t (.map kt et)) (h2 : TyU P kt (.int kk)) (h3 : TyI P et s b zv) {mb c : Nat} {l : List ME} {k : Int} {w : World} (hm : w.heap[mb]? = some (mapO l c)) (ok : Bool) :
    (Instr.lookup t (.map (some mb)) (.int .i64 k) ok).run P w = .ok (match ok with | true => .tuple #[(match mgo k l 0 with | some p => p.2 | none => zv), .bool (mgo k l 0).isSome] | false => (match mgo k l 0 with | some p => p.2 | none => zv)) w := by
  simp only [Instr.lookup, Sem.run_bind, run_und h1, Result.andThen_ok, getObj, Sem.run, hm, mapO, Sem.run_pure, checkKey_int h2, run_findKey h2]
  cases h : mgo k l 0 with
  | none => simp only [Sem.run_bind, run_zeroValue h3, Result.andThen_ok, Sem.run_pure]; cases ok <;> rfl
  | some p => simp only [Sem.run_bind, Result.andThen_ok, Sem.run_pure]; cases ok <;> rfl
theorem r_lookO {od : Option Tmp} {kk : IntKind} {s b mb c : Nat} {zv : Value} {l : List ME} {k : Int} [h1 : TyU P t (.map kt et)] [h2 : TyU P kt (.int kk)] [h3 : TyI P et s b zv] (i : Nat) (hi : takeAt i L = some (blk mb (mapO l c), R)) (hx : opd σ x = some (.map (some mb))) (hy : opd σ y = some (.int .i64 k)) (h : mgo k l 0 = none) :
    RunV P ⟨od, .lookup t x y true, ty, pos, aft, gd⟩ σ m L (.tuple #[zv, .bool false]) := fun a w g hw => by
  simp only [execOp, opd_eval g hx, opd_eval g hy, Sem.run_bind, run_lookup h1 h2 h3 (hw.at_ hi), Result.andThen_ok, h]
  rfl
theorem r_lookOS {od : Option Tmp} {kk : IntKind} {s b mb c j : Nat} {zv v : Value} {l : List ME} {k : Int} [h1 : TyU P t (.map kt et)] [h2 : TyU P kt (.int kk)] [h3 : TyI P et s b zv] (i : Nat) (hi : takeAt i L = some (blk mb (mapO l c), R)) (hx : opd σ x = some (.map (some mb))) (hy : opd σ y = some (.int .i64 k)) (h : mgo k l 0 = some (j, v)) :
    RunV P ⟨od, .lookup t x y true, ty, pos, aft, gd⟩ σ m L (.tuple #[v, .bool true]) := fun a w g hw => by
  simp only [execOp, opd_eval g hx, opd_eval g hy, Sem.run_bind, run_lookup h1 h2 h3 (hw.at_ hi), Result.andThen_ok, h]
  rfl
theorem run_setMap {mb c : Nat} {l : List ME} {w : World} (hm : w.heap[mb]? = some (mapO l c)) (o : Obj) : (setObj mb o).run P w = .ok () { w with heap := w.heap.setIfInBounds mb o } := by
  simp [setObj, Sem.run, hm, mapO]
theorem getE (l : List ME) (j : Nat) : (l.map ME.ent).toArray[j]? = (l[j]?).map ME.ent := by simp
/-- m[k] = v -/
theorem s_mapPut {kk : IntKind} {mb c : Nat} {l : List ME} {k : Int} {v : Value} [h1 : TyU P t (.map kt et)] [h2 : TyU P kt (.int kk)] (i : Nat) (hi : takeAt i L = some (blk mb (mapO l c), R)) (hx : opd σ x = some (.map (some mb))) (hy : opd σ y = some (.int .i64 k)) (hz : opd σ z = some v)
    (hn : mgo k l 0 = none) (h : G n ds σ m (blk mb (mapO (l ++ [⟨k, v, c⟩]) (c + 1)) :: R) K) : G n ds σ m L (St P ⟨none, .mapUpdate t x y z, ty, pos, aft, gd⟩ K Q) := by
  refine s_effU rfl fun a w g hw => ⟨_, ?_, _, hw.setObj hi (mapO (l ++ [⟨k, v, c⟩]) (c + 1)), h⟩
  have hm := hw.at_ hi
  have e1 : (getObj mb).run P w = .ok (mapO l c) w := by simp [getObj, Sem.run, hm, mapO]
  simp only [execOp, opd_eval g hx, opd_eval g hy, opd_eval g hz, Instr.mapUpdate, Sem.run_bind, run_und h1, Result.andThen_ok, e1, mapO, checkKey_int h2, run_findKey h2, hn]
  have := run_setMap (P := P) hm (.map ((l.map ME.ent).toArray.push { key := .int .i64 k, val := v, born := c }) (c + 1))
  rw [this]
  simp [ME.ent]
theorem s_mapSet {kk : IntKind} {mb c j : Nat} {l : List ME} {k : Int} {v v0 : Value} [h1 : TyU P t (.map kt et)] [h2 : TyU P kt (.int kk)] (i : Nat) (hi : takeAt i L = some (blk mb (mapO l c), R)) (hx : opd σ x = some (.map (some mb))) (hy : opd σ y = some (.int .i64 k)) (hz : opd σ z = some v)
    (hn : mgo k l 0 = some (j, v0)) (h : G n ds σ m (blk mb (mapO (l.modify j fun e => { e with val := v }) c) :: R) K) : G n ds σ m L (St P ⟨none, .mapUpdate t x y z, ty, pos, aft, gd⟩ K Q) := by
  refine s_effU rfl fun a w g hw => ⟨_, ?_, _, hw.setObj hi (mapO (l.modify j fun e => { e with val := v }) c), h⟩
  have hm := hw.at_ hi
  have e1 : (getObj mb).run P w = .ok (mapO l c) w := by simp [getObj, Sem.run, hm, mapO]
  obtain ⟨_, e, he, hek, hev⟩ := mgo_some hn
  simp only [Nat.sub_zero] at he
  have hks : (Instr.keyThatStays (((l.map ME.ent).toArray[j]?.map (·.key)).getD (.int .i64 k)) (.int .i64 k)).run P w = .ok (.int .i64 k) w := by
    rw [getE, he]
    simp [ME.ent, Instr.keyThatStays, Instr.sameBits, hek]
  simp only [execOp, opd_eval g hx, opd_eval g hy, opd_eval g hz, Instr.mapUpdate, Sem.run_bind, run_und h1, Result.andThen_ok, e1, mapO, checkKey_int h2, run_findKey h2, hn, hks]
  have := run_setMap (P := P) hm (.map ((l.map ME.ent).toArray.modify j fun e => { e with key := .int .i64 k, val := v }) c)
  rw [this]
  have e2 : ((l.map ME.ent).toArray.modify j fun e => { e with key := .int .i64 k, val := v }) = ((l.modify j fun e => { e with val := v }).map ME.ent).toArray := by
    apply Array.ext'
    simp only [Array.toList_modify]
    apply List.ext_getElem?
    intro q
    simp only [List.getElem?_modify, List.getElem?_map]
    by_cases hq : j = q
    · subst hq; simp [he, ME.ent, hek]
    · simp [hq]
  rw [e2]
  simp []
/-- delete(m, k) -/
theorem s_del {kk : IntKind} {mb c : Nat} {l : List ME} {k : Int} {T : TypeId} [h1 : TyU P t (.map kt et)] [h2 : TyU P kt (.int kk)] (i : Nat) (hi : takeAt i L = some (blk mb (mapO l c), R)) (hx : opd σ x = some (.map (some mb))) (hy : opd σ y = some (.int .i64 k))
    (h : G n ds σ m (blk mb (mapO (match mgo k l 0 with | some p => l.eraseIdx p.1 | none => l) c) :: R) K) : G n ds σ m L (St P ⟨none, .call ⟨.builtin .delete, #[x, y], #[t, T]⟩, ty, pos, aft, gd⟩ K Q) := fun a w g1 g2 g3 hw => by
  have hm := hw.at_ hi
  have e1 : (getObj mb).run P w = .ok (mapO l c) w := by simp [getObj, Sem.run, hm, mapO]
  have hrun : (execOp a.eval ⟨none, .call ⟨.builtin .delete, #[x, y], #[t, T]⟩, ty, pos, aft, gd⟩).run P w = .ok (.value (.tuple #[])) { w with heap := w.heap.setIfInBounds mb (mapO (match mgo k l 0 with | some p => l.eraseIdx p.1 | none => l) c) } := by
    simp only [execOp, resolve, List.map_toArray, List.map_cons, List.map_nil, opd_eval g3 hx, opd_eval g3 hy, Sem.run_bind, Sem.run_pure, Result.andThen_ok, invoke, builtin, Builtin.delete_]
    simp only [List.getElem?_toArray, List.getElem?_cons_zero, List.getElem?_cons_succ, Sem.run_bind, run_und h1, Result.andThen_ok, e1, mapO, checkKey_int h2, run_findKey h2]
    cases hg : mgo k l 0 with
    | none =>
      have := run_setMap (P := P) hm (.map (l.map ME.ent).toArray c)
      simp only [this, Result.andThen_ok, Sem.run_pure, Sem.run_bind]
    | some p =>
      have := run_setMap (P := P) hm (.map ((l.map ME.ent).toArray.eraseIdxIfInBounds p.1) c)
      have e2 : (l.map ME.ent).toArray.eraseIdxIfInBounds p.1 = ((l.eraseIdx p.1).map ME.ent).toArray := by
        obtain ⟨_, e, he, _⟩ := mgo_some (j := p.1) (v := p.2) hg
        have hlt : p.1 < l.length := by simpa using (List.getElem?_eq_some_iff.1 he).1
        apply Array.ext'
        simp [Array.eraseIdxIfInBounds, hlt, List.eraseIdx_eq_take_drop_succ, List.map_take, List.map_drop]
      rw [e2] at this
      simp only [e2, this, Result.andThen_ok, Sem.run_pure, Sem.run_bind]
  show Oper.upon P _ a K Q _
  rw [hrun]
  exact h _ _ g1 g2 g3 (hw.setObj hi _)
/-- make(map[..]..) -/
theorem s_mkMap (hk : Nat.blt d n = true) (h : ∀ b, G n ds ((d, .map (some b)) :: σ) m (blk b (mapO [] 0) :: L) K) : G n ds σ m L (St P ⟨some d, .makeMap t none, ty, pos, aft, gd⟩ K Q) :=
  s_eff rfl hk fun _a w _ hw => ⟨.map (some w.heap.size), { w with heap := w.heap.push (.map #[] 0) }, rfl, _, hw.new (mapO [] 0), h w.heap.size⟩
/-- for .. range m -/
theorem s_range {mb c : Nat} {l : List ME} [h1 : TyU P t (.map kt et)] (i : Nat) (hi : takeAt i L = some (blk mb (mapO l c), R)) (hx : opd σ x = some (.map (some mb))) (hk : Nat.blt d n = true)
    (h : ∀ b, G n ds ((d, .pointer (some ⟨b, 0, none⟩)) :: σ) m (blk b (.mapIter (some mb) c #[] c) :: L) K) : G n ds σ m L (St P ⟨some d, .range t x, ty, pos, aft, gd⟩ K Q) :=
  s_eff rfl hk fun a w g hw => by
    have hm := hw.at_ hi
    have e1 : (getObj mb).run P w = .ok (mapO l c) w := by simp [getObj, Sem.run, hm, mapO]
    refine ⟨.pointer (some ⟨w.heap.size, 0, none⟩), { w with heap := w.heap.push (.mapIter (some mb) c #[] c) }, ?_, _, hw.new _, h w.heap.size⟩
    simp only [execOp, opd_eval g hx, Instr.range, Sem.run_bind, run_und h1, Result.andThen_ok, e1, mapO, Sem.run_pure]
    simp [newObj, Sem.run]
theorem s_next {it mb since c0 c : Nat} {seen : Array Nat} {l : List ME} (is : List Nat) (hi : pick is L = some ([blk it (.mapIter (some mb) since seen c0), blk mb (mapO l c)], R)) (hx : opd σ x = some (.pointer (some ⟨it, 0, none⟩)))
    (hold : ∀ e ∈ l, e.born < since) (hsc : since ≤ c0) (hk : Nat.blt d n = true)
    (h0 : (∀ e ∈ l, seen.contains e.born = true) → G n ds ((d, .tuple #[.bool false]) :: σ) m (blk it (.mapIter (some mb) since seen c0) :: blk mb (mapO l c) :: R) K)
    (h1 : ∀ e ∈ l, seen.contains e.born = false → G n ds ((d, .tuple #[.bool true, .int .i64 e.key, e.val]) :: σ) m (blk it (.mapIter (some mb) since (seen.push e.born) c) :: blk mb (mapO l c) :: R) K) :
    G n ds σ m L (St P ⟨some d, .next x false, ty, pos, aft, gd⟩ K Q) := s_eff rfl hk fun a w g hw0 => by
  have hw : Sat m ([blk it (.mapIter (some mb) since seen c0), blk mb (mapO l c)] ++ R) w := hw0.ent (pick_ent hi)
  have hr : w.heap[it]? = some (.mapIter (some mb) since seen c0) := hw.at_ (i := 0) rfl
  have hb : w.heap[mb]? = some (mapO l c) := hw.at_ (i := 1) rfl
  have hnext := run_next_at (P := P) w ty it mb since c0 seen (l.map ME.ent).toArray c hr hb (fun x hx => by
    simp only [List.mem_map] at hx; obtain ⟨e, he, rfl⟩ := hx; exact hold e he) hsc
  rcases hnext with ⟨hz, hrun⟩ | ⟨e, he, w1, hw1, hrun⟩
  · refine ⟨_, w, ?_, _, hw, h0 fun e he => ?_⟩
    · simp only [execOp, opd_eval g hx, Sem.run_bind, hrun, Result.andThen_ok, Sem.run_pure]
    · by_cases hc : seen.contains e.born = true
      · exact hc
      · have : e.ent ∈ (leftOf (l.map ME.ent).toArray seen) := by
          unfold leftOf
          simp only [Array.mem_filter, List.mem_toArray, List.mem_map]
          exact ⟨⟨e, he, rfl⟩, by simpa [ME.ent] using hc⟩
        have := Array.size_pos_of_mem this
        omega
  · have he' : e ∈ leftOf (l.map ME.ent).toArray seen := by simpa using he
    unfold leftOf at he'
    simp only [Array.mem_filter, List.mem_toArray, List.mem_map] at he'
    obtain ⟨⟨e0, he0, rfl⟩, hc⟩ := he'
    have hs1 : Sat m ([blk it (.mapIter (some mb) since seen c0), blk mb (mapO l c)] ++ R) w1 := by
      rcases hw1 with rfl | rfl
      · exact hw
      · exact hw.drawn _
    refine ⟨_, ChangeMaps.setBlock w1 it (.mapIter (some mb) since (seen.push e0.born) c), ?_, _, ?_, h1 e0 he0 (by simpa [ME.ent] using hc)⟩
    · simp only [execOp, opd_eval g hx, Sem.run_bind, hrun, Result.andThen_ok, Sem.run_pure]
      rfl
    · exact hs1.setObj (i := 0) rfl _
theorem r_entry {od : Option Tmp} {it mb since c : Nat} {seen : Array Nat} {l : List ME} {e : ME} (i j : Nat) {R' : List HP} (hi : takeAt i L = some (blk it (.mapIter (some mb) since (seen.push e.born) c), R)) (hj : takeAt j L = some (blk mb (mapO l c), R')) (hx : opd σ x = some (.pointer (some ⟨it, 0, none⟩)))
    (he : e ∈ l) (hn : (l.map (·.born)).Nodup) : RunV P ⟨od, .entry x, ty, pos, aft, gd⟩ σ m L (.tuple #[.int .i64 e.key, e.val]) := fun a w g hw => by
  have := run_entry_at (P := P) w it mb since seen (l.map ME.ent).toArray c e.ent (hw.at_ hi) (hw.at_ hj) (by simp; exact ⟨e, he, rfl⟩) (by simpa [Function.comp_def, ME.ent] using hn)
  simp only [execOp, opd_eval g hx, Sem.run_bind, this, Result.andThen_ok, Sem.run_pure, ME.ent]
end
end Go.Sl
namespace Go.Sl
open Go
set_option maxRecDepth 100000
section
variable {P : Program} {n : Nat} {ds : List Deferred} {σ : Env} {m : Amb} {L R : List HP} {Q : Exit → Act → World → Prop} {K : Act → World → Prop}
variable {d : Nat} {ty : TypeId} {pos : String} {aft : Array Edge} {gd : Option (Nat × Bool)} {x y z : Operand} {t kt et e : TypeId}

theorem RdN.take {b o : Nat} {l : List Value} (h : RdN L b o l) (k : Nat) : RdN L b o (l.take k) := RdN.of fun j v hv => by
  rw [List.getElem?_take] at hv
  split at hv
  · exact h.get hv
  · cases hv
theorem s_copy {db o dl dc size bytes kk eb : Nat} {l news : List Value} {sv zv : Value} {t' : TypeId} [h1 : TyU P t (.slice e)] [h2 : TyI P e size bytes zv] (i : Nat) (hi : takeAt i L = some (blk db (cl l eb), R)) (hx : opd σ x = some (.slice (some ⟨db, o, none⟩) dl dc)) (hy : opd σ y = some sv)
    (hs : Src L size sv kk news) (hl : o + min kk dl * size ≤ l.length) (hc : news.all (·.oneCell') = true) (hk : Nat.blt d n = true)
    (h : G n ds ((d, .int .i64 (min kk dl : Nat)) :: σ) m (blk db (cl (spl l o (news.take (min kk dl * size))) eb) :: R) K) : G n ds σ m L (St P ⟨some d, .call ⟨.builtin .copy, #[x, y], #[t, t']⟩, ty, pos, aft, gd⟩ K Q) :=
  s_eff rfl hk fun a w g hw => by
    have hw' := hw.ent (takeAt_ent hi)
    have hlen := hs.len
    have hall : ∀ v ∈ news.take (min kk dl * size), v.oneCell' = true := fun v hv => List.all_eq_true.1 hc v (List.mem_of_mem_take hv)
    have hlt : (news.take (min kk dl * size)).length = min kk dl * size := by
      rw [List.length_take, hlen]
      exact Nat.min_eq_left (Nat.mul_le_mul_right _ (Nat.min_le_left _ _))
    obtain ⟨w', hst, hsat⟩ := run_storeCells_sat (P := P) (b := db) (o := o) (e := eb) (news.take (min kk dl * size)) 0 w l hw' (by rw [hlt]; simpa using hl) hall
    simp only [Nat.add_zero] at hsat
    refine ⟨_, w', ?_, _, hsat, h⟩
    have hlo : (Builtin.lenOf sv).run P w = .ok kk w := by cases hs <;> rfl
    have hfc : (Builtin.firstCells size (min kk dl) sv).run P w = .ok (news.take (min kk dl * size)).toArray w := by
      cases hs with
      | nil => simp [Builtin.firstCells]
      | emp ad c =>
        have := run_loadCells_list (P := P) w ad [] (fun j v hv => by simp at hv)
        simpa [Builtin.firstCells] using this
      | some b o' _ c _ hkk hr =>
        have := run_loadCells_list (P := P) w ⟨b, o', none⟩ (news.take (min kk dl * size)) (fun j v hv => by rw [addr_add]; exact (hr.take _).get hv m w hw)
        rw [hlt] at this
        exact this
    simp only [execOp, resolve, List.map_toArray, List.map_cons, List.map_nil, opd_eval g hx, opd_eval g hy, Sem.run_bind, Sem.run_pure, Result.andThen_ok, invoke, builtin, Builtin.copy_]
    simp only [List.getElem?_toArray, List.getElem?_cons_zero, List.getElem?_cons_succ, Sem.run_bind, run_und h1, Result.andThen_ok, hlo, run_sizeOf h2, show Nat.min kk dl = min kk dl from rfl, hfc, hst, Sem.run_pure]
    rfl
/-- make([]T, n) -/
theorem s_mkSl {len bytes : Nat} {zv zc : Value} {k : IntKind} [h1 : TyU P t (.slice e)] [h2 : TyI P e 1 bytes zv] (hz : zv.cells = #[zc]) (hx : opd σ x = some (.int k (len : Nat))) (hy : opd σ y = some (.int k (len : Nat))) (hb : bytes * len ≤ 281474976710656) (hm : len ≤ 4611686018427387904) (hk : Nat.blt d n = true)
    (h : ∀ b, G n ds ((d, .slice (some ⟨b, 0, none⟩) len len) :: σ) m (blk b (cl (List.replicate len zc) e) :: L) K) : G n ds σ m L (St P ⟨some d, .makeSlice t x y, ty, pos, aft, gd⟩ K Q) :=
  s_eff rfl hk fun a w g hw => by
    obtain ⟨info, hinfo, hi1, hi2, hi3⟩ := h2.h
    refine ⟨.slice (some ⟨w.heap.size, 0, none⟩) len len, { w with heap := w.heap.push (cl (List.replicate len zc) e) }, ?_, _, hw.new _, h w.heap.size⟩
    have hrun := run_make (P := P) w t e info zv h1.h hinfo hi3 k k (len : Int) (len : Int) (Int.natCast_nonneg _) (Int.le_refl _) (by rw [hi2, ← Int.natCast_mul]; omega) (by omega)
    rw [hi1, Int.toNat_natCast, hz] at hrun
    have hmc : madeCells #[zc] (len * 1) = (List.replicate len zc).toArray := by
      apply Array.ext'
      rw [toList_madeCells_one, Nat.mul_one]
    rw [hmc] at hrun
    simp only [execOp, opd_eval g hx, opd_eval g hy, Sem.run_bind, hrun, Result.andThen_ok, Sem.run_pure]
    rfl
/-- a[lo:] of an array behind a pointer -/
theorem r_slArr {od : Option Tmp} {b o len size bytes : Nat} {zv : Value} {k : IntKind} {lo : Nat} [h1 : TyU P t (.array len e)] [h2 : TyI P e size bytes zv] (hx : opd σ x = some (.pointer (some ⟨b, o, none⟩))) (hy : opd σ y = some (.int k (lo : Nat))) (hlo : lo < len) :
    RunS P ⟨od, .slice t x (some y) none none, ty, pos, aft, gd⟩ σ (.slice (some ⟨b, o + lo * size, none⟩) (len - lo) (len - lo)) := fun c w g => by
  simp only [execOp, Option.map_some, Option.map_none, opd_eval g hx, opd_eval g hy]
  have hne : ¬ (len = lo) := by omega
  simp [Instr.sliceAt, run_und h1, Instr.sureAddr, Instr.sliceBounds, run_bound (P := P) w rfl (show (0 : Int) ≤ (lo : Int) ∧ (lo : Int) ≤ (len : Int) by omega), run_sizeOf h2, hne, addr_add]
/-- strings put together -/
theorem r_strAdd {od : Option Tmp} {u : TypeId} {p q : ByteArray} (hx : opd σ x = some (.string p)) (hy : opd σ y = some (.string q)) (h : p.size + q.size ≤ 9223372036854775807) : RunS P ⟨od, .binOp .add t x y u, ty, pos, aft, gd⟩ σ (.string (p ++ q)) := fun c w g => by
  simp only [execOp, opd_eval g hx, opd_eval g hy, eqGuard, binOp, Op.stringOp]
  have : ¬ (((p.size + q.size : Nat) : Int) > IntKind.i64.max) := by rw [max_i64]; omega
  rw [if_neg this]
  simp
/-- which method it is; it is a pointer's, and is no nil pointer's trouble -/
class MethP (P : Program) (t : TypeId) (name : String) (f : outParam FuncId) : Prop where
  h : ∀ v w, (method (P.types.size + Made.depth) t v name).run P w = .ok (f, v) w
  nil : ∀ v w, (nilAhead (P.types.size + Made.depth) t v name).run P w = .ok (some false) w
theorem MethP.of {P : Program} {t e : TypeId} {name : String} {f : FuncId} (hu : P.underlying t = some (.pointer e)) (h : ((P.info? t).bind fun i => (i.methods.find? fun m => m.name == name).map fun m => (m.path.toList, m.func)) = some ([], some (f, true))) : MethP P t name f := by
  cases hi : P.info? t with
  | none => simp [hi] at h
  | some i =>
    cases hf : i.methods.find? (fun m => m.name == name) with
    | none => simp [hi, hf] at h
    | some mm =>
      simp only [hi, hf, Option.bind_some, Option.map_some, Option.some.injEq, Prod.mk.injEq] at h
      obtain ⟨hp, hm⟩ := h
      have hti : ∀ w, (typeInfo t).run P w = .ok i w := fun w => by simp [typeInfo, hi]
      have e100 : P.types.size + Made.depth = (P.types.size + 99) + 1 := rfl
      refine ⟨fun v w => ?_, fun v w => ?_⟩
      · rw [e100]
        simp only [method, Sem.run_bind, hti, Result.andThen_ok, hf, hp, follow, Sem.run_pure, hm, receiverAt, run_underlying hu, Place.get]
      · rw [e100]
        simp only [nilAhead, Sem.run_bind, hti, Result.andThen_ok, hf, hp, followBlind, Sem.run_pure, hm]
theorem s_invoke {f : FuncId} {rt : TypeId} {v : Value} {name : String} {xs : List Operand} {T : Array TypeId} {vs : List Value} {A F : List HP} {RR : Value → List HP → Prop} {E : List PanicEntry → List HP → Prop} [hm : MethP P rt name f] [he : EnF P f] (hk : Nat.blt d n = true)
    (hr : opd σ x = some (.iface rt v)) (hx : opds σ xs = some vs) (hc : Ct P f (v :: vs).toArray A RR E) (is : List Nat) (hp : pick is L = some (A, F))
    (h : ∀ v B, RR v B → G n ds ((d, v) :: σ) m (B ++ F) K) (hE : ∀ c B, E c B → G n ds σ m (B ++ F) (Q (.panic c))) :
    G n ds σ m L (St P ⟨some d, .call ⟨.invoke x name, xs.toArray, T⟩, ty, pos, aft, gd⟩ K Q) := by
  refine s_callAux (od := some d) rfl (fun d' e => by cases e; exact ltOf hk) (fun a w g => ?_) hc hp h hE
  simp only [execOp, resolve, List.map_toArray, opds_eval g hx, opd_eval g hr]
  simp [invoke, callMethod, hm.h, he.h]
/-- what a method of an interface value does -/
def MCt (P : Program) (v : Value) (name : String) (vs : List Value) (A : List HP) (RR : Value → List HP → Prop) (E : List PanicEntry → List HP → Prop) : Prop :=
  ∃ rt u f, v = .iface rt u ∧ MethP P rt name f ∧ EnF P f ∧ Ct P f (u :: vs).toArray A RR E
theorem MCt.of {f : FuncId} {rt : TypeId} {u : Value} {name : String} {vs : List Value} {A : List HP} {RR : Value → List HP → Prop} {E : List PanicEntry → List HP → Prop} [hm : MethP P rt name f] [he : EnF P f] (hc : Ct P f (u :: vs).toArray A RR E) : MCt P (.iface rt u) name vs A RR E := ⟨rt, u, f, rfl, hm, he, hc⟩
theorem s_invokeM {v : Value} {name : String} {xs : List Operand} {T : Array TypeId} {vs : List Value} {A F : List HP} {RR : Value → List HP → Prop} {E : List PanicEntry → List HP → Prop} (hk : Nat.blt d n = true)
    (hr : opd σ x = some v) (hx : opds σ xs = some vs) (hc : MCt P v name vs A RR E) (is : List Nat) (hp : pick is L = some (A, F))
    (h : ∀ v B, RR v B → G n ds ((d, v) :: σ) m (B ++ F) K) (hE : ∀ c B, E c B → G n ds σ m (B ++ F) (Q (.panic c))) :
    G n ds σ m L (St P ⟨some d, .call ⟨.invoke x name, xs.toArray, T⟩, ty, pos, aft, gd⟩ K Q) := by
  obtain ⟨rt, u, f, rfl, hm, he, hc⟩ := hc
  exact s_invoke hk hr hx hc is hp h hE
/-- a bound method, not called yet -/
theorem r_mkMeth {od : Option Tmp} {name : String} {v : Value} (hx : opd σ x = some v) : RunS P ⟨od, .makeFunc (.method name) #[x] #[], ty, pos, aft, gd⟩ σ (.func (.method name) #[v] #[]) := fun a w g => by
  simp only [execOp, List.map_toArray, List.map_cons, List.map_nil, opd_eval g hx]
  rfl
theorem r_nilM {od : Option Tmp} {f : FuncId} {rt : TypeId} {name : String} {v : Value} {cp : Array Value} [hm : MethP P rt name f] (hx : opd σ x = some (.func (.method name) #[.iface rt v] cp)) : RunS P ⟨od, .nilCheck x, ty, pos, aft, gd⟩ σ (.func (.method name) #[.iface rt v] cp) := fun a w g => by
  simp only [execOp, opd_eval g hx]
  simp [hm.nil]
/-- nil is looked through -/
theorem s_nilPan {od : Option Tmp} (hx : opd σ x = some (.pointer none)) (h : ∀ T v, G n ds σ m L (Q (.panic [{ v := .iface T v, recovered := false }]))) : G n ds σ m L (St P ⟨od, .nilCheck x, ty, pos, aft, gd⟩ K Q) :=
  s_panic fun a w g hw => ⟨.iface P.rt.errorString (strVal "invalid memory address or nil pointer dereference"), w, by simp only [execOp, opd_eval g hx]; simp [runtimePanic], L, hw, h _ _⟩
/-- a value of a function is called -/
theorem s_callF {f : FuncId} {xs : List Operand} {T : Array TypeId} {vs : List Value} {cp : List Value} {A F : List HP} {RR : Value → List HP → Prop} {E : List PanicEntry → List HP → Prop} [he : EnF P f] (hk : Nat.blt d n = true) (hf : opd σ x = some (.func (.func f) #[] cp.toArray))
    (hx : opds σ xs = some vs) (hc : Ct P f (vs ++ cp).toArray A RR E) (is : List Nat) (hp : pick is L = some (A, F))
    (h : ∀ v B, RR v B → G n ds ((d, v) :: σ) m (B ++ F) K) (hE : ∀ c B, E c B → G n ds σ m (B ++ F) (Q (.panic c))) :
    G n ds σ m L (St P ⟨some d, .call ⟨.value x, xs.toArray, T⟩, ty, pos, aft, gd⟩ K Q) := by
  refine s_callAux (od := some d) rfl (fun d' e => by cases e; exact ltOf hk) (fun a w g => ?_) hc hp h hE
  simp only [execOp, resolve, opd_eval g hf, Deferred.ofValue, List.map_toArray, opds_eval g hx]
  simp [invoke, he.h]
/- two errors compared -/
theorem q_II {ms : Array (String × TypeId)} {T U : TypeId} {v u : Value} (h : TyU P t (.interface ms)) (hne : T ≠ U) (dd : Nat) (w : World) : (Op.equalIn (dd + 1) t (.iface T v) (.iface U u)).run P w = .ok false w := by simp [Op.equalIn, run_und h, hne]
theorem r_eqII {od : Option Tmp} {u : TypeId} {ms : Array (String × TypeId)} {T U : TypeId} {v v' : Value} [h : TyU P t (.interface ms)] (hx : opd σ x = some (.iface T v)) (hy : opd σ y = some (.iface U v')) (hne : Nat.beq T U = false) : RunS P ⟨od, .binOp .eql t x y u, ty, pos, aft, gd⟩ σ (.bool false) := fun c w g => by
  have hne : T ≠ U := fun e => by subst e; rw [Nat.beq_refl] at hne; cases hne
  simp only [execOp, opd_eval g hx, opd_eval g hy, eqGuard, binOp]
  have := run_eq_of (q_II (v := v) (u := v') h hne) w
  simp [this]
class Cmp (P : Program) (t : TypeId) : Prop where
  h : (P.info? t).map (·.comparable) = some true
theorem r_eqPP {od : Option Tmp} {u : TypeId} {ms : Array (String × TypeId)} {T el s b : Nat} {zv : Value} {a : Addr} [h : TyU P t (.interface ms)] [h2 : TyU P T (.pointer el)] [h3 : TyI P el s b zv] [h4 : Cmp P T] (hx : opd σ x = some (.iface T (.pointer (some a)))) (hy : opd σ y = some (.iface T (.pointer (some a)))) (_hs : s ≠ 0) :
    RunS P ⟨od, .binOp .eql t x y u, ty, pos, aft, gd⟩ σ (.bool true) := fun c w g => by
  simp only [execOp, opd_eval g hx, opd_eval g hy, eqGuard, binOp]
  have hq : ∀ (dd : Nat) w, (Op.equalIn (dd + 2) t (.iface T (.pointer (some a))) (.iface T (.pointer (some a)))).run P w = .ok true w := fun dd w => by
    have hc := h4.h
    cases hi : P.info? T with
    | none => simp [hi] at hc
    | some i =>
      simp [hi] at hc
      simp [Op.equalIn, run_und h, run_und h2, typeInfo, hi, hc, run_sizeOf h3, sameAddr]
  have : (Op.equal t (.iface T (.pointer (some a))) (.iface T (.pointer (some a)))).run P w = .ok true w := hq 9998 w
  simp [this]
end
end Go.Sl
namespace Go.Sl
open Go Go.Conc.Locks
set_option maxRecDepth 100000
def wlk (l : List Value) (o : Nat) : List Value := (l.set o (.int .i32 1)).set (o + 4) (.int .i32 (-1073741824))
def wul (l : List Value) (o : Nat) : List Value := (l.set (o + 4) (.int .i32 0)).set o (.int .i32 0)
theorem w01 : RowKit.wrap32 (0 + 1) = 1 := by simp [RowKit.wrap32]
theorem w10 : RowKit.wrap32 (1 + -1) = 0 := by simp [RowKit.wrap32]
section
variable {P : Program} {n : Nat} {ds : List Deferred} {σ : Env} {m : Amb} {L R : List HP} {Q : Exit → Act → World → Prop} {K : Act → World → Prop}
variable {K1 : RwLink} {b o e : Nat} {l : List Value}
theorem cell_of {w : World} {F : List HP} {v : Value} {k : Nat} (hw : Sat m (blk b (cl l e) :: F) w) (h : l[k]? = some v) : w.cell? ⟨b, k, none⟩ = some v := by
  have := hw.at_ (i := 0) rfl
  simpa [World.cell?, this, cl] using h
theorem nofz {w : World} {F : List HP} {k : Nat} (hw : Sat m (blk b (cl l e) :: F) w) : w.frozen? ⟨b, k, none⟩ = false := by
  have := hw.at_ (i := 0) rfl
  simp [World.frozen?, this, cl]
theorem sat_put {w : World} {F : List HP} {k : Nat} (v : Value) (hw : Sat m (blk b (cl l e) :: F) w) : Sat m (blk b (cl (l.set k v) e) :: F) (w.setCell ⟨b, k, none⟩ v) := by
  have := Sat.set (a := ⟨b, k, none⟩) (i := 0) hw rfl rfl v
  simpa [cl] using this
theorem wlock_ct (H : RwWLib P K1) {x2 x3 : Value} (h0 : l[o]? = some (.int .i32 0)) (h2 : l[o + 2]? = some x2) (h3 : l[o + 3]? = some x3) (h4 : l[o + 4]? = some (.int .i32 0)) :
    Ct P K1.wlock #[.pointer (some ⟨b, o, none⟩)] [blk b (cl l e)] (fun v B => v = .tuple #[] ∧ B = [blk b (cl (wlk l o) e)]) nev := fun m F w hw =>
  (RwLone.wlock_free H b o x2 x3 w (cell_of hw h0) (cell_of hw h2) (cell_of hw h3) (cell_of hw h4) (nofz hw) (nofz hw)).mono fun e' w' ⟨he, hw'⟩ => by
    subst he; subst hw'
    exact ⟨_, ⟨rfl, rfl⟩, sat_put _ (sat_put _ hw)⟩
theorem rlock_ct (H : RwRLib P K1) {x0 x3 : Value} (h0 : l[o]? = some x0) (h3 : l[o + 3]? = some x3) (h4 : l[o + 4]? = some (.int .i32 0)) :
    Ct P K1.rlock #[.pointer (some ⟨b, o, none⟩)] [blk b (cl l e)] (fun v B => v = .tuple #[] ∧ B = [blk b (cl (l.set (o + 4) (.int .i32 1)) e)]) nev := fun m F w hw =>
  (RwLone.rlock_open H b o 0 x0 x3 w (cell_of hw h0) (cell_of hw h3) (cell_of hw h4) (nofz hw) (by rw [w01]; decide)).mono fun e' w' ⟨he, hw'⟩ => by
    rw [w01] at hw'
    subst he; subst hw'
    exact ⟨_, ⟨rfl, rfl⟩, sat_put _ hw⟩
/-- what a deferred call does that returns: the frame's mode stands -/
def Dct (P : Program) (f : FuncId) (args : Array Value) (A A' : List HP) : Prop := ∀ m F w u, Sat m (A ++ F) w → CallsD P f args u w fun e u' w' => u' = u ∧ e = .returned (.tuple #[]) ∧ Sat m (A' ++ F) w'
theorem wunlock_dct (H : RwWLib P K1) {x2 x3 : Value} (h0 : l[o]? = some (.int .i32 1)) (h2 : l[o + 2]? = some x2) (h3 : l[o + 3]? = some x3) (h4 : l[o + 4]? = some (.int .i32 (-1073741824))) :
    Dct P K1.wunlock #[.pointer (some ⟨b, o, none⟩)] [blk b (cl l e)] [blk b (cl (wul l o) e)] := fun m F w u hw =>
  (RwLone.wunlock_deferred H b o x2 x3 u w (cell_of hw h0) (cell_of hw h2) (cell_of hw h3) (cell_of hw h4) (nofz hw) (nofz hw)).mono fun e' u' w' ⟨hu, he, hw'⟩ => by
    subst hu; subst he; subst hw'
    exact ⟨rfl, rfl, sat_put _ (sat_put _ hw)⟩
theorem runlock_dct (H : RwRLib P K1) {x0 x2 : Value} (h0 : l[o]? = some x0) (h2 : l[o + 2]? = some x2) (h4 : l[o + 4]? = some (.int .i32 1)) :
    Dct P K1.runlock #[.pointer (some ⟨b, o, none⟩)] [blk b (cl l e)] [blk b (cl (l.set (o + 4) (.int .i32 0)) e)] := fun m F w u hw =>
  (RwLone.runlock_deferred H b o 1 x0 x2 u w (cell_of hw h0) (cell_of hw h2) (cell_of hw h4) (nofz hw) (by rw [w10]; decide)).mono fun e' u' w' ⟨hu, he, hw'⟩ => by
    rw [w10] at hw'
    subst hu; subst he; subst hw'
    exact ⟨rfl, rfl, sat_put _ hw⟩
/-- what is still to be done at a function's end -/
def GL (P : Program) (fn : Func) (R : Ending → World → Prop) (ds : List Deferred) (u : FrameMode) (σ : Env) (m : Amb) (L : List HP) : Prop := ∀ tmps w, Agr σ tmps → Sat m L w → Leaves P fn tmps R ds u w
variable {fn : Func} {RE : Ending → World → Prop}
theorem gl_ret (h : GL P fn RE ds .returning σ m L) : G n ds σ m L (bodyPostD P fn RE .ret) := fun a w h1 _ h3 h4 => by
  show Leaves P fn a.tmps RE a.defers .returning w
  rw [h1]; exact h _ w h3 h4
theorem gl_nor (h : GL P fn RE ds .returning σ m L) : G n ds σ m L (bodyPostD P fn RE .normal) := fun a w h1 _ h3 h4 => by
  show Leaves P fn a.tmps RE a.defers .returning w
  rw [h1]; exact h _ w h3 h4
theorem gl_pan {c : List PanicEntry} (h : GL P fn RE ds (.panicking c) σ m L) : G n ds σ m L (bodyPostD P fn RE (.panic c)) := fun a w h1 _ h3 h4 => by
  show Leaves P fn a.tmps RE a.defers (.panicking c) w
  rw [h1]; exact h _ w h3 h4
theorem gl_def {f : FuncId} {cap dargs : Array Value} {args : List Value} {A A' F : List HP} {u : FrameMode} [he : EnF P f] (is : List Nat) (hp : pick is L = some (A, F)) (hu : u ≠ .run) (hs : settle u = u) (ha : dargs ++ cap = args.toArray) (hD : Dct P f args.toArray A A')
    (h : GL P fn RE ds u σ m (A' ++ F)) : GL P fn RE ({ target := .fn (.func f) cap, args := dargs } :: ds) u σ m L := fun tmps w g hw => by
  refine leaves_cons (f := f) (args := args.toArray) hu (by simp [invoke, he.h, ha]) ?_
  refine (hD m F w u (hw.ent (pick_ent hp))).mono ?_
  rintro e u' w' ⟨rfl, rfl, hw'⟩
  show Leaves P fn tmps RE ds (settle u') w'
  rw [hs]
  exact h tmps w' g hw'
theorem gl_r1 {RR : Value → List HP → Prop} {E : List PanicEntry → List HP → Prop} {F : List HP} {t : Tmp} {v : Value} (B : List HP) (hf : fn.results = #[.tmp t]) (hv : lk σ t = some v) (hR : RR v B) (he : Ent L (B ++ F)) : GL P fn (fin RR E m F) [] .returning σ m L := fun tmps w g hw => by
  have := g t v hv
  refine ⟨v, ?_, B, hR, hw.ent he⟩
  simp [results, hf, this]
theorem gl_r2 {RR : Value → List HP → Prop} {E : List PanicEntry → List HP → Prop} {F : List HP} {t u : Tmp} {v v' : Value} (B : List HP) (hf : fn.results = #[.tmp t, .tmp u]) (hv : lk σ t = some v) (hv' : lk σ u = some v') (hR : RR (.tuple #[v, v']) B) (he : Ent L (B ++ F)) : GL P fn (fin RR E m F) [] .returning σ m L := fun tmps w g hw => by
  have e1 := g t v hv
  have e2 := g u v' hv'
  refine ⟨.tuple #[v, v'], ?_, B, hR, hw.ent he⟩
  simp [results, hf, e1, e2]
theorem gl_p {RR : Value → List HP → Prop} {E : List PanicEntry → List HP → Prop} {F : List HP} {c : List PanicEntry} (B : List HP) (hR : E c B) (he : Ent L (B ++ F)) : GL P fn (fin RR E m F) [] (.panicking c) σ m L := fun _tmps _w _g hw =>
  ⟨B, hR, hw.ent he⟩
end
end Go.Sl
namespace Go.Proofs.YtfebpbflpdppiaaGreatDoor
open Go Go.Sl
set_option maxRecDepth 100000
instance : MethP Tryz.prog 47 "BeginUpdate" 70 := MethP.of Tryz.underlying47 (by kernel_rfl)
instance : MethP Tryz.prog 47 "Close" 71 := MethP.of Tryz.underlying47 (by kernel_rfl)
instance : MethP Tryz.prog 47 "EndUpdate" 72 := MethP.of Tryz.underlying47 (by kernel_rfl)
instance : MethP Tryz.prog 47 "Name" 73 := MethP.of Tryz.underlying47 (by kernel_rfl)
instance : MethP Tryz.prog 47 "PunchHole" 74 := MethP.of Tryz.underlying47 (by kernel_rfl)
instance : MethP Tryz.prog 47 "ReadAt" 75 := MethP.of Tryz.underlying47 (by kernel_rfl)
instance : MethP Tryz.prog 47 "Rollback" 76 := MethP.of Tryz.underlying47 (by kernel_rfl)
instance : MethP Tryz.prog 47 "Size" 77 := MethP.of Tryz.underlying47 (by kernel_rfl)
instance : MethP Tryz.prog 47 "Sync" 78 := MethP.of Tryz.underlying47 (by kernel_rfl)
instance : MethP Tryz.prog 47 "Truncate" 79 := MethP.of Tryz.underlying47 (by kernel_rfl)
instance : MethP Tryz.prog 47 "WriteAt" 20 := MethP.of Tryz.underlying47 (by kernel_rfl)
instance : MethP Tryz.prog 56 "BeginUpdate" 86 := MethP.of Tryz.underlying56 (by kernel_rfl)
instance : MethP Tryz.prog 56 "Close" 87 := MethP.of Tryz.underlying56 (by kernel_rfl)
instance : MethP Tryz.prog 56 "EndUpdate" 88 := MethP.of Tryz.underlying56 (by kernel_rfl)
instance : MethP Tryz.prog 56 "Name" 89 := MethP.of Tryz.underlying56 (by kernel_rfl)
instance : MethP Tryz.prog 56 "PunchHole" 90 := MethP.of Tryz.underlying56 (by kernel_rfl)
instance : MethP Tryz.prog 56 "ReadAt" 91 := MethP.of Tryz.underlying56 (by kernel_rfl)
instance : MethP Tryz.prog 56 "Rollback" 92 := MethP.of Tryz.underlying56 (by kernel_rfl)
instance : MethP Tryz.prog 56 "Size" 93 := MethP.of Tryz.underlying56 (by kernel_rfl)
instance : MethP Tryz.prog 56 "Sync" 94 := MethP.of Tryz.underlying56 (by kernel_rfl)
instance : MethP Tryz.prog 56 "Truncate" 95 := MethP.of Tryz.underlying56 (by kernel_rfl)
instance : MethP Tryz.prog 56 "WriteAt" 96 := MethP.of Tryz.underlying56 (by kernel_rfl)
instance : MethP Tryz.prog 58 "BeginUpdate" 98 := MethP.of Tryz.underlying58 (by kernel_rfl)
instance : MethP Tryz.prog 58 "Close" 99 := MethP.of Tryz.underlying58 (by kernel_rfl)
instance : MethP Tryz.prog 58 "EndUpdate" 100 := MethP.of Tryz.underlying58 (by kernel_rfl)
instance : MethP Tryz.prog 58 "Name" 101 := MethP.of Tryz.underlying58 (by kernel_rfl)
instance : MethP Tryz.prog 58 "PunchHole" 102 := MethP.of Tryz.underlying58 (by kernel_rfl)
instance : MethP Tryz.prog 58 "ReadAt" 103 := MethP.of Tryz.underlying58 (by kernel_rfl)
instance : MethP Tryz.prog 58 "Rollback" 104 := MethP.of Tryz.underlying58 (by kernel_rfl)
instance : MethP Tryz.prog 58 "Size" 105 := MethP.of Tryz.underlying58 (by kernel_rfl)
instance : MethP Tryz.prog 58 "Sync" 106 := MethP.of Tryz.underlying58 (by kernel_rfl)
instance : MethP Tryz.prog 58 "Truncate" 107 := MethP.of Tryz.underlying58 (by kernel_rfl)
instance : MethP Tryz.prog 58 "WriteAt" 108 := MethP.of Tryz.underlying58 (by kernel_rfl)
instance : MethP Tryz.prog 107 "ReadAt" 120 := MethP.of Tryz.underlying107 (by kernel_rfl)
instance : MethP Tryz.prog 107 "Size" 116 := MethP.of Tryz.underlying107 (by kernel_rfl)
instance : MethP Tryz.prog 107 "Truncate" 122 := MethP.of Tryz.underlying107 (by kernel_rfl)
instance : MethP Tryz.prog 107 "WriteAt" 123 := MethP.of Tryz.underlying107 (by kernel_rfl)
instance : Cmp Tryz.prog 154 := ⟨by kernel_rfl⟩
instance : Mixed Tryz.prog := ⟨by kernel_rfl⟩
instance : TyI Tryz.prog 144 4096 4096 (.agg (Array.replicate 4096 (.int .u8 0))) := TyI.of (by kernel_rfl)
end Go.Proofs.YtfebpbflpdppiaaGreatDoor
namespace Go.Proofs.YtfebpbflpdppiaaGreatDoor
open Go Go.Conc.Locks
set_option maxRecDepth 100000
abbrev muLink : MuLink := { lock := 126, unlock := 135, ilock := 142, iunlock := 144, lockSlow := 146, unlockSlow := 147, disable := 125, enable := 129, acquire := 130, relMerge := 132, cas32 := 145, add32 := 143, tMutex := 101, tIMutex := 99, tPMutex := 185, tPIMutex := 201, tPI32 := 200, tUP := 184, tNoCopy := 96, tU32 := 97 }
theorem muLib : MuLib Tryz.prog muLink :=
  ⟨Tryz.func126, Tryz.func135, Tryz.func142, Tryz.func144, Tryz.func125, Tryz.func129, Tryz.func130, Tryz.func132, Tryz.func145, Tryz.func143, Tryz.underlying99, Tryz.runUnderlying99, Tryz.sizeOf99, Tryz.isAgg99, Tryz.zeroValue99, Tryz.underlying101, Tryz.runUnderlying101, Tryz.sizeOf101, Tryz.isAgg101, Tryz.zeroValue101, Tryz.underlying185, Tryz.runUnderlying185, Tryz.sizeOf185, Tryz.isAgg185, Tryz.zeroValue185, Tryz.underlying201, Tryz.runUnderlying201, Tryz.sizeOf201, Tryz.isAgg201, Tryz.zeroValue201, Tryz.underlying200, Tryz.runUnderlying200, Tryz.sizeOf200, Tryz.isAgg200, Tryz.zeroValue200, Tryz.underlying184, Tryz.runUnderlying184, Tryz.sizeOf184, Tryz.isAgg184, Tryz.zeroValue184, Tryz.underlying96, Tryz.runUnderlying96, Tryz.sizeOf96, Tryz.isAgg96, Tryz.zeroValue96, Tryz.underlying21, Tryz.runUnderlying21, Tryz.sizeOf21, Tryz.isAgg21, Tryz.zeroValue21, (by kernel_rfl)⟩
abbrev rwLink : RwLink := { lock := 126, unlock := 135, ilock := 142, iunlock := 144, lockSlow := 146, unlockSlow := 147, disable := 125, enable := 129, acquire := 130, relMerge := 132, cas32 := 145, add32 := 143, tMutex := 101, tIMutex := 99, tPMutex := 185, tPIMutex := 201, tPI32 := 200, tUP := 184, tNoCopy := 96, tU32 := 97, rlock := 117, runlock := 118, wlock := 109, wunlock := 110, i32add := 127, raceRead := 124, release := 131, rUnlockSlow := 139, semacqR := 138, semacqW := 128, semrel := 134, sfatal := 133, tRW := 106, tPRW := 182, tAI32 := 104, tPAI32 := 198, tPU32 := 188, tANoCopy := 102 }
theorem rwCore : RwCore Tryz.prog rwLink :=
  ⟨Tryz.func127, Tryz.func124, Tryz.func125, Tryz.func129, Tryz.func130, Tryz.func132, Tryz.func143, Tryz.underlying106, Tryz.runUnderlying106, Tryz.sizeOf106, Tryz.isAgg106, Tryz.zeroValue106, Tryz.underlying104, Tryz.runUnderlying104, Tryz.sizeOf104, Tryz.isAgg104, Tryz.zeroValue104, Tryz.underlying182, Tryz.runUnderlying182, Tryz.sizeOf182, Tryz.isAgg182, Tryz.zeroValue182, Tryz.underlying198, Tryz.runUnderlying198, Tryz.sizeOf198, Tryz.isAgg198, Tryz.zeroValue198, Tryz.underlying188, Tryz.runUnderlying188, Tryz.sizeOf188, Tryz.isAgg188, Tryz.zeroValue188, Tryz.underlying102, Tryz.runUnderlying102, Tryz.sizeOf102, Tryz.isAgg102, Tryz.zeroValue102, Tryz.underlying97, Tryz.runUnderlying97, Tryz.sizeOf97, Tryz.isAgg97, Tryz.zeroValue97, Tryz.underlying101, Tryz.runUnderlying101, Tryz.sizeOf101, Tryz.isAgg101, Tryz.zeroValue101, Tryz.underlying185, Tryz.runUnderlying185, Tryz.sizeOf185, Tryz.isAgg185, Tryz.zeroValue185, Tryz.underlying200, Tryz.runUnderlying200, Tryz.sizeOf200, Tryz.isAgg200, Tryz.zeroValue200, Tryz.underlying184, Tryz.runUnderlying184, Tryz.sizeOf184, Tryz.isAgg184, Tryz.zeroValue184, Tryz.underlying21, Tryz.runUnderlying21, Tryz.sizeOf21, Tryz.isAgg21, Tryz.zeroValue21, (by kernel_rfl), (by kernel_rfl)⟩
theorem rwRLib : RwRLib Tryz.prog rwLink := ⟨rwCore, Tryz.func117, Tryz.func118⟩
theorem rwWLib : RwWLib Tryz.prog rwLink := ⟨rwCore, muLib, Tryz.func109, Tryz.func110, Tryz.func131, Tryz.underlying3, Tryz.runUnderlying3, Tryz.sizeOf3, Tryz.isAgg3, Tryz.zeroValue3⟩

end Go.Proofs.YtfebpbflpdppiaaGreatDoor
