/- The fourth part of the calculus: deferred calls that recover. -/
import Derived.Test.YtfebpbflpdppiaaDoorWx
namespace Go.Sl
open Go
section
variable {P : Program} {n : Nat} {ds : List Deferred} {σ : Env} {m : Amb} {L : List HP} {Q : Exit → Act → World → Prop} {K : Act → World → Prop}
variable {ty : TypeId} {pos : String} {aft : Array Edge} {gd : Option (Nat × Bool)} {x y : Operand}

theorem r_makeFn {od : Option Tmp} {f : FuncId} {xs : List Operand} {vs : List Value} (hx : opds σ xs = some vs) : RunS P ⟨od, .makeFunc (.func f) #[] xs.toArray, ty, pos, aft, gd⟩ σ (.func (.func f) #[] vs.toArray) := fun a w g => by
  simp only [execOp, List.map_toArray, opds_eval g hx]
  rfl
theorem s_defer {fn : Fn} {first cap : Array Value} {xs : List Operand} {vs : List Value} {T : Array TypeId} (hx : opd σ x = some (.func fn first cap)) (hy : opds σ xs = some vs)
    (h : G n ({ target := .fn fn cap, args := first ++ vs.toArray } :: ds) σ m L K) : G n ds σ m L (St P ⟨none, .defer ⟨.value x, xs.toArray, T⟩, ty, pos, aft, gd⟩ K Q) := fun a w h1 h2 h3 h4 => by
  have hrun : (execOp a.eval ⟨none, .defer ⟨.value x, xs.toArray, T⟩, ty, pos, aft, gd⟩).run P w = .ok (.defer { target := .fn fn cap, args := first ++ vs.toArray }) w := by
    simp [execOp, resolve, opd_eval h3 hx, Deferred.ofValue, opds_eval h3 hy]
  show Oper.upon P _ a K Q _
  rw [hrun]
  exact h _ w (by simp [Act.put, h1]) h2 h3 h4

/-- what a closure's body has done that was entered by a recovered panic -/
def QR (m : Amb) (L' : List HP) : Exit → Act → World → Prop := fun e a w => a.defers = [] ∧ (e = .normal ∨ e = .ret) ∧ Sat m L' w
theorem qr_n {L' : List HP} (h : Ent L L') : G n [] σ m L (QR m L' .normal) := fun _ _ h1 _ _ h4 => ⟨h1, .inl rfl, h4.ent h⟩
theorem qr_r {L' : List HP} (h : Ent L L') : G n [] σ m L (QR m L' .ret) := fun _ _ h1 _ _ h4 => ⟨h1, .inr rfl, h4.ent h⟩

section
variable {f : FuncId} {fn' : Func} {rid tr tb it it2 y1 y2 nt : Nat} {p1 p2 : String} {a1 a2 : Array Edge} {TA : Array TypeId} {c1 : Code} {cap : Array Value} {ms : Array (String × TypeId)}
theorem rec_idle [hi : TyU P it (.interface ms)] (hf : P.funcs[f]? = some fn') (hb : fn'.body = some (.seq (.region rid #[⟨some tr, .call ⟨.builtin .recover, #[], TA⟩, y1, p1, a1, none⟩, ⟨some tb, .binOp .neq it (.tmp tr) (.const .nilIface) it2, y2, p2, a2, none⟩] false) (.cond (.tmp tb) c1 .skip)))
    (hr : fn'.results = #[]) (hn : fn'.ntmps = nt) (h1 : tr < nt) (h2 : tb < nt) (hne : tb ≠ tr) (hcs : cap.size ≤ nt) (w : World) : CallsD P f cap .returning w fun e u' w' => e = .returned (.tuple #[]) ∧ u' = .returning ∧ w' = w := by
  refine callsD_of_wpS hf hb fun c₀ cs hu => ?_
  apply wpS_seq
  apply wpS_region
  have hsz : (cap ++ Array.replicate (nt - cap.size) undef).size = nt := by simp; omega
  have e1 : (Op.equal it Value.nilIface Value.nilIface).run P w = .ok true w := run_eq_of (q_NN hi) w
  simp [wpOpsS, List.range, List.range.loop, execOp, resolve, invoke, builtin, recoverD, hu, hn, Exit.thenS, Region.wanted, Act.put, Act.eval, Oper.upon, h1, hsz, eqGuard, binOp, e1]
  refine wpS_cond (t := false) (by simp [Act.eval, hsz, h2]) ?_
  refine wpS_of_wp (wp_skip ?_)
  cases c₀
  simp_all [bodyPostS, results]
theorem rec_caught [hi : TyU P it (.interface ms)] (hf : P.funcs[f]? = some fn') (hb : fn'.body = some (.seq (.region rid #[⟨some tr, .call ⟨.builtin .recover, #[], TA⟩, y1, p1, a1, none⟩, ⟨some tb, .binOp .neq it (.tmp tr) (.const .nilIface) it2, y2, p2, a2, none⟩] false) (.cond (.tmp tb) c1 .skip)))
    (hr : fn'.results = #[]) (hn : fn'.ntmps = nt) (h1 : tr < nt) (h2 : tb < nt) (hne : tb ≠ tr) (hcs : cap.size ≤ nt) {T : TypeId} {v : Value} {L' : List HP}
    (hG : G nt [] ((tb, .bool true) :: (tr, .iface T v) :: argEnv 0 cap.toList) m L (c1.wp P (QR m L'))) {w : World} (hw : Sat m L w) :
    CallsD P f cap (.panicking [{ v := .iface T v, recovered := false }]) w fun e u' w' => e = .returned (.tuple #[]) ∧ u' = .panicking [{ v := .iface T v, recovered := true }] ∧ Sat m L' w' := by
  refine callsD_of_wpS hf hb fun c₀ cs hu => ?_
  apply wpS_seq
  apply wpS_region
  have hsz : (cap ++ Array.replicate (nt - cap.size) undef).size = nt := by simp; omega
  have e1 : (Op.equal it (Value.iface T v) Value.nilIface).run P w = .ok false w := run_eq_of (q_IN hi) w
  simp [wpOpsS, List.range, List.range.loop, execOp, resolve, invoke, builtin, recoverD, hu, hn, Exit.thenS, Region.wanted, Act.put, Act.eval, Oper.upon, h1, hsz, eqGuard, binOp, e1]
  refine wpS_cond (t := true) (by simp [Act.eval, hsz, h2]) ?_
  rw [if_pos rfl]
  refine wpS_of_wp (wp_mono (hG _ w rfl (by simp [hsz]) ?_ hw) fun e a' w' q => ?_)
  · refine Agr.put (Agr.put (argEnv_agr _ 0 _ fun j u hu => ?_) (by rw [hsz]; exact h1) _) (by simp [hsz, h2]) _
    simp only [Nat.zero_add]
    have hj : j < cap.size := by
      rcases Nat.lt_or_ge j cap.size with h' | h'
      · exact h'
      · simp [Array.getElem?_eq_none h'] at hu
    rw [Array.getElem?_append_left hj]
    simpa using hu
  · obtain ⟨q1, q2, q3⟩ := q
    rcases q2 with rfl | rfl <;> exact ⟨q1, _, rfl, .tuple #[], results_none hr _ _ _, rfl, rfl, q3⟩
/-- the end of a function whose one deferred call recovers -/
theorem e_retR [hi : TyU P it (.interface ms)] (hf : P.funcs[f]? = some fn') (hb : fn'.body = some (.seq (.region rid #[⟨some tr, .call ⟨.builtin .recover, #[], TA⟩, y1, p1, a1, none⟩, ⟨some tb, .binOp .neq it (.tmp tr) (.const .nilIface) it2, y2, p2, a2, none⟩] false) (.cond (.tmp tb) c1 .skip)))
    (hr : fn'.results = #[]) (hn : fn'.ntmps = nt) (h1 : tr < nt) (h2 : tb < nt) (hne : tb ≠ tr) (hcs : cap.size ≤ nt) [he : EnF P f] {fn : Func} {R : Ending → World → Prop}
    (h : ∀ tmps w, Agr σ tmps → Sat m L w → ∃ v, (results fn tmps).run P w = .ok v w ∧ R (.returned v) w) : G n [{ target := .fn (.func f) cap, args := #[] }] σ m L (bodyPostD P fn R .ret) := fun a w g1 g2 g3 g4 => by
  show Leaves P fn a.tmps R a.defers .returning w
  rw [g1]
  refine leaves_cons (f := f) (args := cap) (by simp) (by simp [invoke, he.h]) ?_
  refine (rec_idle hf hb hr hn h1 h2 hne hcs w).mono ?_
  rintro e u' w' ⟨rfl, rfl, rfl⟩
  exact h a.tmps _ g3 g4
theorem e_panR [hi : TyU P it (.interface ms)] (hf : P.funcs[f]? = some fn') (hb : fn'.body = some (.seq (.region rid #[⟨some tr, .call ⟨.builtin .recover, #[], TA⟩, y1, p1, a1, none⟩, ⟨some tb, .binOp .neq it (.tmp tr) (.const .nilIface) it2, y2, p2, a2, none⟩] false) (.cond (.tmp tb) c1 .skip)))
    (hr : fn'.results = #[]) (hn : fn'.ntmps = nt) (h1 : tr < nt) (h2 : tb < nt) (hne : tb ≠ tr) (hcs : cap.size ≤ nt) [he : EnF P f] {fn : Func} {R : Ending → World → Prop} {T : TypeId} {v : Value} (L' : List HP)
    (hG : G nt [] ((tb, .bool true) :: (tr, .iface T v) :: argEnv 0 cap.toList) m L (c1.wp P (QR m L')))
    (h : ∀ tmps w, Agr σ tmps → Sat m L' w → ∃ v, (results fn tmps).run P w = .ok v w ∧ R (.returned v) w) : G n [{ target := .fn (.func f) cap, args := #[] }] σ m L (bodyPostD P fn R (.panic [{ v := .iface T v, recovered := false }])) := fun a w g1 g2 g3 g4 => by
  show Leaves P fn a.tmps R a.defers (.panicking _) w
  rw [g1]
  refine leaves_cons (f := f) (args := cap) (by simp) (by simp [invoke, he.h]) ?_
  refine (rec_caught hf hb hr hn h1 h2 hne hcs hG g4).mono ?_
  rintro e u' w' ⟨rfl, rfl, hw'⟩
  exact h a.tmps _ g3 hw'
end
/-- results in two cells, or in one that holds a struct -/
theorem res_cc {fn : Func} {t u tt uu : Nat} {pp qq : TypeDesc} {a b : Addr} {v v' : Value} [h1 : TyU P tt pp] [h2 : TyU P uu qq] (hf : fn.results = #[.cell t tt, .cell u uu]) (hp : lk σ t = some (.pointer (some a))) (hq : lk σ u = some (.pointer (some b)))
    (ha : aggD pp = false) (hb : aggD qq = false) (hr : Rd L a v) (hr' : Rd L b v') (tmps : Array Value) (w : World) (g : Agr σ tmps) (hw : Sat m L w) : (results fn tmps).run P w = .ok (.tuple #[v, v']) w := by
  have e1 := g t _ hp
  have e2 := g u _ hq
  simp [results, hf, e1, e2, asAddr, loadVar, run_isAgg' h1, run_isAgg' h2, ha, hb, hr m w hw, hr' m w hw]
theorem e_retC1 {fn : Func} {RR : Value → List HP → Prop} {E : List PanicEntry → List HP → Prop} {F : List HP} {t tt b o s z : Nat} {pp : TypeDesc} {zv : Value} {vs : List Value} (B : List HP) (hf : fn.results = #[.cell t tt]) (hp : lk σ t = some (.pointer (some ⟨b, o, none⟩))) [h : TyU P tt pp] [h' : TyI P tt s z zv]
    (ha : aggD pp = true) (hs : vs.length = s) (hr : RdN L b o vs) (hR : RR (.agg vs.toArray) B) (he : Ent L (B ++ F)) : G n [] σ m L (bodyPost P fn (fin RR E m F) .ret) := fun ac w h1 h2 h3 h4 => by
  have e1 := h3 t _ hp
  have hl := run_loadCells_list (P := P) w ⟨b, o, none⟩ vs (fun j v hv => by rw [addr_add]; exact hr.get hv m w h4)
  rw [hs] at hl
  refine ⟨h1, .agg vs.toArray, ?_, B, hR, h4.ent he⟩
  simp [results, hf, e1, asAddr, loadVar, run_isAgg' h, ha, run_sizeOf h', hl]
end
/-- a struct's field: at which cell it lies -/
class Fld (P : Program) (t : TypeId) (i : Nat) (off : outParam Nat) : Prop where
  h : ∃ (fs : Array Field) (f : Field) (inf : TypeInfo), P.underlying t = some (.struct fs) ∧ fs[i]? = some f ∧ f.offset = off ∧ P.info? f.type = some inf ∧ inf.size ≠ 0
theorem Fld.of {P : Program} {t : TypeId} {i off : Nat} {fs : Array Field} (hu : P.underlying t = some (.struct fs)) (h : (fs[i]?).map (fun f => (f.offset, (P.info? f.type).map (fun i => i.size == 0))) = some (off, some false)) : Fld P t i off := by
  cases hf : fs[i]? with
  | none => simp [hf] at h
  | some f =>
    simp only [hf, Option.map_some, Option.some.injEq, Prod.mk.injEq] at h
    cases hi : P.info? f.type with
    | none => simp [hi] at h
    | some inf =>
      simp [hi] at h
      exact ⟨fs, f, inf, hu, hf, h.1, hi, h.2⟩
theorem r_fld {P : Program} {σ : Env} {d : Option Tmp} {ty t : TypeId} {pos : String} {aft : Array Edge} {gd : Option (Nat × Bool)} {x : Operand} {b o i off : Nat} (hx : opd σ x = some (.pointer (some ⟨b, o, none⟩))) [h : Fld P t i off] :
    RunS P ⟨d, .fieldAddr t x i, ty, pos, aft, gd⟩ σ (.pointer (some ⟨b, o + off, none⟩)) := fun c w g => by
  obtain ⟨fs, f, inf, hu, hf, ho, hi, hs⟩ := h.h
  have hsz : (sizeOf f.type).run P w = .ok inf.size w := by simp [sizeOf, typeInfo, hi]
  simp only [execOp, opd_eval g hx]
  simp only [Instr.fieldAt, Sem.run_bind, run_underlying hu, Result.andThen_ok, Instr.sureAddr, hf, fieldPlace, hsz, hs, if_false, Addr.add]
  subst ho
  by_cases ho : f.offset = 0 <;> simp [ho, hsz, hs]
section
variable {P : Program} {n : Nat} {ds : List Deferred} {σ : Env} {m : Amb} {L : List HP} {Q : Exit → Act → World → Prop} {K : Act → World → Prop}
variable {d : Nat} {ty : TypeId} {pos : String} {aft : Array Edge} {gd : Option (Nat × Bool)} {x y : Operand} {t e : TypeId}
theorem r_strEqD {od : Option Tmp} {u : TypeId} {s r : ByteArray} (hx : opd σ x = some (.string s)) (hy : opd σ y = some (.string r)) : RunS P ⟨od, .binOp .eql t x y u, ty, pos, aft, gd⟩ σ (.bool (s.data.toList == r.data.toList)) := by
  have := r_strEq (P := P) (d := od) (t := t) (u := u) (ty := ty) (pos := pos) (aft := aft) (gd := gd) hx hy
  rwa [ByteArray.toList_eq, ByteArray.toList_eq] at this
/-- []byte(s), with what its capacity is -/
theorem s_strBc {s : ByteArray} {tS : TypeId} [h1 : TyU P tS .string] [h2 : TyU P t (.slice e)] [h3 : TyU P e (.int .u8)] (hx : opd σ x = some (.string s)) (hs : s.size ≤ maxLen) (hk : Nat.blt d n = true)
    (h : ∀ b c, s.size ≤ c → c ≤ maxLen → G n ds ((d, .slice (some ⟨b, 0, none⟩) s.size c) :: σ) m (ro b e (u8s s.data.toList) :: L) K) : G n ds σ m L (St P ⟨some d, .convert tS t x, ty, pos, aft, gd⟩ K Q) := by
  refine s_eff rfl hk fun a w g hw => ?_
  have hrun := run_bytes_of_string (P := P) w tS t e s h1.h h2.h h3.h
  refine ⟨_, _, by simp [execOp, opd_eval g hx, hrun]; rfl, _, (?_ : Sat m (ro w.heap.size e (u8s s.data.toList) :: L) _), h w.heap.size (grownCap w s.size 0 e) (grownCap_ge w s.size 0 e) (grownCap_le_maxLen w s.size 0 e hs)⟩
  have := Sat.new (hw.drawn (w.drawn + 1)) (.cells (bytesRow s (grownCap w s.size 0 e)) e ((bytesRow s (grownCap w s.size 0 e)).size, (bytesRow s (grownCap w s.size 0 e)).size + 1))
  refine Sat.ent this (Ent.imp fun h hh => ⟨_, _, hh, ?_⟩)
  simp [bytesRow, u8s, List.take_append]
end
section
variable {P : Program} {n : Nat} {σ : Env} {m : Amb} {L : List HP} {RR : Value → List HP → Prop} {E : List PanicEntry → List HP → Prop} {F : List HP} {fn : Func}
/-- results: a cell that holds a struct, and a slot -/
theorem e_retAT {t u tt b o s z : Nat} {pp : TypeDesc} {zv v' : Value} {vs : List Value} (B : List HP) (hf : fn.results = #[.cell t tt, .tmp u]) (hp : lk σ t = some (.pointer (some ⟨b, o, none⟩))) [h : TyU P tt pp] [h' : TyI P tt s z zv]
    (ha : aggD pp = true) (hs : vs.length = s) (hr : RdN L b o vs) (hv' : lk σ u = some v') (hR : RR (.tuple #[.agg vs.toArray, v']) B) (he : Ent L (B ++ F)) : G n [] σ m L (bodyPost P fn (fin RR E m F) .ret) := fun ac w h1 h2 h3 h4 => by
  have e1 := h3 t _ hp
  have e2 := h3 u _ hv'
  have hl := run_loadCells_list (P := P) w ⟨b, o, none⟩ vs (fun j v hv => by rw [addr_add]; exact hr.get hv m w h4)
  rw [hs] at hl
  refine ⟨h1, .tuple #[.agg vs.toArray, v'], ?_, B, hR, h4.ent he⟩
  simp [results, hf, e1, e2, asAddr, loadVar, run_isAgg' h, ha, run_sizeOf h', hl]
theorem e_retAAT {t t2 u tt b o b2 o2 s z : Nat} {pp : TypeDesc} {zv v' : Value} {vs vs2 : List Value} (B : List HP) (hf : fn.results = #[.cell t tt, .cell t2 tt, .tmp u]) (hp : lk σ t = some (.pointer (some ⟨b, o, none⟩))) (hp2 : lk σ t2 = some (.pointer (some ⟨b2, o2, none⟩))) [h : TyU P tt pp] [h' : TyI P tt s z zv]
    (ha : aggD pp = true) (hs : vs.length = s) (hs2 : vs2.length = s) (hr : RdN L b o vs) (hr2 : RdN L b2 o2 vs2) (hv' : lk σ u = some v') (hR : RR (.tuple #[.agg vs.toArray, .agg vs2.toArray, v']) B) (he : Ent L (B ++ F)) : G n [] σ m L (bodyPost P fn (fin RR E m F) .ret) := fun ac w h1 h2 h3 h4 => by
  have e1 := h3 t _ hp
  have e1' := h3 t2 _ hp2
  have e2 := h3 u _ hv'
  have hl := run_loadCells_list (P := P) w ⟨b, o, none⟩ vs (fun j v hv => by rw [addr_add]; exact hr.get hv m w h4)
  have hl2 := run_loadCells_list (P := P) w ⟨b2, o2, none⟩ vs2 (fun j v hv => by rw [addr_add]; exact hr2.get hv m w h4)
  rw [hs] at hl
  rw [hs2] at hl2
  refine ⟨h1, .tuple #[.agg vs.toArray, .agg vs2.toArray, v'], ?_, B, hR, h4.ent he⟩
  simp [results, hf, e1, e1', e2, asAddr, loadVar, run_isAgg' h, ha, run_sizeOf h', hl, hl2]
end
end Go.Sl
