/- FnDecode: of whatever bytes: what is decoded is encoded and decoded to the same: the card. Conditions: those of the given row (two package-level variables read as the program's text lays them; the card ties that). -/
import Derived.Test.YtfebpbflpdppiaaDoorCards
import Derived.Test.YtfebpbflpdppiaaDoorTie
import Derived.Test.YtfebpbflpdppiaaDoorD16
import Derived.WalkKit
import Derived.ProofKit
import Derived.OpenShut
import Derived.Carry
import Derived.Deep.DeepHandedRow
namespace Go.Proofs.YtfebpbflpdppiaaDoor
open Go Go.Sl Go.ChangeShapes Go.WideShapes Go.ChangeAt Go.RowKit
set_option maxRecDepth 100000
/-- the whole heap of a world as one part -/
def own (W : World) : HP := fun h => h = ph W
theorem own_sat (W : World) : Sat ⟨W.os, W.tape, W.output⟩ ([own W] ++ []) W :=
  ⟨rfl, rfl, rfl, ph W, fun _ => none, PH.sub.refl _, (fun _ _ e => (by cases e)), (fun _ => Or.inr rfl), rfl, trivial⟩
theorem own_rd {W : World} {L : List HP} {a : Addr} {v : Value} (hc : W.cell? a = some v) : Rd (own W :: L) a v := fun m w h => by
  obtain ⟨g, _, h1, _, _, hg, _⟩ := h.2.2.2
  have hg : g = ph W := hg
  subst hg
  cases hb : W.heap[a.block]? with
  | none => simp [World.cell?, hb] at hc
  | some o =>
    have : w.heap[a.block]? = some o := h1 a.block o hb
    simpa [World.cell?, hb, this] using hc
theorem own_below {W w : World} (h : Sat ⟨W.os, W.tape, W.output⟩ ([own W] ++ []) w) : Below W.heap.size W w := by
  obtain ⟨h1, h2, h3, g, _, hs, _, _, hg, _⟩ := h
  have hg : g = ph W := hg
  subst hg
  have hb : ∀ k, k < W.heap.size → w.heap[k]? = W.heap[k]? := fun k hk => by
    have : W.heap[k]? = some W.heap[k] := Array.getElem?_eq_getElem hk
    rw [this]; exact hs k _ this
  refine ⟨h1, h2, h3, ?_, hb⟩
  rcases Nat.eq_zero_or_pos W.heap.size with h0 | h0
  · omega
  · have hlt : W.heap.size - 1 < W.heap.size := by omega
    have e : W.heap[W.heap.size - 1]? = some (W.heap[W.heap.size - 1]'hlt) := Array.getElem?_eq_getElem hlt
    have := hb (W.heap.size - 1) hlt
    rw [e] at this
    have := (Array.getElem?_eq_some_iff.1 this).1
    omega
/-- the post-condition of a law: true, and what was there stands -/
theorem post_keep {H : Type} {enc : TypeId × Value → H} {P : Program} {f : Func} {s : ChangeSpec} {W W' : World} {args : Array Value} {v : Value} {ds gs : List (DataW H)} {before pa pv : List MemPlace}
    (hW : DataW.Whole enc P f.params.toList s.vars false W args.toList ds gs before)
    (hres : ∀ (b : Nat) (sp : Nat → Bool) (hd : Bool), DataW.TrodAll enc P W' b sp hd f.resultTypes.toList (v.resultList f.resultTypes.size) (s.fn H (ds ++ gs)).results [])
    (hargs : DataW.TrodAll enc P W' 0 (fun b => decide (b < W.heap.size)) true f.params.toList args.toList (s.fn H (ds ++ gs)).args pa)
    (hvars : DataW.TrodVars enc P W' (fun b => decide (b < W.heap.size)) s.vars (s.fn H (ds ++ gs)).vars pv)
    (hk : Below W.heap.size W W') : s.post enc P f false true false false W args v W' :=
  ⟨ds, gs, before, [], pa, pv, hW, hres _ _ _, hargs, hvars, hk.frame _, fun h => by cases h⟩
theorem laidOut : laidOutB Tryd.prog = true := by kernel_rfl
theorem cells5 : Tryd.prog.cellsOf 5 = 1 := by kernel_rfl
theorem rd22 : Tryd.prog.readableRec 22 = true := by kernel_rfl
theorem row22 : 22 < Tryd.prog.types.size := of_decide_eq_true (by kernel_rfl)
theorem contract (H : Type) (enc : TypeId × Value → H) (W : World) (base : Nat) (args : Array Value) (ds gs : List (DataW H)) (before : List MemPlace)
    (hval : ∀ (j : Nat) t v, Tryd.f3.params[j]? = some t → args[j]? = some v → Value.okWide Tryd.prog W .any base t v)
    (hW : DataW.Whole enc Tryd.prog Tryd.f3.params.toList Rows.fnDecodeSpec.vars false W args.toList ds gs before) :
    Calls Tryd.prog 3 args W fun e W' => ∃ v, e = .returned v ∧ Rows.fnDecodeSpec.post enc Tryd.prog Tryd.f3 false true false false W args v W' := by
  have hW' := hW
  have hlt := hW.lt
  obtain ⟨p, q, hA0, hV, rfl, hfz, hnd⟩ := hW
  have hA : DataW.TrodAll enc Tryd.prog W 0 (fun _ => true) true Tryd.f3.params.toList args.toList ds p := hA0
  rw [Tryd.params3] at hA hval
  obtain ⟨v0, d0, rfl, rfl, h0⟩ := trodAll_one hA
  obtain ⟨rfl, rfl⟩ := trodVars_none hV
  obtain ⟨a, k, c, rfl⟩ := okWide_slice Tryd.underlying22 (hval 0 22 v0 rfl rfl)
  have h0' := h0
  obtain ⟨fu, hf⟩ := h0'
  have key : ∃ bs : List UInt8, (k = 0 ∧ bs = []) ∨ Src [own W] 1 (.slice a k c) k (u8s bs) := by
    rcases open_ints Tryd.underlying22 Tryd.underlying5 cells5 hf with ⟨hcs, _⟩ | ⟨ad, len, cap, zs, hcs, _, hl, hm, hz, _, hcell, hw⟩
    · simp only [Value.cells, List.cons.injEq, Value.slice.injEq, and_true] at hcs
      obtain ⟨rfl, rfl, rfl⟩ := hcs
      exact ⟨[], .inl ⟨rfl, rfl⟩⟩
    · simp only [Value.cells, List.cons.injEq, Value.slice.injEq, and_true] at hcs
      obtain ⟨rfl, rfl, rfl⟩ := hcs
      simp only [if_true] at hz
      rcases Nat.eq_zero_or_pos k with h0 | h0
      · exact ⟨[], .inl ⟨h0, rfl⟩⟩
      · obtain ⟨b, o, sp⟩ := ad
        have hsp : sp = none := by
          have := hcell 0 (by omega)
          cases sp with
          | none => rfl
          | some x =>
            simp only [World.cell?, Addr.add, if_pos] at this
            split at this
            · simp at this
            · cases this
        subst hsp
        have hb : ∀ z ∈ zs, 0 ≤ z ∧ z ≤ 255 := fun z hz => bounds_u8 (hw z hz)
        refine ⟨(zs.take k).map fun z => UInt8.ofNat z.toNat, .inr (.some b o k c _ (by simp; omega) (RdN.of fun j v hv => ?_))⟩
        have hj : j < k := by
          have := (List.getElem?_eq_some_iff.1 hv).1
          simp at this; omega
        have hjz : j < zs.length := by omega
        have hc := hcell j hjz
        rw [addr_add] at hc
        have hv' : v = .int .u8 (zs.getD j 0) := by
          simp only [u8s, List.map_map, List.getElem?_map, List.getElem?_take, if_pos hj, List.getElem?_eq_getElem hjz, Option.map_some, Option.some.injEq] at hv
          rw [← hv]
          have := hb _ (List.getElem_mem hjz)
          simp only [Function.comp, List.getD, List.getElem?_eq_getElem hjz, Option.getD_some, Value.int.injEq, true_and]
          have h2 : (UInt8.ofNat (zs[j]).toNat).toNat = (zs[j]).toNat := by simp; omega
          rw [h2]; omega
        rw [hv']
        exact own_rd hc
  obtain ⟨bs, hs⟩ := key
  refine (FnDecode_c a k c bs hs _ [] W (own_sat W)).mono fun e W' he => ?_
  cases e with
  | returned v =>
    obtain ⟨B, ⟨rfl, rfl⟩, hB⟩ := he
    have hbel := own_below hB
    exact ⟨_, rfl, post_keep (pa := p) (pv := []) hW' (fun _ _ _ => trodAll_mk1 (shut_bool Tryd.underlying4 _)) (trodAll_mk1 (Below.trod laidOut rd22 row22 h0 hbel fun x hx => by simpa using hlt x (by simp [hx]))) rfl hbel⟩
  | panicked c => obtain ⟨B, hR, _⟩ := he; exact hR.elim
  | outgrown => exact he.elim
theorem own_ : ownKnob Tryd.prog.godebug = none := by kernel_rfl
noncomputable def low : Nat := (World.holding Tryd.prog default ⟨#[], #[], []⟩).heap.size
abbrev eofS : ByteArray := { data := #[69, 79, 70] }
abbrev faultS : ByteArray := { data := #[116, 104, 101, 32, 102, 105, 108, 101, 32, 102, 97, 105, 108, 101, 100] }
/-- a world for the witness: the two variables as the program's text lays them -/
noncomputable def laidWorld (os : Os) : World :=
  let w0 := World.holding Tryd.prog os ⟨#[.cells #[.string eofS] 131, .cells #[.string faultS] 131], #[], []⟩
  { w0 with heap := (w0.heap.modify 1 fun
      | .cells _ t frozen => .cells #[.iface 129 (.pointer (some ⟨low, 0, none⟩))] t frozen
      | o => o).modify 0 fun
      | .cells _ t frozen => .cells #[.iface 129 (.pointer (some ⟨low + 1, 0, none⟩))] t frozen
      | o => o }
theorem laid_met (os : Os) (args : Array Value) : laidMet Tryd.prog Rows.fnDecodeRow.laid ((laidWorld os).forCall (fun _ _ => 0) ⟨#[], args, []⟩).memory :=
  laidMet_of_run (ps := [.cell 1 0, .cell low 0, .cell 0 0, .cell (low + 1) 0]) 8 (by kernel_rfl) (by kernel_rfl) (by kernel_rfl)
theorem reads (os : Os) {H : Type} (enc : TypeId × Value → H) : ∃ places, DataW.whole enc Tryd.prog ((laidWorld os).forCall (fun _ _ => 0) ⟨#[], #[.slice none 0 0], []⟩).memory Tryd.f3.params.toList Rows.fnDecodeSpec.vars false #[Value.slice none 0 0].toList 8 = some ([.nil], [], places) :=
  ⟨[], by kernel_rfl⟩
theorem lifted (os : Os) (started : os.Started) (H : Type) (enc : TypeId × Value → H) (F : Stop.Interp) :
    ReturnsInHanded {} Tryd.checked os 3 .any ((OpenSpec.ofChange Rows.fnDecodeSpec).preRow enc Tryd.prog Tryd.f3 Rows.fnDecodeRow.domain false Rows.fnDecodeRow.laid) (((OpenSpec.ofChange Rows.fnDecodeSpec).at F).post enc Tryd.prog Tryd.f3 false true false false) := by
  obtain ⟨places, hx⟩ := reads os enc
  refine returnsInHanded_of_row (C := Tryd.checked) (s := OpenSpec.ofChange Rows.fnDecodeSpec) own_ started (by kernel_rfl) Tryd.func3
    (witness_row_at (enc := enc) (C := Tryd.checked) false (laidWorld os) #[.slice none 0 0] rfl (by kernel_rfl) (by kernel_rfl) (by kernel_rfl)
      (OpenSpec.preRow_of_cond 8 hx (by kernel_rfl) (fun k hk => by cases hk) (by kernel_rfl) (laid_met os _))) ?_
  intro W base args ds gs before hval hW _ _ _ _ _ _
  exact contract H enc W base args ds gs before hval hW
theorem said : Rows.FnDecodeSaid :=
  OpenClaim.holds_of_cond 3 Tryd.f3 rfl rfl rfl rfl rfl rfl rfl ⟨rfl, rfl, rfl, rfl, rfl⟩ rfl rfl rfl rfl rfl (by kernel_rfl) Tryd.func3 (by kernel_rfl)
    (of_decide_eq_true (by kernel_rfl)) (by unfold Func.isWrapper; first | (rw [if_pos (by decide +kernel)]; kernel_rfl) | (rw [if_neg (by decide +kernel)]; exact ⟨rfl, rfl⟩))
    (fun os started H enc _ F => by rw [OpenClaim.pre_eq_preRow]; exact lifted os started H enc F)
theorem plain (f : FuncId) (fn : Func) (hf : Tryd.pinned.checked.prog.funcNamed "pub-stonevault/laws.FnDecode" = some f) (hfn : Tryd.pinned.checked.prog.funcs[f]? = some fn) :
    true = Tryd.pinned.checked.prog.looks [] ∧ ∀ (j : Nat) t, fn.params[j]? = some t → Tryd.pinned.checked.prog.wantsStandIn t = false := by
  obtain rfl : f = 3 := Option.some.inj ((show Tryd.prog.funcNamed "pub-stonevault/laws.FnDecode" = some 3 by kernel_rfl).symm.trans hf) |>.symm
  obtain rfl : fn = Tryd.f3 := (Option.some.inj (Tryd.func3.symm.trans hfn)).symm
  refine ⟨by kernel_rfl, fun j t ht => ?_⟩
  rw [Tryd.params3] at ht
  obtain rfl : t = 22 := by simpa using Array.mem_of_getElem? ht
  exact (show Tryd.prog.wantsStandIn 22 = false by kernel_rfl)
/-- THE CARD: FnDecode -/
theorem card : Rows.FnDecodeCardSaid :=
  Claim7.holds_tied_plain_at .later [] _ _ _ _ said (fun _ h => by cases h) (by kernel_rfl) (fun _ h => by cases h) fnDecode_row_tie rfl ⟨rfl, rfl⟩ (by kernel_rfl) rfl plain (by kernel_rfl)
end Go.Proofs.YtfebpbflpdppiaaDoor
#print axioms Go.Proofs.YtfebpbflpdppiaaDoor.card
