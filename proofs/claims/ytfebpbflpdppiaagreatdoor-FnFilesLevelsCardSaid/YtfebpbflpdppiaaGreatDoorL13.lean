/- A stack without a rollback, as a machine · A step of a stack of files, whatever it is · What Files builds: stacks, layer by layer · Runs of a machine, and what bounds them. No program · Files: what it tells, its parts. -/
import Derived.Test.YtfebpbflpdppiaaGreatDoorL12
namespace Go.Proofs.YtfebpbflpdppiaaGreatDoor
open Go Go.Sl
set_option maxRecDepth 100000
section
variable {P : Program} {v : Value} {n : String} {vs : List Value} {D : List HP} {h0 p glb : HP}
theorem bpk {R : Value → List HP → Prop} {E' : List PanicEntry → List HP → Prop} {R' : Value → HP → List HP → Prop} (h : MCt P v n vs (h0 :: D) R nev) (hR : ∀ x B, R x B → ∃ h' D', R' x h' D' ∧ B = h' :: D') :
    MCt P v n vs (glb :: sep [h0, p] :: D) (fun x B => ∃ h' D', R' x h' D' ∧ B = glb :: sep [h', p] :: D') E' := by
  have e1 : ∀ (a : HP) (D F : List HP), (glb :: a :: p :: (D ++ F)).Perm ((a :: D ++ [glb, p]) ++ F) := fun a D F => by
    simp only [List.append_assoc, List.cons_append, List.nil_append]
    refine (List.Perm.swap a glb _).trans (List.Perm.cons a ?_)
    exact (List.Perm.cons glb (List.perm_middle (a := p) (l₁ := D) (l₂ := F)).symm).trans (List.perm_middle (a := glb) (l₁ := D) (l₂ := p :: F)).symm
  refine (h.frame [glb, p]).conv (fun F => ?_) (fun x B hx => ?_) (fun c B hx => by obtain ⟨_, h, _⟩ := hx; exact h.elim)
  · exact (Ent.cons (sep_open [h0, p] (D ++ F))).trans (Ent.perm (e1 h0 D F))
  · obtain ⟨_, h1, rfl⟩ := hx
    obtain ⟨h', D', h2, rfl⟩ := hR _ _ h1
    exact ⟨_, ⟨h', D', h2, rfl⟩, fun F => (Ent.perm (e1 h' D' F).symm).trans (Ent.cons (sep_shut [h', p] (D' ++ F)))⟩
end
def mcB (hp : Cn → Nat → HP) (pb : Nat) (σ : MS) : HP := sep [hp σ.c σ.s, ptsH pb σ.l]
attribute [local irreducible] wpList Code.wp Exit.then Exit.inBlock bodyPost RunS RunV G St Ct Sat Ent At Rd GQ QL wpAny wpOp wpQuiet slP Sl.ex sep
attribute [local irreducible] zf memf pgl rng ov cutC zc mapO rdd bme bf bx wC wS wD ptsH tsH ptH
section
variable {glb : HP} {ea : Addr} {v : Value} {hp : Cn → Nat → HP} {T : Nat} {pb : Nat} {name : String} {vs : List Value}
theorem mbx {σ : MS} {R : Nat → MS → Prop} (h : MCt Tryz.prog v name vs [hp σ.c σ.s] (fun x B => ∃ e c' s', R e ⟨c', s', σ.l, σ.t⟩ ∧ isErr ea e x ∧ B = [hp c' s']) nev) : MCt Tryz.prog v name vs [glb, mcB hp pb σ] (fun x B => ∃ e σ', R e σ' ∧ isErr ea e x ∧ B = [glb, mcB hp pb σ']) (pnP (σ.t = .brk) [glb, mcB hp pb σ]) :=
  (bpk h (R' := fun x h' D' => D' = [] ∧ ∃ e c' s', R e ⟨c', s', σ.l, σ.t⟩ ∧ isErr ea e x ∧ h' = hp c' s') fun x B hx => by
    obtain ⟨e, c', s', h1, h2, rfl⟩ := hx
    exact ⟨_, [], ⟨rfl, e, c', s', h1, h2, rfl⟩, rfl⟩).mono (fun x B hx => by
    obtain ⟨_, _, ⟨rfl, e, c', s', h1, h2, rfl⟩, rfl⟩ := hx
    exact ⟨e, ⟨c', s', σ.l, σ.t⟩, h1, h2, rfl⟩) (fun _ _ h => h)
theorem mb03 {σ : MS} (h : MCt Tryz.prog v name vs [hp σ.c σ.s] (fun x B => (isErr ea 0 x ∨ isErr ea 3 x) ∧ B = [hp σ.c σ.s]) nev) (R : TS → Nat → TS → Prop) : MCt Tryz.prog v name vs [glb, mcB hp pb σ] (fun x B => ∃ e σ', StX ⟨false, false, T, 0⟩ R σ e σ' ∧ isErr ea e x ∧ B = [glb, mcB hp pb σ']) (pnP (σ.t = .brk) [glb, mcB hp pb σ]) :=
  mbx (h.mono (fun x B hx => by
    obtain ⟨e, h1, h2⟩ := eOr hx.1
    exact ⟨e, σ.c, σ.s, ⟨h2, rfl⟩, h1, hx.2⟩) (fun _ _ h => h))
theorem mc_base (B : BF glb ea v hp T false) (hT : T ≤ 500000) : Mc glb ea ⟨false, false, T, 0⟩ v (mcB hp pb) where
  write := fun σ hok A bs a k cap off hsrc hcp hk ho => by
    have hkl : bs.length = k := by have := hsrc.len; simpa using this
    obtain ⟨hs, hb, hl⟩ := hok
    by_cases h0 : off < 0
    · refine (bpk (p := ptsH pb σ.l) (D := [A]) ((B.writeN σ.c σ.s (.slice a k cap) off h0).frame [A] |>.mono (fun _ _ h => h) (fun c B hx => by obtain ⟨_, h, _⟩ := hx; exact h)) (R' := fun x h' D' => h' = hp σ.c σ.s ∧ D' = [A] ∧ ∃ n y e, (e = 2 ∨ e = 3) ∧ x = .tuple #[.int .i64 n, y] ∧ isErr ea e y) fun x B hx => ?_).mono (fun x B hx => ?_) (fun _ _ h => h)
      · obtain ⟨_, ⟨b, h1, rfl⟩, rfl⟩ := hx
        refine ⟨_, [A], ⟨rfl, rfl, ?_⟩, rfl⟩
        rcases h1 with h1 | h1
        · exact ⟨0, _, 2, .inl rfl, h1, b, rfl⟩
        · exact ⟨0, _, 3, .inr rfl, h1, b, rfl⟩
      · obtain ⟨_, _, ⟨rfl, rfl, n, y, e, h1, h2, h3⟩, rfl⟩ := hx
        refine ⟨n, y, e, σ, ?_, h2, h3, rfl⟩
        rw [StW, if_pos h0]
        exact ⟨fun _ => h1, rfl⟩
    · obtain ⟨o, rfl, hoN⟩ := natOf h0
      refine (bpk (p := ptsH pb σ.l) (D := [A]) (B.write rfl σ.c σ.s A bs a k cap o hsrc hcp (by omega) (by omega)) (R' := fun x h' D' => x = .tuple #[.int .i64 (k : Nat), .nilIface] ∧ h' = hp (ov σ.c (T + o) bs) (if k = 0 then σ.s else max σ.s (T + o + k)) ∧ D' = [A]) fun x B hx => ⟨_, _, ⟨hx.1, rfl, rfl⟩, hx.2⟩).mono (fun x B hx => ?_) (fun _ _ h => h)
      obtain ⟨_, _, ⟨h1, rfl, rfl⟩, rfl⟩ := hx
      refine ⟨k, .nilIface, 0, ⟨ov σ.c (T + o) bs, if k = 0 then σ.s else max σ.s (T + o + k), σ.l, σ.t⟩, ?_, h1, rfl, rfl⟩
      rw [StW, if_neg h0, hoN, hkl]
      exact ⟨rfl, rfl, rfl⟩
  read := fun σ hok db e0 old k off hkl hk ho => by
    obtain ⟨hs, hb, hl⟩ := hok
    subst hkl
    by_cases h0 : off < 0
    · refine (bpk (p := ptsH pb σ.l) (D := [blk db (cl (u8s old) e0)]) ((B.readN σ.c σ.s (.slice (some ⟨db, 0, none⟩) old.length old.length) off h0).frame [blk db (cl (u8s old) e0)] |>.mono (fun _ _ h => h) (fun c B hx => by obtain ⟨_, h, _⟩ := hx; exact h)) (R' := fun x h' D' => h' = hp σ.c σ.s ∧ D' = [blk db (cl (u8s old) e0)] ∧ ∃ b, x = .tuple #[.int .i64 0, invV b]) fun x B hx => ?_).mono (fun x B hx => ?_) (fun _ _ h => h)
      · obtain ⟨_, ⟨b, h1, rfl⟩, rfl⟩ := hx
        exact ⟨_, [_], ⟨rfl, rfl, b, h1⟩, rfl⟩
      · obtain ⟨_, _, ⟨rfl, rfl, b, h1⟩, rfl⟩ := hx
        refine ⟨0, invV b, 2, old, ?_, h1, ⟨b, rfl⟩, rfl⟩
        rw [StR, if_pos h0]
        exact ⟨.inr rfl, fun _ => rfl, rfl, rfl⟩
    · obtain ⟨o, rfl, hoN⟩ := natOf h0
      refine ((B.read σ.c σ.s db e0 old old.length o (by omega) rfl (by omega)).frame [ptsH pb σ.l]).conv (fun F => ?_) (fun x B hx => ?_) (fun c B hx => by obtain ⟨_, h, _⟩ := hx; exact h.elim)
      · exact (Ent.cons (sep_open [hp σ.c σ.s, ptsH pb σ.l] (blk db (cl (u8s old) e0) :: F))).trans (arr_ent 0 [0, 0, 1] _)
      · obtain ⟨_, ⟨h1, rfl⟩, rfl⟩ := hx
        refine ⟨_, ⟨_, _, if old.length ≤ σ.s - (T + o) then 0 else 1, rdd old σ.c (T + o) (min old.length (σ.s - (T + o))), ?_, h1, ?_, rfl⟩, fun F => ?_⟩
        · rw [StR, if_neg h0, TrR, if_neg h0, hoN]
          exact ⟨rfl, rfl, rfl⟩
        · split <;> rfl
        · exact Ent.trans (arr_ent 0 [0, 0, 1] _) (Ent.cons (sep_shut [hp σ.c σ.s, ptsH pb σ.l] (blk db (cl (u8s (rdd old σ.c (T + o) (min old.length (σ.s - (T + o))))) e0) :: F)))
  trunc := fun σ hok n hn => by
    obtain ⟨hs, hb, hl⟩ := hok
    refine mbx (R := fun e σ' => StT ⟨false, false, T, 0⟩ n σ e σ') ?_
    by_cases h0 : n < 0
    · refine (B.truncN rfl σ.c σ.s n h0 (by omega) (by omega)).mono (fun x B hx => ?_) (fun _ _ h => h)
      rcases hx with ⟨h1, h2, h3⟩ | ⟨h1, b, h2, h3⟩
      · refine ⟨0, _, _, ?_, h1, h3⟩
        unfold StT
        dsimp only
        rw [if_neg (by omega)]
        exact ⟨rfl, rfl⟩
      · refine ⟨2, _, _, ?_, ⟨b, h2⟩, h3⟩
        unfold StT
        dsimp only
        rw [if_pos h1]
        exact ⟨rfl, rfl⟩
    · obtain ⟨o, rfl, hoN⟩ := natOf h0
      refine (B.trunc rfl σ.c σ.s o (by omega) (by omega)).mono (fun x B hx => ?_) (fun _ _ h => h)
      refine ⟨0, _, _, ?_, hx.1, hx.2⟩
      unfold StT
      dsimp only
      rw [if_neg (by omega), show ((T : Int) + (o : Int)).toNat = T + o from by omega]
      exact ⟨rfl, rfl⟩
  size := fun σ hok => by
    obtain ⟨hs, hb, hl⟩ := hok
    refine (bpk (p := ptsH pb σ.l) (D := []) (B.size σ.c σ.s (by omega)) (R' := fun x h' D' => h' = hp σ.c σ.s ∧ D' = [] ∧ x = .tuple #[.int .i64 (σ.s - T : Nat), .nilIface]) fun x B hx => ⟨_, [], ⟨rfl, rfl, hx.1⟩, hx.2⟩).mono (fun x B hx => ?_) (fun _ _ h => h)
    obtain ⟨_, _, ⟨rfl, rfl, h1⟩, rfl⟩ := hx
    exact ⟨_, rfl, h1, rfl⟩
  punch := fun σ hok off n ho hn => mb03 (B.punch rfl σ.c σ.s off n (by omega) (by omega)) _
  begin_ := fun σ hok => mb03 (B.begin_ rfl σ.c σ.s) _
  end_ := fun σ hok => mbx (R := fun e σ' => StE ⟨false, false, T, 0⟩ σ e σ') ((B.end_ rfl σ.c σ.s).mono (fun x B hx => by
    obtain ⟨e, h1, h2⟩ := eOr hx.1
    exact ⟨e, σ.c, σ.s, ⟨h2, rfl⟩, h1, hx.2⟩) (fun _ _ h => h))
  roll := fun σ hok => mb03 (B.roll rfl σ.c σ.s) _
  sync := fun σ hok => mbx ((B.sync σ.c σ.s).mono (fun x B hx => ⟨0, σ.c, σ.s, ⟨rfl, rfl⟩, hx.1, hx.2⟩) (fun _ _ h => h))
  close := fun σ hok => mb03 (B.close σ.c σ.s) _
end
end Go.Proofs.YtfebpbflpdppiaaGreatDoor
namespace Go.Proofs.YtfebpbflpdppiaaGreatDoor
open Go Go.Sl
set_option maxRecDepth 100000
abbrev sWrite : ByteArray := ⟨#[119, 114, 105, 116, 101]⟩
abbrev sRead : ByteArray := ⟨#[114, 101, 97, 100]⟩
abbrev sTrunc : ByteArray := ⟨#[116, 114, 117, 110, 99, 97, 116, 101]⟩
abbrev sSize : ByteArray := ⟨#[115, 105, 122, 101]⟩
abbrev sPunch : ByteArray := ⟨#[112, 117, 110, 99, 104]⟩
abbrev sBegin : ByteArray := ⟨#[98, 101, 103, 105, 110]⟩
abbrev sEnd : ByteArray := ⟨#[101, 110, 100]⟩
abbrev sRoll : ByteArray := ⟨#[114, 111, 108, 108, 98, 97, 99, 107]⟩
abbrev sSync : ByteArray := ⟨#[115, 121, 110, 99]⟩
abbrev sClose : ByteArray := ⟨#[99, 108, 111, 115, 101]⟩
/-- what a step of a stack may tell and change -/
def StD (g : Cf) (d : ByteArray) (off n : Int) (bs : List UInt8) (σ : MS) (e : Nat) (q : Int) (dat : List UInt8) (σ' : MS) : Prop :=
  if d = sWrite then StW g off bs σ q e σ' ∧ dat = []
  else if d = sRead then (if n < 0 ∨ 1048576 < n then e = 0 ∧ q = 0 ∧ dat = [] ∧ σ' = σ else σ' = σ ∧ ∃ (k : Nat) (nw : List UInt8), StR g off (List.replicate n.toNat 0) σ k e nw ∧ q = (k : Int) ∧ dat = nw.take k)
  else if d = sTrunc then StT g n σ e σ' ∧ q = 0 ∧ dat = []
  else if d = sSize then (e = 0 ∧ StS g σ q ∧ σ' = σ) ∧ dat = []
  else if d = sPunch then StX g TrP σ e σ' ∧ q = 0 ∧ dat = []
  else if d = sBegin then StX g (TrB (shC g.T σ.c) (σ.s - g.T)) σ e σ' ∧ q = 0 ∧ dat = []
  else if d = sEnd then StE g σ e σ' ∧ q = 0 ∧ dat = []
  else if d = sRoll then StX g TrO σ e σ' ∧ q = 0 ∧ dat = []
  else if d = sSync then (e = 0 ∧ σ' = σ) ∧ q = 0 ∧ dat = []
  else if d = sClose then StX g TrC σ e σ' ∧ q = 0 ∧ dat = []
  else (e = 0 ∧ σ' = σ) ∧ q = 0 ∧ dat = []
/-- bytes that are told: none, or the head of a row -/
def tdH (sl : Value) (dat : List UInt8) : HP := fun h =>
  (sl = .slice none 0 0 ∧ dat = []) ∨ ∃ db n k nw, sl = .slice (some ⟨db, 0, none⟩) n k ∧ n ≤ k ∧ k ≤ 1048576 ∧ nw.length = k ∧ dat = nw.take n ∧ blk db (cl (u8s nw) 5) h
theorem tdH_nil {L : List HP} : Ent L (tdH (.slice none 0 0) [] :: L) := fun H h =>
  ⟨fun _ => none, H, fun _ _ e => (by cases e), PH.sub.refl _, fun _ => Or.inl rfl, Or.inl ⟨rfl, rfl⟩, h⟩
theorem tdH_some {db n k : Nat} {nw : List UInt8} (h1 : n ≤ k) (h2 : k ≤ 1048576) (h3 : nw.length = k) {L : List HP} : Ent (blk db (cl (u8s nw) 5) :: L) (tdH (.slice (some ⟨db, 0, none⟩) n k) (nw.take n) :: L) := Ent.imp fun _ h => Or.inr ⟨db, n, k, nw, rfl, h1, h2, h3, rfl, h⟩
theorem ne_lit {d b : ByteArray} (h : d ≠ b) : (d.data.toList == b.data.toList) = false := by
  rw [beq_eq_false_iff_ne]
  intro e
  apply h
  cases d; cases b
  congr
  exact Array.toList_inj.1 e
theorem StR_le {g : Cf} {off : Int} {old : List UInt8} {σ : MS} {n e : Nat} {nw : List UInt8} (h : StR g off old σ n e nw) : n ≤ old.length ∧ nw.length = old.length := by
  have key : ∀ (T : Nat) (c : Cn) (s : Nat) (off : Int) (t : TS), TrR T c s off old t n e nw → n ≤ old.length ∧ nw.length = old.length := fun T c s off t h => by
    cases t with
    | idle =>
      rw [TrR] at h
      split at h
      · obtain ⟨_, rfl, rfl⟩ := h
        exact ⟨by omega, rfl⟩
      · obtain ⟨rfl, _, rfl⟩ := h
        exact ⟨by omega, rdd_length (by omega)⟩
    | act L r =>
      rw [TrR] at h
      split at h
      · obtain ⟨_, _, rfl, rfl⟩ := h
        exact ⟨by omega, rfl⟩
      · obtain ⟨rfl, _, _, rfl⟩ := h
        exact ⟨by omega, rdd_length (by omega)⟩
    | brk => exact h.elim
  unfold StR at h
  split at h
  · obtain ⟨_, _, rfl, rfl⟩ := h
    exact ⟨by omega, rfl⟩
  · split at h
    · exact key _ _ _ _ _ h
    · exact key _ _ _ _ _ h
attribute [local irreducible] wpList Code.wp Exit.then Exit.inBlock bodyPost RunS RunV G St Ct Sat Ent At Rd GQ QL wpAny wpOp wpQuiet slP Sl.ex sep
attribute [local irreducible] zf memf pgl rng ov cutC zc mapO rdd bme bf bx wC wS wD ptsH tsH ptH tdH
section
variable {glb D : HP} {ea : Addr} {g : Cf} {v : Value} {H : MS → HP} {σ : MS} {off n : Int} {sl : Value}
theorem sx {d : ByteArray} {Q : Nat → HP → Prop} (bs : List UInt8) (h : Ct Tryz.prog 27 #[v, stepV d off n sl] [glb, H σ] (fun x B => ∃ e A', Q e A' ∧ x = toldV e 0 (.slice none 0 0) ∧ B = [glb, A']) (pnP (σ.t = .brk) [glb, H σ])) (hQ : ∀ e A', Q e A' → ∃ σ', StD g d off n bs σ e 0 [] σ' ∧ A' = H σ') :
    Ct Tryz.prog 27 #[v, stepV d off n sl] [glb, H σ, D] (fun x B => ∃ e q dat sl' σ', StD g d off n bs σ e q dat σ' ∧ x = toldV e q sl' ∧ B = [glb, H σ', D, tdH sl' dat]) (pnP (σ.t = .brk) [glb, H σ, D]) :=
  (h.frame [D]).conv (fun F => Ent.refl _) (fun x B hx => by
    obtain ⟨_, ⟨e, A', h1, h2, rfl⟩, rfl⟩ := hx
    obtain ⟨σ', h3, rfl⟩ := hQ _ _ h1
    exact ⟨_, ⟨e, 0, [], _, σ', h3, h2, rfl⟩, fun F => Ent.append [_, _, _] tdH_nil⟩) (fun c B hx => by
    obtain ⟨_, ⟨hp, h1, rfl⟩, rfl⟩ := hx
    exact ⟨_, ⟨hp, h1, rfl⟩, fun F => Ent.refl _⟩)
theorem step_c (M : Mc glb ea g v H) (hglb : Rd [glb] ⟨1, 0, none⟩ (eofV ea)) (hok : σ.ok) (d : ByteArray) (ho : -2000000000000 ≤ off ∧ off ≤ 100000) (hn : -2000000000000 ≤ n ∧ n ≤ 100000) (bs : List UInt8) (k : Nat) (hk : k ≤ 1000000) (hs : Src [D] 1 sl k (u8s bs)) :
    Ct Tryz.prog 27 #[v, stepV d off n sl] [glb, H σ, D] (fun x B => ∃ e q dat sl' σ', StD g d off n bs σ e q dat σ' ∧ x = toldV e q sl' ∧ B = [glb, H σ', D, tdH sl' dat]) (pnP (σ.t = .brk) [glb, H σ, D]) := by
  by_cases h0 : d = sWrite
  · subst h0
    have hm : ∃ rt u f, v = .iface rt u ∧ MethP Tryz.prog rt "WriteAt" f := by
      obtain ⟨rt, u, f, h1, h2, _⟩ := M.write σ hok (blk 0 (cl [] 5)) [] none 0 0 (-1) Src.nil (Nat.le_refl _) (by omega) (by omega)
      exact ⟨rt, u, f, h1, h2⟩
    refine (fs_write hglb hm bs k (by omega) hs (Q3 := fun e n' A' => ∃ σ', StW g off bs σ n' e σ' ∧ A' = H σ') (E := pnP (σ.t = .brk) [glb, H σ]) fun a cp hs2 hcp => ?_).conv (fun F => Ent.refl _) (fun x B hx => ?_) (fun c B hx => ?_)
    · refine (M.write σ hok _ bs a k cp off hs2 hcp hk ho).conv (fun F => Ent.refl _) (fun x B hx => ?_) (fun c B hx => ?_)
      · obtain ⟨n', y, e, σ', h1, h2, h3, rfl⟩ := hx
        exact ⟨_, ⟨n', y, e, _, h2, h3, ⟨σ', h1, rfl⟩, rfl⟩, fun F => Ent.refl _⟩
      · obtain ⟨hp, h1, rfl⟩ := hx
        exact ⟨_, ⟨hp, h1, rfl⟩, fun F => Ent.append [_, _] Ent.drop⟩
    · obtain ⟨e, n', _, ⟨σ', h1, rfl⟩, h2, rfl⟩ := hx
      refine ⟨_, ⟨e, n', [], _, σ', ?_, h2, rfl⟩, fun F => Ent.append [_, _, _] tdH_nil⟩
      rw [StD, if_pos rfl]
      exact ⟨h1, rfl⟩
    · obtain ⟨_, ⟨hp, h1, rfl⟩, rfl⟩ := hx
      exact ⟨_, ⟨hp, h1, rfl⟩, fun F => Ent.refl _⟩
  by_cases h1 : d = sRead
  · subst h1
    by_cases hr : n < 0 ∨ 1048576 < n
    · refine ((fs_readB (v := v) (off := off) (sl := sl) hr).frame [glb, H σ, D]).conv (fun F => Ent.refl _) (fun x B hx => ?_) (fun c B hx => by obtain ⟨_, h, _⟩ := hx; exact h.elim)
      obtain ⟨_, ⟨h1, rfl⟩, rfl⟩ := hx
      refine ⟨_, ⟨0, 0, [], _, σ, ?_, h1, rfl⟩, fun F => Ent.append [_, _, _] tdH_nil⟩
      rw [StD, if_neg h0, if_pos rfl, if_pos hr]
      exact ⟨rfl, rfl, rfl, rfl⟩
    · obtain ⟨o, rfl⟩ : ∃ o : Nat, n = (o : Int) := ⟨n.toNat, by omega⟩
      refine ((fs_read hglb o (by omega) (Q4 := fun e n' nw A' => A' = H σ ∧ StR g off (List.replicate o 0) σ n' e nw) (E := pnP (σ.t = .brk) [glb, H σ]) fun db => ?_).frame [D]).conv (fun F => Ent.refl _) (fun x B hx => ?_) (fun c B hx => ?_)
      · refine (M.read σ hok db 5 (List.replicate o 0) o off (by simp) (by omega) ho).conv (fun F => Ent.refl _) (fun x B hx => ?_) (fun c B hx => ?_)
        · obtain ⟨n', y, e, nw, h2, h3, h4, rfl⟩ := hx
          have := StR_le h2
          simp only [List.length_replicate] at this
          exact ⟨_, ⟨n', y, e, _, nw, this.1, h3, h4, ⟨rfl, h2⟩, rfl⟩, fun F => Ent.refl _⟩
        · obtain ⟨hp, h1, rfl⟩ := hx
          exact ⟨_, ⟨hp, h1, rfl⟩, fun F => Ent.append [_, _] Ent.drop⟩
      · obtain ⟨_, ⟨e, n', _, nw, db, ⟨rfl, h2⟩, h3, rfl⟩, rfl⟩ := hx
        have := StR_le h2
        simp only [List.length_replicate] at this
        refine ⟨_, ⟨e, n', nw.take n', _, σ, ?_, h3, rfl⟩, fun F => Ent.trans (arr_ent 0 [2] _) ((tdH_some (n := n') (k := o) this.1 (by omega) this.2).trans (arr_ent 0 [1, 1, 1, 0] _))⟩
        rw [StD, if_neg h0, if_pos rfl, if_neg hr]
        exact ⟨rfl, n', nw, h2, rfl, rfl⟩
      · obtain ⟨_, ⟨hp, h1, rfl⟩, rfl⟩ := hx
        exact ⟨_, ⟨hp, h1, rfl⟩, fun F => Ent.refl _⟩
  by_cases h2 : d = sTrunc
  · subst h2
    refine sx bs (fs_trunc hglb (Q := fun e A' => ∃ σ', StT g n σ e σ' ∧ A' = H σ') ((M.trunc σ hok n hn).mono (fun x B hx => ?_) (fun _ _ h => h))) (fun e A' hQ => ?_)
    · obtain ⟨e, σ', h3, h4, rfl⟩ := hx
      exact ⟨e, _, h4, ⟨σ', h3, rfl⟩, rfl⟩
    · obtain ⟨σ', h3, rfl⟩ := hQ
      refine ⟨σ', ?_, rfl⟩
      rw [StD, if_neg h0, if_neg h1, if_pos rfl]
      exact ⟨h3, rfl, rfl⟩
  by_cases h3 : d = sSize
  · subst h3
    refine ((fs_size hglb (Q2 := fun q A' => StS g σ q ∧ A' = H σ) (off := off) (n := n) (sl := sl) ((M.size σ hok).mono (fun x B hx => ?_) (fun _ _ h => h))).frame [D]).conv (fun F => Ent.refl _) (fun x B hx => ?_) (fun c B hx => ?_)
    · obtain ⟨q, h4, h5, rfl⟩ := hx
      exact ⟨q, _, h5, ⟨h4, rfl⟩, rfl⟩
    · obtain ⟨_, ⟨q, _, ⟨h4, rfl⟩, h5, rfl⟩, rfl⟩ := hx
      refine ⟨_, ⟨0, q, [], _, σ, ?_, h5, rfl⟩, fun F => Ent.append [_, _, _] tdH_nil⟩
      rw [StD, if_neg h0, if_neg h1, if_neg h2, if_pos rfl]
      exact ⟨⟨rfl, h4, rfl⟩, rfl⟩
    · obtain ⟨_, ⟨hp, h1, rfl⟩, rfl⟩ := hx
      exact ⟨_, ⟨hp, h1, rfl⟩, fun F => Ent.refl _⟩
  by_cases h4 : d = sPunch
  · subst h4
    refine sx bs (fs_punch hglb (Q := fun e A' => ∃ σ', StX g TrP σ e σ' ∧ A' = H σ') ((M.punch σ hok off n ho hn.2).mono (fun x B hx => ?_) (fun _ _ h => h))) (fun e A' hQ => ?_)
    · obtain ⟨e, σ', h3, h4, rfl⟩ := hx
      exact ⟨e, _, h4, ⟨σ', h3, rfl⟩, rfl⟩
    · obtain ⟨σ', h5, rfl⟩ := hQ
      refine ⟨σ', ?_, rfl⟩
      rw [StD, if_neg h0, if_neg h1, if_neg h2, if_neg h3, if_pos rfl]
      exact ⟨h5, rfl, rfl⟩
  by_cases h5 : d = sBegin
  · subst h5
    refine sx bs (fs_begin hglb (Q := fun e A' => ∃ σ', StX g (TrB (shC g.T σ.c) (σ.s - g.T)) σ e σ' ∧ A' = H σ') ((M.begin_ σ hok).mono (fun x B hx => ?_) (fun _ _ h => h))) (fun e A' hQ => ?_)
    · obtain ⟨e, σ', h3, h4, rfl⟩ := hx
      exact ⟨e, _, h4, ⟨σ', h3, rfl⟩, rfl⟩
    · obtain ⟨σ', h6, rfl⟩ := hQ
      refine ⟨σ', ?_, rfl⟩
      rw [StD, if_neg h0, if_neg h1, if_neg h2, if_neg h3, if_neg h4, if_pos rfl]
      exact ⟨h6, rfl, rfl⟩
  by_cases h6 : d = sEnd
  · subst h6
    refine sx bs (fs_end hglb (Q := fun e A' => ∃ σ', StE g σ e σ' ∧ A' = H σ') ((M.end_ σ hok).mono (fun x B hx => ?_) (fun _ _ h => h))) (fun e A' hQ => ?_)
    · obtain ⟨e, σ', h3, h4, rfl⟩ := hx
      exact ⟨e, _, h4, ⟨σ', h3, rfl⟩, rfl⟩
    · obtain ⟨σ', h7, rfl⟩ := hQ
      refine ⟨σ', ?_, rfl⟩
      rw [StD, if_neg h0, if_neg h1, if_neg h2, if_neg h3, if_neg h4, if_neg h5, if_pos rfl]
      exact ⟨h7, rfl, rfl⟩
  by_cases h7 : d = sRoll
  · subst h7
    refine sx bs (fs_roll hglb (Q := fun e A' => ∃ σ', StX g TrO σ e σ' ∧ A' = H σ') ((M.roll σ hok).mono (fun x B hx => ?_) (fun _ _ h => h))) (fun e A' hQ => ?_)
    · obtain ⟨e, σ', h3, h4, rfl⟩ := hx
      exact ⟨e, _, h4, ⟨σ', h3, rfl⟩, rfl⟩
    · obtain ⟨σ', h8, rfl⟩ := hQ
      refine ⟨σ', ?_, rfl⟩
      rw [StD, if_neg h0, if_neg h1, if_neg h2, if_neg h3, if_neg h4, if_neg h5, if_neg h6, if_pos rfl]
      exact ⟨h8, rfl, rfl⟩
  by_cases h8 : d = sSync
  · subst h8
    refine sx bs (fs_sync hglb (Q := fun e A' => ∃ σ', (e = 0 ∧ σ' = σ) ∧ A' = H σ') ((M.sync σ hok).mono (fun x B hx => ?_) (fun _ _ h => h))) (fun e A' hQ => ?_)
    · obtain ⟨e, σ', h3, h4, rfl⟩ := hx
      exact ⟨e, _, h4, ⟨σ', h3, rfl⟩, rfl⟩
    · obtain ⟨σ', h9, rfl⟩ := hQ
      refine ⟨σ', ?_, rfl⟩
      rw [StD, if_neg h0, if_neg h1, if_neg h2, if_neg h3, if_neg h4, if_neg h5, if_neg h6, if_neg h7, if_pos rfl]
      exact ⟨h9, rfl, rfl⟩
  by_cases h9 : d = sClose
  · subst h9
    refine sx bs (fs_close hglb (Q := fun e A' => ∃ σ', StX g TrC σ e σ' ∧ A' = H σ') ((M.close σ hok).mono (fun x B hx => ?_) (fun _ _ h => h))) (fun e A' hQ => ?_)
    · obtain ⟨e, σ', h3, h4, rfl⟩ := hx
      exact ⟨e, _, h4, ⟨σ', h3, rfl⟩, rfl⟩
    · obtain ⟨σ', hq, rfl⟩ := hQ
      refine ⟨σ', ?_, rfl⟩
      rw [StD, if_neg h0, if_neg h1, if_neg h2, if_neg h3, if_neg h4, if_neg h5, if_neg h6, if_neg h7, if_neg h8, if_pos rfl]
      exact ⟨hq, rfl, rfl⟩
  · refine ((fs_none (v := v) (sl := sl) (off := off) (n := n) (ne_lit h0) (ne_lit h1) (ne_lit h2) (ne_lit h3) (ne_lit h4) (ne_lit h5) (ne_lit h6) (ne_lit h7) (ne_lit h8) (ne_lit h9)).frame [glb, H σ, D]).conv (fun F => Ent.refl _) (fun x B hx => ?_) (fun c B hx => by obtain ⟨_, h, _⟩ := hx; exact h.elim)
    obtain ⟨_, ⟨hq, rfl⟩, rfl⟩ := hx
    refine ⟨_, ⟨0, 0, [], _, σ, ?_, hq, rfl⟩, fun F => Ent.append [_, _, _] tdH_nil⟩
    rw [StD, if_neg h0, if_neg h1, if_neg h2, if_neg h3, if_neg h4, if_neg h5, if_neg h6, if_neg h7, if_neg h8, if_neg h9]
    exact ⟨⟨rfl, rfl⟩, rfl, rfl⟩
end
end Go.Proofs.YtfebpbflpdppiaaGreatDoor
namespace Go.Proofs.YtfebpbflpdppiaaGreatDoor
open Go Go.Sl
set_option maxRecDepth 100000
/-- the configuration of a stack, layer by layer: an inner filer's offset, or a rollback -/
def cfAdd (g : Cf) : Option Nat → Cf
  | some off => match g.has with
    | false => ⟨false, false, g.T + off, 0⟩
    | true => ⟨true, g.ro, g.T, g.u + off⟩
  | none => match g.has with
    | false => ⟨true, false, g.T, 0⟩
    | true => ⟨true, true, g.T + g.u, 0⟩
def cf0 : Cf := ⟨false, false, 0, 0⟩
def cfOf (l : List (Option Nat)) : Cf := l.foldl cfAdd cf0
attribute [local irreducible] wpList Code.wp Exit.then Exit.inBlock bodyPost RunS RunV G St Ct Sat Ent At Rd GQ QL wpAny wpOp wpQuiet slP Sl.ex sep
attribute [local irreducible] zf memf pgl rng ov cutC zc mapO rdd bme bf bx wC wS wD ptsH
section
variable {glb : HP} {ea : Addr} {mb pb : Nat} {c0 : Cn} {s0 : Nat}
/-- a stack that has been built, outside a transaction -/
inductive Stk (glb : HP) (ea : Addr) (mb pb : Nat) (c0 : Cn) (s0 : Nat) : Cf → Value → HP → Prop where
  | base {v : Value} {hp : Cn → Nat → HP} {T : Nat} (B : BF glb ea v hp T false) (hm : ∀ c s F, Ent (hp c s :: F) (memf mb c s :: F)) : Stk glb ea mb pb c0 s0 ⟨false, false, T, 0⟩ v (hp c0 s0)
  | roll {v0 : Value} {hp : Cn → Nat → HP} {T : Nat} {ro : Bool} {rb nb : Nat} (B : BF glb ea v0 hp T ro) (hm : ∀ c s F, Ent (hp c s :: F) (memf mb c s :: F)) (inn : List (Nat × Nat)) :
    Stk glb ea mb pb c0 s0 ⟨true, ro, T, chT inn⟩ (chV (tv rb) inn) (sep (chB (tv rb) inn ++ [rP rb none (ckV pb nb) v0 0 false, hp c0 s0, blk nb (cl [v0] 54)]))
/-- a chain over a filer, as a filer -/
def chHp (v : Value) (hp : Cn → Nat → HP) : List (Nat × Nat) → Cn → Nat → HP
  | [] => hp
  | (ib, off) :: l => fun c s => sep [iP ib (chV v l) off, chHp v hp l c s]
theorem bf_ch {v : Value} {hp : Cn → Nat → HP} {T : Nat} {ro : Bool} (B : BF glb ea v hp T ro) : ∀ inn : List (Nat × Nat), T + chT inn ≤ 1000000000 → BF glb ea (chV v inn) (chHp v hp inn) (T + chT inn) ro
  | [], _ => B
  | (ib, off) :: l, h => by
    simp only [chT] at h ⊢
    rw [← Nat.add_assoc]
    exact bf_inner (bf_ch B l (by omega)) ib off (by omega)
theorem chHp_shut {v : Value} {hp : Cn → Nat → HP} {c : Cn} {s : Nat} : ∀ (inn : List (Nat × Nat)) (F : List HP), Ent (chB v inn ++ hp c s :: F) (chHp v hp inn c s :: F)
  | [], _F => Ent.refl _
  | (ib, off) :: l, F => (Ent.cons (chHp_shut l F)).trans (sep_shut [iP ib (chV v l) off, chHp v hp l c s] F)
theorem chHp_mem {v : Value} {hp : Cn → Nat → HP} (hm : ∀ c s F, Ent (hp c s :: F) (memf mb c s :: F)) : ∀ (inn : List (Nat × Nat)) (c : Cn) (s : Nat) (F : List HP), Ent (chHp v hp inn c s :: F) (memf mb c s :: F)
  | [], c, s, F => hm c s F
  | (ib, off) :: l, c, s, F => ((sep_open [iP ib (chV v l) off, chHp v hp l c s] F).trans Ent.drop).trans (chHp_mem hm l c s F)
theorem stk_nil (hglb : Rd [glb] ⟨1, 0, none⟩ (eofV ea)) : Stk glb ea mb pb c0 s0 cf0 (.iface 47 (.pointer (some ⟨mb, 0, none⟩))) (memf mb c0 s0) := .base (bf_mem hglb mb) (fun _ _ _ => Ent.refl _)
theorem stk_isI {g : Cf} {v : Value} {S : HP} (h : Stk glb ea mb pb c0 s0 g v S) : ∃ t u, v = .iface t u := by
  cases h with
  | base B hm => exact B.isI
  | roll B hm inn =>
    cases inn with
    | nil => exact ⟨_, _, rfl⟩
    | cons x l => exact ⟨_, _, rfl⟩
/-- an inner filer over it -/
theorem stk_inner {g : Cf} {v : Value} {S : HP} (h : Stk glb ea mb pb c0 s0 g v S) (ib off : Nat) (hT : g.T + g.u + off ≤ 1000000000) : ∃ S', Stk glb ea mb pb c0 s0 (cfAdd g (some off)) (.iface 56 (.pointer (some ⟨ib, 0, none⟩))) S' ∧ ∀ F, Ent (iP ib v off :: S :: F) (S' :: F) := by
  cases h with
  | @base _ hp T B hm =>
    refine ⟨_, .base (bf_inner B ib off (by simpa using hT)) (fun c s F => (sep_open [_, _] F).trans (Ent.drop.trans (hm c s F))), fun F => sep_shut [_, _] F⟩
  | @roll v0 hp T ro rb nb B hm inn =>
    exact ⟨_, .roll (rb := rb) (nb := nb) B hm ((ib, off) :: inn), fun F => (Ent.cons (sep_open _ F)).trans (sep_shut (iP ib (chV (tv rb) inn) off :: (chB (tv rb) inn ++ [_, _, _])) F)⟩
/-- a rollback over it -/
theorem stk_roll {g : Cf} {v : Value} {S : HP} (h : Stk glb ea mb pb c0 s0 g v S) (rb nb : Nat) (hT : g.T + g.u ≤ 1000000000) : ∃ S', Stk glb ea mb pb c0 s0 (cfAdd g none) (tv rb) S' ∧ ∀ F, Ent (rP rb none (ckV pb nb) v 0 false :: S :: blk nb (cl [v] 54) :: F) (S' :: F) := by
  cases h with
  | @base _ hp T B hm =>
    exact ⟨_, .roll (rb := rb) (nb := nb) B hm [], fun F => sep_shut [_, _, _] F⟩
  | @roll v0 hp T ro rb0 nb0 B hm inn =>
    have B1 := bf_ch (bf_roll B rb0 (ckV pb nb0)) inn hT
    refine ⟨_, .roll (rb := rb) (nb := nb) (hp := chHp (tv rb0) (fun c s => sep [rI rb0 (ckV pb nb0) v0, hp c s]) inn) B1 (chHp_mem (fun c s F => (sep_open [_, _] F).trans (Ent.drop.trans (hm c s F))) inn) [], fun F => ?_⟩
    refine Ent.trans (Ent.cons ?_) (sep_shut [_, _, _] F)
    refine (sep_open (chB (tv rb0) inn ++ [rP rb0 none (ckV pb nb0) v0 0 false, hp c0 s0, blk nb0 (cl [v0] 54)]) _).trans ?_
    rw [List.append_assoc]
    refine Ent.trans ?_ (chHp_shut inn _)
    refine Ent.append _ ?_
    exact (Ent.trans rI_shut (Ent.trans (Ent.append [_, _] Ent.drop) (sep_shut [_, _] _)))
/-- it is a machine -/
theorem stk_mc {g : Cf} {v : Value} {S : HP} (hglb : Rd [glb] ⟨1, 0, none⟩ (eofV ea)) (h : Stk glb ea mb pb c0 s0 g v S) (hT : g.T ≤ 500000 ∧ g.u ≤ 500000) : ∃ H : MS → HP, Mc glb ea g v H ∧ (∀ F, Ent (S :: ptsH pb [] :: F) (H ⟨c0, s0, [], .idle⟩ :: F)) ∧ ∀ σ F, Ent (H σ :: F) (memf mb σ.c σ.s :: ptsH pb σ.l :: F) := by
  cases h with
  | @base _ hp T B hm =>
    exact ⟨mcB hp pb, mc_base B hT.1, fun F => sep_shut [_, _] F, fun σ F => (sep_open [hp σ.c σ.s, ptsH pb σ.l] F).trans (hm _ _ _)⟩
  | @roll v0 hp T ro rb nb B hm inn =>
    refine ⟨mcH hp T rb pb nb v0 inn, mc_roll B hglb hT.1 hT.2, fun F => ?_, fun σ F => ?_⟩
    · refine (sep_open _ _).trans ?_
      rw [List.append_assoc]
      refine Ent.trans (Ent.append (chB (tv rb) inn) ?_) (by
        have := sep_shut (chB (tv rb) inn ++ [tsH hp T rb (ckV pb nb) v0 c0 s0 .idle, ptH pb nb v0 []]) F
        rw [List.append_assoc] at this
        exact this)
      refine (id_shut0 (F := _)).trans (Ent.cons ?_)
      exact Ent.trans (arr_ent 0 [1, 0] _) (sep_shut [_, _] F)
    · refine (sep_open (chB (tv rb) inn ++ [tsH hp T rb (ckV pb nb) v0 σ.c σ.s σ.t, ptH pb nb v0 σ.l]) F).trans ?_
      rw [List.append_assoc]
      have hD : ∀ (A F : List HP), Ent (A ++ F) F := fun A F => by
        induction A with
        | nil => exact Ent.refl _
        | cons X A ih => exact Ent.drop.trans ih
      refine (hD _ _).trans ?_
      have key : ∀ F, Ent (tsH hp T rb (ckV pb nb) v0 σ.c σ.s σ.t :: F) (hp σ.c σ.s :: F) := fun F => by
        cases σ.t with
        | idle => exact Ent.exE fun x => (sep_open _ F).trans (Ent.drop.trans (Ent.cons (hD _ _)))
        | act L r => exact Ent.exE fun cld => (sep_open [_, _] F).trans (Ent.drop.trans ((lv_open (L :: r) F).trans (Ent.cons (hD _ _))))
        | brk => exact Ent.exE fun n => Ent.alsoE fun _ => (sep_open [_, _] F).trans Ent.drop
      refine (key _).trans ((hm _ _ _).trans (Ent.cons ?_))
      exact (sep_open [_, _] F).trans (Ent.cons Ent.drop)
end
end Go.Proofs.YtfebpbflpdppiaaGreatDoor
namespace Go.Proofs.YtfebpbflpdppiaaGreatDoor
open Go Go.Sl
set_option maxRecDepth 100000
/-- a call: what, where, how many, bytes -/
structure Stp where
  d : ByteArray
  off : Int
  n : Int
  bs : List UInt8
/-- what a call told -/
structure Tld where
  e : Nat
  q : Int
  dat : List UInt8
/-- calls of a machine, one behind the other -/
inductive Run (g : Cf) : MS → List Stp → List Tld → MS → Prop where
  | nil (σ : MS) : Run g σ [] [] σ
  | snoc {σ0 σ σ' : MS} {l : List Stp} {tl : List Tld} {st : Stp} {td : Tld} (h : Run g σ0 l tl σ) (h2 : StD g st.d st.off st.n st.bs σ td.e td.q td.dat σ') : Run g σ0 (l ++ [st]) (tl ++ [td]) σ'
def Stp.few (x : Stp) : Prop := (-1099511627776 ≤ x.off ∧ x.off ≤ 65536) ∧ (-1099511627776 ≤ x.n ∧ x.n ≤ 65536) ∧ x.bs.length ≤ 131072
/-- sizes and depths are small -/
def MS.bnd (g : Cf) (q : Nat) (σ : MS) : Prop := σ.s ≤ 600000 ∧ σ.l.length ≤ q ∧ match σ.t with
  | .act L r => (∀ L' ∈ L :: r, g.T + L'.s ≤ 600000) ∧ r.length ≤ q
  | _ => True
theorem MS.bnd.ok {g : Cf} {q : Nat} {σ : MS} (h : σ.bnd g q) (hq : q ≤ 400) : σ.ok := by
  obtain ⟨h1, h2, h3⟩ := h
  refine ⟨by omega, ?_, by omega⟩
  cases ht : σ.t with
  | idle => trivial
  | brk => trivial
  | act L r =>
    rw [ht] at h3
    exact ⟨fun L' h => by have := h3.1 L' h; omega, by have := h3.2; omega⟩
theorem bnd_to {g : Cf} {q : Nat} {σ : MS} {t : TS} (h : σ.bnd g q) (ht : match t with | .act L r => (∀ L' ∈ L :: r, g.T + L'.s ≤ 600000) ∧ r.length ≤ q + 1 | _ => True) : (σ.to t).bnd g (q + 1) :=
  ⟨h.1, by have := h.2.1; show σ.l.length ≤ q + 1; omega, ht⟩
theorem bnd_up {g : Cf} {q : Nat} {σ : MS} (h : σ.bnd g q) : σ.bnd g (q + 1) := by
  obtain ⟨h1, h2, h3⟩ := h
  refine ⟨h1, by omega, ?_⟩
  cases ht : σ.t with
  | idle => trivial
  | brk => trivial
  | act L r =>
    rw [ht] at h3
    exact ⟨h3.1, by have := h3.2; omega⟩
theorem StD_bnd {g : Cf} {q : Nat} {σ σ' : MS} {st : Stp} {e : Nat} {w : Int} {dat : List UInt8} (hg : g.T + g.u ≤ 400000) (hst : st.few) (hb : σ.bnd g q) (h : StD g st.d st.off st.n st.bs σ e w dat σ') : σ'.bnd g (q + 1) := by
  obtain ⟨⟨ho1, ho2⟩, ⟨hn1, hn2⟩, hbs⟩ := hst
  have hsame : ∀ σ'', σ'' = σ → σ''.bnd g (q + 1) := fun σ'' e => e ▸ bnd_up hb
  have hact : ∀ L r, σ.t = .act L r → (∀ L' ∈ L :: r, g.T + L'.s ≤ 600000) ∧ r.length ≤ q := fun L r ht => by
    have := hb.2.2
    rw [ht] at this
    exact this
  have hidle : ∀ {t : TS}, t = .idle ∨ t = .brk → (σ.to t).bnd g (q + 1) := fun {t} ht => bnd_to hb (by rcases ht with rfl | rfl <;> trivial)
  have hone : ∀ {L L' : Lev} {r : List Lev}, σ.t = .act L r → g.T + L'.s ≤ 600000 → (σ.to (.act L' r)).bnd g (q + 1) := fun {L L' r} ht hs => by
    obtain ⟨h1, h2⟩ := hact L r ht
    refine bnd_to hb ⟨fun L'' h => ?_, by omega⟩
    rcases List.mem_cons.1 h with rfl | h
    · exact hs
    · exact h1 L'' (List.mem_cons_of_mem _ h)
  unfold StD at h
  by_cases c0 : st.d = sWrite
  · rw [if_pos c0] at h
    obtain ⟨h, _⟩ := h
    unfold StW at h
    split at h
    · exact hsame _ h.2
    · split at h
      · obtain ⟨_, _, rfl⟩ := h
        have h1 := hb.1
        refine ⟨?_, by have := hb.2.1; show σ.l.length ≤ q + 1; omega, (bnd_up hb).2.2⟩
        show (if st.bs.length = 0 then σ.s else max σ.s (g.T + st.off.toNat + st.bs.length)) ≤ 600000
        split
        · omega
        · omega
      · obtain ⟨t, h, rfl⟩ := h
        cases ht : σ.t with
        | idle =>
          rw [ht] at h
          exact hidle (.inl h.2.2)
        | brk =>
          rw [ht] at h
          exact h.elim
        | act L r =>
          rw [ht, TrW, if_neg (by omega)] at h
          obtain ⟨_, _, rfl⟩ := h
          refine hone ht ?_
          have := (hact L r ht).1 L (by simp)
          show g.T + max L.s _ ≤ 600000
          omega
  rw [if_neg c0] at h
  by_cases c1 : st.d = sRead
  · rw [if_pos c1] at h
    split at h
    · exact hsame _ h.2.2.2
    · exact hsame _ h.1
  rw [if_neg c1] at h
  by_cases c2 : st.d = sTrunc
  · rw [if_pos c2] at h
    obtain ⟨h, _⟩ := h
    unfold StT at h
    split at h
    · split at h
      · exact hsame _ h.2
      · obtain ⟨_, rfl⟩ := h
        refine ⟨?_, by have := hb.2.1; show σ.l.length ≤ q + 1; omega, (bnd_up hb).2.2⟩
        show ((g.T : Int) + st.n).toNat ≤ 600000
        omega
    · obtain ⟨t, h, rfl⟩ := h
      cases ht : σ.t with
      | idle =>
        rw [ht] at h
        exact hidle (.inl h.2)
      | brk =>
        rw [ht] at h
        exact hidle (.inr h.2)
      | act L r =>
        rw [ht, TrT] at h
        split at h
        · obtain ⟨_, rfl⟩ := h
          exact hone ht ((hact L r ht).1 L (by simp))
        · obtain ⟨_, rfl⟩ := h
          refine hone ht ?_
          show g.T + (st.n + (g.u : Int)).toNat ≤ 600000
          omega
  rw [if_neg c2] at h
  by_cases c3 : st.d = sSize
  · rw [if_pos c3] at h
    exact hsame _ h.1.2.2
  rw [if_neg c3] at h
  by_cases c4 : st.d = sPunch
  · rw [if_pos c4] at h
    obtain ⟨h, _⟩ := h
    unfold StX at h
    split at h
    · exact hsame _ h.2
    · obtain ⟨t, h, rfl⟩ := h
      cases ht : σ.t with
      | idle =>
        rw [ht] at h
        exact hidle (.inl h.2)
      | brk =>
        rw [ht] at h
        exact hidle (.inr h.2)
      | act L r =>
        rw [ht] at h
        obtain ⟨_, c', d', rfl⟩ := h
        exact hone ht ((hact L r ht).1 L (by simp))
  rw [if_neg c4] at h
  by_cases c5 : st.d = sBegin
  · rw [if_pos c5] at h
    obtain ⟨h, _⟩ := h
    unfold StX at h
    split at h
    · exact hsame _ h.2
    · obtain ⟨t, h, rfl⟩ := h
      cases ht : σ.t with
      | idle =>
        rw [ht] at h
        obtain ⟨_, bb, rfl⟩ := h
        refine bnd_to hb ⟨fun L' h => ?_, by simp⟩
        rcases List.mem_cons.1 h with rfl | h
        · have := hb.1
          show g.T + (σ.s - g.T) ≤ 600000
          omega
        · cases h
      | brk =>
        rw [ht] at h
        exact h.elim
      | act L r =>
        rw [ht] at h
        obtain ⟨_, bb, rfl⟩ := h
        obtain ⟨h1, h2⟩ := hact L r ht
        refine bnd_to hb ⟨fun L' h => ?_, by simp only [List.length_cons]; omega⟩
        rcases List.mem_cons.1 h with rfl | h
        · exact h1 L (by simp)
        · exact h1 L' h
  rw [if_neg c5] at h
  by_cases c6 : st.d = sEnd
  · rw [if_pos c6] at h
    obtain ⟨h, _⟩ := h
    unfold StE at h
    split at h
    · exact hsame _ h.2
    · have h2 := hb.2.1
      have h1 := hb.1
      cases ht : σ.t with
      | idle =>
        rw [ht] at h
        obtain ⟨_, e1, e2, e3, e4⟩ := h
        exact ⟨by omega, by rw [e3]; omega, by rw [e4]; trivial⟩
      | brk =>
        rw [ht] at h
        exact h.elim
      | act L r =>
        obtain ⟨h3, h4⟩ := hact L r ht
        have hL := h3 L (by simp)
        cases r with
        | nil =>
          rw [ht] at h
          obtain ⟨e4, h⟩ := h
          split at h
          · obtain ⟨_, e1, e2, e3⟩ := h
            exact ⟨by omega, by rw [e3]; omega, by rw [e4]; trivial⟩
          · obtain ⟨_, done, _, _, e1, e2, e3⟩ := h
            refine ⟨?_, ?_, by rw [e4]; trivial⟩
            · rw [e2]; unfold endS; split <;> omega
            · rw [e3]; unfold endP; split
              · omega
              · simp; omega
        | cons L2 r =>
          rw [ht] at h
          obtain ⟨_, e1, e2, e3, done, _, _, e4⟩ := h
          refine ⟨by omega, by rw [e3]; omega, ?_⟩
          rw [e4]
          simp only [List.length_cons] at h4
          refine ⟨fun L' h => ?_, by omega⟩
          rcases List.mem_cons.1 h with rfl | h
          · exact hL
          · exact h3 L' (by simp [h])
  rw [if_neg c6] at h
  by_cases c7 : st.d = sRoll
  · rw [if_pos c7] at h
    obtain ⟨h, _⟩ := h
    unfold StX at h
    split at h
    · exact hsame _ h.2
    · obtain ⟨t, h, rfl⟩ := h
      cases ht : σ.t with
      | idle =>
        rw [ht] at h
        exact hidle (.inl h.2)
      | brk =>
        rw [ht] at h
        exact hidle (.inl h.2)
      | act L r =>
        obtain ⟨h3, h4⟩ := hact L r ht
        cases r with
        | nil =>
          rw [ht] at h
          exact hidle (.inl h.2)
        | cons L2 r =>
          rw [ht] at h
          obtain ⟨_, rfl⟩ := h
          simp only [List.length_cons] at h4
          exact bnd_to hb ⟨fun L' h => h3 L' (List.mem_cons_of_mem _ h), by omega⟩
  rw [if_neg c7] at h
  by_cases c8 : st.d = sSync
  · rw [if_pos c8] at h
    exact hsame _ h.1.2
  rw [if_neg c8] at h
  by_cases c9 : st.d = sClose
  · rw [if_pos c9] at h
    obtain ⟨h, _⟩ := h
    unfold StX at h
    split at h
    · exact hsame _ h.2
    · obtain ⟨t, h, rfl⟩ := h
      cases ht : σ.t with
      | idle =>
        rw [ht] at h
        exact hidle (.inl h.2)
      | brk =>
        rw [ht] at h
        exact hidle (.inr h.2)
      | act L r =>
        rw [ht] at h
        obtain ⟨_, rfl | rfl⟩ := h
        · exact hidle (.inr rfl)
        · exact hone ht ((hact L r ht).1 L (by simp))
  rw [if_neg c9] at h
  exact hsame _ h.1.2
/-- a run's sizes -/
theorem Run.bnd {g : Cf} {σ0 σ : MS} {l : List Stp} {tl : List Tld} (hg : g.T + g.u ≤ 400000) (h0 : σ0.bnd g 0) (h : Run g σ0 l tl σ) (hl : ∀ x ∈ l, x.few) : σ.bnd g l.length := by
  induction h with
  | nil => exact h0
  | snoc h h2 ih =>
    rw [List.length_append]
    exact StD_bnd hg (hl _ (by simp)) (ih fun x hx => hl x (by simp [hx])) h2
theorem Run.len {g : Cf} {σ0 σ : MS} {l : List Stp} {tl : List Tld} (h : Run g σ0 l tl σ) : tl.length = l.length := by
  induction h with
  | nil => rfl
  | snoc h h2 ih => simp [ih]
end Go.Proofs.YtfebpbflpdppiaaGreatDoor
namespace Go.Proofs.YtfebpbflpdppiaaGreatDoor
open Go Go.Sl
set_option maxRecDepth 100000
def tdC (x : Tld × Value) : List Value := [.int .i64 (x.1.e : Nat), .int .i64 x.1.q, x.2]
def tds (TL : List (Tld × Value)) : HP := sep (TL.map fun x => tdH x.2 x.1.dat)
theorem tds_add {TL : List (Tld × Value)} {x : Tld × Value} {F : List HP} : Ent (tdH x.2 x.1.dat :: tds TL :: F) (tds (TL ++ [x]) :: F) := by
  unfold tds
  refine (Ent.cons (sep_open _ F)).trans (Ent.trans (Ent.perm ?_) (sep_shut _ F))
  simp only [List.map_append, List.map_cons, List.map_nil, List.append_assoc, List.cons_append, List.nil_append]
  exact List.perm_middle.symm
theorem shC0 (c : Cn) : shC 0 c = c := funext fun i => congrArg c (Nat.zero_add i)
/-- what is told of a call that panicked -/
def flt : Tld × Value := (⟨7, 0, []⟩, .slice none 0 0)
theorem flat3 : ∀ TL : List (Tld × Value), (TL.flatMap tdC).length = TL.length * 3
  | [] => rfl
  | x :: TL => by
    simp only [List.flatMap_cons, List.length_append, List.length_cons, flat3 TL, tdC]
    simp only [List.length_nil]
    omega
theorem tds_nil {F : List HP} : Ent F (tds [] :: F) := sep_shut [] F
section
variable {P : Program} {σ : Env} {m : Amb} {L : List HP}
theorem _root_.Go.Sl.Sat.exE {α : Type} {A : α → HP} {w : World} (h : Sat m (Sl.ex A :: L) w) : ∃ x, Sat m (A x :: L) w := by
  obtain ⟨x, hx⟩ := h.2.2.2.ex
  exact ⟨x, h.1, h.2.1, h.2.2.1, hx⟩
theorem res_ccc {fn : Func} {t u r tt uu rr : Nat} {pp qq ss : TypeDesc} {a b c : Addr} {v v' v'' : Value} [h1 : TyU P tt pp] [h2 : TyU P uu qq] [h3 : TyU P rr ss] (hf : fn.results = #[.cell t tt, .cell u uu, .cell r rr]) (hp : lk σ t = some (.pointer (some a))) (hq : lk σ u = some (.pointer (some b))) (hs : lk σ r = some (.pointer (some c)))
    (ha : aggD pp = false) (hb : aggD qq = false) (hc : aggD ss = false) (hr : Rd L a v) (hr' : Rd L b v') (hr'' : Rd L c v'') (tmps : Array Value) (w : World) (g : Agr σ tmps) (hw : Sat m L w) : (results fn tmps).run P w = .ok (.tuple #[v, v', v'']) w := by
  have e1 := g t _ hp
  have e2 := g u _ hq
  have e3 := g r _ hs
  simp [results, hf, e1, e2, e3, asAddr, loadVar, run_isAgg' h1, run_isAgg' h2, run_isAgg' h3, ha, hb, hc, hr m w hw, hr' m w hw, hr'' m w hw]
end
attribute [local irreducible] wpList Code.wp Exit.then Exit.inBlock bodyPost RunS RunV G St Ct Sat Ent At Rd GQ QL wpAny wpOp wpQuiet slP Sl.ex sep
attribute [local irreducible] zf memf pgl rng ov cutC zc mapO rdd bme bf bx wC wS wD ptsH tdH tds
section
variable {glb : HP} {ea : Addr} {mb : Nat} {c : Cn} {s : Nat}
theorem mwhole_c (hglb : Rd [glb] ⟨1, 0, none⟩ (eofV ea)) (hs : s ≤ 600000) : Ct Tryz.prog 22 #[.iface 47 (.pointer (some ⟨mb, 0, none⟩))] [glb, memf mb c s] (fun x B => (∃ a n cp, x = .slice a n cp) ∧ B = [glb, memf mb c s, tdH x (rng c 0 s)]) nev := by
  have B := bf_mem hglb mb
  refine (whole_c (ea := ea) (c := c) (s := s) (by omega) (B.size c s (by omega)) (fun db e old k off hk hb => ?_)).conv (fun F => Ent.refl _) (fun x B hx => ?_) (fun c B h => h.elim)
  · have h := B.rdc c s (by omega) (by omega) db e old k off hk (by omega)
    rw [shC0, Nat.sub_zero] at h
    exact h
  · rcases hx with ⟨h1, h2, rfl⟩ | ⟨h1, db, h2, rfl⟩
    · refine ⟨_, ⟨⟨_, _, _, h2⟩, rfl⟩, fun F => ?_⟩
      have h0 : s = 0 := by omega
      subst h0 h2
      have : rng c 0 0 = [] := by unfold rng; rfl
      rw [this]
      exact Ent.append [_, _] tdH_nil
    · refine ⟨_, ⟨⟨_, _, _, h2⟩, rfl⟩, fun F => ?_⟩
      subst h2
      have := tdH_some (db := db) (n := s) (k := s) (nw := rng c 0 s) (Nat.le_refl _) (by omega) (rng_length _ _ _) (L := F)
      rw [List.take_of_length_le (by rw [rng_length]; omega)] at this
      exact Ent.append [_, _] this
/-- a call has failed: what the deferred call does -/
theorem files_pan {fn : Func} (hf : fn.results = #[.cell 6 30, .cell 7 22, .cell 8 31]) {n : Nat} {σ : Env} {m : Amb} {I : HP} {tb ob mc0 pb k tc : Nat} {ta pa : Option Addr} {pc : Nat} {l : List Int} {ov : Value} {TL : List (Tld × Value)} {T : TypeId} {pv : Value} {F : List HP} {R : Value → List HP → Prop} {E : List PanicEntry → List HP → Prop}
    (h6 : lk σ 6 = some (.pointer (some ⟨tb, 0, none⟩))) (h7 : lk σ 7 = some (.pointer (some ⟨ob, 0, none⟩))) (h8 : lk σ 8 = some (.pointer (some ⟨pb, 0, none⟩)))
    (hglb : Rd [glb] ⟨1, 0, none⟩ (eofV ea)) (hs : s ≤ 600000) (hl : TL.length = k) (hk : k ≤ 1000)
    (hR : ∀ a c' ov', R (.tuple #[.slice a (k + 1) c', ov', .slice pa l.length pc]) [glb, I, slP (.slice a (k + 1) c') 46 3 ((TL ++ [flt]).flatMap tdC), tds (TL ++ [flt]), tdH ov' (rng c 0 s), slP (.slice pa l.length pc) 2 1 (ints l)]) :
    G n [{ target := .fn (.func 21) #[.pointer (some ⟨tb, 0, none⟩), .pointer (some ⟨mc0, 0, none⟩), .pointer (some ⟨ob, 0, none⟩)], args := #[] }] σ m (slP (.slice ta k tc) 46 3 (TL.flatMap tdC) :: blk tb (cl [.slice ta k tc] 30) :: blk ob (cl [ov] 22) :: blk mc0 (cl [.pointer (some ⟨mb, 0, none⟩)] 47) :: glb :: memf mb c s :: tds TL :: blk pb (cl [.slice pa l.length pc] 31) :: slP (.slice pa l.length pc) 2 1 (ints l) :: I :: F)
      (bodyPostD Tryz.prog fn (fin R E m F) (.panic [{ v := .iface T pv, recovered := false }])) := by
  have hlen : (TL.flatMap tdC).length = k * 3 := by rw [← hl]; exact flat3 TL
  refine e_panR Tryz.func21 rfl rfl Tryz.ntmps21 (by decide) (by decide) (by decide) (Nat.le_of_ble_eq_true rfl) (ex (fun x : Option Addr × Nat × Value => sep [blk tb (cl [.slice x.1 (k + 1) x.2.1] 30), slP (.slice x.1 (k + 1) x.2.1) 46 3 ((TL ++ [flt]).flatMap tdC), blk ob (cl [x.2.2] 22), tdH x.2.2 (rng c 0 s)]) :: [glb, I, tds (TL ++ [flt]), blk pb (cl [.slice pa l.length pc] 31), slP (.slice pa l.length pc) 2 1 (ints l)] ++ F) ?_ ?_
  · repeat (first | refine wZ ?_ | intro b)
    refine l_plain rfl ?_
    apply s_val rfl rfl
    · exact RunS.v (r_build (cells := (tdC flt).toArray) rfl (by kernel_rfl))
    refine l_plain rfl (s_build (size := 3) (vs := [.agg (tdC flt).toArray]) (l := tdC flt) rfl rfl rfl rfl rfl (by intro v hv; simp at hv; subst hv; rfl) (by simp [Value.cells]) rfl rfl ?_)
    intro tb2
    refine l_plain rfl (s_append (i := 1) rfl rfl rfl (Src.some _ _ _ _ _ rfl (rdn_all 0 rfl)) rfl rfl hlen rfl (by omega) (by simp only [maxLen]; omega) rfl ?_)
    intro a2 c2
    have e1 : TL.flatMap tdC ++ tdC flt = (TL ++ [flt]).flatMap tdC := by simp
    rw [e1]
    repeat (first | refine wZ ?_ | intro b)
    refine l_plain rfl (s_call rfl rfl (mwhole_c hglb hs) [5, 5] rfl ?_ (fun _ _ h => h.elim))
    rintro _ _ ⟨⟨oa, on, oc, rfl⟩, rfl⟩
    repeat (first | refine wZ ?_ | intro b)
    refine qr_n ?_
    refine Ent.trans (arr_ent 3 [4, 4, 0, 2, 0, 6, 3, 3, 3] _) ?_
    refine (sep_shut [_, _, _, _] _).trans ?_
    refine (ex_shut (fun x : Option Addr × Nat × Value => sep [blk tb (cl [.slice x.1 (k + 1) x.2.1] 30), slP (.slice x.1 (k + 1) x.2.1) 46 3 ((TL ++ [flt]).flatMap tdC), blk ob (cl [x.2.2] 22), tdH x.2.2 (rng c 0 s)]) (a2, c2, .slice oa on oc) _).trans ?_
    exact Ent.append [_, _, _] (tdH_nil.trans (tds_add (x := flt)))
  · intro tmps w hg hw
    obtain ⟨⟨a2, c2, ov'⟩, hx⟩ := Sat.exE hw
    have hw2 := hx.ent (sep_open [_, _, _, _] _)
    exact ⟨_, res_ccc hf h6 h7 h8 rfl rfl rfl (rd_blk 0 rfl rfl) (rd_blk 2 rfl rfl) (rd_blk 7 rfl rfl) tmps w hg hw2, _, hR a2 c2 ov', hw2.ent (arr_ent 3 [4, 4, 1, 3, 2, 3] _)⟩
end
end Go.Proofs.YtfebpbflpdppiaaGreatDoor
