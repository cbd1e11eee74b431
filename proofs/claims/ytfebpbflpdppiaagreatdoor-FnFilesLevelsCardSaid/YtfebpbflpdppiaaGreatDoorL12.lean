/- The topmost rollback, in whatever state: writes, reads, truncations · The topmost rollback, in whatever state: punch, close, begin, end, rollback · The topmost rollback, in whatever state: punch, close · A stack of files as a machine: what each call may tell and change · A stack with a rollback, as a machine · A stack with a rollback, as a machine: the other calls. -/
import Derived.Test.YtfebpbflpdppiaaGreatDoorL11
namespace Go.Proofs.YtfebpbflpdppiaaGreatDoor
open Go Go.Sl
set_option maxRecDepth 100000
def TS.bd (q : Nat) : TS → Prop
  | .act L r => (∀ L' ∈ L :: r, L'.s ≤ 1000000) ∧ r.length ≤ q
  | _ => True
/-- what a write tells and changes -/
def TrW (off : Int) (bs : List UInt8) : TS → Int → Nat → TS → Prop
  | .idle, n, e, t => e = 3 ∧ n = 0 ∧ t = .idle
  | .act L r, n, e, t => if off < 0 then (bs ≠ [] → e = 2) ∧ t = .act L r else e = 0 ∧ n = (bs.length : Int) ∧ t = .act ⟨L.bb, ov L.c off.toNat bs, max L.s (off.toNat + bs.length), dw L.d off.toNat bs.length⟩ r
  | .brk, _, _, _ => False
/-- what a read tells -/
def TrR (T : Nat) (c : Cn) (s : Nat) (off : Int) (old : List UInt8) : TS → Nat → Nat → List UInt8 → Prop
  | .idle, n, e, nw => if off < 0 then e = 2 ∧ n = 0 ∧ nw = old else n = min old.length (s - (T + off.toNat)) ∧ e = (if old.length ≤ s - (T + off.toNat) then 0 else 1) ∧ nw = rdd old c (T + off.toNat) n
  | .act L _, n, e, nw => if off < 0 then (e = 0 ∨ e = 2) ∧ (0 < old.length → e = 2) ∧ n = 0 ∧ nw = old else n = min old.length (L.s - off.toNat) ∧ (e = 0 ∨ e = 1) ∧ (old.length < L.s - off.toNat → e = 0) ∧ nw = rdd old L.c off.toNat n
  | .brk, _, _, _ => False
def TrT (c0 : Cn) (s0 : Nat) (n : Int) : TS → Nat → TS → Prop
  | .idle, e, t => e = 3 ∧ t = .idle
  | .act L r, e, t => if n < 0 then e = 2 ∧ t = .act L r else e = 0 ∧ t = .act ⟨L.bb, tc (lvb c0 s0 r) L.c n.toNat, n.toNat, td L.d n.toNat⟩ r
  | .brk, e, t => e = 2 ∧ t = .brk
section
variable {P : Program} {f : FuncId} {args : Array Value} {rb : Nat} {ck v0 : Value} {tl : Int} {cld : Bool}
theorem nil1 (h : Ct P f args [] none_ (pnE [])) : Ct P f args [sep []] none_ (pnE [sep []]) :=
  h.conv (fun F => Ent.drop) (fun _ _ h => h.elim) (fun c B hx => ⟨[sep []], ⟨hx.1, rfl⟩, fun F => by rw [hx.2]; exact sep_shut [] F⟩)
theorem brk_w (h : Ct P f args [rP rb none ck v0 tl cld, sep []] (wR (rP rb none ck v0 tl cld) none_) (wE (rP rb none ck v0 tl cld) (pnE [sep []]))) : Ct P f args [rP rb none ck v0 tl cld] none_ (pnE [rP rb none ck v0 tl cld]) :=
  h.conv (fun F => Ent.cons (sep_shut [] F)) (fun x B hx => by obtain ⟨_, h, _⟩ := hx; exact h.elim) (fun c B hx => by
    obtain ⟨_, ⟨h1, rfl⟩, rfl⟩ := hx
    exact ⟨_, ⟨h1, rfl⟩, fun F => Ent.cons Ent.drop⟩)
end
theorem natOf {off : Int} (h : ¬ off < 0) : ∃ n : Nat, off = (n : Int) ∧ off.toNat = n := ⟨off.toNat, by omega, rfl⟩
attribute [local irreducible] wpList Code.wp Exit.then Exit.inBlock bodyPost RunS RunV G St Ct Sat Ent At Rd GQ QL wpAny wpOp wpQuiet slP Sl.ex sep
attribute [local irreducible] zf memf pgl rng ov cutC zc mapO rdd bme bf bx wC wS wD ptsH
section
variable {glb A : HP} {ea : Addr} {v0 : Value} {hp : Cn → Nat → HP} {T : Nat} {ro : Bool} {rb : Nat} {c : Cn} {s : Nat} {K : List HP} {ck : Value}
theorem t_write (B : BF glb ea v0 hp T ro) (hglb : Rd [glb] ⟨1, 0, none⟩ (eofV ea)) (hT : T ≤ 1000000) (hs : s ≤ 1000000) (st : TS) (hb : st.bd 400) (bs : List UInt8) (a : Option Addr) (k cap : Nat) (off : Int) (hsrc : Src [A] 1 (.slice a k cap) k (u8s bs)) (hcp : k ≤ cap) (hk : k ≤ 1000000) (ho : -100000000000000 ≤ off ∧ off ≤ 1000000) :
    MCt Tryz.prog (tv rb) "WriteAt" [.slice a k cap, .int .i64 off] (tsH hp T rb ck v0 c s st :: glb :: A :: K)
      (fun x B => ∃ n y e st', TrW off bs st n e st' ∧ x = .tuple #[.int .i64 n, y] ∧ isErr ea e y ∧ B = tsH hp T rb ck v0 c s st' :: glb :: A :: K) (pnP (st = .brk) (tsH hp T rb ck v0 c s st :: glb :: A :: K)) := by
  have hkl : bs.length = k := by have := hsrc.len; simpa using this
  cases st with
  | idle => exact (MCt.of (id_fr (R0 := fun x => ∃ b, x = .tuple #[.int .i64 0, permV b]) (fun cld bp => (RWriteAt_0 _ _ (B.name c s)).mono (fun x B hx => by
      obtain ⟨b, h1, rfl⟩ := hx
      exact ⟨⟨b, h1⟩, cld, rfl⟩) (fun _ _ h => h)) (glb :: A :: K))).mono (fun x B hx => by
      obtain ⟨⟨b, h1⟩, rfl⟩ := hx
      exact ⟨0, permV b, 3, .idle, ⟨rfl, rfl, rfl⟩, h1, ⟨b, rfl⟩, rfl⟩) (fun _ _ h => h.elim)
  | act L r =>
    have hLs : ∀ L' ∈ L :: r, L'.s ≤ 800000000000 := fun L' h => by have := hb.1 L' h; omega
    have hrl := hb.2
    by_cases h0 : off < 0
    · rcases Nat.eq_zero_or_pos k with hk0 | hk0
      · subst hk0
        have hbs : bs = [] := List.length_eq_zero_iff.1 hkl
        exact (act_fr (R0 := fun x => x = .tuple #[.int .i64 0, .nilIface]) fun cld => a_write0 L r (hLs L (by simp)) (by omega) a cap off h0 (by omega)).mono (fun x B hx => by
          obtain ⟨h1, rfl⟩ := hx
          refine ⟨0, .nilIface, 0, .act L r, ?_, h1, rfl, rfl⟩
          rw [TrW, if_pos h0]
          exact ⟨fun h => absurd hbs h, rfl⟩) (fun _ _ h => h.elim)
      · refine act_lift fun cld => ((a_writeN (c0 := shC T c) (s0 := s - T) (ck := ck) (tl := (r.length : Int) + 1) (cld := cld) (Int.le_refl _) hglb B.isI (B.rdm c s 1000000000000000) L r hLs (by omega) a k cap off hk0 h0 (by omega)).frame (A :: K)).conv (fun F => ?_) (fun x B hx => ?_) (fun c B hx => by obtain ⟨_, h, _⟩ := hx; exact h.elim)
        · exact arr_ent 0 [2, 0, 0] _
        · obtain ⟨_, ⟨b, h1, rfl⟩, rfl⟩ := hx
          refine ⟨_, ⟨k, invV b, 2, .act L r, ?_, h1, ⟨b, rfl⟩, rfl⟩, fun F => ?_⟩
          · rw [TrW, if_pos h0]
            exact ⟨fun _ => rfl, rfl⟩
          · exact Ent.trans (arr_ent 0 [1, 1] _) (ac_shut (F := glb :: A :: K ++ F) rfl)
    · obtain ⟨o, rfl, hoN⟩ := natOf h0
      refine act_lift fun cld => ((a_write (c0 := shC T c) (s0 := s - T) (ck := ck) (tl := (r.length : Int) + 1) (cld := cld) (N := 1000000000000 - T) (by omega) hglb B.isI (B.rdc c s (by omega) (by omega)) L r hLs (by omega) bs a k cap o hsrc hcp (by omega)).frame K).conv (fun F => ?_) (fun x B hx => ?_) (fun c B hx => by obtain ⟨_, h, _⟩ := hx; exact h.elim)
      · exact arr_ent 0 [2, 2, 0, 0] _
      · obtain ⟨_, ⟨h1, rfl⟩, rfl⟩ := hx
        refine ⟨_, ⟨k, .nilIface, 0, .act ⟨L.bb, ov L.c o bs, max L.s (o + k), dw L.d o k⟩ r, ?_, h1, rfl, rfl⟩, fun F => ?_⟩
        · rw [TrW, if_neg h0, hoN, hkl]
          exact ⟨rfl, rfl, rfl⟩
        · exact Ent.trans (arr_ent 0 [2, 2, 0, 0] _) (ac_shut (F := glb :: A :: K ++ F) rfl)
  | brk => exact MCt.of (bk_pan rfl (fun n hn => brk_w (RWriteAt_a (fun _ _ h => h.elim) (by omega) pnE_s (nil1 (bWrite_nil (by omega))))) (glb :: A :: K))
theorem t_read (B : BF glb ea v0 hp T ro) (hglb : Rd [glb] ⟨1, 0, none⟩ (eofV ea)) (hT : T ≤ 1000000) (hs : s ≤ 1000000) (st : TS) (hb : st.bd 400) (db e0 : Nat) (old : List UInt8) (k : Nat) (off : Int) (hkl : old.length = k) (hk : k ≤ 2000000) (ho : -100000000000000 ≤ off ∧ off ≤ 1000000) :
    MCt Tryz.prog (tv rb) "ReadAt" [.slice (some ⟨db, 0, none⟩) k k, .int .i64 off] (tsH hp T rb ck v0 c s st :: glb :: blk db (cl (u8s old) e0) :: K)
      (fun x B => ∃ (n : Nat) (y : Value) (e : Nat) (nw : List UInt8), TrR T c s off old st n e nw ∧ x = .tuple #[.int .i64 (n : Nat), y] ∧ isErr ea e y ∧ B = tsH hp T rb ck v0 c s st :: glb :: blk db (cl (u8s nw) e0) :: K) (pnP (st = .brk) (tsH hp T rb ck v0 c s st :: glb :: blk db (cl (u8s old) e0) :: K)) := by
  subst hkl
  cases st with
  | idle =>
    by_cases h0 : off < 0
    · exact (MCt.of (id_fr (R0 := fun x => ∃ b, x = .tuple #[.int .i64 0, invV b]) (fun cld bp => (RReadAt_0 (fun x L h => by obtain ⟨b, h, _⟩ := h; exact ⟨_, _, h⟩) (B.readN c s _ off h0)).mono (fun x B hx => by
        obtain ⟨_, ⟨b, h1, rfl⟩, rfl⟩ := hx
        exact ⟨⟨b, h1⟩, cld, rfl⟩) (fun _ _ h => h)) (glb :: blk db (cl (u8s old) e0) :: K))).mono (fun x B hx => by
        obtain ⟨⟨b, h1⟩, rfl⟩ := hx
        refine ⟨0, invV b, 2, old, ?_, h1, ⟨b, rfl⟩, rfl⟩
        rw [TrR, if_pos h0]
        exact ⟨rfl, rfl, rfl⟩) (fun _ _ h => h.elim)
    · obtain ⟨o, rfl, hoN⟩ := natOf h0
      have h1 := ((B.read c s db e0 old old.length o (by omega) rfl (by omega)).pack).mono (fun _ _ h => h) (E' := nev) (fun _ _ h => nevP h)
      refine (MCt.of (id_lift (R := fun x K' => x = .tuple #[.int .i64 (min old.length (s - (T + o)) : Nat), if old.length ≤ s - (T + o) then .nilIface else eofV ea] ∧ K' = glb :: blk db (cl (u8s (rdd old c (T + o) (min old.length (s - (T + o))))) e0) :: K) fun cld bp => ?_)).mono (fun x B hx => ?_) (fun _ _ h => h.elim)
      · have h3 := RReadAt_0 (rb := rb) (bp := bp) (ck := ck) (cld := cld) (fun x L h => by
          obtain ⟨B', ⟨h1, _⟩, _⟩ := h
          exact ⟨_, _, h1⟩) h1
        refine (h3.frame K).conv (fun F => ?_) (fun x B hx => ?_) (fun c B hx => by obtain ⟨_, h, _⟩ := hx; exact h.elim)
        · exact Ent.cons (Ent.trans (arr_ent 0 [1, 0, 0] _) (sep_shut [_, _, _] (K ++ F)))
        · obtain ⟨_, ⟨_, ⟨_, ⟨h2, rfl⟩, rfl⟩, rfl⟩, rfl⟩ := hx
          refine ⟨_, ⟨cld, _, ⟨h2, rfl⟩, rfl⟩, fun F => Ent.cons ((sep_open [_, _, _] (K ++ F)).trans (arr_ent 0 [1, 0, 0] _))⟩
      · obtain ⟨_, ⟨h2, rfl⟩, rfl⟩ := hx
        refine ⟨_, _, if old.length ≤ s - (T + o) then 0 else 1, rdd old c (T + o) (min old.length (s - (T + o))), ?_, h2, ?_, rfl⟩
        · rw [TrR, if_neg h0, hoN]
          exact ⟨rfl, rfl, rfl⟩
        · split <;> rfl
  | act L r =>
    have hLs : ∀ L' ∈ L :: r, L'.s ≤ 800000000000 := fun L' h => by have := hb.1 L' h; omega
    have hrl := hb.2
    by_cases h0 : off < 0
    · rcases Nat.eq_zero_or_pos old.length with hk0 | hk0
      · rw [hk0]
        exact (act_fr (R0 := fun x => x = .tuple #[.int .i64 0, .nilIface]) fun cld => a_read0 L r (hLs L (by simp)) (by omega) _ 0 off h0 (by omega)).mono (fun x B hx => by
          obtain ⟨h1, rfl⟩ := hx
          refine ⟨0, .nilIface, 0, old, ?_, h1, rfl, rfl⟩
          rw [TrR, if_pos h0]
          exact ⟨.inl rfl, fun h => by omega, rfl, rfl⟩) (fun _ _ h => h.elim)
      · refine act_lift fun cld => ((a_readN (c0 := shC T c) (s0 := s - T) (ck := ck) (tl := (r.length : Int) + 1) (cld := cld) (Int.le_refl _) hglb B.isI (B.rdm c s 1000000000000000) L r hLs (by omega) _ old.length old.length off hk0 h0 (by omega)).frame (blk db (cl (u8s old) e0) :: K)).conv (fun F => ?_) (fun x B hx => ?_) (fun c B hx => by obtain ⟨_, h, _⟩ := hx; exact h.elim)
        · exact arr_ent 0 [2, 0, 0] _
        · obtain ⟨_, ⟨b, h1, rfl⟩, rfl⟩ := hx
          refine ⟨_, ⟨0, invV b, 2, old, ?_, h1, ⟨b, rfl⟩, rfl⟩, fun F => ?_⟩
          · rw [TrR, if_pos h0]
            exact ⟨.inr rfl, fun _ => rfl, rfl, rfl⟩
          · exact Ent.trans (arr_ent 0 [1, 1] _) (ac_shut (F := glb :: blk db (cl (u8s old) e0) :: K ++ F) rfl)
    · obtain ⟨o, rfl, hoN⟩ := natOf h0
      refine act_lift fun cld => ((a_read (c0 := shC T c) (s0 := s - T) (ck := ck) (tl := (r.length : Int) + 1) (cld := cld) (N := 1000000000000 - T) (by omega) hglb B.isI (B.rdc c s (by omega) (by omega)) L r hLs (by omega) db e0 old old.length o rfl (by omega)).frame K).conv (fun F => ?_) (fun x B hx => ?_) (fun c B hx => by obtain ⟨_, h, _⟩ := hx; exact h.elim)
      · exact arr_ent 0 [2, 2, 0, 0] _
      · obtain ⟨_, ⟨y, h1, h2, h3, rfl⟩, rfl⟩ := hx
        have h4 : ∃ e, isErr ea e y ∧ (e = 0 ∨ e = 1) ∧ (old.length < L.s - o → e = 0) := by
          by_cases h5 : old.length < L.s - o
          · exact ⟨0, h3 h5, .inl rfl, fun _ => rfl⟩
          · rcases h2 with h2 | h2
            · exact ⟨0, h2, .inl rfl, fun _ => rfl⟩
            · exact ⟨1, h2, .inr rfl, fun h => absurd h h5⟩
        obtain ⟨e, h5, h6, h7⟩ := h4
        refine ⟨_, ⟨_, y, e, rdd old L.c o (min old.length (L.s - o)), ?_, h1, h5, rfl⟩, fun F => ?_⟩
        · rw [TrR, if_neg h0, hoN]
          exact ⟨rfl, h6, h7, rfl⟩
        · exact Ent.trans (arr_ent 0 [2, 2, 0, 0] _) (ac_shut (F := glb :: blk db (cl (u8s (rdd old L.c o (min old.length (L.s - o)))) e0) :: K ++ F) rfl)
  | brk => exact MCt.of (bk_pan rfl (fun n hn => brk_w (RReadAt_a (fun _ _ h => h.elim) (by omega) pnE_s (nil1 bRead_nil))) (glb :: blk db (cl (u8s old) e0) :: K))
theorem t_trunc (B : BF glb ea v0 hp T ro) (st : TS) (hb : st.bd 400) (n : Int) (hn : n ≤ 1000000) : MCt Tryz.prog (tv rb) "Truncate" [.int .i64 n] (tsH hp T rb ck v0 c s st :: K)
    (fun x B => ∃ e st', TrT (shC T c) (s - T) n st e st' ∧ isErr ea e x ∧ B = tsH hp T rb ck v0 c s st' :: K) (pnP (st = .brk) (tsH hp T rb ck v0 c s st :: K)) := by
  cases st with
  | idle => exact (MCt.of (id_fr (R0 := fun x => ∃ b, x = permV b) (fun cld bp => (RTruncate_0 _ (B.name c s)).mono (fun x B hx => by
      obtain ⟨b, h1, rfl⟩ := hx
      exact ⟨⟨b, h1⟩, cld, rfl⟩) (fun _ _ h => h)) K)).mono (fun x B hx => by
      obtain ⟨⟨b, h1⟩, rfl⟩ := hx
      exact ⟨3, .idle, ⟨rfl, rfl⟩, ⟨b, h1⟩, rfl⟩) (fun _ _ h => h.elim)
  | act L r =>
    have hLs := hb.1 L (by simp)
    by_cases h0 : n < 0
    · exact (act_fr (R0 := fun x => ∃ b, x = invV b) fun cld => (a_truncN L r (by omega) n h0).mono (fun x B hx => by
        obtain ⟨b, h1, rfl⟩ := hx
        exact ⟨⟨b, h1⟩, rfl⟩) (fun _ _ h => h)).mono (fun x B hx => by
        obtain ⟨⟨b, h1⟩, rfl⟩ := hx
        refine ⟨2, .act L r, ?_, ⟨b, h1⟩, rfl⟩
        rw [TrT, if_pos h0]
        exact ⟨rfl, rfl⟩) (fun _ _ h => h.elim)
    · obtain ⟨o, rfl, hoN⟩ := natOf h0
      exact (act_to (Q := fun x L' r' => x = .nilIface ∧ L' = ⟨L.bb, tc (lvb (shC T c) (s - T) r) L.c o, o, td L.d o⟩ ∧ r' = r) fun cld => (a_trunc L r (by omega) (by omega) o (by omega)).mono (fun x B hx => by
        obtain ⟨h1, rfl⟩ := hx
        exact ⟨_, _, ⟨h1, rfl, rfl⟩, _, rfl, rfl⟩) (fun _ _ h => h)).mono (fun x B hx => by
        obtain ⟨_, _, ⟨h1, rfl, rfl⟩, rfl⟩ := hx
        refine ⟨0, .act _ _, ?_, h1, rfl⟩
        rw [TrT, if_neg h0, hoN]
        exact ⟨rfl, rfl⟩) (fun _ _ h => h.elim)
  | brk =>
    by_cases h0 : n < 0
    · exact (MCt.of (bk_fr (R0 := fun x => ∃ b, x = invV b) (fun k hk => (RTruncate_a (A := hp c s) (R := fun x B => ∃ b, x = invV b ∧ B = [hp c s]) (by omega) (fun c B h => h.elim) (bTruncate_n (A := [hp c s]) _ n h0)).mono (fun x B hx => by
        obtain ⟨_, ⟨b, h1, rfl⟩, rfl⟩ := hx
        exact ⟨⟨b, h1⟩, rfl⟩) (fun _ _ h => by obtain ⟨_, h, _⟩ := h; exact h.elim)) K)).mono (fun x B hx => by
        obtain ⟨⟨b, h1⟩, rfl⟩ := hx
        exact ⟨2, .brk, ⟨rfl, rfl⟩, ⟨b, h1⟩, rfl⟩) (fun _ _ h => h.elim)
    · obtain ⟨o, rfl, hoN⟩ := natOf h0
      exact MCt.of (bk_pan rfl (fun k hk => brk_w (RTruncate_a (by omega) pnE_s (nil1 (bTrunc_nil (by omega))))) K)
end
end Go.Proofs.YtfebpbflpdppiaaGreatDoor
namespace Go.Proofs.YtfebpbflpdppiaaGreatDoor
open Go Go.Sl
set_option maxRecDepth 100000
def TrP : TS → Nat → TS → Prop
  | .idle, e, t => e = 3 ∧ t = .idle
  | .act L r, e, t => (e = 0 ∨ e = 2) ∧ ∃ c' d', t = .act ⟨L.bb, c', L.s, d'⟩ r
  | .brk, e, t => e = 2 ∧ t = .brk
def TrC : TS → Nat → TS → Prop
  | .idle, e, t => (e = 0 ∨ e = 3) ∧ t = .idle
  | .act L r, e, t => (e = 0 ∨ e = 3) ∧ (t = .brk ∨ t = .act L r)
  | .brk, e, t => e = 3 ∧ t = .brk
def TrB (c0 : Cn) (s0 : Nat) : TS → Nat → TS → Prop
  | .idle, e, t => e = 0 ∧ ∃ bb, t = .act ⟨bb, lvb c0 s0 [], s0, fun _ => false⟩ []
  | .act L r, e, t => e = 0 ∧ ∃ bb, t = .act ⟨bb, lvb c0 s0 (L :: r), L.s, fun _ => false⟩ (L :: r)
  | .brk, _, _ => False
def TrO : TS → Nat → TS → Prop
  | .idle, e, t => e = 3 ∧ t = .idle
  | .act _ [], e, t => e = 0 ∧ t = .idle
  | .act _ (L2 :: r), e, t => e = 0 ∧ t = .act L2 r
  | .brk, e, t => e = 0 ∧ t = .idle
def TrE (T : Nat) (ro : Bool) (c : Cn) (s : Nat) (l : List Int) : TS → Nat → Cn → Nat → List Int → TS → Prop
  | .idle, e, c', s', l', t => e = 3 ∧ c' = c ∧ s' = s ∧ l' = l ∧ t = .idle
  | .act L [], e, c', s', l', t => t = .idle ∧ if ro then (e = 0 ∨ e = 3) ∧ c' = c ∧ s' = s ∧ l' = l else e = 0 ∧ ∃ done : List Nat, done.Nodup ∧ (∀ j, j ∈ done ↔ L.d j = true) ∧ c' = endC L.c T c L.s done ∧ s' = endS T s L.s done ∧ l' = endP l L.s done
  | .act L (L2 :: r), e, c', s', l', t => e = 0 ∧ c' = c ∧ s' = s ∧ l' = l ∧ ∃ done : List Nat, done.Nodup ∧ (∀ j, j ∈ done ↔ L.d j = true) ∧ t = .act ⟨L2.bb, tc (lvb (shC T c) (s - T) r) (wC L.c 0 L2.c done) L.s, L.s, td (wD L2.d done) L.s⟩ r
  | .brk, _, _, _, _, _ => False
theorem eOr {ea : Addr} {x : Value} {a b : Nat} (h : isErr ea a x ∨ isErr ea b x) : ∃ e, isErr ea e x ∧ (e = a ∨ e = b) := by
  rcases h with h | h
  · exact ⟨a, h, .inl rfl⟩
  · exact ⟨b, h, .inr rfl⟩
attribute [local irreducible] wpList Code.wp Exit.then Exit.inBlock bodyPost RunS RunV G St Ct Sat Ent At Rd GQ QL wpAny wpOp wpQuiet slP Sl.ex sep
attribute [local irreducible] zf memf pgl rng ov cutC zc mapO rdd bme bf bx wC wS wD ptsH
section
variable {glb A : HP} {ea : Addr} {v0 : Value} {hp : Cn → Nat → HP} {T : Nat} {ro : Bool} {rb pb nb : Nat} {c : Cn} {s : Nat} {l : List Int} {K : List HP} {ck : Value}
theorem t_roll (B : BF glb ea v0 hp T ro) (st : TS) (hb : st.bd 400) : MCt Tryz.prog (tv rb) "Rollback" [] (tsH hp T rb ck v0 c s st :: K)
    (fun x B => ∃ e st', TrO st e st' ∧ isErr ea e x ∧ B = tsH hp T rb ck v0 c s st' :: K) (pnP (st = .brk) (tsH hp T rb ck v0 c s st :: K)) := by
  cases st with
  | idle => exact (MCt.of (id_fr (R0 := fun x => ∃ b, x = permV b) (fun cld bp => (RRoll_0 (B.name c s)).mono (fun x B hx => by
      obtain ⟨b, h1, rfl⟩ := hx
      exact ⟨⟨b, h1⟩, cld, rfl⟩) (fun _ _ h => h)) K)).mono (fun x B hx => by
      obtain ⟨⟨b, h1⟩, rfl⟩ := hx
      exact ⟨3, .idle, ⟨rfl, rfl⟩, ⟨b, h1⟩, rfl⟩) (fun _ _ h => h.elim)
  | act L r =>
    have hrl := hb.2
    cases r with
    | nil =>
      refine act_lift fun cld => MCt.of (((RRoll_1 (rb := rb) (bp := some ⟨L.bb, 0, none⟩) (ck := ck) (v' := v0) (cld := cld)).frame (lvH (hp c s) v0 (shC T c) (s - T) [L] :: K)).conv (fun F => Ent.refl _) (fun x B hx => ?_) (fun c B hx => by obtain ⟨_, h, _⟩ := hx; exact h.elim))
      obtain ⟨_, ⟨h1, rfl⟩, rfl⟩ := hx
      refine ⟨_, ⟨0, .idle, ⟨rfl, rfl⟩, h1, rfl⟩, fun F => ?_⟩
      refine (Ent.cons (lv_open [L] (K ++ F))).trans ?_
      refine (Ent.cons (Ent.cons bf_bx)).trans ?_
      exact id_shut (y := some (L.bb, v0, L.s)) (F := K ++ F)
    | cons L2 r =>
      refine (act_to (Q := fun x L' r' => x = .nilIface ∧ L' = L2 ∧ r' = r) fun cld => (a_roll L L2 r (by simp only [List.length_cons] at hrl ⊢; omega)).mono (fun x B hx => by
        obtain ⟨h1, rfl⟩ := hx
        exact ⟨L2, r, ⟨h1, rfl, rfl⟩, _, (by simp only [List.length_cons]; omega), rfl⟩) (fun _ _ h => h)).mono (fun x B hx => ?_) (fun _ _ h => h.elim)
      obtain ⟨_, _, ⟨h1, rfl, rfl⟩, rfl⟩ := hx
      exact ⟨0, .act _ _, ⟨rfl, rfl⟩, h1, rfl⟩
  | brk =>
    refine MCt.of (bk_lift fun n hn => ?_)
    by_cases h1 : n = 1
    · subst h1
      refine ((RRoll_1 (rb := rb) (bp := none) (ck := ck) (v' := v0) (cld := true)).frame (hp c s :: K)).conv (fun F => Ent.refl _) (fun x B hx => ?_) (fun c B hx => by obtain ⟨_, h, _⟩ := hx; exact h.elim)
      obtain ⟨_, ⟨h1, rfl⟩, rfl⟩ := hx
      exact ⟨_, ⟨0, .idle, ⟨rfl, rfl⟩, h1, rfl⟩, fun F => id_shut0 (F := K ++ F)⟩
    · exact ((RRoll_b (rb := rb) (ck := ck) (v' := v0) (cld := true) (tl := (n : Int)) (by omega)).frame (hp c s :: K)).conv (fun F => Ent.refl _) (fun x B hx => by obtain ⟨_, h, _⟩ := hx; exact h.elim) (fun c B hx => by
        obtain ⟨_, ⟨h1, rfl⟩, rfl⟩ := hx
        exact ⟨_, ⟨rfl, h1, rfl⟩, fun F => bk_shut (F := K ++ F) hn⟩)
theorem t_begin (B : BF glb ea v0 hp T ro) (hs : s ≤ 1000000) (st : TS) (hb : st.bd 400) : MCt Tryz.prog (tv rb) "BeginUpdate" [] (tsH hp T rb ck v0 c s st :: K)
    (fun x B => ∃ e st', TrB (shC T c) (s - T) st e st' ∧ isErr ea e x ∧ B = tsH hp T rb ck v0 c s st' :: K) (pnP (st = .brk) (tsH hp T rb ck v0 c s st :: K)) := by
  cases st with
  | idle =>
    refine MCt.of (Ct.exE fun y => ((RBegin_0 (rb := rb) (ck := ck) (cld := y.1) (bp := deadP y.2) (lvb (shC T c) (s - T) []) (B.size c s (by omega))).frame (dead y.2 ++ K)).conv (fun F => ?_) (fun x B hx => ?_) (fun c B hx => by obtain ⟨_, h, _⟩ := hx; exact h.elim))
    · simp only [List.append_assoc]
      exact (sep_open ([rP rb (deadP y.2) ck v0 0 y.1, hp c s] ++ dead y.2) (K ++ F)).trans (by simp only [List.append_assoc]; exact Ent.refl _)
    · obtain ⟨_, ⟨bb, h1, rfl⟩, rfl⟩ := hx
      refine ⟨_, ⟨0, .act ⟨bb, lvb (shC T c) (s - T) [], s - T, fun _ => false⟩ [], ⟨rfl, bb, rfl⟩, h1, rfl⟩, fun F => ?_⟩
      have e1 : Ent ([rP rb (some ⟨bb, 0, none⟩) ck v0 1 y.1, hp c s, bf bb v0 (lvb (shC T c) (s - T) []) (lvb (shC T c) (s - T) []) (s - T) (fun _ => false)] ++ (dead y.2 ++ K) ++ F) (rP rb (some ⟨bb, 0, none⟩) ck v0 1 y.1 :: sep [hp c s, bf bb v0 (lvb (shC T c) (s - T) []) (lvb (shC T c) (s - T) []) (s - T) (fun _ => false)] :: (dead y.2 ++ (K ++ F))) := by
        simp only [List.append_assoc]
        exact Ent.cons (sep_shut [_, _] _)
      refine e1.trans (Ent.trans (Ent.append [_, _] ?_) (ac_shut (rb := rb) (ck := ck) (v0 := v0) (X := hp c s) (c0 := shC T c) (s0 := s - T) (L := ⟨bb, lvb (shC T c) (s - T) [], s - T, fun _ => false⟩) (r := []) (F := K ++ F) (cld := y.1) (tl := 1) rfl))
      cases y.2 with
      | none => exact Ent.refl _
      | some z => exact Ent.drop
  | act L r =>
    have hrl := hb.2
    refine (act_to (Q := fun x L' r' => x = .nilIface ∧ ∃ bb, L' = ⟨bb, lvb (shC T c) (s - T) (L :: r), L.s, fun _ => false⟩ ∧ r' = L :: r) fun cld => (a_begin (B.size c s (by omega)) L r (by omega)).mono (fun x B hx => by
        obtain ⟨bb, h1, rfl⟩ := hx
        exact ⟨_, _, ⟨h1, bb, rfl, rfl⟩, _, (by simp only [List.length_cons]; omega), rfl⟩) (fun _ _ h => h)).mono (fun x B hx => ?_) (fun _ _ h => h.elim)
    obtain ⟨_, _, ⟨h1, bb, rfl, rfl⟩, rfl⟩ := hx
    exact ⟨0, .act _ _, ⟨rfl, bb, rfl⟩, h1, rfl⟩
  | brk => exact MCt.of (bk_pan rfl (fun n hn => RBegin_b (by omega)) K)
theorem t_end (B : BF glb ea v0 hp T ro) (hglb : Rd [glb] ⟨1, 0, none⟩ (eofV ea)) (hT : T ≤ 1000000) (hs : s ≤ 1000000) (hl : l.length ≤ 1000) (st : TS) (hb : st.bd 400) : MCt Tryz.prog (tv rb) "EndUpdate" [] (tsH hp T rb (ckV pb nb) v0 c s st :: glb :: ptH pb nb v0 l :: K)
    (fun x B => ∃ e c' s' l' st', TrE T ro c s l st e c' s' l' st' ∧ isErr ea e x ∧ B = tsH hp T rb (ckV pb nb) v0 c' s' st' :: glb :: ptH pb nb v0 l' :: K) (pnP (st = .brk) (tsH hp T rb (ckV pb nb) v0 c s st :: glb :: ptH pb nb v0 l :: K)) := by
  cases st with
  | idle => exact (MCt.of (id_fr (R0 := fun x => ∃ b, x = permV b) (fun cld bp => (REnd_0 (B.name c s)).mono (fun x B hx => by
      obtain ⟨b, h1, rfl⟩ := hx
      exact ⟨⟨b, h1⟩, cld, rfl⟩) (fun _ _ h => h)) (glb :: ptH pb nb v0 l :: K))).mono (fun x B hx => by
      obtain ⟨⟨b, h1⟩, rfl⟩ := hx
      exact ⟨3, c, s, l, .idle, ⟨rfl, rfl, rfl, rfl, rfl⟩, ⟨b, h1⟩, rfl⟩) (fun _ _ h => h.elim)
  | act L r =>
    have hrl := hb.2
    have hLs := hb.1
    cases r with
    | nil =>
      have hL1 := hLs L (by simp)
      cases ro with
      | false =>
        refine act_lift fun cld => ((a_end1 (rb := rb) (cld := cld) (pb := pb) (nb := nb) (l := l) B c s (by omega) L (by omega) (by omega)).frame (glb :: K)).conv (fun F => ?_) (fun x B hx => ?_) (fun c B hx => by obtain ⟨_, h, _⟩ := hx; exact h.elim)
        · exact arr_ent 0 [3, 0, 0, 0] _
        · obtain ⟨_, ⟨done, h1, h2, h3, rfl⟩, rfl⟩ := hx
          refine ⟨_, ⟨0, _, _, _, .idle, ⟨rfl, by rw [if_neg (by simp)]; exact ⟨rfl, done, h1, h2, rfl, rfl, rfl⟩⟩, h3, rfl⟩, fun F => ?_⟩
          exact Ent.trans (arr_ent 0 [1, 1, 1, 0] _) (id_shut0 (F := glb :: ptH pb nb v0 (endP l L.s done) :: K ++ F))
      | true =>
        refine act_lift fun cld => ((a_endP (rb := rb) (cld := cld) (pb := pb) (nb := nb) (PT := ptH pb nb v0 l) B c s (by omega) L (by omega)).frame (glb :: K)).conv (fun F => ?_) (fun x B hx => ?_) (fun c B hx => by obtain ⟨_, h, _⟩ := hx; exact h.elim)
        · exact arr_ent 0 [3, 0, 0, 0] _
        · obtain ⟨_, h1, rfl⟩ := hx
          rcases h1 with ⟨h1, rfl⟩ | ⟨⟨b, h1⟩, rfl⟩
          · refine ⟨_, ⟨0, c, s, l, .idle, ⟨rfl, by rw [if_pos rfl]; exact ⟨.inl rfl, rfl, rfl, rfl⟩⟩, h1, rfl⟩, fun F => ?_⟩
            exact Ent.trans (arr_ent 0 [1, 1, 1, 0] _) (id_shut0 (F := glb :: ptH pb nb v0 l :: K ++ F))
          · refine ⟨_, ⟨3, c, s, l, .idle, ⟨rfl, by rw [if_pos rfl]; exact ⟨.inr rfl, rfl, rfl, rfl⟩⟩, ⟨b, h1⟩, rfl⟩, fun F => ?_⟩
            exact Ent.trans (arr_ent 0 [1, 1, 1, 1, 0] _) (id_shut (y := some (L.bb, v0, L.s)) (F := glb :: ptH pb nb v0 l :: K ++ F))
    | cons L2 r =>
      have hL1 := hLs L (by simp)
      simp only [List.length_cons] at hrl
      refine act_lift fun cld => ((a_endA (c0 := shC T c) (s0 := s - T) (rb := rb) (ck := ckV pb nb) (cld := cld) (tl := (((L2 :: r).length : Nat) : Int) + 1) (N := 1000000000000 - T) (by omega) hglb B.isI (B.rdc c s (by omega) (by omega)) L L2 r (fun L' h => by have := hLs L' h; omega) (by simp only [List.length_cons]; omega) (by omega)).frame (ptH pb nb v0 l :: K)).conv (fun F => ?_) (fun x B hx => ?_) (fun c B hx => by obtain ⟨_, h, _⟩ := hx; exact h.elim)
      · exact arr_ent 0 [2, 0, 0] _
      · obtain ⟨_, ⟨done, h1, h2, h3, rfl⟩, rfl⟩ := hx
        refine ⟨_, ⟨0, c, s, l, .act _ r, ⟨rfl, rfl, rfl, rfl, done, h1, h2, rfl⟩, h3, rfl⟩, fun F => ?_⟩
        exact Ent.trans (arr_ent 0 [1, 1] _) (ac_shut (F := glb :: ptH pb nb v0 l :: K ++ F) (by simp only [List.length_cons]; omega))
  | brk => exact MCt.of (bk_pan rfl (fun n hn => REnd_b (by omega)) (glb :: ptH pb nb v0 l :: K))
end
end Go.Proofs.YtfebpbflpdppiaaGreatDoor
namespace Go.Proofs.YtfebpbflpdppiaaGreatDoor
open Go Go.Sl
set_option maxRecDepth 100000
attribute [local irreducible] wpList Code.wp Exit.then Exit.inBlock bodyPost RunS RunV G St Ct Sat Ent At Rd GQ QL wpAny wpOp wpQuiet slP Sl.ex sep
attribute [local irreducible] zf memf pgl rng ov cutC zc mapO rdd bme bf bx wC wS wD ptsH
section
variable {glb A : HP} {ea : Addr} {v0 : Value} {hp : Cn → Nat → HP} {T : Nat} {ro : Bool} {rb pb nb : Nat} {c : Cn} {s : Nat} {l : List Int} {K : List HP} {ck : Value}
theorem t_punch (B : BF glb ea v0 hp T ro) (st : TS) (hb : st.bd 400) (off n : Int) (ho : off ≤ 1000000 ∧ n ≤ 1000000) : MCt Tryz.prog (tv rb) "PunchHole" [.int .i64 off, .int .i64 n] (tsH hp T rb ck v0 c s st :: K)
    (fun x B => ∃ e st', TrP st e st' ∧ isErr ea e x ∧ B = tsH hp T rb ck v0 c s st' :: K) (pnP (st = .brk) (tsH hp T rb ck v0 c s st :: K)) := by
  cases st with
  | idle => exact (MCt.of (id_fr (R0 := fun x => ∃ b, x = permV b) (fun cld bp => (RPunchHole_0 _ _ (B.name c s)).mono (fun x B hx => by
      obtain ⟨b, h1, rfl⟩ := hx
      exact ⟨⟨b, h1⟩, cld, rfl⟩) (fun _ _ h => h)) K)).mono (fun x B hx => by
      obtain ⟨⟨b, h1⟩, rfl⟩ := hx
      exact ⟨3, .idle, ⟨rfl, rfl⟩, ⟨b, h1⟩, rfl⟩) (fun _ _ h => h.elim)
  | act L r =>
    have hrl := hb.2
    have hL1 := hb.1 L (by simp)
    by_cases h0 : off < 0
    · exact (MCt.of (act_u (R0 := fun x => ∃ b, x = invV b) fun cld => (RPunch_off (by omega) h0 (B.name c s)).mono (fun x B hx => by
        obtain ⟨b, h1, rfl⟩ := hx
        exact ⟨⟨b, h1⟩, rfl⟩) (fun _ _ h => h))).mono (fun x B hx => by
        obtain ⟨⟨b, h1⟩, rfl⟩ := hx
        exact ⟨2, .act L r, ⟨.inr rfl, L.c, L.d, rfl⟩, ⟨b, h1⟩, rfl⟩) (fun _ _ h => h.elim)
    by_cases h1 : n < 0
    · exact (MCt.of (act_u (R0 := fun x => ∃ b, x = invV b) fun cld => (RPunch_n (by omega) (by omega) h1 (B.name c s)).mono (fun x B hx => by
        obtain ⟨b, h1, rfl⟩ := hx
        exact ⟨⟨b, h1⟩, rfl⟩) (fun _ _ h => h))).mono (fun x B hx => by
        obtain ⟨⟨b, h1⟩, rfl⟩ := hx
        exact ⟨2, .act L r, ⟨.inr rfl, L.c, L.d, rfl⟩, ⟨b, h1⟩, rfl⟩) (fun _ _ h => h.elim)
    obtain ⟨o, rfl, _⟩ := natOf h0
    obtain ⟨k, rfl, _⟩ := natOf h1
    refine MCt.of (ac_lift fun cld => ((RPunch_c (ea := ea) (rb := rb) (bb := L.bb) (ck := ck) (v' := v0) (A := hp c s) (tl := (r.length : Int) + 1) (cld := cld) (pv := lvV v0 r) (cb := lvb (shC T c) (s - T) r) (c := L.c) (d := L.d) (s := L.s) (off := o) (n := k) (by omega) (by omega) (by omega) (B.name c s)).frame (lvPl v0 (shC T c) (s - T) r ++ K)).conv (fun F => ?_) (fun x B hx => ?_) (fun c B hx => by obtain ⟨_, h, _⟩ := hx; exact h.elim))
    · simp only [List.append_assoc]
      exact Ent.cons (lv_open (L :: r) (K ++ F))
    · obtain ⟨_, ⟨h2, c', d', rfl⟩, rfl⟩ := hx
      obtain ⟨e, h3, h4⟩ := eOr h2
      refine ⟨_, ⟨e, .act ⟨L.bb, c', L.s, d'⟩ r, ⟨h4, c', d', rfl⟩, h3, rfl⟩, fun F => ?_⟩
      simp only [List.append_assoc]
      exact (Ent.cons (lv_shut (⟨L.bb, c', L.s, d'⟩ :: r) (K ++ F))).trans (ac_shut (rb := rb) (ck := ck) (v0 := v0) (X := hp c s) (c0 := shC T c) (s0 := s - T) (L := ⟨L.bb, c', L.s, d'⟩) (r := r) (F := K ++ F) (cld := cld) rfl)
  | brk =>
    by_cases h0 : off < 0
    · exact (MCt.of (bk_fr (R0 := fun x => ∃ b, x = invV b) (fun k hk => (RPunch_off (by omega) h0 (B.name c s)).mono (fun x B hx => by
        obtain ⟨b, h1, rfl⟩ := hx
        exact ⟨⟨b, h1⟩, rfl⟩) (fun _ _ h => h)) K)).mono (fun x B hx => by
        obtain ⟨⟨b, h1⟩, rfl⟩ := hx
        exact ⟨2, .brk, ⟨rfl, rfl⟩, ⟨b, h1⟩, rfl⟩) (fun _ _ h => h.elim)
    by_cases h1 : n < 0
    · exact (MCt.of (bk_fr (R0 := fun x => ∃ b, x = invV b) (fun k hk => (RPunch_n (by omega) (by omega) h1 (B.name c s)).mono (fun x B hx => by
        obtain ⟨b, h1, rfl⟩ := hx
        exact ⟨⟨b, h1⟩, rfl⟩) (fun _ _ h => h)) K)).mono (fun x B hx => by
        obtain ⟨⟨b, h1⟩, rfl⟩ := hx
        exact ⟨2, .brk, ⟨rfl, rfl⟩, ⟨b, h1⟩, rfl⟩) (fun _ _ h => h.elim)
    obtain ⟨o, rfl, _⟩ := natOf h0
    obtain ⟨k, rfl, _⟩ := natOf h1
    exact MCt.of (bk_pan rfl (fun q hq => RPunch_b (by omega) (by omega)) K)
theorem t_close (B : BF glb ea v0 hp T ro) (st : TS) (hb : st.bd 400) : MCt Tryz.prog (tv rb) "Close" [] (tsH hp T rb ck v0 c s st :: K)
    (fun x B => ∃ e st', TrC st e st' ∧ isErr ea e x ∧ B = tsH hp T rb ck v0 c s st' :: K) nev := by
  cases st with
  | idle =>
    refine MCt.of (Ct.exE fun y => ?_)
    obtain ⟨cld, y⟩ := y
    cases cld with
    | true =>
      refine ((RClose_t (rb := rb) (ck := ck) (bp := deadP y) (tl := 0) (B.name c s)).frame (dead y ++ K)).conv (fun F => ?_) (fun x B hx => ?_) (fun c B hx => by obtain ⟨_, h, _⟩ := hx; exact h.elim)
      · simp only [List.append_assoc]
        exact (sep_open ([rP rb (deadP y) ck v0 0 true, hp c s] ++ dead y) (K ++ F)).trans (by simp only [List.append_assoc]; exact Ent.refl _)
      · obtain ⟨_, ⟨b, h1, rfl⟩, rfl⟩ := hx
        refine ⟨_, ⟨3, .idle, ⟨.inr rfl, rfl⟩, ⟨b, h1⟩, rfl⟩, fun F => ?_⟩
        have := id_shut (rb := rb) (ck := ck) (v0 := v0) (X := hp c s) (cld := true) (y := y) (F := K ++ F)
        simp only [List.append_assoc] at this ⊢
        exact this
    | false =>
      cases y with
      | none =>
        refine ((RClose_f (rb := rb) (ck := ck) (tl := 0) (B.name c s) (B.close c s)).frame K).conv (fun F => ?_) (fun x B hx => ?_) (fun c B hx => by obtain ⟨_, h, _⟩ := hx; exact h.elim)
        · exact sep_open [rP rb none ck v0 0 false, hp c s] (K ++ F)
        · obtain ⟨_, ⟨h1, rfl⟩, rfl⟩ := hx
          obtain ⟨e, h3, h4⟩ := eOr h1
          exact ⟨_, ⟨e, .idle, ⟨h4, rfl⟩, h3, rfl⟩, fun F => id_shut0 (F := K ++ F)⟩
      | some z =>
        obtain ⟨zb, zp, zs⟩ := z
        refine ((RClose_d (rb := rb) (ck := ck) (tl := 0) (bb := zb) (pv := zp) (s := zs) (Y := bx zb zp zs) (fun F => Ent.refl _) (B.name c s) (B.close c s)).frame K).conv (fun F => ?_) (fun x B hx => ?_) (fun c B hx => by obtain ⟨_, h, _⟩ := hx; exact h.elim)
        · exact sep_open [rP rb (some ⟨zb, 0, none⟩) ck v0 0 false, hp c s, bx zb zp zs] (K ++ F)
        · obtain ⟨_, ⟨h1, h2⟩, rfl⟩ := hx
          obtain ⟨e, h3, h4⟩ := eOr h1
          rcases h2 with rfl | rfl
          · exact ⟨_, ⟨e, .idle, ⟨h4, rfl⟩, h3, rfl⟩, fun F => (Ent.append [_, _] Ent.drop).trans (id_shut0 (F := K ++ F))⟩
          · exact ⟨_, ⟨e, .idle, ⟨h4, rfl⟩, h3, rfl⟩, fun F => id_shut (y := some (zb, zp, zs)) (F := K ++ F)⟩
  | act L r =>
    have hrl := hb.2
    refine MCt.of (ac_lift fun cld => ?_)
    cases cld with
    | true =>
      refine ((RClose_t (rb := rb) (ck := ck) (bp := some ⟨L.bb, 0, none⟩) (tl := (r.length : Int) + 1) (B.name c s)).frame (lvPl v0 (shC T c) (s - T) (L :: r) ++ K)).conv (fun F => ?_) (fun x B hx => ?_) (fun c B hx => by obtain ⟨_, h, _⟩ := hx; exact h.elim)
      · simp only [List.append_assoc]
        exact Ent.cons (lv_open (L :: r) (K ++ F))
      · obtain ⟨_, ⟨b, h1, rfl⟩, rfl⟩ := hx
        refine ⟨_, ⟨3, .act L r, ⟨.inr rfl, .inr rfl⟩, ⟨b, h1⟩, rfl⟩, fun F => ?_⟩
        simp only [List.append_assoc]
        exact (Ent.cons (lv_shut (L :: r) (K ++ F))).trans (ac_shut (F := K ++ F) rfl)
    | false =>
      refine ((RClose_d (rb := rb) (ck := ck) (tl := (r.length : Int) + 1) (bb := L.bb) (pv := lvV v0 r) (s := L.s) (Y := lvP v0 (shC T c) (s - T) L r) (fun F => bf_bx) (B.name c s) (B.close c s)).frame (lvPl v0 (shC T c) (s - T) r ++ K)).conv (fun F => ?_) (fun x B hx => ?_) (fun c B hx => by obtain ⟨_, h, _⟩ := hx; exact h.elim)
      · simp only [List.append_assoc]
        exact Ent.cons (lv_open (L :: r) (K ++ F))
      · obtain ⟨_, ⟨h1, h2⟩, rfl⟩ := hx
        obtain ⟨e, h3, h4⟩ := eOr h1
        rcases h2 with rfl | rfl
        · refine ⟨_, ⟨e, .brk, ⟨h4, .inl rfl⟩, h3, rfl⟩, fun F => ?_⟩
          simp only [List.append_assoc]
          have hD : ∀ (A F : List HP), Ent (A ++ F) F := fun A F => by
            induction A with
            | nil => exact Ent.refl _
            | cons X A ih => exact Ent.drop.trans ih
          exact (Ent.append [_, _] (Ent.drop.trans (hD (lvPl v0 (shC T c) (s - T) r) (K ++ F)))).trans (bk_shut (n := r.length + 1) (F := K ++ F) (by omega))
        · refine ⟨_, ⟨e, .act L r, ⟨h4, .inr rfl⟩, h3, rfl⟩, fun F => ?_⟩
          simp only [List.append_assoc]
          exact (Ent.cons (lv_shut (L :: r) (K ++ F))).trans (ac_shut (F := K ++ F) rfl)
  | brk => exact (MCt.of (bk_fr (R0 := fun x => ∃ b, x = permV b) (fun k hk => (RClose_t (B.name c s)).mono (fun x B hx => by
      obtain ⟨b, h1, rfl⟩ := hx
      exact ⟨⟨b, h1⟩, rfl⟩) (fun _ _ h => h)) K)).mono (fun x B hx => by
      obtain ⟨⟨b, h1⟩, rfl⟩ := hx
      exact ⟨3, .brk, ⟨rfl, rfl⟩, ⟨b, h1⟩, rfl⟩) (fun _ _ h => h.elim)
end
end Go.Proofs.YtfebpbflpdppiaaGreatDoor
namespace Go.Proofs.YtfebpbflpdppiaaGreatDoor
open Go Go.Sl
set_option maxRecDepth 100000
/-- a stack: whether a rollback is in it, whether there is a rollback beneath the topmost one, the sums of the offsets beneath and above the topmost rollback -/
structure Cf where
  has : Bool
  ro : Bool
  T : Nat
  u : Nat
structure MS where
  c : Cn
  s : Nat
  l : List Int
  t : TS
def MS.ok (σ : MS) : Prop := σ.s ≤ 1000000 ∧ σ.t.bd 400 ∧ σ.l.length ≤ 1000
def MS.to (σ : MS) (t : TS) : MS := ⟨σ.c, σ.s, σ.l, t⟩
def StW (g : Cf) (off : Int) (bs : List UInt8) (σ : MS) (n : Int) (e : Nat) (σ' : MS) : Prop :=
  if off < 0 then (bs ≠ [] → e = 2 ∨ e = 3) ∧ σ' = σ
  else match g.has with
    | false => e = 0 ∧ n = (bs.length : Int) ∧ σ' = ⟨ov σ.c (g.T + off.toNat) bs, if bs.length = 0 then σ.s else max σ.s (g.T + off.toNat + bs.length), σ.l, σ.t⟩
    | true => ∃ t, TrW ((g.u + off.toNat : Nat) : Int) bs σ.t n e t ∧ σ' = σ.to t
def StR (g : Cf) (off : Int) (old : List UInt8) (σ : MS) (n e : Nat) (nw : List UInt8) : Prop :=
  if off < 0 then (e = 0 ∨ e = 2) ∧ (0 < old.length → e = 2) ∧ n = 0 ∧ nw = old
  else match g.has with
    | false => TrR g.T σ.c σ.s off old .idle n e nw
    | true => TrR g.T σ.c σ.s ((g.u + off.toNat : Nat) : Int) old σ.t n e nw
def StT (g : Cf) (n : Int) (σ : MS) (e : Nat) (σ' : MS) : Prop :=
  match g.has with
    | false => if (g.T : Int) + n < 0 then e = 2 ∧ σ' = σ else e = 0 ∧ σ' = ⟨cutC σ.c ((g.T : Int) + n).toNat, ((g.T : Int) + n).toNat, σ.l, σ.t⟩
    | true => ∃ t, TrT (shC g.T σ.c) (σ.s - g.T) (n + (g.u : Int)) σ.t e t ∧ σ' = σ.to t
def StS (g : Cf) (σ : MS) (q : Int) : Prop :=
  match g.has with
    | false => q = ((σ.s - g.T : Nat) : Int)
    | true => ∃ q0 : Nat, (σ.t ≠ .brk → SzR g.T σ.s σ.t (q0 : Int)) ∧ q = ((q0 - g.u : Nat) : Int)
def StX (g : Cf) (R : TS → Nat → TS → Prop) (σ : MS) (e : Nat) (σ' : MS) : Prop :=
  match g.has with
    | false => (e = 0 ∨ e = 3) ∧ σ' = σ
    | true => ∃ t, R σ.t e t ∧ σ' = σ.to t
def StE (g : Cf) (σ : MS) (e : Nat) (σ' : MS) : Prop :=
  match g.has with
    | false => (e = 0 ∨ e = 3) ∧ σ' = σ
    | true => TrE g.T g.ro σ.c σ.s σ.l σ.t e σ'.c σ'.s σ'.l σ'.t
/-- what the methods of a stack do -/
structure Mc (glb : HP) (ea : Addr) (g : Cf) (v : Value) (H : MS → HP) : Prop where
  write : ∀ σ : MS, σ.ok → ∀ (A : HP) (bs : List UInt8) (a : Option Addr) (k cap : Nat) (off : Int), Src [A] 1 (.slice a k cap) k (u8s bs) → k ≤ cap → k ≤ 1000000 → -2000000000000 ≤ off ∧ off ≤ 100000 →
    MCt Tryz.prog v "WriteAt" [.slice a k cap, .int .i64 off] [glb, H σ, A] (fun x B => ∃ n y e σ', StW g off bs σ n e σ' ∧ x = .tuple #[.int .i64 n, y] ∧ isErr ea e y ∧ B = [glb, H σ', A]) (pnP (σ.t = .brk) [glb, H σ, A])
  read : ∀ σ : MS, σ.ok → ∀ (db e0 : Nat) (old : List UInt8) (k : Nat) (off : Int), old.length = k → k ≤ 2000000 → -2000000000000 ≤ off ∧ off ≤ 100000 →
    MCt Tryz.prog v "ReadAt" [.slice (some ⟨db, 0, none⟩) k k, .int .i64 off] [glb, H σ, blk db (cl (u8s old) e0)] (fun x B => ∃ (n : Nat) (y : Value) (e : Nat) (nw : List UInt8), StR g off old σ n e nw ∧ x = .tuple #[.int .i64 (n : Nat), y] ∧ isErr ea e y ∧ B = [glb, H σ, blk db (cl (u8s nw) e0)]) (pnP (σ.t = .brk) [glb, H σ, blk db (cl (u8s old) e0)])
  trunc : ∀ σ : MS, σ.ok → ∀ n : Int, -2000000000000 ≤ n ∧ n ≤ 100000 → MCt Tryz.prog v "Truncate" [.int .i64 n] [glb, H σ] (fun x B => ∃ e σ', StT g n σ e σ' ∧ isErr ea e x ∧ B = [glb, H σ']) (pnP (σ.t = .brk) [glb, H σ])
  size : ∀ σ : MS, σ.ok → MCt Tryz.prog v "Size" [] [glb, H σ] (fun x B => ∃ q : Int, StS g σ q ∧ x = .tuple #[.int .i64 q, .nilIface] ∧ B = [glb, H σ]) (pnP (σ.t = .brk) [glb, H σ])
  punch : ∀ σ : MS, σ.ok → ∀ off n : Int, -2000000000000 ≤ off ∧ off ≤ 100000 → n ≤ 100000 → MCt Tryz.prog v "PunchHole" [.int .i64 off, .int .i64 n] [glb, H σ] (fun x B => ∃ e σ', StX g TrP σ e σ' ∧ isErr ea e x ∧ B = [glb, H σ']) (pnP (σ.t = .brk) [glb, H σ])
  begin_ : ∀ σ : MS, σ.ok → MCt Tryz.prog v "BeginUpdate" [] [glb, H σ] (fun x B => ∃ e σ', StX g (TrB (shC g.T σ.c) (σ.s - g.T)) σ e σ' ∧ isErr ea e x ∧ B = [glb, H σ']) (pnP (σ.t = .brk) [glb, H σ])
  end_ : ∀ σ : MS, σ.ok → MCt Tryz.prog v "EndUpdate" [] [glb, H σ] (fun x B => ∃ e σ', StE g σ e σ' ∧ isErr ea e x ∧ B = [glb, H σ']) (pnP (σ.t = .brk) [glb, H σ])
  roll : ∀ σ : MS, σ.ok → MCt Tryz.prog v "Rollback" [] [glb, H σ] (fun x B => ∃ e σ', StX g TrO σ e σ' ∧ isErr ea e x ∧ B = [glb, H σ']) (pnP (σ.t = .brk) [glb, H σ])
  sync : ∀ σ : MS, σ.ok → MCt Tryz.prog v "Sync" [] [glb, H σ] (fun x B => ∃ e σ', (e = 0 ∧ σ' = σ) ∧ isErr ea e x ∧ B = [glb, H σ']) (pnP (σ.t = .brk) [glb, H σ])
  close : ∀ σ : MS, σ.ok → MCt Tryz.prog v "Close" [] [glb, H σ] (fun x B => ∃ e σ', StX g TrC σ e σ' ∧ isErr ea e x ∧ B = [glb, H σ']) (pnP (σ.t = .brk) [glb, H σ])
section
variable {P : Program} {v : Value} {n : String} {vs : List Value} {C D : List HP} {a b glb : HP}
theorem mperm (F : List HP) : Ent (glb :: sep (C ++ [a, b]) :: D ++ F) ((C ++ (a :: glb :: (D ++ [b]))) ++ F) := by
  refine (Ent.cons (sep_open (C ++ [a, b]) (D ++ F))).trans (Ent.perm ?_)
  simp only [List.append_assoc, List.cons_append, List.nil_append]
  exact (List.perm_middle (a := glb) (l₁ := C)).symm.trans (List.Perm.append_left C ((List.Perm.swap a glb _).trans (List.Perm.cons a (List.Perm.cons glb List.perm_middle.symm))))
theorem mperm' (F : List HP) : Ent ((C ++ (a :: glb :: (D ++ [b]))) ++ F) (glb :: sep (C ++ [a, b]) :: D ++ F) := by
  refine Ent.trans (Ent.perm ?_) (Ent.cons (sep_shut (C ++ [a, b]) (D ++ F)))
  simp only [List.append_assoc, List.cons_append, List.nil_append]
  exact (List.Perm.append_left C ((List.Perm.cons a (List.Perm.cons glb List.perm_middle)).trans (List.Perm.swap glb a _))).trans (List.perm_middle (a := glb) (l₁ := C))
theorem mpk {R : Value → List HP → Prop} {E : List PanicEntry → List HP → Prop} {R' : Value → HP → HP → List HP → Prop} {p : Prop} (h : MCt P v n vs (C ++ (a :: glb :: (D ++ [b]))) (xR C R) (xE C E)) (hR : ∀ x B, R x B → ∃ a' b' D', R' x a' b' D' ∧ B = a' :: glb :: (D' ++ [b'])) (hE : ∀ c B, E c B → pnP p (a :: glb :: (D ++ [b])) c B) :
    MCt P v n vs (glb :: sep (C ++ [a, b]) :: D) (fun x B => ∃ a' b' D', R' x a' b' D' ∧ B = glb :: sep (C ++ [a', b']) :: D') (pnP p (glb :: sep (C ++ [a, b]) :: D)) :=
  h.conv mperm (fun x B hx => by
    obtain ⟨B', h1, rfl⟩ := hx
    obtain ⟨a', b', D', h2, rfl⟩ := hR _ _ h1
    exact ⟨_, ⟨a', b', D', h2, rfl⟩, mperm'⟩) (fun c B hx => by
    obtain ⟨B', h1, rfl⟩ := hx
    obtain ⟨hp, h2, rfl⟩ := hE _ _ h1
    exact ⟨_, ⟨hp, h2, rfl⟩, mperm'⟩)
end
end Go.Proofs.YtfebpbflpdppiaaGreatDoor
namespace Go.Proofs.YtfebpbflpdppiaaGreatDoor
open Go Go.Sl
set_option maxRecDepth 100000
def mcH (hp : Cn → Nat → HP) (T rb pb nb : Nat) (v0 : Value) (inn : List (Nat × Nat)) (σ : MS) : HP := sep (chB (tv rb) inn ++ [tsH hp T rb (ckV pb nb) v0 σ.c σ.s σ.t, ptH pb nb v0 σ.l])
attribute [local irreducible] wpList Code.wp Exit.then Exit.inBlock bodyPost RunS RunV G St Ct Sat Ent At Rd GQ QL wpAny wpOp wpQuiet slP Sl.ex sep
attribute [local irreducible] zf memf pgl rng ov cutC zc mapO rdd bme bf bx wC wS wD ptsH tsH ptH
section
variable {glb : HP} {ea : Addr} {v0 : Value} {hp : Cn → Nat → HP} {T : Nat} {ro : Bool} {rb pb nb : Nat} {inn : List (Nat × Nat)}
theorem mc_write (B : BF glb ea v0 hp T ro) (hglb : Rd [glb] ⟨1, 0, none⟩ (eofV ea)) (hT : T ≤ 500000) (hu : chT inn ≤ 500000) (σ : MS) (hok : σ.ok) (A : HP) (bs : List UInt8) (a : Option Addr) (k cap : Nat) (off : Int) (hsrc : Src [A] 1 (.slice a k cap) k (u8s bs)) (hcp : k ≤ cap) (hk : k ≤ 1000000) (ho : -2000000000000 ≤ off ∧ off ≤ 100000) :
    MCt Tryz.prog (chV (tv rb) inn) "WriteAt" [.slice a k cap, .int .i64 off] [glb, mcH hp T rb pb nb v0 inn σ, A] (fun x B => ∃ n y e σ', StW ⟨true, ro, T, chT inn⟩ off bs σ n e σ' ∧ x = .tuple #[.int .i64 n, y] ∧ isErr ea e y ∧ B = [glb, mcH hp T rb pb nb v0 inn σ', A]) (pnP (σ.t = .brk) [glb, mcH hp T rb pb nb v0 inn σ, A]) := by
  obtain ⟨c, s, l, t⟩ := σ
  obtain ⟨hs, hb, hl⟩ := hok
  dsimp only at hs hb hl
  by_cases h0 : off < 0
  · have key : MCt Tryz.prog (chV (tv rb) inn) "WriteAt" [.slice a k cap, .int .i64 off] (chB (tv rb) inn ++ (tsH hp T rb (ckV pb nb) v0 c s t :: glb :: ([A] ++ [ptH pb nb v0 l]))) (xR (chB (tv rb) inn) (fun x B => ∃ n y e, (bs ≠ [] → e = 2 ∨ e = 3) ∧ x = .tuple #[.int .i64 n, y] ∧ isErr ea e y ∧ B = tsH hp T rb (ckV pb nb) v0 c s t :: glb :: ([A] ++ [ptH pb nb v0 l]))) (xE (chB (tv rb) inn) (pnP (t = .brk) (tsH hp T rb (ckV pb nb) v0 c s t :: glb :: ([A] ++ [ptH pb nb v0 l])))) := by
      cases inn with
      | nil =>
        refine ch0 ((t_write B hglb (by omega) hs t hb bs a k cap off hsrc hcp hk (by omega)).mono (fun x B hx => ?_) (fun _ _ h => h))
        obtain ⟨n, y, e, st', h1, h2, h3, rfl⟩ := hx
        cases t with
        | idle =>
          obtain ⟨rfl, rfl, rfl⟩ := h1
          exact ⟨_, _, _, fun _ => .inr rfl, h2, h3, rfl⟩
        | act L r =>
          rw [TrW, if_pos h0] at h1
          obtain ⟨h4, rfl⟩ := h1
          exact ⟨_, _, _, fun h => .inl (h4 h), h2, h3, rfl⟩
        | brk => exact h1.elim
      | cons x inn =>
        obtain ⟨ib, io⟩ := x
        refine (ch_writeN (sl := .slice a k cap) (t_name (K := glb :: ([A] ++ [ptH pb nb v0 l])) B t) ib io inn h0).mono (fun x B hx => ?_) (fun _ _ h => h.elim)
        obtain ⟨b, h1, rfl⟩ := hx
        exact ⟨_, ⟨0, invV b, 2, fun _ => .inl rfl, h1, ⟨b, rfl⟩, rfl⟩, rfl⟩
    refine (mpk key (R' := fun x a' b' D' => a' = tsH hp T rb (ckV pb nb) v0 c s t ∧ b' = ptH pb nb v0 l ∧ D' = [A] ∧ ∃ n y e, (bs ≠ [] → e = 2 ∨ e = 3) ∧ x = .tuple #[.int .i64 n, y] ∧ isErr ea e y) (fun x B hx => ?_) (fun _ _ h => h)).mono (fun x B hx => ?_) (fun _ _ h => h)
    · obtain ⟨n, y, e, h1, h2, h3, rfl⟩ := hx
      exact ⟨_, _, [A], ⟨rfl, rfl, rfl, n, y, e, h1, h2, h3⟩, rfl⟩
    · obtain ⟨_, _, _, ⟨rfl, rfl, rfl, n, y, e, h1, h2, h3⟩, rfl⟩ := hx
      refine ⟨n, y, e, ⟨c, s, l, t⟩, ?_, h2, h3, rfl⟩
      rw [StW, if_pos h0]
      exact ⟨h1, rfl⟩
  · obtain ⟨o, rfl, hoN⟩ := natOf h0
    have key := ch_write (v0 := tv rb) (sl := .slice a k cap) (fun x B hx => by obtain ⟨n, y, e, st', _, h2, _⟩ := hx; exact ⟨_, _, h2⟩) inn o (by omega) (t_write (c := c) (rb := rb) (ck := ckV pb nb) (K := [ptH pb nb v0 l]) B hglb (by omega) hs t hb bs a k cap ((chT inn + o : Nat) : Int) hsrc hcp hk (by omega))
    refine (mpk (D := [A]) (b := ptH pb nb v0 l) key (R' := fun x a' b' D' => b' = ptH pb nb v0 l ∧ D' = [A] ∧ ∃ n y e t', TrW ((chT inn + o : Nat) : Int) bs t n e t' ∧ x = .tuple #[.int .i64 n, y] ∧ isErr ea e y ∧ a' = tsH hp T rb (ckV pb nb) v0 c s t') (fun x B hx => ?_) (fun _ _ h => h)).mono (fun x B hx => ?_) (fun _ _ h => h)
    · obtain ⟨n, y, e, t', h1, h2, h3, rfl⟩ := hx
      exact ⟨_, _, [A], ⟨rfl, rfl, n, y, e, t', h1, h2, h3, rfl⟩, rfl⟩
    · obtain ⟨_, _, _, ⟨rfl, rfl, n, y, e, t', h1, h2, h3, rfl⟩, rfl⟩ := hx
      refine ⟨n, y, e, ⟨c, s, l, t'⟩, ?_, h2, h3, rfl⟩
      rw [StW, if_neg h0, hoN]
      exact ⟨t', h1, rfl⟩
theorem mc_read (B : BF glb ea v0 hp T ro) (hglb : Rd [glb] ⟨1, 0, none⟩ (eofV ea)) (hT : T ≤ 500000) (hu : chT inn ≤ 500000) (σ : MS) (hok : σ.ok) (db e0 : Nat) (old : List UInt8) (k : Nat) (off : Int) (hkl : old.length = k) (hk : k ≤ 2000000) (ho : -2000000000000 ≤ off ∧ off ≤ 100000) :
    MCt Tryz.prog (chV (tv rb) inn) "ReadAt" [.slice (some ⟨db, 0, none⟩) k k, .int .i64 off] [glb, mcH hp T rb pb nb v0 inn σ, blk db (cl (u8s old) e0)] (fun x B => ∃ (n : Nat) (y : Value) (e : Nat) (nw : List UInt8), StR ⟨true, ro, T, chT inn⟩ off old σ n e nw ∧ x = .tuple #[.int .i64 (n : Nat), y] ∧ isErr ea e y ∧ B = [glb, mcH hp T rb pb nb v0 inn σ, blk db (cl (u8s nw) e0)]) (pnP (σ.t = .brk) [glb, mcH hp T rb pb nb v0 inn σ, blk db (cl (u8s old) e0)]) := by
  obtain ⟨c, s, l, t⟩ := σ
  obtain ⟨hs, hb, hl⟩ := hok
  dsimp only at hs hb hl
  by_cases h0 : off < 0
  · have key : MCt Tryz.prog (chV (tv rb) inn) "ReadAt" [.slice (some ⟨db, 0, none⟩) k k, .int .i64 off] (chB (tv rb) inn ++ (tsH hp T rb (ckV pb nb) v0 c s t :: glb :: ([blk db (cl (u8s old) e0)] ++ [ptH pb nb v0 l]))) (xR (chB (tv rb) inn) (fun x B => ∃ y e, ((e = 0 ∨ e = 2) ∧ (0 < old.length → e = 2)) ∧ x = .tuple #[.int .i64 (0 : Nat), y] ∧ isErr ea e y ∧ B = tsH hp T rb (ckV pb nb) v0 c s t :: glb :: ([blk db (cl (u8s old) e0)] ++ [ptH pb nb v0 l]))) (xE (chB (tv rb) inn) (pnP (t = .brk) (tsH hp T rb (ckV pb nb) v0 c s t :: glb :: ([blk db (cl (u8s old) e0)] ++ [ptH pb nb v0 l])))) := by
      cases inn with
      | nil =>
        refine ch0 ((t_read B hglb (by omega) hs t hb db e0 old k off hkl hk (by omega)).mono (fun x B hx => ?_) (fun _ _ h => h))
        obtain ⟨n, y, e, nw, h1, h2, h3, rfl⟩ := hx
        cases t with
        | idle =>
          rw [TrR, if_pos h0] at h1
          obtain ⟨rfl, rfl, rfl⟩ := h1
          exact ⟨_, _, ⟨.inr rfl, fun _ => rfl⟩, h2, h3, rfl⟩
        | act L r =>
          rw [TrR, if_pos h0] at h1
          obtain ⟨h4, h5, rfl, rfl⟩ := h1
          exact ⟨_, _, ⟨h4, h5⟩, h2, h3, rfl⟩
        | brk => exact h1.elim
      | cons x inn =>
        obtain ⟨ib, io⟩ := x
        refine (ch_readN (sl := .slice (some ⟨db, 0, none⟩) k k) (t_name (K := glb :: ([blk db (cl (u8s old) e0)] ++ [ptH pb nb v0 l])) B t) ib io inn h0).mono (fun x B hx => ?_) (fun _ _ h => h.elim)
        obtain ⟨b, h1, rfl⟩ := hx
        exact ⟨_, ⟨invV b, 2, ⟨.inr rfl, fun _ => rfl⟩, h1, ⟨b, rfl⟩, rfl⟩, rfl⟩
    refine (mpk key (R' := fun x a' b' D' => a' = tsH hp T rb (ckV pb nb) v0 c s t ∧ b' = ptH pb nb v0 l ∧ D' = [blk db (cl (u8s old) e0)] ∧ ∃ y e, ((e = 0 ∨ e = 2) ∧ (0 < old.length → e = 2)) ∧ x = .tuple #[.int .i64 (0 : Nat), y] ∧ isErr ea e y) (fun x B hx => ?_) (fun _ _ h => h)).mono (fun x B hx => ?_) (fun _ _ h => h)
    · obtain ⟨y, e, h1, h2, h3, rfl⟩ := hx
      exact ⟨_, _, [_], ⟨rfl, rfl, rfl, y, e, h1, h2, h3⟩, rfl⟩
    · obtain ⟨_, _, _, ⟨rfl, rfl, rfl, y, e, h1, h2, h3⟩, rfl⟩ := hx
      refine ⟨0, y, e, old, ?_, h2, h3, rfl⟩
      rw [StR, if_pos h0]
      exact ⟨h1.1, h1.2, rfl, rfl⟩
  · obtain ⟨o, rfl, hoN⟩ := natOf h0
    have key := ch_read (v0 := tv rb) (sl := .slice (some ⟨db, 0, none⟩) k k) (fun x B hx => by obtain ⟨n, y, e, nw, _, h2, _⟩ := hx; exact ⟨_, _, h2⟩) inn o (by omega) (t_read (c := c) (rb := rb) (ck := ckV pb nb) (K := [ptH pb nb v0 l]) B hglb (by omega) hs t hb db e0 old k ((chT inn + o : Nat) : Int) hkl hk (by omega))
    refine (mpk (D := [blk db (cl (u8s old) e0)]) (b := ptH pb nb v0 l) key (R' := fun x a' b' D' => a' = tsH hp T rb (ckV pb nb) v0 c s t ∧ b' = ptH pb nb v0 l ∧ ∃ (n : Nat) (y : Value) (e : Nat) (nw : List UInt8), TrR T c s ((chT inn + o : Nat) : Int) old t n e nw ∧ x = .tuple #[.int .i64 (n : Nat), y] ∧ isErr ea e y ∧ D' = [blk db (cl (u8s nw) e0)]) (fun x B hx => ?_) (fun _ _ h => h)).mono (fun x B hx => ?_) (fun _ _ h => h)
    · obtain ⟨n, y, e, nw, h1, h2, h3, rfl⟩ := hx
      exact ⟨_, _, [_], ⟨rfl, rfl, n, y, e, nw, h1, h2, h3, rfl⟩, rfl⟩
    · obtain ⟨_, _, _, ⟨rfl, rfl, n, y, e, nw, h1, h2, h3, rfl⟩, rfl⟩ := hx
      refine ⟨n, y, e, nw, ?_, h2, h3, rfl⟩
      rw [StR, if_neg h0, hoN]
      exact h1
end
end Go.Proofs.YtfebpbflpdppiaaGreatDoor
namespace Go.Proofs.YtfebpbflpdppiaaGreatDoor
open Go Go.Sl
set_option maxRecDepth 100000
attribute [local irreducible] wpList Code.wp Exit.then Exit.inBlock bodyPost RunS RunV G St Ct Sat Ent At Rd GQ QL wpAny wpOp wpQuiet slP Sl.ex sep
attribute [local irreducible] zf memf pgl rng ov cutC zc mapO rdd bme bf bx wC wS wD ptsH tsH ptH
section
variable {glb : HP} {ea : Addr} {v v0 : Value} {hp : Cn → Nat → HP} {T : Nat} {ro : Bool} {rb pb nb : Nat} {inn : List (Nat × Nat)} {name : String} {vs : List Value}
theorem mcx {c : Cn} {s : Nat} {l : List Int} {t : TS} {R : Nat → TS → Prop} (key : MCt Tryz.prog v name vs (chB (tv rb) inn ++ (tsH hp T rb (ckV pb nb) v0 c s t :: [glb, ptH pb nb v0 l])) (xR (chB (tv rb) inn) (fun x B => ∃ e st', R e st' ∧ isErr ea e x ∧ B = tsH hp T rb (ckV pb nb) v0 c s st' :: [glb, ptH pb nb v0 l])) (xE (chB (tv rb) inn) (pnP (t = .brk) (tsH hp T rb (ckV pb nb) v0 c s t :: [glb, ptH pb nb v0 l])))) :
    MCt Tryz.prog v name vs [glb, mcH hp T rb pb nb v0 inn ⟨c, s, l, t⟩] (fun x B => ∃ e t', R e t' ∧ isErr ea e x ∧ B = [glb, mcH hp T rb pb nb v0 inn ⟨c, s, l, t'⟩]) (pnP (t = .brk) [glb, mcH hp T rb pb nb v0 inn ⟨c, s, l, t⟩]) := by
  refine (mpk (D := []) (b := ptH pb nb v0 l) key (R' := fun x a' b' D' => b' = ptH pb nb v0 l ∧ D' = [] ∧ ∃ e t', R e t' ∧ isErr ea e x ∧ a' = tsH hp T rb (ckV pb nb) v0 c s t') (fun x B hx => ?_) (fun _ _ h => h)).mono (fun x B hx => ?_) (fun _ _ h => h)
  · obtain ⟨e, t', h1, h3, rfl⟩ := hx
    exact ⟨_, _, [], ⟨rfl, rfl, e, t', h1, h3, rfl⟩, rfl⟩
  · obtain ⟨_, _, _, ⟨rfl, rfl, e, t', h1, h3, rfl⟩, rfl⟩ := hx
    exact ⟨e, t', h1, h3, rfl⟩
theorem mcT (B : BF glb ea v0 hp T ro) (_hT : T ≤ 500000) (hu : chT inn ≤ 500000) (σ : MS) (hok : σ.ok) (n : Int) (hn : -2000000000000 ≤ n ∧ n ≤ 100000) : MCt Tryz.prog (chV (tv rb) inn) "Truncate" [.int .i64 n] [glb, mcH hp T rb pb nb v0 inn σ] (fun x B => ∃ e σ', StT ⟨true, ro, T, chT inn⟩ n σ e σ' ∧ isErr ea e x ∧ B = [glb, mcH hp T rb pb nb v0 inn σ']) (pnP (σ.t = .brk) [glb, mcH hp T rb pb nb v0 inn σ]) := by
  obtain ⟨c, s, l, t⟩ := σ
  obtain ⟨hs, hb, hl⟩ := hok
  dsimp only at hs hb hl
  refine (mcx (R := TrT (shC T c) (s - T) (n + (chT inn : Int)) t) (ch_trunc inn n (by omega) (by omega) (t_trunc (K := [glb, ptH pb nb v0 l]) B t hb (n + (chT inn : Int)) (by omega)))).mono (fun x B hx => ?_) (fun _ _ h => h)
  obtain ⟨e, t', h1, h2, rfl⟩ := hx
  exact ⟨e, ⟨c, s, l, t'⟩, ⟨t', h1, rfl⟩, h2, rfl⟩
theorem mcS (B : BF glb ea v0 hp T ro) (hT : T ≤ 500000) (hu : chT inn ≤ 500000) (σ : MS) (hok : σ.ok) : MCt Tryz.prog (chV (tv rb) inn) "Size" [] [glb, mcH hp T rb pb nb v0 inn σ] (fun x B => ∃ q : Int, StS ⟨true, ro, T, chT inn⟩ σ q ∧ x = .tuple #[.int .i64 q, .nilIface] ∧ B = [glb, mcH hp T rb pb nb v0 inn σ]) (pnP (σ.t = .brk) [glb, mcH hp T rb pb nb v0 inn σ]) := by
  obtain ⟨c, s, l, t⟩ := σ
  obtain ⟨hs, hb, hl⟩ := hok
  dsimp only at hs hb hl
  have key : ∃ q0 : Nat, (t ≠ .brk → SzR T s t (q0 : Int)) ∧ q0 ≤ 1000000 ∧ MCt Tryz.prog (tv rb) "Size" [] (tsH hp T rb (ckV pb nb) v0 c s t :: glb :: ([] ++ [ptH pb nb v0 l])) (fun x B => x = .tuple #[.int .i64 (q0 : Nat), .nilIface] ∧ B = tsH hp T rb (ckV pb nb) v0 c s t :: glb :: ([] ++ [ptH pb nb v0 l])) (pnP (t = .brk) (tsH hp T rb (ckV pb nb) v0 c s t :: glb :: ([] ++ [ptH pb nb v0 l]))) := by
    have h := t_size (rb := rb) (ck := ckV pb nb) (c := c) (K := [glb, ptH pb nb v0 l]) B hs t
    cases t with
    | idle => exact ⟨s - T, fun _ => rfl, by omega, h.mono (fun x B hx => by
        obtain ⟨⟨q, h1, h2⟩, h3⟩ := hx
        exact ⟨by rw [h2, h1], h3⟩) (fun _ _ h => h)⟩
    | act L r => exact ⟨L.s, fun _ => rfl, hb.1 L (by simp), h.mono (fun x B hx => by
        obtain ⟨⟨q, h1, h2⟩, h3⟩ := hx
        exact ⟨by rw [h2, h1], h3⟩) (fun _ _ h => h)⟩
    | brk => exact ⟨0, fun h => absurd rfl h, by omega, h.mono (fun x B hx => by
        obtain ⟨⟨q, h1, h2⟩, h3⟩ := hx
        exact h1.elim) (fun _ _ h => h)⟩
  obtain ⟨q0, hq, hq2, key⟩ := key
  have key2 := ch_size (by omega) key inn (by omega)
  refine (mpk (D := []) (b := ptH pb nb v0 l) (key2.mono (R' := xR (chB (tv rb) inn) (fun x B => x = .tuple #[.int .i64 (q0 - chT inn : Nat), .nilIface] ∧ B = tsH hp T rb (ckV pb nb) v0 c s t :: glb :: ([] ++ [ptH pb nb v0 l]))) (fun x B hx => ⟨_, ⟨hx.1, rfl⟩, hx.2⟩) (fun _ _ h => h)) (R' := fun x a' b' D' => a' = tsH hp T rb (ckV pb nb) v0 c s t ∧ b' = ptH pb nb v0 l ∧ D' = [] ∧ x = .tuple #[.int .i64 (q0 - chT inn : Nat), .nilIface]) (fun x B hx => ?_) (fun _ _ h => h)).mono (fun x B hx => ?_) (fun _ _ h => h)
  · exact ⟨_, _, [], ⟨rfl, rfl, rfl, hx.1⟩, hx.2⟩
  · obtain ⟨_, _, _, ⟨rfl, rfl, rfl, h1⟩, rfl⟩ := hx
    exact ⟨_, ⟨q0, hq, rfl⟩, h1, rfl⟩
theorem mc_roll (B : BF glb ea v0 hp T ro) (hglb : Rd [glb] ⟨1, 0, none⟩ (eofV ea)) (hT : T ≤ 500000) (hu : chT inn ≤ 500000) : Mc glb ea ⟨true, ro, T, chT inn⟩ (chV (tv rb) inn) (mcH hp T rb pb nb v0 inn) where
  write := fun σ hok A bs a k cap off => mc_write B hglb hT hu σ hok A bs a k cap off
  read := fun σ hok db e0 old k off => mc_read B hglb hT hu σ hok db e0 old k off
  trunc := fun σ hok n hn => mcT B hT hu σ hok n hn
  size := fun σ hok => mcS B hT hu σ hok
  punch := fun σ hok off n ho hn => by
    obtain ⟨c, s, l, t⟩ := σ
    obtain ⟨hs, hb, hl⟩ := hok
    refine (mcx (R := TrP t) (ch_punch inn off (by omega) (by omega) (t_punch (K := [glb, ptH pb nb v0 l]) B t hb ((chT inn : Int) + off) n (by omega)))).mono (fun x B hx => ?_) (fun _ _ h => h)
    obtain ⟨e, t', h1, h2, rfl⟩ := hx
    exact ⟨e, ⟨c, s, l, t'⟩, ⟨t', h1, rfl⟩, h2, rfl⟩
  begin_ := fun σ hok => by
    obtain ⟨c, s, l, t⟩ := σ
    obtain ⟨hs, hb, hl⟩ := hok
    refine (mcx (R := TrB (shC T c) (s - T) t) (ch_begin (t_begin (K := [glb, ptH pb nb v0 l]) B hs t hb) inn)).mono (fun x B hx => ?_) (fun _ _ h => h)
    obtain ⟨e, t', h1, h2, rfl⟩ := hx
    exact ⟨e, ⟨c, s, l, t'⟩, ⟨t', h1, rfl⟩, h2, rfl⟩
  roll := fun σ hok => by
    obtain ⟨c, s, l, t⟩ := σ
    obtain ⟨hs, hb, hl⟩ := hok
    refine (mcx (R := TrO t) (ch_roll (t_roll (K := [glb, ptH pb nb v0 l]) B t hb) inn)).mono (fun x B hx => ?_) (fun _ _ h => h)
    obtain ⟨e, t', h1, h2, rfl⟩ := hx
    exact ⟨e, ⟨c, s, l, t'⟩, ⟨t', h1, rfl⟩, h2, rfl⟩
  close := fun σ hok => by
    obtain ⟨c, s, l, t⟩ := σ
    obtain ⟨hs, hb, hl⟩ := hok
    refine (mcx (R := TrC t) (ch_close ((t_close (K := [glb, ptH pb nb v0 l]) B t hb).mono (fun _ _ h => h) (fun _ _ h => h.elim)) inn)).mono (fun x B hx => ?_) (fun _ _ h => h)
    obtain ⟨e, t', h1, h2, rfl⟩ := hx
    exact ⟨e, ⟨c, s, l, t'⟩, ⟨t', h1, rfl⟩, h2, rfl⟩
  sync := fun σ hok => by
    obtain ⟨c, s, l, t⟩ := σ
    obtain ⟨hs, hb, hl⟩ := hok
    refine (mcx (ea := ea) (R := fun e t' => e = 0 ∧ t' = t) (ch_sync ((t_sync (K := [glb, ptH pb nb v0 l]) B t).mono (fun x B hx => ⟨0, t, ⟨rfl, rfl⟩, hx.1, hx.2⟩) (fun _ _ h => h.elim)) inn)).mono (fun x B hx => ?_) (fun _ _ h => h)
    obtain ⟨e, t', ⟨rfl, rfl⟩, h2, rfl⟩ := hx
    exact ⟨0, _, ⟨rfl, rfl⟩, h2, rfl⟩
  end_ := fun σ hok => by
    obtain ⟨c, s, l, t⟩ := σ
    obtain ⟨hs, hb, hl⟩ := hok
    dsimp only at hs hb hl
    have key := ch_end (t_end (c := c) (rb := rb) (K := []) (pb := pb) (nb := nb) (l := l) B hglb (by omega) hs hl t hb) inn
    refine (mpk (D := []) (b := ptH pb nb v0 l) key (R' := fun x a' b' D' => D' = [] ∧ ∃ e c' s' l' t', TrE T ro c s l t e c' s' l' t' ∧ isErr ea e x ∧ a' = tsH hp T rb (ckV pb nb) v0 c' s' t' ∧ b' = ptH pb nb v0 l') (fun x B hx => ?_) (fun _ _ h => h)).mono (fun x B hx => ?_) (fun _ _ h => h)
    · obtain ⟨e, c', s', l', t', h1, h2, rfl⟩ := hx
      exact ⟨_, _, [], ⟨rfl, e, c', s', l', t', h1, h2, rfl, rfl⟩, rfl⟩
    · obtain ⟨_, _, _, ⟨rfl, e, c', s', l', t', h1, h2, rfl, rfl⟩, rfl⟩ := hx
      exact ⟨e, ⟨c', s', l', t'⟩, h1, h2, rfl⟩
end
end Go.Proofs.YtfebpbflpdppiaaGreatDoor
