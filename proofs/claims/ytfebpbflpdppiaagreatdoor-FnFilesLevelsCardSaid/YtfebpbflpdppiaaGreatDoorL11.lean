/- fileStep: what is none of the calls. Printed by a program (wip/tools/genZ37.py) · NewInnerFiler, NewRollbackFiler, whole · Chains of inner filers: calls ahead of the beginning · How a filer beneath is read by the level over it · The topmost rollback inside a transaction: its methods over the levels · The topmost rollback inside a transaction: sizes, truncations, reads · The topmost rollback inside a transaction: refused calls, begin, rollback · The topmost rollback inside a transaction: a level is ended · The topmost rollback: its states; outside a transaction · bitFiler: empty reads and writes ahead of the beginning. Laws over what methods do · The topmost rollback: calls that leave it as it is · The topmost rollback inside a transaction: reads and writes ahead of the beginning. -/
import Derived.Test.YtfebpbflpdppiaaGreatDoorL10
namespace Go.Proofs.YtfebpbflpdppiaaGreatDoor
open Go Go.Sl
set_option maxRecDepth 100000
attribute [local irreducible] wpList Code.wp Exit.then Exit.inBlock bodyPost RunS RunV G St Ct Sat Ent At Rd GQ QL wpAny wpOp wpQuiet slP Sl.ex sep
attribute [local irreducible] zf memf pgl rng ov cutC zc mapO rdd bme bf bx wC wS wD
section
theorem fs_none {v sl : Value} {off n : Int} {d : ByteArray} (h0 : (d.data.toList == (⟨#[119, 114, 105, 116, 101]⟩ : ByteArray).data.toList) = false) (h1 : (d.data.toList == (⟨#[114, 101, 97, 100]⟩ : ByteArray).data.toList) = false) (h2 : (d.data.toList == (⟨#[116, 114, 117, 110, 99, 97, 116, 101]⟩ : ByteArray).data.toList) = false) (h3 : (d.data.toList == (⟨#[115, 105, 122, 101]⟩ : ByteArray).data.toList) = false) (h4 : (d.data.toList == (⟨#[112, 117, 110, 99, 104]⟩ : ByteArray).data.toList) = false) (h5 : (d.data.toList == (⟨#[98, 101, 103, 105, 110]⟩ : ByteArray).data.toList) = false) (h6 : (d.data.toList == (⟨#[101, 110, 100]⟩ : ByteArray).data.toList) = false) (h7 : (d.data.toList == (⟨#[114, 111, 108, 108, 98, 97, 99, 107]⟩ : ByteArray).data.toList) = false) (h8 : (d.data.toList == (⟨#[115, 121, 110, 99]⟩ : ByteArray).data.toList) = false) (h9 : (d.data.toList == (⟨#[99, 108, 111, 115, 101]⟩ : ByteArray).data.toList) = false) : Ct Tryz.prog 27 #[v, stepV d off n sl] [] (fun x B => x = toldV 0 0 (.slice none 0 0) ∧ B = []) nev := by
  refine Ct.of Tryz.func27 rfl Tryz.ntmps27 rfl fun m F => ?_
  unfold stepV
  repeat (first | refine wZ ?_ | intro b)
  rw [h0]
  repeat (first | refine wZ ?_ | intro b)
  rw [h1]
  repeat (first | refine wZ ?_ | intro b)
  rw [h2]
  repeat (first | refine wZ ?_ | intro b)
  rw [h3]
  repeat (first | refine wZ ?_ | intro b)
  rw [h4]
  repeat (first | refine wZ ?_ | intro b)
  rw [h5]
  repeat (first | refine wZ ?_ | intro b)
  rw [h6]
  repeat (first | refine wZ ?_ | intro b)
  rw [h7]
  repeat (first | refine wZ ?_ | intro b)
  rw [h8]
  repeat (first | refine wZ ?_ | intro b)
  rw [h9]
  repeat (first | refine wZ ?_ | intro b)
  refine l_plain rfl ?_
  apply s_val rfl rfl
  · exact RunS.v (r_build (cells := #[.int .i64 0, .int .i64 0, .slice none 0 0]) rfl (by kernel_rfl))
  repeat (first | refine wZ ?_ | intro b)
  exact e_retC1 (vs := [.int .i64 0, .int .i64 0, .slice none 0 0]) [] rfl rfl rfl rfl (rdn_all 0 rfl) ⟨rfl, rfl⟩ (arr_ent 2 [] _)
end
end Go.Proofs.YtfebpbflpdppiaaGreatDoor
namespace Go.Proofs.YtfebpbflpdppiaaGreatDoor
open Go Go.Sl
set_option maxRecDepth 100000
theorem rdd_all (c : Cn) (s : Nat) : rdd (List.replicate s 0) c 0 (min s (s - 0)) = rng c 0 s := by
  unfold rdd
  rw [Nat.sub_zero, Nat.min_self, List.drop_of_length_le (by simp), List.append_nil]
attribute [local irreducible] wpList Code.wp Exit.then Exit.inBlock bodyPost RunS RunV G St Ct Sat Ent At Rd GQ QL wpAny wpOp wpQuiet slP Sl.ex sep
attribute [local irreducible] zf memf pgl rng ov cutC zc mapO rdd bme bf bx wC wS wD
section
variable {t : TypeId} {u : Value}
theorem NewInner_c (off : Nat) : Ct Tryz.prog 23 #[.iface t u, .int .i64 (off : Nat)] [] (fun x B => ∃ ib, x = .pointer (some ⟨ib, 0, none⟩) ∧ B = [iP ib (.iface t u) off]) nev := by
  refine Ct.of Tryz.func23 rfl Tryz.ntmps23 rfl fun m F => ?_
  repeat (first | refine wZ ?_ | intro b)
  refine l_plain rfl ?_
  apply s_val rfl rfl
  · exact RunS.v (r_build (cells := #[.iface t u, .int .i64 (off : Nat)]) rfl (by kernel_rfl))
  repeat (first | refine wZ ?_ | intro b)
  exact e_ret1 _ rfl rfl ⟨b, rfl, rfl⟩ (Ent.refl _)
theorem NewRoll_c {cp : Array Value} : Ct Tryz.prog 24 #[.iface t u, .func (.func 25) #[] cp, .iface t u] [] (fun x B => ∃ rb, x = .tuple #[.pointer (some ⟨rb, 0, none⟩), .nilIface] ∧ B = [rP rb none (.func (.func 25) #[] cp) (.iface t u) 0 false]) nev := by
  refine Ct.of Tryz.func24 rfl Tryz.ntmps24 rfl fun m F => ?_
  repeat (first | refine wZ ?_ | intro b)
  refine l_plain rfl ?_
  apply s_val rfl rfl
  · exact RunS.v (r_build (cells := (rcells none (.func (.func 25) #[] cp) (.iface t u) 0 false).toArray) rfl (by kernel_rfl))
  repeat (first | refine wZ ?_ | intro b)
  exact e_ret2 _ rfl rfl rfl ⟨b, rfl, rfl⟩ (Ent.refl _)
theorem whole_c {glb X : HP} {ea : Addr} {v : Value} {c : Cn} {s : Nat} (hs : s ≤ 1000000000) (hsz : MCt Tryz.prog v "Size" [] [X] (fun x B => x = .tuple #[.int .i64 (s : Nat), .nilIface] ∧ B = [X]) nev) (hrd : RdC v glb X ea 1000000000 c s) :
    Ct Tryz.prog 22 #[v] [glb, X] (fun x B => (s = 0 ∨ 16777216 < s) ∧ x = .slice none 0 0 ∧ B = [glb, X] ∨ (0 < s ∧ s ≤ 16777216) ∧ ∃ db, x = .slice (some ⟨db, 0, none⟩) s s ∧ B = [glb, X, blk db (cl (u8s (rng c 0 s)) 5)]) nev := by
  refine Ct.of Tryz.func22 rfl Tryz.ntmps22 rfl fun m F => ?_
  repeat (first | refine wZ ?_ | intro b)
  refine l_plain rfl (s_invokeM rfl rfl rfl hsz [1] rfl ?_ (fun _ _ h => h.elim))
  rintro _ _ ⟨rfl, rfl⟩
  repeat (first | refine wZ ?_ | intro b)
  rcases Nat.eq_zero_or_pos s with h0 | h0
  · subst h0
    rw [decide_eq_true (by omega : ((0 : Nat) : Int) ≤ 0)]
    repeat (first | refine wZ ?_ | intro b)
    exact e_ret1 _ rfl rfl (.inl ⟨.inl rfl, rfl, rfl⟩) (arr_ent 0 [1, 0] _)
  rw [decide_eq_false (by omega : ¬ ((s : Nat) : Int) ≤ 0)]
  repeat (first | refine wZ ?_ | intro b)
  by_cases h1 : 16777216 < s
  · rw [decide_eq_true (by omega : (16777216 : Int) < ((s : Nat) : Int))]
    repeat (first | refine wZ ?_ | intro b)
    exact e_ret1 _ rfl rfl (.inl ⟨.inr h1, rfl, rfl⟩) (arr_ent 0 [1, 0] _)
  rw [decide_eq_false (by omega : ¬ (16777216 : Int) < ((s : Nat) : Int))]
  repeat (first | refine wZ ?_ | intro b)
  refine l_plain rfl (s_mkSl (len := s) rfl rfl rfl (by omega) (by omega) rfl fun db => ?_)
  rw [← u8s_rep]
  repeat (first | refine wZ ?_ | intro b)
  refine l_plain rfl (s_invokeM rfl rfl rfl (hrd db 5 (List.replicate s 0) s 0 (by simp) (by omega)) [2, 1, 0] rfl ?_ (fun _ _ h => h.elim))
  rintro _ _ ⟨y, rfl, _, _, rfl⟩
  rw [rdd_all]
  repeat (first | refine wZ ?_ | intro b)
  exact e_ret1 _ rfl rfl (.inr ⟨⟨h0, by omega⟩, db, rfl, rfl⟩) (Ent.refl _)
end
end Go.Proofs.YtfebpbflpdppiaaGreatDoor
namespace Go.Proofs.YtfebpbflpdppiaaGreatDoor
open Go Go.Sl
set_option maxRecDepth 100000
attribute [local irreducible] wpList Code.wp Exit.then Exit.inBlock bodyPost RunS RunV G St Ct Sat Ent At Rd GQ QL wpAny wpOp wpQuiet slP Sl.ex sep
attribute [local irreducible] zf memf pgl rng ov cutC zc mapO rdd bme bf bx wC wS wD
section
variable {v0 : Value} {L : List HP}
theorem ch_name1 (hn : MCt Tryz.prog v0 "Name" [] L (fun x B => x = .string nameS ∧ B = L) nev) (l : List (Nat × Nat)) : MCt Tryz.prog (chV v0 l) "Name" [] [sep (chB v0 l ++ L)] (fun x B => x = .string nameS ∧ B = [sep (chB v0 l ++ L)]) nev :=
  (ch_name hn l).pack.mono (fun x B hx => by
    obtain ⟨B1, ⟨B2, ⟨h1, h2⟩, h3⟩, h4⟩ := hx
    subst h2 h3 h4
    exact ⟨h1, rfl⟩) (fun c B hx => by
    obtain ⟨B1, ⟨B2, h1, _⟩, _⟩ := hx
    exact h1.elim)
theorem ch_readN (hn : MCt Tryz.prog v0 "Name" [] L (fun x B => x = .string nameS ∧ B = L) nev) (ib off : Nat) (l : List (Nat × Nat)) {a : Int} {sl : Value} (ha : a < 0) :
    MCt Tryz.prog (chV v0 ((ib, off) :: l)) "ReadAt" [sl, .int .i64 a] (chB v0 ((ib, off) :: l) ++ L) (fun v B => ∃ b, v = .tuple #[.int .i64 0, invV b] ∧ B = chB v0 ((ib, off) :: l) ++ L) nev :=
  MCt.of ((IReadAt_n (off := off) ha (ch_name1 hn l)).conv (fun F => Ent.cons (sep_shut _ F)) (fun x B hx => by
    obtain ⟨b, h1, h2⟩ := hx
    exact ⟨_, ⟨b, h1, rfl⟩, fun F => by rw [h2]; exact Ent.cons (sep_open (chB v0 l ++ L) F)⟩) (fun c B h => h.elim))
theorem ch_writeN (hn : MCt Tryz.prog v0 "Name" [] L (fun x B => x = .string nameS ∧ B = L) nev) (ib off : Nat) (l : List (Nat × Nat)) {a : Int} {sl : Value} (ha : a < 0) :
    MCt Tryz.prog (chV v0 ((ib, off) :: l)) "WriteAt" [sl, .int .i64 a] (chB v0 ((ib, off) :: l) ++ L) (fun v B => ∃ b, v = .tuple #[.int .i64 0, invV b] ∧ B = chB v0 ((ib, off) :: l) ++ L) nev :=
  MCt.of ((IWriteAt_n (off := off) ha (ch_name1 hn l)).conv (fun F => Ent.cons (sep_shut _ F)) (fun x B hx => by
    obtain ⟨b, h1, h2⟩ := hx
    exact ⟨_, ⟨b, h1, rfl⟩, fun F => by rw [h2]; exact Ent.cons (sep_open (chB v0 l ++ L) F)⟩) (fun c B h => h.elim))
end
end Go.Proofs.YtfebpbflpdppiaaGreatDoor
namespace Go.Proofs.YtfebpbflpdppiaaGreatDoor
open Go Go.Sl
set_option maxRecDepth 100000
def shC (T : Nat) (c : Cn) : Cn := fun i => c (T + i)
theorem rdd_sh (old : List UInt8) (c : Cn) (T off k : Nat) : rdd old c (T + off) k = rdd old (shC T c) off k := by
  unfold rdd
  congr 1
  unfold rng shC
  exact List.map_congr_left fun j _ => by rw [Nat.add_assoc]
section
variable {glb : HP} {ea : Addr} {v : Value} {hp : Cn → Nat → HP} {T : Nat} {ro : Bool}
theorem BF.rdc (B : BF glb ea v hp T ro) (c : Cn) (s : Nat) (hs : s ≤ 1000000000000) (hT : T ≤ 1000000000) : RdC v glb (hp c s) ea (1000000000000 - T) (shC T c) (s - T) := fun db e old k off hk hb =>
  (B.read c s db e old k off hs hk (by omega)).mono (fun x L hx => by
    obtain ⟨h1, h2⟩ := hx
    rw [rdd_sh, ← Nat.sub_sub] at h2
    rw [← Nat.sub_sub] at h1
    refine ⟨_, h1, ?_, fun h => by rw [if_pos (by omega)], h2⟩
    split
    · exact .inl rfl
    · exact .inr rfl) (fun _ _ h => h)
theorem BF.rdm (B : BF glb ea v hp T ro) (c : Cn) (s : Nat) (M : Int) : RdM v glb (hp c s) M := fun a k cp off _ ho _ =>
  (B.readN c s (.slice a k cp) off ho).map fun f args h => (h.frame [glb]).conv (fun F => Ent.perm (List.Perm.swap _ _ _)) (fun x L hx => by
    obtain ⟨B', ⟨b, h1, h2⟩, h3⟩ := hx
    subst h3 h2
    exact ⟨_, ⟨b, h1, rfl⟩, fun F => Ent.perm (List.Perm.swap _ _ _)⟩) (fun c B hx => by
    obtain ⟨B', h, _⟩ := hx
    exact h.elim)
theorem BF.isI (B : BF glb ea v hp T ro) : ∃ t u, v = .iface t u := MCt.isI (B.name (fun _ => 0) 0)
theorem BF.isW (B : BF glb ea v hp T ro) : ∃ rt u f, v = .iface rt u ∧ MethP Tryz.prog rt "WriteAt" f := by
  obtain ⟨rt, u, f, h1, h2, _⟩ := B.writeN (fun _ => 0) 0 .nilIface (-1) (by decide)
  exact ⟨rt, u, f, h1, h2⟩
end
end Go.Proofs.YtfebpbflpdppiaaGreatDoor
namespace Go.Proofs.YtfebpbflpdppiaaGreatDoor
open Go Go.Sl
set_option maxRecDepth 100000
attribute [local irreducible] wpList Code.wp Exit.then Exit.inBlock bodyPost RunS RunV G St Ct Sat Ent At Rd GQ QL wpAny wpOp wpQuiet slP Sl.ex sep
attribute [local irreducible] zf memf pgl rng ov cutC zc mapO rdd bme bf bx wC wS wD
section
variable {glb X A : HP} {ea : Addr} {v0 : Value} {c0 : Cn} {s0 N : Nat} {rb : Nat} {ck : Value} {cld : Bool} {tl : Int}
def tact (X : HP) (v0 : Value) (c0 : Cn) (s0 : Nat) (rb : Nat) (ck : Value) (tl : Int) (cld : Bool) (L : Lev) (r : List Lev) : List HP := [rP rb (some ⟨L.bb, 0, none⟩) ck v0 tl cld, lvH X v0 c0 s0 (L :: r)]
theorem a_write (hN : N ≤ 1000000000000) (hglb : Rd [glb] ⟨1, 0, none⟩ (eofV ea)) (hI : ∃ t u, v0 = .iface t u) (h0 : RdC v0 glb X ea N c0 s0) (L : Lev) (r : List Lev) (hs : ∀ L' ∈ L :: r, L'.s ≤ 800000000000) (htl : tl ≠ 0)
    (bs : List UInt8) (a : Option Addr) (k cap off : Nat) (hsrc : Src [A] 1 (.slice a k cap) k (u8s bs)) (hcp : k ≤ cap) (hb : off + k + 4096 + 4096 * r.length ≤ N) :
    MCt Tryz.prog (.iface 58 (.pointer (some ⟨rb, 0, none⟩))) "WriteAt" [.slice a k cap, .int .i64 (off : Nat)] (glb :: A :: tact X v0 c0 s0 rb ck tl cld L r)
      (fun x B => x = .tuple #[.int .i64 (k : Nat), .nilIface] ∧ B = glb :: A :: tact X v0 c0 s0 rb ck tl cld ⟨L.bb, ov L.c off bs, max L.s (off + k), dw L.d off k⟩ r) nev := by
  have ih := lv_rdc hN hglb hI h0 r (fun L' h => by have := hs L' (List.mem_cons_of_mem _ h); omega) (by omega)
  obtain ⟨t, u, he⟩ := lvV_I hI r
  rw [he] at ih
  have h1 := bWriteAt_c (bb := L.bb) (c := L.c) (d := L.d) (s := L.s) (cb := lvb c0 s0 r) (N := N - 4096 * r.length) (A := A) (by omega) hglb ih rfl bs a k cap off hsrc hcp (by omega) (by have := hs L (by simp); omega)
  have h2 : Ct Tryz.prog 123 #[.pointer (some ⟨L.bb, 0, none⟩), .slice a k cap, .int .i64 (off : Nat)] [sep [glb, lvH X v0 c0 s0 (L :: r), A]] (fun x B => x = .tuple #[.int .i64 (k : Nat), .nilIface] ∧ B = [sep [glb, lvH X v0 c0 s0 (⟨L.bb, ov L.c off bs, max L.s (off + k), dw L.d off k⟩ :: r), A]]) nev := by
    refine h1.conv (fun F => ?_) (fun x B hx => ?_) (fun c B h => h.elim)
    · rw [← he]
      exact (sep_open [glb, lvH X v0 c0 s0 (L :: r), A] F).trans rq3
    · obtain ⟨h3, h4⟩ := hx
      refine ⟨_, ⟨h3, rfl⟩, fun F => ?_⟩
      rw [h4, ← he]
      exact rq3'.trans (sep_shut [glb, lvH X v0 c0 s0 (⟨L.bb, ov L.c off bs, max L.s (off + k), dw L.d off k⟩ :: r), A] F)
  have h3 := RWriteAt_a (rb := rb) (ck := ck) (v' := v0) (cld := cld) (fun x B h => ⟨_, _, h.1⟩) htl (fun c B h => h.elim) h2
  refine MCt.of (h3.conv (fun F => ?_) (fun x B hx => ?_) (fun c B h => by obtain ⟨_, h, _⟩ := h; exact h.elim))
  · exact Ent.trans (arr_ent 0 [2, 0, 1, 0] _) (Ent.cons (sep_shut [_, _, _] F))
  · obtain ⟨B', ⟨h4, h5⟩, h6⟩ := hx
    subst h6 h5
    refine ⟨_, ⟨h4, rfl⟩, fun F => ?_⟩
    exact (Ent.cons (sep_open [_, _, _] F)).trans (arr_ent 0 [1, 2, 0, 0] _)
end
end Go.Proofs.YtfebpbflpdppiaaGreatDoor
namespace Go.Proofs.YtfebpbflpdppiaaGreatDoor
open Go Go.Sl
set_option maxRecDepth 100000
attribute [local irreducible] wpList Code.wp Exit.then Exit.inBlock bodyPost RunS RunV G St Ct Sat Ent At Rd GQ QL wpAny wpOp wpQuiet slP Sl.ex sep
attribute [local irreducible] zf memf pgl rng ov cutC zc mapO rdd bme bf bx wC wS wD
section
variable {glb X A : HP} {ea : Addr} {v0 : Value} {c0 : Cn} {s0 N : Nat} {M : Int} {rb : Nat} {ck : Value} {cld : Bool} {tl : Int}
theorem a_size (L : Lev) (r : List Lev) (htl : tl ≠ 0) : MCt Tryz.prog (.iface 58 (.pointer (some ⟨rb, 0, none⟩))) "Size" [] (tact X v0 c0 s0 rb ck tl cld L r)
      (fun x B => x = .tuple #[.int .i64 (L.s : Nat), .nilIface] ∧ B = tact X v0 c0 s0 rb ck tl cld L r) nev := by
  have h2 : Ct Tryz.prog 116 #[.pointer (some ⟨L.bb, 0, none⟩)] [lvH X v0 c0 s0 (L :: r)] (fun x B => x = .tuple #[.int .i64 (L.s : Nat), .nilIface] ∧ B = [lvH X v0 c0 s0 (L :: r)]) nev := by
    refine ((bSize_c (bb := L.bb) (pv := lvV v0 r) (cb := lvb c0 s0 r) (c := L.c) (s := L.s) (d := L.d)).frame [lvH X v0 c0 s0 r]).conv (fun F => (sep_open [lvH X v0 c0 s0 r, lvP v0 c0 s0 L r] F).trans (arr_ent 0 [1, 0] _)) (fun x B hx => ?_) (fun c B hx => by obtain ⟨_, h, _⟩ := hx; exact h.elim)
    obtain ⟨B', ⟨h1, h2⟩, h3⟩ := hx
    subst h3 h2
    exact ⟨_, ⟨h1, rfl⟩, fun F => Ent.trans (arr_ent 0 [1, 0] _) (sep_shut [lvH X v0 c0 s0 r, lvP v0 c0 s0 L r] F)⟩
  have h3 := RSize_a (rb := rb) (ck := ck) (v' := v0) (cld := cld) (fun x B h => ⟨_, _, h.1⟩) htl (fun c B h => h.elim) h2
  exact MCt.of (h3.mono (fun x B hx => by
    obtain ⟨B', ⟨h4, h5⟩, h6⟩ := hx
    subst h6 h5
    exact ⟨h4, rfl⟩) (fun c B h => by obtain ⟨_, h, _⟩ := h; exact h.elim))
theorem a_trunc (L : Lev) (r : List Lev) (hs : L.s ≤ 800000000000) (htl : tl ≠ 0) (n : Nat) (hn : n ≤ 800000000000) : MCt Tryz.prog (.iface 58 (.pointer (some ⟨rb, 0, none⟩))) "Truncate" [.int .i64 (n : Nat)] (tact X v0 c0 s0 rb ck tl cld L r)
      (fun x B => x = .nilIface ∧ B = tact X v0 c0 s0 rb ck tl cld ⟨L.bb, tc (lvb c0 s0 r) L.c n, n, td L.d n⟩ r) nev := by
  have h2 : Ct Tryz.prog 122 #[.pointer (some ⟨L.bb, 0, none⟩), .int .i64 (n : Nat)] [lvH X v0 c0 s0 (L :: r)] (fun x B => x = .nilIface ∧ B = [lvH X v0 c0 s0 (⟨L.bb, tc (lvb c0 s0 r) L.c n, n, td L.d n⟩ :: r)]) nev := by
    refine ((bTruncate_c (bb := L.bb) (pv := lvV v0 r) (cb := lvb c0 s0 r) (c := L.c) (s := L.s) (d := L.d) n (by omega) (by omega)).frame [lvH X v0 c0 s0 r]).conv (fun F => (sep_open [lvH X v0 c0 s0 r, lvP v0 c0 s0 L r] F).trans (arr_ent 0 [1, 0] _)) (fun x B hx => ?_) (fun c B hx => by obtain ⟨_, h, _⟩ := hx; exact h.elim)
    obtain ⟨B', ⟨h1, h2⟩, h3⟩ := hx
    subst h3 h2
    exact ⟨_, ⟨h1, rfl⟩, fun F => Ent.trans (arr_ent 0 [1, 0] _) (sep_shut [lvH X v0 c0 s0 r, lvP v0 c0 s0 ⟨L.bb, tc (lvb c0 s0 r) L.c n, n, td L.d n⟩ r] F)⟩
  have h3 := RTruncate_a (rb := rb) (ck := ck) (v' := v0) (cld := cld) htl (fun c B h => h.elim) h2
  exact MCt.of (h3.mono (fun x B hx => by
    obtain ⟨B', ⟨h4, h5⟩, h6⟩ := hx
    subst h6 h5
    exact ⟨h4, rfl⟩) (fun c B h => by obtain ⟨_, h, _⟩ := h; exact h.elim))
theorem a_read (hN : N ≤ 1000000000000) (hglb : Rd [glb] ⟨1, 0, none⟩ (eofV ea)) (hI : ∃ t u, v0 = .iface t u) (h0 : RdC v0 glb X ea N c0 s0) (L : Lev) (r : List Lev) (hs : ∀ L' ∈ L :: r, L'.s ≤ 800000000000) (htl : tl ≠ 0)
    (db e : Nat) (old : List UInt8) (k off : Nat) (hk : old.length = k) (hb : off + k + 4096 + 4096 * r.length ≤ N) :
    MCt Tryz.prog (.iface 58 (.pointer (some ⟨rb, 0, none⟩))) "ReadAt" [.slice (some ⟨db, 0, none⟩) k k, .int .i64 (off : Nat)] (glb :: blk db (cl (u8s old) e) :: tact X v0 c0 s0 rb ck tl cld L r)
      (fun x B => ∃ y, x = .tuple #[.int .i64 (min k (L.s - off) : Nat), y] ∧ (y = .nilIface ∨ y = eofV ea) ∧ (k < L.s - off → y = .nilIface) ∧ B = glb :: blk db (cl (u8s (rdd old L.c off (min k (L.s - off)))) e) :: tact X v0 c0 s0 rb ck tl cld L r) nev := by
  have ih := lv_rdc hN hglb hI h0 r (fun L' h => by have := hs L' (List.mem_cons_of_mem _ h); omega) (by omega)
  obtain ⟨t, u, he⟩ := lvV_I hI r
  rw [he] at ih
  have h1 := bReadAt_c (bb := L.bb) (c := L.c) (d := L.d) (s := L.s) (cb := lvb c0 s0 r) (N := N - 4096 * r.length) (by omega) hglb ih rfl db e old k off hk (by omega) (by have := hs L (by simp); omega)
  have h2 : Ct Tryz.prog 120 #[.pointer (some ⟨L.bb, 0, none⟩), .slice (some ⟨db, 0, none⟩) k k, .int .i64 (off : Nat)] [sep [glb, lvH X v0 c0 s0 (L :: r), blk db (cl (u8s old) e)]] (fun x B => ∃ y, x = .tuple #[.int .i64 (min k (L.s - off) : Nat), y] ∧ (y = .nilIface ∨ y = eofV ea) ∧ (k < L.s - off → y = .nilIface) ∧ B = [sep [glb, lvH X v0 c0 s0 (L :: r), blk db (cl (u8s (rdd old L.c off (min k (L.s - off)))) e)]]) nev := by
    refine h1.conv (fun F => ?_) (fun x B hx => ?_) (fun c B h => h.elim)
    · rw [← he]
      exact (sep_open [glb, lvH X v0 c0 s0 (L :: r), _] F).trans rq3
    · obtain ⟨y, h3, h4, h5, h6⟩ := hx
      refine ⟨_, ⟨y, h3, h4, h5, rfl⟩, fun F => ?_⟩
      rw [h6, ← he]
      exact rq3'.trans (sep_shut [glb, lvH X v0 c0 s0 (L :: r), _] F)
  have h3 := RReadAt_a (rb := rb) (ck := ck) (v' := v0) (cld := cld) (fun x B h => by obtain ⟨y, h, _⟩ := h; exact ⟨_, _, h⟩) htl (fun c B h => h.elim) h2
  refine MCt.of (h3.conv (fun F => ?_) (fun x B hx => ?_) (fun c B h => by obtain ⟨_, h, _⟩ := h; exact h.elim))
  · exact Ent.trans (arr_ent 0 [2, 0, 1, 0] _) (Ent.cons (sep_shut [_, _, _] F))
  · obtain ⟨B', ⟨y, h4, h5, h7, h8⟩, h6⟩ := hx
    subst h6 h8
    refine ⟨_, ⟨y, h4, h5, h7, rfl⟩, fun F => ?_⟩
    exact (Ent.cons (sep_open [_, _, _] F)).trans (arr_ent 0 [1, 2, 0, 0] _)
end
end Go.Proofs.YtfebpbflpdppiaaGreatDoor
namespace Go.Proofs.YtfebpbflpdppiaaGreatDoor
open Go Go.Sl
set_option maxRecDepth 100000
attribute [local irreducible] wpList Code.wp Exit.then Exit.inBlock bodyPost RunS RunV G St Ct Sat Ent At Rd GQ QL wpAny wpOp wpQuiet slP Sl.ex sep
attribute [local irreducible] zf memf pgl rng ov cutC zc mapO rdd bme bf bx wC wS wD
section
variable {glb X A : HP} {ea : Addr} {v0 : Value} {c0 : Cn} {s0 N : Nat} {M : Int} {rb : Nat} {ck : Value} {cld : Bool} {tl : Int}
theorem a_truncN (L : Lev) (r : List Lev) (htl : tl ≠ 0) (n : Int) (hn : n < 0) : MCt Tryz.prog (.iface 58 (.pointer (some ⟨rb, 0, none⟩))) "Truncate" [.int .i64 n] (tact X v0 c0 s0 rb ck tl cld L r)
      (fun x B => ∃ b, x = invV b ∧ B = tact X v0 c0 s0 rb ck tl cld L r) nev := by
  have h3 := RTruncate_a (rb := rb) (ck := ck) (v' := v0) (cld := cld) htl (fun c B h => h.elim) (bTruncate_n (A := [lvH X v0 c0 s0 (L :: r)]) (.pointer (some ⟨L.bb, 0, none⟩)) n hn)
  exact MCt.of (h3.mono (fun x B hx => by
    obtain ⟨B', ⟨b, h4, h5⟩, h6⟩ := hx
    subst h6 h5
    exact ⟨b, h4, rfl⟩) (fun c B h => by obtain ⟨_, h, _⟩ := h; exact h.elim))
theorem a_begin (hsz : MCt Tryz.prog v0 "Size" [] [X] (fun x B => x = .tuple #[.int .i64 (s0 : Nat), .nilIface] ∧ B = [X]) nev) (L : Lev) (r : List Lev) (htl : 0 < tl ∧ tl ≤ 1000000) : MCt Tryz.prog (.iface 58 (.pointer (some ⟨rb, 0, none⟩))) "BeginUpdate" [] (tact X v0 c0 s0 rb ck tl cld L r)
      (fun x B => ∃ bb, x = .nilIface ∧ B = tact X v0 c0 s0 rb ck (tl + 1) cld ⟨bb, lvb c0 s0 (L :: r), L.s, fun _ => false⟩ (L :: r)) nev := by
  have h2 := lv_size (c0 := c0) hsz (L :: r)
  refine MCt.of ((RBegin_a (rb := rb) (ck := ck) (v' := v0) (cld := cld) (lvb c0 s0 (L :: r)) htl h2).conv (fun F => Ent.refl _) (fun x B hx => ?_) (fun c B h => h.elim))
  obtain ⟨bb, h3, h4⟩ := hx
  subst h4
  exact ⟨_, ⟨bb, h3, rfl⟩, fun F => Ent.cons (sep_shut [lvH X v0 c0 s0 (L :: r), lvP v0 c0 s0 ⟨bb, lvb c0 s0 (L :: r), L.s, fun _ => false⟩ (L :: r)] F)⟩
theorem a_roll (L L2 : Lev) (r : List Lev) (htl : 1 < tl ∧ tl ≤ 1000000) : MCt Tryz.prog (.iface 58 (.pointer (some ⟨rb, 0, none⟩))) "Rollback" [] (tact X v0 c0 s0 rb ck tl cld L (L2 :: r))
      (fun x B => x = .nilIface ∧ B = tact X v0 c0 s0 rb ck (tl - 1) cld L2 r) nev := by
  have h := (RRoll_a (rb := rb) (ck := ck) (v' := v0) (cld := cld) (s := L.s) (bb := L.bb) (b0 := L2.bb) htl).frame [lvH X v0 c0 s0 (L2 :: r)]
  refine MCt.of (h.conv (fun F => ?_) (fun x B hx => ?_) (fun c B hx => by obtain ⟨_, h, _⟩ := hx; exact h.elim))
  · exact Ent.cons ((sep_open [lvH X v0 c0 s0 (L2 :: r), lvP v0 c0 s0 L (L2 :: r)] F).trans ((arr_ent 0 [1, 0] _).trans bf_bx))
  · obtain ⟨B', ⟨h1, h2⟩, h3⟩ := hx
    subst h3 h2
    exact ⟨_, ⟨h1, rfl⟩, fun F => Ent.refl _⟩
end
end Go.Proofs.YtfebpbflpdppiaaGreatDoor
namespace Go.Proofs.YtfebpbflpdppiaaGreatDoor
open Go Go.Sl
set_option maxRecDepth 100000
theorem _root_.Go.Sl.Ct.fact {P : Program} {f : FuncId} {args : Array Value} {L : List HP} {R : Value → List HP → Prop} {E : List PanicEntry → List HP → Prop} {p : Prop} (hp : ∀ H, SatL L H → p) (h : p → Ct P f args L R E) : Ct P f args L R E := fun m F w hw =>
  h (hp _ ((Ent.left L F) _ hw.2.2.2)) m F w hw
theorem _root_.Go.Sl.SatL.ent {L L' : List HP} {H : PH} (h : SatL L H) (e : Ent L L') : SatL L' H := e H h
theorem bf_dfact {bb s : Nat} {pv : Value} {cb c : Cn} {d : Nat → Bool} {L : List HP} {H : PH} (h : SatL (bf bb pv cb c s d :: L) H) : ∀ j, d j = true → j * 4096 < s := fun j hj => by
  unfold bf at h
  obtain ⟨x, hx⟩ := h.ex
  obtain ⟨hok, _⟩ := hx.also
  obtain ⟨p, hp, rfl⟩ := hok.dn j hj
  exact hok.bd p hp
theorem lv_dfact {X : HP} {v0 : Value} {c0 : Cn} {s0 : Nat} {Lv : Lev} {r : List Lev} {L : List HP} {H : PH} (h : SatL (lvH X v0 c0 s0 (Lv :: r) :: L) H) : ∀ j, Lv.d j = true → j * 4096 < Lv.s :=
  bf_dfact (((sep_open [lvH X v0 c0 s0 r, lvP v0 c0 s0 Lv r] L).trans (arr_ent 0 [1] _)) _ h)
theorem lvT_nil {glb X : HP} {v0 : Value} {c0 : Cn} {s0 : Nat} {L : Lev} {r : List Lev} {cc : Cn} : lvT glb X v0 c0 s0 L r cc [] = sep [glb, lvH X v0 c0 s0 r, lvP v0 c0 s0 L r] := rfl
theorem bsT_nil {hp : Cn → Nat → HP} {PT : HP} {T : Nat} {c : Cn} {s : Nat} {cc : Cn} : bsT hp PT T c s cc [] = sep [hp c s, PT] := rfl
/-- what a filer beneath holds behind the pages that are written -/
def endC (cc : Cn) (T : Nat) (c : Cn) (n : Nat) (done : List Nat) : Cn := if done = [] then c else cutC (wC cc T c done) (T + n)
def endS (T s n : Nat) (done : List Nat) : Nat := if done = [] then s else T + n
def endP (l : List Int) (n : Nat) (done : List Nat) : List Int := if done = [] then l else l ++ [(n : Int)]
def ptH (pb nb : Nat) (v : Value) (l : List Int) : HP := sep [ptsH pb l, blk nb (cl [v] 54)]
def ckV (pb nb : Nat) : Value := .func (.func 25) #[] #[.pointer (some ⟨pb, 0, none⟩), .pointer (some ⟨nb, 0, none⟩)]
attribute [local irreducible] wpList Code.wp Exit.then Exit.inBlock bodyPost RunS RunV G St Ct Sat Ent At Rd GQ QL wpAny wpOp wpQuiet slP Sl.ex sep
attribute [local irreducible] zf memf pgl rng ov cutC zc mapO rdd bme bf bx wC wS wD ptsH
section
variable {glb X A : HP} {ea : Addr} {v0 : Value} {c0 : Cn} {s0 N : Nat} {M : Int} {rb : Nat} {ck : Value} {cld : Bool} {tl : Int}
theorem a_endA (hN : N ≤ 1000000000000) (hglb : Rd [glb] ⟨1, 0, none⟩ (eofV ea)) (hI : ∃ t u, v0 = .iface t u) (h0 : RdC v0 glb X ea N c0 s0) (L L2 : Lev) (r : List Lev) (hs : ∀ L' ∈ L :: L2 :: r, L'.s ≤ 800000000000) (htl : 1 < tl ∧ tl ≤ 1000000)
    (hb : L.s + 4096 * r.length + 8192 ≤ N) :
    MCt Tryz.prog (.iface 58 (.pointer (some ⟨rb, 0, none⟩))) "EndUpdate" [] (glb :: tact X v0 c0 s0 rb ck tl cld L (L2 :: r))
      (fun x B => ∃ done : List Nat, done.Nodup ∧ (∀ j, j ∈ done ↔ L.d j = true) ∧ x = .nilIface ∧ B = glb :: tact X v0 c0 s0 rb ck (tl - 1) cld ⟨L2.bb, tc (lvb c0 s0 r) (wC L.c 0 L2.c done) L.s, L.s, td (wD L2.d done) L.s⟩ r) nev := by
  refine MCt.of (Ct.fact (p := ∀ j, L.d j = true → j * 4096 < L.s) (fun H h => lv_dfact (h.ent (arr_ent 0 [2] _))) fun hd => ?_)
  have hLs := hs L (by simp)
  have h1 := REnd_a (rb := rb) (ck := ck) (v' := v0) (cld := cld) (tl := tl) (s := L.s) (bb := L.bb) (b0 := L2.bb) (cb := lvb c0 s0 (L2 :: r)) (c := L.c) (d := L.d) (TH := lvT glb X v0 c0 s0 L2 r L.c) (TH2 := lvT2 glb X v0 c0 s0 L2 r L.c L.s) htl (by omega)
    (lv_wrc hN hglb hI h0 L2 r (fun L' h => hs L' (List.mem_cons_of_mem _ h)) L.c L.d L.s hd hLs hb) ⟨_, _, _, rfl, inferInstance⟩ (fun done hdone => lv_tr L2 r hI (hs L2 (by simp)) L.c L.s hLs done fun j hj => hd j (hdone j hj))
  refine h1.conv (fun F => ?_) (fun x B hx => ?_) (fun c B h => h.elim)
  · rw [lvT_nil]
    refine Ent.trans (arr_ent 0 [2] _) ?_
    refine (sep_open [lvH X v0 c0 s0 (L2 :: r), lvP v0 c0 s0 L (L2 :: r)] _).trans ?_
    refine (sep_open [lvH X v0 c0 s0 r, lvP v0 c0 s0 L2 r] _).trans ?_
    exact Ent.trans (arr_ent 0 [4, 3, 0, 0, 0] _) (Ent.cons (sep_shut [glb, lvH X v0 c0 s0 r, lvP v0 c0 s0 L2 r] _))
  · obtain ⟨done, hn, hdd, h3, h4⟩ := hx
    refine ⟨_, ⟨done, hn, hdd, h3, rfl⟩, fun F => ?_⟩
    rw [h4]
    unfold lvT2
    refine (Ent.cons (sep_open [_, _, _] F)).trans ?_
    exact Ent.trans (arr_ent 0 [1, 0, 0, 0] _) (Ent.cons (Ent.cons (sep_shut [_, _] F)))
end
section
variable {glb : HP} {ea : Addr} {v : Value} {hp : Cn → Nat → HP} {T : Nat} {rb : Nat} {cld : Bool} {pb nb : Nat} {l : List Int}
theorem bs_check (B : BF glb ea v hp T false) (c : Cn) (s : Nat) (hsz : s ≤ 900000000000) (cc : Cn) (sc : Nat) (hsn : T + sc ≤ 800000000000) (hl : l.length ≤ 1000000) (done : List Nat) (hdone : ∀ j ∈ done, j * 4096 < sc) :
    Ct Tryz.prog 25 #[.int .i64 (sc : Nat), .pointer (some ⟨pb, 0, none⟩), .pointer (some ⟨nb, 0, none⟩)] [bsT hp (ptH pb nb v l) T c s cc done]
      (fun x B => x = .nilIface ∧ B = [sep [hp (cutC (wC cc T c done) (T + sc)) (T + sc), ptH pb nb v (l ++ [(sc : Int)])]]) nev := by
  have hs2 : wS T s done ≤ 900000000000 := wS_le _ hsz done fun j hj => by have := hdone j hj; omega
  have h1 := check_c (pb := pb) (nb := nb) (v := v) (l := l) (s := sc) hl (B.trunc rfl (wC cc T c done) (wS T s done) sc (by omega) (by omega))
  refine h1.conv (fun F => ?_) (fun x B hx => ?_) (fun c B h => h.elim)
  · unfold bsT ptH
    exact (sep_open [_, sep [_, _]] F).trans (Ent.cons (sep_open [_, _] F))
  · obtain ⟨h3, h4⟩ := hx
    refine ⟨_, ⟨h3, rfl⟩, fun F => ?_⟩
    rw [h4]
    unfold ptH
    exact (Ent.cons (sep_shut [_, _] F)).trans (sep_shut [_, sep [_, _]] F)
theorem a_end1 (B : BF glb ea v hp T false) (c : Cn) (s : Nat) (hsz : s ≤ 800000000000) (L : Lev) (hL : T + L.s ≤ 800000000000) (hl : l.length ≤ 1000000) :
    MCt Tryz.prog (.iface 58 (.pointer (some ⟨rb, 0, none⟩))) "EndUpdate" [] (ptH pb nb v l :: tact (hp c s) v (shC T c) (s - T) rb (ckV pb nb) 1 cld L [])
      (fun x B => ∃ done : List Nat, done.Nodup ∧ (∀ j, j ∈ done ↔ L.d j = true) ∧ x = .nilIface ∧ B = [ptH pb nb v (endP l L.s done), rP rb none (ckV pb nb) v 0 cld, hp (endC L.c T c L.s done) (endS T s L.s done)]) nev := by
  refine MCt.of (Ct.fact (p := ∀ j, L.d j = true → j * 4096 < L.s) (fun H h => lv_dfact (h.ent (arr_ent 0 [2] _))) fun hd => ?_)
  have h1 := REnd_1 (rb := rb) (ck := ckV pb nb) (v' := v) (cld := cld) (s := L.s) (bb := L.bb) (pv := v) (cb := lvb (shC T c) (s - T) []) (c := L.c) (d := L.d) (TH := bsT hp (ptH pb nb v l) T c s L.c) (ok := true)
    (TH2 := fun done => sep [hp (cutC (wC L.c T c done) (T + L.s)) (T + L.s), ptH pb nb v (l ++ [(L.s : Int)])]) (cp := [.pointer (some ⟨pb, 0, none⟩), .pointer (some ⟨nb, 0, none⟩)]) (by omega)
    (bs_wrc B c s (by omega) L.c L.d L.s hd hL) B.isW (fun _ done _ hdone => bs_check B c s (by omega) L.c L.s hL hl done fun j hj => hd j (hdone j hj)) rfl
  refine h1.conv (fun F => ?_) (fun x B hx => ?_) (fun c B h => h.elim)
  · rw [bsT_nil]
    refine Ent.trans (arr_ent 0 [2] _) ?_
    refine (sep_open [hp c s, lvP v (shC T c) (s - T) L []] _).trans ?_
    exact Ent.trans (arr_ent 0 [3, 0, 1] _) (Ent.cons (sep_shut [_, _] _))
  · rcases hx with ⟨done, hn, hdd, _, h3, h4⟩ | ⟨h, _⟩
    · refine ⟨_, ⟨done, hn, hdd, h3, rfl⟩, fun F => ?_⟩
      rw [h4]
      unfold endC endS endP
      by_cases h0 : done = []
      · simp only [if_pos h0]
        rw [bsT_nil]
        exact (Ent.cons (sep_open [_, _] F)).trans (arr_ent 0 [2, 0, 0] _)
      · simp only [if_neg h0]
        exact (Ent.cons (sep_open [_, _] F)).trans (arr_ent 0 [2, 0, 0] _)
    · cases h
theorem a_endP (B : BF glb ea v hp T true) (c : Cn) (s : Nat) (_hsz : s ≤ 800000000000) (L : Lev) (hL : T + L.s ≤ 800000000000) {PT : HP} :
    MCt Tryz.prog (.iface 58 (.pointer (some ⟨rb, 0, none⟩))) "EndUpdate" [] (PT :: tact (hp c s) v (shC T c) (s - T) rb (ckV pb nb) 1 cld L [])
      (fun x B => (x = .nilIface ∧ B = [PT, rP rb none (ckV pb nb) v 0 cld, hp c s]) ∨ ((∃ b, x = permV b) ∧ B = [PT, rP rb (some ⟨L.bb, 0, none⟩) (ckV pb nb) v 0 cld, hp c s, bx L.bb v L.s])) nev := by
  refine MCt.of (Ct.fact (p := ∀ j, L.d j = true → j * 4096 < L.s) (fun H h => lv_dfact (h.ent (arr_ent 0 [2] _))) fun hd => ?_)
  have h1 := REnd_1 (rb := rb) (ck := ckV pb nb) (v' := v) (cld := cld) (s := L.s) (bb := L.bb) (pv := v) (cb := lvb (shC T c) (s - T) []) (c := L.c) (d := L.d) (TH := fun _ => sep [hp c s, PT]) (ok := false)
    (TH2 := fun done => PT) (cp := [.pointer (some ⟨pb, 0, none⟩), .pointer (some ⟨nb, 0, none⟩)]) (by omega)
    (bs_wrp B c s L.c L.d L.s hd hL) B.isW (fun h => by cases h) rfl
  refine h1.conv (fun F => ?_) (fun x B hx => ?_) (fun c B h => h.elim)
  · refine Ent.trans (arr_ent 0 [2] _) ?_
    refine (sep_open [hp c s, lvP v (shC T c) (s - T) L []] _).trans ?_
    exact Ent.trans (arr_ent 0 [3, 0, 1] _) (Ent.cons (sep_shut [_, _] _))
  · rcases hx with ⟨done, hn, hdd, h5, h3, h4⟩ | ⟨_, b, h3, h4⟩
    · have h0 : done = [] := h5.resolve_left (by simp)
      refine ⟨_, .inl ⟨h3, rfl⟩, fun F => ?_⟩
      rw [h4, if_pos h0]
      exact (Ent.cons (sep_open [_, _] F)).trans (arr_ent 0 [2, 0, 0] _)
    · refine ⟨_, .inr ⟨⟨b, h3⟩, rfl⟩, fun F => ?_⟩
      rw [h4]
      exact (Ent.cons (sep_open [_, _] _)).trans (arr_ent 0 [2, 0, 0, 0] _)
end
end Go.Proofs.YtfebpbflpdppiaaGreatDoor
namespace Go.Proofs.YtfebpbflpdppiaaGreatDoor
open Go Go.Sl
set_option maxRecDepth 100000
def lvPl (v0 : Value) (c0 : Cn) (s0 : Nat) : List Lev → List HP
  | [] => []
  | L :: r => lvP v0 c0 s0 L r :: lvPl v0 c0 s0 r
section
variable {X : HP} {v0 : Value} {c0 : Cn} {s0 : Nat}
theorem lv_open : ∀ (r : List Lev) (F : List HP), Ent (lvH X v0 c0 s0 r :: F) (X :: (lvPl v0 c0 s0 r ++ F))
  | [], _F => Ent.refl _
  | L :: r, F => ((sep_open [lvH X v0 c0 s0 r, lvP v0 c0 s0 L r] F).trans (lv_open r (lvP v0 c0 s0 L r :: F))).trans (Ent.cons (Ent.perm List.perm_middle))
theorem lv_shut : ∀ (r : List Lev) (F : List HP), Ent (X :: (lvPl v0 c0 s0 r ++ F)) (lvH X v0 c0 s0 r :: F)
  | [], _F => Ent.refl _
  | L :: r, F => ((Ent.cons (Ent.perm List.perm_middle.symm)).trans (lv_shut r (lvP v0 c0 s0 L r :: F))).trans (sep_shut [lvH X v0 c0 s0 r, lvP v0 c0 s0 L r] F)
end
/-- a level that is dead, if there is one -/
def dead : Option (Nat × Value × Nat) → List HP
  | none => []
  | some (b, pv, s) => [bx b pv s]
def deadP : Option (Nat × Value × Nat) → Option Addr
  | none => none
  | some (b, _, _) => some ⟨b, 0, none⟩
/-- outside a transaction -/
def idH (rb : Nat) (ck v0 : Value) (X : HP) : HP := ex fun x : Bool × Option (Nat × Value × Nat) => sep ([rP rb (deadP x.2) ck v0 0 x.1, X] ++ dead x.2)
/-- inside one -/
def acH (rb : Nat) (ck v0 : Value) (X : HP) (c0 : Cn) (s0 : Nat) (L : Lev) (r : List Lev) : HP := ex fun cld : Bool => sep (tact X v0 c0 s0 rb ck ((r.length : Int) + 1) cld L r)
/-- closed inside one -/
def bkH (rb : Nat) (ck v0 : Value) (X : HP) : HP := ex fun n : Nat => also (0 < n ∧ n ≤ 1000) (sep [rP rb none ck v0 (n : Int) true, X])
/-- a panic of Go's own, in whatever state it may come -/
def pnP (p : Prop) (L : List HP) : List PanicEntry → List HP → Prop := fun c B => p ∧ pnE L c B
inductive TS where
  | idle
  | act (L : Lev) (r : List Lev)
  | brk
def tsH (hp : Cn → Nat → HP) (T rb : Nat) (ck v0 : Value) (c : Cn) (s : Nat) : TS → HP
  | .idle => idH rb ck v0 (hp c s)
  | .act L r => acH rb ck v0 (hp c s) (shC T c) (s - T) L r
  | .brk => bkH rb ck v0 (hp c s)
section
variable {P : Program} {f : FuncId} {args : Array Value} {rb : Nat} {ck v0 : Value} {X : HP} {K : List HP}
theorem id_shut {cld : Bool} {y : Option (Nat × Value × Nat)} {F : List HP} : Ent ([rP rb (deadP y) ck v0 0 cld, X] ++ dead y ++ F) (idH rb ck v0 X :: F) :=
  (sep_shut ([rP rb (deadP y) ck v0 0 cld, X] ++ dead y) F).trans (ex_shut (fun x : Bool × Option (Nat × Value × Nat) => sep ([rP rb (deadP x.2) ck v0 0 x.1, X] ++ dead x.2)) (cld, y) F)
theorem id_shut0 {cld : Bool} {F : List HP} : Ent (rP rb none ck v0 0 cld :: X :: F) (idH rb ck v0 X :: F) := id_shut (y := none)
theorem ac_shut {cld : Bool} {c0 : Cn} {s0 : Nat} {L : Lev} {r : List Lev} {tl : Int} (ht : tl = (r.length : Int) + 1) {F : List HP} : Ent (tact X v0 c0 s0 rb ck tl cld L r ++ F) (acH rb ck v0 X c0 s0 L r :: F) := by
  subst ht
  exact (sep_shut (tact X v0 c0 s0 rb ck _ cld L r) F).trans (ex_shut (fun cld : Bool => sep (tact X v0 c0 s0 rb ck ((r.length : Int) + 1) cld L r)) cld F)
theorem bk_shut {n : Nat} {F : List HP} (h : 0 < n ∧ n ≤ 1000) : Ent (rP rb none ck v0 (n : Int) true :: X :: F) (bkH rb ck v0 X :: F) :=
  (sep_shut [rP rb none ck v0 (n : Int) true, X] F).trans ((also_shut h _ F).trans (ex_shut (fun n : Nat => also (0 < n ∧ n ≤ 1000) (sep [rP rb none ck v0 (n : Int) true, X])) n F))
theorem perm_mid {A K D F : List HP} : Ent ((A ++ D) ++ (K ++ F)) ((A ++ K ++ D) ++ F) := Ent.perm (by
  simp only [List.append_assoc]
  refine List.Perm.append_left A ?_
  rw [← List.append_assoc, ← List.append_assoc]
  exact List.Perm.append_right F List.perm_append_comm)
theorem perm_mid' {A K D F : List HP} : Ent ((A ++ K ++ D) ++ F) ((A ++ D) ++ (K ++ F)) := Ent.perm (by
  simp only [List.append_assoc]
  refine List.Perm.append_left A ?_
  rw [← List.append_assoc, ← List.append_assoc]
  exact List.Perm.append_right F List.perm_append_comm)
/-- a call outside a transaction, whatever level is dead -/
theorem id_lift {R : Value → List HP → Prop} (h : ∀ cld bp, Ct P f args ([rP rb bp ck v0 0 cld, X] ++ K) (fun x B => ∃ cld' K', R x K' ∧ B = [rP rb bp ck v0 0 cld', X] ++ K') nev) :
    Ct P f args (idH rb ck v0 X :: K) (fun x B => ∃ K', R x K' ∧ B = idH rb ck v0 X :: K') nev := Ct.exE fun x => by
  refine ((h x.1 (deadP x.2)).frame (dead x.2)).conv (fun F => ?_) (fun v B hx => ?_) (fun c B hx => by obtain ⟨_, h, _⟩ := hx; exact h.elim)
  · exact (sep_open _ (K ++ F)).trans perm_mid
  · obtain ⟨B', ⟨cld', K', hR, h2⟩, h3⟩ := hx
    subst h3 h2
    exact ⟨_, ⟨K', hR, rfl⟩, fun F => perm_mid'.trans (id_shut (F := K' ++ F))⟩
/-- a call inside a transaction -/
theorem ac_lift {R : Value → List HP → Prop} {E : List PanicEntry → List HP → Prop} {c0 : Cn} {s0 : Nat} {L : Lev} {r : List Lev} (h : ∀ cld, Ct P f args (tact X v0 c0 s0 rb ck ((r.length : Int) + 1) cld L r ++ K) R E) : Ct P f args (acH rb ck v0 X c0 s0 L r :: K) R E :=
  Ct.exE fun cld => (h cld).conv (fun F => sep_open _ (K ++ F)) (fun _v B hx => ⟨B, hx, fun _F => Ent.refl _⟩) (fun _c B hx => ⟨B, hx, fun _F => Ent.refl _⟩)
theorem _root_.Go.Sl.Ct.alsoE {p : Prop} {A : HP} {L : List HP} {R : Value → List HP → Prop} {E : List PanicEntry → List HP → Prop} (h : p → Ct P f args (A :: L) R E) : Ct P f args (Sl.also p A :: L) R E := fun m F w hw => by
  obtain ⟨hp, hx⟩ := hw.2.2.2.also
  exact h hp m F w ⟨hw.1, hw.2.1, hw.2.2.1, hx⟩
theorem bk_lift {R : Value → List HP → Prop} {E : List PanicEntry → List HP → Prop} (h : ∀ n : Nat, 0 < n ∧ n ≤ 1000 → Ct P f args ([rP rb none ck v0 (n : Int) true, X] ++ K) R E) : Ct P f args (bkH rb ck v0 X :: K) R E :=
  Ct.exE fun n => Ct.alsoE fun hn => (h n hn).conv (fun F => sep_open _ (K ++ F)) (fun _v B hx => ⟨B, hx, fun _F => Ent.refl _⟩) (fun _c B hx => ⟨B, hx, fun _F => Ent.refl _⟩)
end
end Go.Proofs.YtfebpbflpdppiaaGreatDoor
namespace Go.Proofs.YtfebpbflpdppiaaGreatDoor
open Go Go.Sl
set_option maxRecDepth 100000
section
variable {P : Program} {v : Value} {n : String} {vs : List Value} {L : List HP} {R : Value → List HP → Prop} {E : List PanicEntry → List HP → Prop}
theorem _root_.Go.Sl.MCt.exE {α : Type} {A : α → HP} (x0 : α) (h : ∀ x, MCt P v n vs (A x :: L) R E) : MCt P v n vs (Sl.ex A :: L) R E := by
  obtain ⟨rt, u, f, e, hm, he, h0⟩ := h x0
  refine ⟨rt, u, f, e, hm, he, fun m F w hw => ?_⟩
  obtain ⟨x, hx⟩ := hw.2.2.2.ex
  obtain ⟨rt', u', f', e', hm', he', h1⟩ := h x
  subst e
  cases e'
  have := (hm.h u w).symm.trans (hm'.h u w)
  cases this
  exact h1 m F w ⟨hw.1, hw.2.1, hw.2.2.1, hx⟩
theorem _root_.Go.Sl.MCt.frame (h : MCt P v n vs L R E) (G : List HP) : MCt P v n vs (L ++ G) (fun v B => ∃ B', R v B' ∧ B = B' ++ G) (fun c B => ∃ B', E c B' ∧ B = B' ++ G) := h.map fun _ _ h => h.frame G
/-- a call inside a transaction, of a method -/
theorem act_lift {rb : Nat} {ck v0 : Value} {X : HP} {c0 : Cn} {s0 : Nat} {Lv : Lev} {r : List Lev} {K : List HP} (h : ∀ cld, MCt P v n vs (tact X v0 c0 s0 rb ck ((r.length : Int) + 1) cld Lv r ++ K) R E) : MCt P v n vs (acH rb ck v0 X c0 s0 Lv r :: K) R E :=
  MCt.exE true fun cld => (h cld).conv (fun F => sep_open _ (K ++ F)) (fun _v B hx => ⟨B, hx, fun _F => Ent.refl _⟩) (fun _c B hx => ⟨B, hx, fun _F => Ent.refl _⟩)
end
attribute [local irreducible] wpList Code.wp Exit.then Exit.inBlock bodyPost RunS RunV G St Ct Sat Ent At Rd GQ QL wpAny wpOp wpQuiet slP Sl.ex sep
attribute [local irreducible] zf memf pgl rng ov cutC zc mapO rdd bme
section
variable {bb s : Nat} {cb : Cn} {c : Cn} {d : Nat → Bool} {pv : Value}
theorem bRead_0 (a : Option Addr) (cp2 : Nat) (off : Int) (ho : off < 0) (hb : -1000000000000000 ≤ off) (hsz : s ≤ 900000000000) :
    Ct Tryz.prog 120 #[.pointer (some ⟨bb, 0, none⟩), .slice a 0 cp2, .int .i64 off] [bf bb pv cb c s d] (fun v B => v = .tuple #[.int .i64 0, .nilIface] ∧ B = [bf bb pv cb c s d]) nev := by
  refine Ct.of Tryz.func120 rfl Tryz.ntmps120 rfl fun m F => ?_
  refine bf_open fun mb l kk hok => ?_
  repeat (first | refine wZ ?_ | intro b)
  rw [decide_eq_false (by omega : ¬ ((s : Int) - off ≤ ((0 : Nat) : Int)))]
  repeat (first | refine wZ ?_ | intro b)
  refine c_loop (α := Unit) (fun _ => [(6, .int .i64 0), (7, .nilIface), (11, .int .i64 (0 : Nat))])
    (fun _ => blk bb (cl (bcells pv mb s) 180) :: blk mb (mapO (bme l) kk) :: bpgs c l :: F) (fun _ => True) (fun _ => 0) () trivial (by exact ⟨rfl, rfl, rfl, trivial⟩) (Ent.refl _) ?_
  rintro _ _
  repeat (first | refine wZ ?_ | intro b)
  exact e_ret2 _ rfl rfl rfl ⟨rfl, rfl⟩ (bf_shut hok)
theorem bWrite_0 (a : Option Addr) (cp2 : Nat) (off : Int) (ho : off < 0) (hb : -1000000000000000 ≤ off) (hsz : s ≤ 900000000000) :
    Ct Tryz.prog 123 #[.pointer (some ⟨bb, 0, none⟩), .slice a 0 cp2, .int .i64 off] [bf bb pv cb c s d] (fun v B => v = .tuple #[.int .i64 0, .nilIface] ∧ B = [bf bb pv cb c s d]) nev := by
  refine Ct.of Tryz.func123 rfl Tryz.ntmps123 rfl fun m F => ?_
  refine bf_open fun mb l kk hok => ?_
  repeat (first | refine wZ ?_ | intro b)
  refine c_loop (α := Unit) (fun _ => [(0, .pointer (some ⟨bb, 0, none⟩)), (6, .int .i64 (0 : Nat)), (7, .nilIface), (8, .int .i64 off), (11, .int .i64 (0 : Nat))])
    (fun _ => blk bb (cl (bcells pv mb s) 180) :: blk mb (mapO (bme l) kk) :: bpgs c l :: F) (fun _ => True) (fun _ => 0) () trivial (by exact ⟨rfl, rfl, rfl, rfl, rfl, trivial⟩) (Ent.refl _) ?_
  rintro _ _
  repeat (first | refine wZ ?_ | intro b)
  refine l_plain rfl (s_call rfl rfl (zzMaxInt64_c _ _) [] rfl ?_ (fun _ _ h => h.elim))
  rintro _ _ ⟨rfl, rfl⟩
  rw [show max ((s : Nat) : Int) (off + ((0 : Nat) : Int)) = (s : Nat) from by omega]
  repeat (first | refine wZ ?_ | intro b)
  exact e_ret2 _ rfl rfl rfl ⟨rfl, rfl⟩ (bf_shut hok)
end
end Go.Proofs.YtfebpbflpdppiaaGreatDoor
namespace Go.Proofs.YtfebpbflpdppiaaGreatDoor
open Go Go.Sl
set_option maxRecDepth 100000
def tv (rb : Nat) : Value := .iface 58 (.pointer (some ⟨rb, 0, none⟩))
section
variable {P : Program} {f : FuncId} {args : Array Value} {v : Value} {n : String} {vs : List Value} {rb : Nat} {ck v0 : Value} {X : HP} {R0 : Value → Prop}
theorem id_fr (h : ∀ cld bp, Ct P f args [rP rb bp ck v0 0 cld, X] (fun x B => R0 x ∧ ∃ cld', B = [rP rb bp ck v0 0 cld', X]) nev) (K : List HP) : Ct P f args (idH rb ck v0 X :: K) (fun x B => R0 x ∧ B = idH rb ck v0 X :: K) nev := by
  refine (id_lift (R := fun x K' => R0 x ∧ K' = K) fun cld bp => ?_).mono (fun x B hx => ?_) (fun c B h => h.elim)
  · refine ((h cld bp).frame K).mono (fun x B hx => ?_) (fun c B hx => by obtain ⟨_, h, _⟩ := hx; exact h.elim)
    obtain ⟨_, ⟨h1, cld', rfl⟩, rfl⟩ := hx
    exact ⟨cld', K, ⟨h1, rfl⟩, rfl⟩
  · obtain ⟨_, ⟨h1, rfl⟩, rfl⟩ := hx
    exact ⟨h1, rfl⟩
theorem bk_fr (h : ∀ k : Nat, 0 < k ∧ k ≤ 1000 → Ct P f args [rP rb none ck v0 (k : Int) true, X] (fun x B => R0 x ∧ B = [rP rb none ck v0 (k : Int) true, X]) nev) (K : List HP) : Ct P f args (bkH rb ck v0 X :: K) (fun x B => R0 x ∧ B = bkH rb ck v0 X :: K) nev :=
  bk_lift fun k hk => ((h k hk).frame K).conv (fun F => Ent.refl _) (fun x B hx => by
    obtain ⟨_, ⟨h1, rfl⟩, rfl⟩ := hx
    exact ⟨_, ⟨h1, rfl⟩, fun F => bk_shut (F := K ++ F) hk⟩) (fun c B hx => by obtain ⟨_, h, _⟩ := hx; exact h.elim)
theorem bk_pan {R : Value → List HP → Prop} {p : Prop} (hp : p) (h : ∀ k : Nat, 0 < k ∧ k ≤ 1000 → Ct P f args [rP rb none ck v0 (k : Int) true] none_ (pnE [rP rb none ck v0 (k : Int) true])) (K : List HP) : Ct P f args (bkH rb ck v0 X :: K) R (pnP p (bkH rb ck v0 X :: K)) :=
  bk_lift fun k hk => ((h k hk).frame (X :: K)).conv (fun F => Ent.refl _) (fun x B hx => by obtain ⟨_, h, _⟩ := hx; exact h.elim) (fun c B hx => by
    obtain ⟨_, ⟨h1, rfl⟩, rfl⟩ := hx
    exact ⟨_, ⟨hp, h1, rfl⟩, fun F => bk_shut (F := K ++ F) hk⟩)
theorem act_fr {c0 : Cn} {s0 : Nat} {L : Lev} {r : List Lev} {K : List HP} (h : ∀ cld, MCt P v n vs (tact X v0 c0 s0 rb ck ((r.length : Int) + 1) cld L r) (fun x B => R0 x ∧ B = tact X v0 c0 s0 rb ck ((r.length : Int) + 1) cld L r) nev) : MCt P v n vs (acH rb ck v0 X c0 s0 L r :: K) (fun x B => R0 x ∧ B = acH rb ck v0 X c0 s0 L r :: K) nev :=
  act_lift fun cld => ((h cld).frame K).conv (fun F => Ent.refl _) (fun x B hx => by
    obtain ⟨_, ⟨h1, rfl⟩, rfl⟩ := hx
    exact ⟨_, ⟨h1, rfl⟩, fun F => by rw [List.append_assoc]; exact ac_shut (F := K ++ F) rfl⟩) (fun c B hx => by obtain ⟨_, h, _⟩ := hx; exact h.elim)
theorem act_to {c0 : Cn} {s0 : Nat} {L : Lev} {r : List Lev} {K : List HP} {Q : Value → Lev → List Lev → Prop} (h : ∀ cld, MCt P v n vs (tact X v0 c0 s0 rb ck ((r.length : Int) + 1) cld L r) (fun x B => ∃ L' r', Q x L' r' ∧ ∃ tl, tl = (r'.length : Int) + 1 ∧ B = tact X v0 c0 s0 rb ck tl cld L' r') nev) : MCt P v n vs (acH rb ck v0 X c0 s0 L r :: K) (fun x B => ∃ L' r', Q x L' r' ∧ B = acH rb ck v0 X c0 s0 L' r' :: K) nev :=
  act_lift fun cld => ((h cld).frame K).conv (fun F => Ent.refl _) (fun x B hx => by
    obtain ⟨_, ⟨L', r', h1, tl, ht, rfl⟩, rfl⟩ := hx
    exact ⟨_, ⟨L', r', h1, rfl⟩, fun F => by rw [List.append_assoc]; exact ac_shut (F := K ++ F) ht⟩) (fun c B hx => by obtain ⟨_, h, _⟩ := hx; exact h.elim)
/-- a call that asks for the rollback and what is beneath it alone, inside a transaction -/
theorem act_u {c0 : Cn} {s0 : Nat} {L : Lev} {r : List Lev} {K : List HP} (h : ∀ cld, Ct P f args [rP rb (some ⟨L.bb, 0, none⟩) ck v0 ((r.length : Int) + 1) cld, X] (fun x B => R0 x ∧ B = [rP rb (some ⟨L.bb, 0, none⟩) ck v0 ((r.length : Int) + 1) cld, X]) nev) : Ct P f args (acH rb ck v0 X c0 s0 L r :: K) (fun x B => R0 x ∧ B = acH rb ck v0 X c0 s0 L r :: K) nev :=
  ac_lift fun cld => ((h cld).frame (lvPl v0 c0 s0 (L :: r) ++ K)).conv (fun F => by
    simp only [List.append_assoc]
    exact Ent.cons (lv_open (L :: r) (K ++ F))) (fun x B hx => by
    obtain ⟨_, ⟨h1, rfl⟩, rfl⟩ := hx
    exact ⟨_, ⟨h1, rfl⟩, fun F => by
      simp only [List.append_assoc]
      exact (Ent.cons (lv_shut (L :: r) (K ++ F))).trans (ac_shut (F := K ++ F) rfl)⟩) (fun c B hx => by obtain ⟨_, h, _⟩ := hx; exact h.elim)
end
attribute [local irreducible] wpList Code.wp Exit.then Exit.inBlock bodyPost RunS RunV G St Ct Sat Ent At Rd GQ QL wpAny wpOp wpQuiet slP Sl.ex sep
attribute [local irreducible] zf memf pgl rng ov cutC zc mapO rdd bme bf bx wC wS wD ptsH
section
variable {glb : HP} {ea : Addr} {v0 : Value} {hp : Cn → Nat → HP} {T : Nat} {ro : Bool} {rb : Nat} {c : Cn} {s : Nat} {K : List HP} {ck : Value}
def SzR (T s : Nat) : TS → Int → Prop
  | .idle, q => q = ((s - T : Nat) : Int)
  | .act L _, q => q = (L.s : Int)
  | .brk, _ => False
theorem t_size (B : BF glb ea v0 hp T ro) (hs : s ≤ 1000000) (st : TS) : MCt Tryz.prog (tv rb) "Size" [] (tsH hp T rb ck v0 c s st :: K)
    (fun x B => (∃ q : Int, SzR T s st q ∧ x = .tuple #[.int .i64 q, .nilIface]) ∧ B = tsH hp T rb ck v0 c s st :: K) (pnP (st = .brk) (tsH hp T rb ck v0 c s st :: K)) := by
  cases st with
  | idle => exact (MCt.of (id_fr (fun cld bp => (RSize_0 (fun x L h => ⟨_, _, h.1⟩) (B.size c s (by omega))).mono (fun x B hx => by
      obtain ⟨_, ⟨h1, rfl⟩, rfl⟩ := hx
      exact ⟨⟨_, rfl, h1⟩, cld, rfl⟩) (fun _ _ h => h)) K)).mono (fun _ _ h => h) (fun _ _ h => h.elim)
  | act L r => exact (act_fr fun cld => (a_size L r (by omega)).mono (fun x B hx => by
      obtain ⟨h1, rfl⟩ := hx
      exact ⟨⟨_, rfl, h1⟩, rfl⟩) (fun _ _ h => h)).mono (fun _ _ h => h) (fun _ _ h => h.elim)
  | brk => exact MCt.of (bk_pan rfl (fun k hk => (RSize_a (tl := (k : Int)) (cld := true) (bp := none) (A := sep []) (R := none_) (E := pnE [sep []]) (fun _ _ h => h.elim) (by omega) pnE_s (bSize_nil.conv (fun F => Ent.drop) (fun _ _ h => h.elim) (fun c B hx => ⟨[sep []], ⟨hx.1, rfl⟩, fun F => by rw [hx.2]; exact sep_shut [] F⟩))).conv (fun F => Ent.cons (sep_shut [] F)) (fun x B hx => by obtain ⟨_, h, _⟩ := hx; exact h.elim) (fun c B hx => by
      obtain ⟨_, ⟨h1, rfl⟩, rfl⟩ := hx
      exact ⟨_, ⟨h1, rfl⟩, fun F => Ent.cons Ent.drop⟩)) K)
theorem t_sync (B : BF glb ea v0 hp T ro) (st : TS) : MCt Tryz.prog (tv rb) "Sync" [] (tsH hp T rb ck v0 c s st :: K)
    (fun x B => x = .nilIface ∧ B = tsH hp T rb ck v0 c s st :: K) nev := by
  cases st with
  | idle => exact MCt.of (id_fr (fun cld bp => (RSync_c (B.sync c s)).mono (fun x B hx => by
      obtain ⟨_, ⟨h1, rfl⟩, rfl⟩ := hx
      exact ⟨h1, cld, rfl⟩) (fun _ _ h => h)) K)
  | act L r => exact MCt.of (act_u fun cld => (RSync_c (B.sync c s)).mono (fun x B hx => by
      obtain ⟨_, ⟨h1, rfl⟩, rfl⟩ := hx
      exact ⟨h1, rfl⟩) (fun _ _ h => h))
  | brk => exact MCt.of (bk_fr (fun k hk => (RSync_c (B.sync c s)).mono (fun x B hx => by
      obtain ⟨_, ⟨h1, rfl⟩, rfl⟩ := hx
      exact ⟨h1, rfl⟩) (fun _ _ h => h)) K)
theorem t_name (B : BF glb ea v0 hp T ro) (st : TS) : MCt Tryz.prog (tv rb) "Name" [] (tsH hp T rb ck v0 c s st :: K)
    (fun x B => x = .string nameS ∧ B = tsH hp T rb ck v0 c s st :: K) nev := by
  cases st with
  | idle => exact MCt.of (id_fr (fun cld bp => (RName_c (B.name c s)).mono (fun x B hx => by
      obtain ⟨_, ⟨h1, rfl⟩, rfl⟩ := hx
      exact ⟨h1, cld, rfl⟩) (fun _ _ h => h)) K)
  | act L r => exact MCt.of (act_u fun cld => (RName_c (B.name c s)).mono (fun x B hx => by
      obtain ⟨_, ⟨h1, rfl⟩, rfl⟩ := hx
      exact ⟨h1, rfl⟩) (fun _ _ h => h))
  | brk => exact MCt.of (bk_fr (fun k hk => (RName_c (B.name c s)).mono (fun x B hx => by
      obtain ⟨_, ⟨h1, rfl⟩, rfl⟩ := hx
      exact ⟨h1, rfl⟩) (fun _ _ h => h)) K)
end
end Go.Proofs.YtfebpbflpdppiaaGreatDoor
namespace Go.Proofs.YtfebpbflpdppiaaGreatDoor
open Go Go.Sl
set_option maxRecDepth 100000
attribute [local irreducible] wpList Code.wp Exit.then Exit.inBlock bodyPost RunS RunV G St Ct Sat Ent At Rd GQ QL wpAny wpOp wpQuiet slP Sl.ex sep
attribute [local irreducible] zf memf pgl rng ov cutC zc mapO rdd bme bf bx wC wS wD
section
variable {glb X A : HP} {ea : Addr} {v0 : Value} {c0 : Cn} {s0 N : Nat} {M : Int} {rb : Nat} {ck : Value} {cld : Bool} {tl : Int}
theorem a_readN (hM : M ≤ 1000000000000000) (hglb : Rd [glb] ⟨1, 0, none⟩ (eofV ea)) (hI : ∃ t u, v0 = .iface t u) (h0 : RdM v0 glb X M) (L : Lev) (r : List Lev) (hs : ∀ L' ∈ L :: r, L'.s ≤ 800000000000) (htl : tl ≠ 0)
    (a : Option Addr) (k cap : Nat) (off : Int) (hk : 0 < k) (ho : off < 0) (hb : -M + 4096 * ((r.length : Int) + 1) ≤ off) :
    MCt Tryz.prog (tv rb) "ReadAt" [.slice a k cap, .int .i64 off] (glb :: tact X v0 c0 s0 rb ck tl cld L r) (fun x B => ∃ b, x = .tuple #[.int .i64 0, invV b] ∧ B = glb :: tact X v0 c0 s0 rb ck tl cld L r) nev := by
  have ih := lv_rdm (c0 := c0) (s0 := s0) hM hglb hI h0 r (fun L' h => by have := hs L' (List.mem_cons_of_mem _ h); omega)
  obtain ⟨t, u, he⟩ := lvV_I hI r
  rw [he] at ih
  have h1 := bReadAt_n (bb := L.bb) (c := L.c) (d := L.d) (s := L.s) (cb := lvb c0 s0 r) hglb (by omega) ih a k cap off hk ho (by omega) (by have := hs L (by simp); omega)
  have h2 : Ct Tryz.prog 120 #[.pointer (some ⟨L.bb, 0, none⟩), .slice a k cap, .int .i64 off] [sep [glb, lvH X v0 c0 s0 (L :: r)]] (fun x B => ∃ b, x = .tuple #[.int .i64 0, invV b] ∧ B = [sep [glb, lvH X v0 c0 s0 (L :: r)]]) nev := by
    refine h1.conv (fun F => ?_) (fun x B hx => ?_) (fun c B h => h.elim)
    · rw [← he]
      exact (sep_open [glb, lvH X v0 c0 s0 (L :: r)] F).trans rq2
    · obtain ⟨b, h3, h4⟩ := hx
      refine ⟨_, ⟨b, h3, rfl⟩, fun F => ?_⟩
      rw [h4, ← he]
      exact rq2'.trans (sep_shut [glb, lvH X v0 c0 s0 (L :: r)] F)
  have h3 := RReadAt_a (rb := rb) (ck := ck) (v' := v0) (cld := cld) (fun x B h => by obtain ⟨b, h, _⟩ := h; exact ⟨_, _, h⟩) htl (fun c B h => h.elim) h2
  refine MCt.of (h3.conv (fun F => ?_) (fun x B hx => ?_) (fun c B h => by obtain ⟨_, h, _⟩ := h; exact h.elim))
  · exact Ent.trans (arr_ent 0 [1, 0, 0] _) (Ent.cons (sep_shut [_, _] F))
  · obtain ⟨B', ⟨b, h4, h5⟩, h6⟩ := hx
    subst h6 h5
    exact ⟨_, ⟨b, h4, rfl⟩, fun F => (Ent.cons (sep_open [_, _] F)).trans (arr_ent 0 [1, 0, 0] _)⟩
theorem a_writeN (hM : M ≤ 1000000000000000) (hglb : Rd [glb] ⟨1, 0, none⟩ (eofV ea)) (hI : ∃ t u, v0 = .iface t u) (h0 : RdM v0 glb X M) (L : Lev) (r : List Lev) (hs : ∀ L' ∈ L :: r, L'.s ≤ 800000000000) (htl : tl ≠ 0)
    (a : Option Addr) (k cap : Nat) (off : Int) (hk : 0 < k) (ho : off < 0) (hb : -M + 4096 * ((r.length : Int) + 1) ≤ off) :
    MCt Tryz.prog (tv rb) "WriteAt" [.slice a k cap, .int .i64 off] (glb :: tact X v0 c0 s0 rb ck tl cld L r) (fun x B => ∃ b, x = .tuple #[.int .i64 (k : Nat), invV b] ∧ B = glb :: tact X v0 c0 s0 rb ck tl cld L r) nev := by
  have ih := lv_rdm (c0 := c0) (s0 := s0) hM hglb hI h0 r (fun L' h => by have := hs L' (List.mem_cons_of_mem _ h); omega)
  obtain ⟨t, u, he⟩ := lvV_I hI r
  rw [he] at ih
  have h1 := bWriteAt_n (bb := L.bb) (c := L.c) (d := L.d) (s := L.s) (cb := lvb c0 s0 r) hglb (by omega) ih a k cap off hk ho (by omega)
  have h2 : Ct Tryz.prog 123 #[.pointer (some ⟨L.bb, 0, none⟩), .slice a k cap, .int .i64 off] [sep [glb, lvH X v0 c0 s0 (L :: r)]] (fun x B => ∃ b, x = .tuple #[.int .i64 (k : Nat), invV b] ∧ B = [sep [glb, lvH X v0 c0 s0 (L :: r)]]) nev := by
    refine h1.conv (fun F => ?_) (fun x B hx => ?_) (fun c B h => h.elim)
    · rw [← he]
      exact (sep_open [glb, lvH X v0 c0 s0 (L :: r)] F).trans rq2
    · obtain ⟨b, h3, h4⟩ := hx
      refine ⟨_, ⟨b, h3, rfl⟩, fun F => ?_⟩
      rw [h4, ← he]
      exact rq2'.trans (sep_shut [glb, lvH X v0 c0 s0 (L :: r)] F)
  have h3 := RWriteAt_a (rb := rb) (ck := ck) (v' := v0) (cld := cld) (fun x B h => by obtain ⟨b, h, _⟩ := h; exact ⟨_, _, h⟩) htl (fun c B h => h.elim) h2
  refine MCt.of (h3.conv (fun F => ?_) (fun x B hx => ?_) (fun c B h => by obtain ⟨_, h, _⟩ := h; exact h.elim))
  · exact Ent.trans (arr_ent 0 [1, 0, 0] _) (Ent.cons (sep_shut [_, _] F))
  · obtain ⟨B', ⟨b, h4, h5⟩, h6⟩ := hx
    subst h6 h5
    exact ⟨_, ⟨b, h4, rfl⟩, fun F => (Ent.cons (sep_open [_, _] F)).trans (arr_ent 0 [1, 0, 0] _)⟩
theorem a_read0 (L : Lev) (r : List Lev) (hs : L.s ≤ 800000000000) (htl : tl ≠ 0) (a : Option Addr) (cap : Nat) (off : Int) (ho : off < 0) (hb : -1000000000000000 ≤ off) :
    MCt Tryz.prog (tv rb) "ReadAt" [.slice a 0 cap, .int .i64 off] (tact X v0 c0 s0 rb ck tl cld L r) (fun x B => x = .tuple #[.int .i64 0, .nilIface] ∧ B = tact X v0 c0 s0 rb ck tl cld L r) nev := by
  have h2 : Ct Tryz.prog 120 #[.pointer (some ⟨L.bb, 0, none⟩), .slice a 0 cap, .int .i64 off] [lvH X v0 c0 s0 (L :: r)] (fun x B => x = .tuple #[.int .i64 0, .nilIface] ∧ B = [lvH X v0 c0 s0 (L :: r)]) nev := by
    refine ((bRead_0 (bb := L.bb) (pv := lvV v0 r) (cb := lvb c0 s0 r) (c := L.c) (s := L.s) (d := L.d) a cap off ho hb (by omega)).frame [lvH X v0 c0 s0 r]).conv (fun F => (sep_open [lvH X v0 c0 s0 r, lvP v0 c0 s0 L r] F).trans (arr_ent 0 [1, 0] _)) (fun x B hx => ?_) (fun c B hx => by obtain ⟨_, h, _⟩ := hx; exact h.elim)
    obtain ⟨B', ⟨h1, h2⟩, h3⟩ := hx
    subst h3 h2
    exact ⟨_, ⟨h1, rfl⟩, fun F => Ent.trans (arr_ent 0 [1, 0] _) (sep_shut [lvH X v0 c0 s0 r, lvP v0 c0 s0 L r] F)⟩
  exact MCt.of ((RReadAt_a (rb := rb) (ck := ck) (v' := v0) (cld := cld) (fun x B h => ⟨_, _, h.1⟩) htl (fun c B h => h.elim) h2).mono (fun x B hx => by
    obtain ⟨B', ⟨h4, h5⟩, h6⟩ := hx
    subst h6 h5
    exact ⟨h4, rfl⟩) (fun c B h => by obtain ⟨_, h, _⟩ := h; exact h.elim))
theorem a_write0 (L : Lev) (r : List Lev) (hs : L.s ≤ 800000000000) (htl : tl ≠ 0) (a : Option Addr) (cap : Nat) (off : Int) (ho : off < 0) (hb : -1000000000000000 ≤ off) :
    MCt Tryz.prog (tv rb) "WriteAt" [.slice a 0 cap, .int .i64 off] (tact X v0 c0 s0 rb ck tl cld L r) (fun x B => x = .tuple #[.int .i64 0, .nilIface] ∧ B = tact X v0 c0 s0 rb ck tl cld L r) nev := by
  have h2 : Ct Tryz.prog 123 #[.pointer (some ⟨L.bb, 0, none⟩), .slice a 0 cap, .int .i64 off] [lvH X v0 c0 s0 (L :: r)] (fun x B => x = .tuple #[.int .i64 0, .nilIface] ∧ B = [lvH X v0 c0 s0 (L :: r)]) nev := by
    refine ((bWrite_0 (bb := L.bb) (pv := lvV v0 r) (cb := lvb c0 s0 r) (c := L.c) (s := L.s) (d := L.d) a cap off ho hb (by omega)).frame [lvH X v0 c0 s0 r]).conv (fun F => (sep_open [lvH X v0 c0 s0 r, lvP v0 c0 s0 L r] F).trans (arr_ent 0 [1, 0] _)) (fun x B hx => ?_) (fun c B hx => by obtain ⟨_, h, _⟩ := hx; exact h.elim)
    obtain ⟨B', ⟨h1, h2⟩, h3⟩ := hx
    subst h3 h2
    exact ⟨_, ⟨h1, rfl⟩, fun F => Ent.trans (arr_ent 0 [1, 0] _) (sep_shut [lvH X v0 c0 s0 r, lvP v0 c0 s0 L r] F)⟩
  exact MCt.of ((RWriteAt_a (rb := rb) (ck := ck) (v' := v0) (cld := cld) (fun x B h => ⟨_, _, h.1⟩) htl (fun c B h => h.elim) h2).mono (fun x B hx => by
    obtain ⟨B', ⟨h4, h5⟩, h6⟩ := hx
    subst h6 h5
    exact ⟨h4, rfl⟩) (fun c B h => by obtain ⟨_, h, _⟩ := h; exact h.elim))
end
end Go.Proofs.YtfebpbflpdppiaaGreatDoor
