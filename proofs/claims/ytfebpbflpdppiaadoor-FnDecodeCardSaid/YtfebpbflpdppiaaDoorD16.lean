/- Walks over awakeScalars and FnDecode: what is decoded is encoded and decoded to the same. -/

import Derived.Test.YtfebpbflpdppiaaDoorD14
import Derived.Test.YtfebpbflpdppiaaDoorD15l
namespace Go.Proofs.YtfebpbflpdppiaaDoor
open Go Go.Sl
set_option maxRecDepth 100000
theorem ct_monoB {f : FuncId} {args : Array Value} {A : List HP} {R R' : Value → List HP → Prop} {E : List PanicEntry → List HP → Prop} (h : Ct Tryd.prog f args A R E)
    (hR : ∀ v B, R v B → ∃ B', R' v B' ∧ ∀ F, Ent (B ++ F) (B' ++ F)) : Ct Tryd.prog f args A R' E := fun m F w hw => (h m F w hw).mono fun e w' he => by
  cases e with
  | returned v => exact let ⟨B, h1, h2⟩ := he; let ⟨B', h3, h4⟩ := hR _ _ h1; ⟨B', h3, h2.ent (h4 F)⟩
  | panicked c => exact he
  | outgrown => exact he
section
variable {n : Nat} {ds : List Deferred} {σ : Env} {m : Amb} {L R : List HP} {e : TypeId}
/-- a source that is an owned slice, by itself -/
theorem src_sl1 {a : Option Addr} {k c : Nat} {l : List Value} {size : Nat} {Φ : Act → World → Prop} (h : Src [slP (.slice a k c) e size l] size (.slice a k c) k l → G n ds σ m (slP (.slice a k c) e size l :: L) Φ) :
    G n ds σ m (slP (.slice a k c) e size l :: L) Φ := fun ac w h1 h2 h3 h4 => by
  rcases slP_cases h4.2.2.2 with ⟨e0, h0⟩ | ⟨b, cap, k', e1, e2, e3, e4, _⟩
  · simp only [Value.slice.injEq] at e0
    obtain ⟨rfl, rfl, rfl⟩ := e0
    subst h0
    exact h .nil ac w h1 h2 h3 h4
  · simp only [Value.slice.injEq] at e1
    obtain ⟨rfl, rfl, rfl⟩ := e1
    exact h (.some b 0 k c l e2 (rdn_sl 0 rfl)) ac w h1 h2 h3 h4
end
theorem ct_sepA {f : FuncId} {args : Array Value} {A : List HP} {R : Value → List HP → Prop} {E : List PanicEntry → List HP → Prop} (h : Ct Tryd.prog f args A R E) : Ct Tryd.prog f args [sep A] R E :=
  fun m F w hw => h m F w (hw.ent (sep_open A F))
attribute [local irreducible] wpList Code.wp Exit.then Exit.inBlock bodyPost RunS RunV G St Ct Sat Ent At Rd GQ QL wpAny wpOp wpQuiet slP Sl.ex sep
attribute [local irreducible] anys anyP
theorem DecB_c {v : Value} {bs : List UInt8} {B : List HP} (h : InB v bs B) (hm : bs.length ≤ 100000000000) : Ct Tryd.prog 5 #[v] [sep B] (DecR bs) nev := by
  refine ct_sepA ?_
  rcases h with ⟨rfl, rfl, rfl⟩ | ⟨nb, c, h0, h1, h2, rfl, rfl⟩
  · refine ct_monoB Decode_nil ?_
    rintro _ _ ⟨rfl, rfl⟩
    exact ⟨[slP (.slice none 0 0) 36 6 []], .inl ⟨[], none, 0, decN_nil _, Nat.le_refl _, rfl, rfl⟩, fun F => slP_nil⟩
  · have e1 : u8s bs ++ List.replicate (c - bs.length) (.int .u8 0) = u8s (bs ++ List.replicate (c - bs.length) 0) := by
      rw [u8s_append]; simp [u8s]
    rw [e1]
    have hl : (bs ++ List.replicate (c - bs.length) (0 : UInt8)).length = c := by simp; omega
    have := Decode_c bs (bs ++ List.replicate (c - bs.length) 0) nb h0 (by simp) (by rw [hl]; exact h1) hm (by rw [hl]; exact h2)
    rwa [hl] at this
theorem encLB_le (l : List Sc) (hl : l.length ≤ 131072) (hs : ∀ s ∈ l, s.wf ∧ small s) : (encLB l).length ≤ 100000000000 := by
  have h := encL_len l fun s h => (hs s h).2
  rw [encL_B l fun s h => (hs s h).1, u8s_length] at h
  omega
theorem decLB (l : List Sc) (hs : ∀ s ∈ l, s.wf ∧ small s) : decN (encLB l).length (encLB l) = .ok l := decN_enc l _ hs (encLB_len l hs)
theorem awake_c : Ct Tryd.prog 4 #[] [] (fun v B => v = .bool true ∧ B = []) nev := by
  have hs : ∀ s ∈ [Sc.str [97]], s.wf ∧ small s := by
    intro s h; simp at h; subst h; exact ⟨trivial, Nat.le_of_ble_eq_true rfl⟩
  refine Ct.of Tryd.func4 rfl Tryd.ntmps4 rfl fun m F => ?_
  repeat (first | refine wWD ?_ | intro b)
  refine l_plain rfl ?_
  apply s_val rfl rfl
  · exact RunS.v (r_build (cells := (scL (.str [97])).toArray) rfl (by kernel_rfl))
  refine l_plain rfl ?_
  refine s_build (size := 6) (vs := [.agg (scL (.str [97])).toArray]) (l := [Sc.str [97]].flatMap scL) rfl rfl rfl rfl rfl (by intro v hv; simp at hv; subst hv; rfl) (by simp [Value.cells]) rfl rfl ?_
  intro b
  refine G.ent (slP_blk (k := 1) (size := 6) rfl (by unfold maxLen; omega)) ?_
  refine l_plain rfl (s_call rfl rfl (Encode_c (some ⟨b, 0, none⟩) 1 [.str [97]] (by decide) hs) [0] rfl ?_ (fun _ _ h => h.elim))
  rintro _ _ ⟨a1, c1, rfl, rfl⟩
  have hle := encLB_le [.str [97]] (by decide) hs
  have hdec := decLB [.str [97]] hs
  rw [encL_B _ fun s h => (hs s h).1, u8s_length]
  generalize encLB [.str [97]] = bs at hle hdec
  refine G.ent (arr_ent 1 [0] _) ?_
  refine src_sl1 fun hsrc => ?_
  repeat (first | refine wWD ?_ | intro b)
  refine l_plain rfl (s_call rfl rfl (copied_c a1 bs.length c1 bs hsrc hle) [0] rfl ?_ (fun _ _ h => h.elim))
  rintro v B ⟨B', hb, rfl⟩
  rw [List.append_assoc]
  refine G.ent (sep_shut _ _) ?_
  refine l_plain rfl (s_call rfl rfl (DecB_c hb hle) [0] rfl ?_ (fun _ _ h => h.elim))
  rintro v2 B2 (⟨l2, a2, c2, hd2, -, rfl, rfl⟩ | ⟨hno, -⟩)
  rotate_left
  · exact absurd hdec (hno _)
  obtain rfl : [Sc.str [97]] = l2 := by rw [hdec] at hd2; injection hd2
  refine slP_some (by simp [scL]) fun b2 hb2 _ _ _ => ?_
  subst hb2
  repeat (first | refine wWD ?_ | intro b)
  refine l_plain rfl ?_
  apply s_val rfl rfl
  · exact RunS.v (r_build (cells := (scL .nil).toArray) rfl (by kernel_rfl))
  refine l_plain rfl ?_
  refine s_build (size := 6) (vs := [.agg (scL .nil).toArray]) (l := [Sc.nil].flatMap scL) rfl rfl rfl rfl rfl (by intro v hv; simp at hv; subst hv; rfl) (by simp [Value.cells]) rfl rfl ?_
  intro b3
  refine G.ent (slP_blk (k := 1) (size := 6) rfl (by unfold maxLen; omega)) ?_
  repeat (first | refine wWD ?_ | intro b)
  refine l_plain rfl (s_call rfl rfl (Collate_c (some ⟨b3, 0, none⟩) (some ⟨b2, 0, none⟩) 1 c2 [97] (by decide)) [0, 0] rfl ?_ (fun _ _ h => h.elim))
  rintro _ _ ⟨rfl, rfl⟩
  repeat (first | refine wWD ?_ | intro b)
  refine l_yes rfl rfl rfl ?_
  apply s_val rfl rfl
  · exact RunS.v (r_index (i := 0) rfl rfl rfl (by simp))
  repeat (first | refine wWD ?_ | intro b)
  refine l_yes rfl rfl rfl ?_
  apply s_val rfl rfl
  · exact r_load rfl rfl (rd_sl 0 rfl rfl)
  repeat (first | refine wWD ?_ | intro b)
  exact e_ret1 [] rfl rfl ⟨rfl, rfl⟩ (arr_ent 2 [] _)
theorem copiedZ_c {A : List HP} (a : Option Addr) (k c : Nat) (bs : List UInt8) (hs : (k = 0 ∧ bs = []) ∨ Src A 1 (.slice a k c) k (u8s bs)) (hm : k ≤ 100000000000) : Ct Tryd.prog 6 #[.slice a k c] A (fun v B => ∃ B', InB v bs B' ∧ B = B' ++ A) nev := by
  rcases hs with ⟨rfl, rfl⟩ | hs
  · refine Ct.of Tryd.func6 rfl Tryd.ntmps6 rfl fun m F => ?_
    repeat (first | refine wWD ?_ | intro b)
    refine l_plain rfl (s_appNil0 (size := 1) rfl rfl rfl ?_)
    repeat (first | refine wWD ?_ | intro b)
    exact e_ret1 A rfl rfl ⟨[], .inl ⟨rfl, rfl, rfl⟩, rfl⟩ (Ent.refl _)
  · exact copied_c a k c bs hs hm
theorem FnDecode_c {A : List HP} (a : Option Addr) (k c : Nat) (bs : List UInt8) (hs : (k = 0 ∧ bs = []) ∨ Src A 1 (.slice a k c) k (u8s bs)) : Ct Tryd.prog 3 #[.slice a k c] A (fun v B => v = .bool true ∧ B = A) nev := by
  have hk : bs.length = k := by
    rcases hs with ⟨rfl, rfl⟩ | hs
    · rfl
    · have := hs.len; simpa using this
  refine Ct.of Tryd.func3 rfl Tryd.ntmps3 rfl fun m F => ?_
  have hs1 : (k = 0 ∧ bs = []) ∨ Src [sep A] 1 (.slice a k c) k (u8s bs) := hs.imp id fun h => h.ent (by have := sep_open A []; rwa [List.append_nil] at this)
  have hend : Ent (sep A :: F) (A ++ F) := sep_open A F
  refine G.ent (sep_shut A F) ?_
  generalize hL : A ++ F = AF at hend
  repeat (first | refine wWD ?_ | intro b)
  refine c_cond rfl (fun h => ?_) (fun h => ?_)
  · repeat (first | refine wWD ?_ | intro b)
    exact e_ret1 A rfl rfl ⟨rfl, rfl⟩ (by rw [hL]; exact hend)
  repeat (first | refine wWD ?_ | intro b)
  refine c_cond rfl (fun h => ?_) (fun h => ?_)
  · repeat (first | refine wWD ?_ | intro b)
    refine l_plain rfl (s_call rfl rfl awake_c [] rfl ?_ (fun _ _ h => h.elim))
    rintro _ _ ⟨rfl, rfl⟩
    repeat (first | refine wWD ?_ | intro b)
    exact e_ret1 A rfl rfl ⟨rfl, rfl⟩ (by rw [hL]; exact hend)
  have h := of_decide_eq_false h
  have hk2 : k ≤ 131072 := by omega
  repeat (first | refine wWD ?_ | intro b)
  refine l_plain rfl (s_call rfl rfl (copiedZ_c a k c bs hs1 (by omega)) [0] rfl ?_ (fun _ _ h => h.elim))
  rintro v B ⟨B', hb, rfl⟩
  rw [List.append_assoc]
  refine G.ent (sep_shut _ _) ?_
  refine l_plain rfl (s_call rfl rfl (DecB_c hb (by omega)) [0] rfl ?_ (fun _ _ h => h.elim))
  rintro v2 B2 (⟨l, a2, c2, hd, hl2, rfl, rfl⟩ | ⟨hno, rfl, k2, hk0, rfl⟩)
  rotate_left
  · repeat (first | refine wWD ?_ | intro b)
    rw [show (!decide (k2 = 0)) = true from by simp [hk0]]
    repeat (first | refine wWD ?_ | intro b)
    refine l_plain rfl (s_call rfl rfl awake_c [] rfl ?_ (fun _ _ h => h.elim))
    rintro _ _ ⟨rfl, rfl⟩
    repeat (first | refine wWD ?_ | intro b)
    exact e_ret1 A rfl rfl ⟨rfl, rfl⟩ (by rw [hL]; exact hend)
  obtain ⟨hl3, hgood⟩ := decN_good bs.length bs l (Nat.le_refl _) hd
  repeat (first | refine wWD ?_ | intro b)
  refine l_yes rfl rfl rfl (s_call rfl rfl (specScalars_c a2 c2 l (by omega)) [0] rfl ?_ (fun _ _ h => h.elim))
  rintro _ _ ⟨a3, c3, rfl, rfl⟩
  refine l_yes rfl rfl rfl (s_call rfl rfl (Encodes_c a3 c3 l (fun s h => Nat.le_trans (hgood s h).2 (by omega))) [0] rfl ?_ (fun _ _ h => h.elim))
  rintro _ _ ⟨(⟨rfl, hsm⟩ | rfl), rfl⟩
  rotate_left
  · repeat (first | refine wWD ?_ | intro b)
    refine l_plain rfl (s_call rfl rfl awake_c [] rfl ?_ (fun _ _ h => h.elim))
    rintro _ _ ⟨rfl, rfl⟩
    repeat (first | refine wWD ?_ | intro b)
    exact e_ret1 A rfl rfl ⟨rfl, rfl⟩ (by rw [hL]; exact (arr_ent 2 [] _).trans hend)
  have hs : ∀ s ∈ l, s.wf ∧ small s := fun s h => ⟨(hgood s h).1, hsm s h⟩
  repeat (first | refine wWD ?_ | intro b)
  refine l_plain rfl (s_call rfl rfl (Encode_c a2 c2 l (by omega) hs) [1] rfl ?_ (fun _ _ h => h.elim))
  rintro _ _ ⟨a4, c4, rfl, rfl⟩
  have hle := encLB_le l (by omega) hs
  have hdec := decLB l hs
  rw [encL_B _ fun s h => (hs s h).1, u8s_length]
  generalize encLB l = bs2 at hle hdec
  refine src_sl1 fun hsrc => ?_
  repeat (first | refine wWD ?_ | intro b)
  refine l_plain rfl (s_call rfl rfl (copied_c a4 bs2.length c4 bs2 hsrc hle) [0] rfl ?_ (fun _ _ h => h.elim))
  rintro v3 B3 ⟨B4, hb3, rfl⟩
  rw [List.append_assoc]
  refine G.ent (sep_shut _ _) ?_
  refine l_plain rfl (s_call rfl rfl (DecB_c hb3 hle) [0] rfl ?_ (fun _ _ h => h.elim))
  rintro v4 B5 (⟨l2, a5, c5, hd2, -, rfl, rfl⟩ | ⟨hno, -⟩)
  rotate_left
  · exact absurd hdec (hno _)
  obtain rfl : l = l2 := by rw [hdec] at hd2; injection hd2
  repeat (first | refine wWD ?_ | intro b)
  refine l_yes rfl rfl rfl (s_call rfl rfl (specScalars_c a2 c2 l (by omega)) [2] rfl ?_ (fun _ _ h => h.elim))
  rintro _ _ ⟨a6, c6, rfl, rfl⟩
  repeat (first | refine wWD ?_ | intro b)
  refine l_yes rfl rfl rfl (s_call rfl rfl (specScalars_c a5 c5 l (by omega)) [2] rfl ?_ (fun _ _ h => h.elim))
  rintro _ _ ⟨a7, c7, rfl, rfl⟩
  repeat (first | refine wWD ?_ | intro b)
  refine l_yes rfl rfl rfl (s_call rfl rfl (Alike_c a6 a7 c6 c7 l fun s h => (hs s h).1) [2, 0] rfl ?_ (fun _ _ h => h.elim))
  rintro _ _ ⟨rfl, rfl⟩
  repeat (first | refine wWD ?_ | intro b)
  refine l_yes rfl rfl rfl (s_call rfl rfl awake_c [] rfl ?_ (fun _ _ h => h.elim))
  rintro _ _ ⟨rfl, rfl⟩
  repeat (first | refine wWD ?_ | intro b)
  exact e_ret1 A rfl rfl ⟨rfl, rfl⟩ (by rw [hL]; exact (arr_ent 4 [] _).trans hend)
end Go.Proofs.YtfebpbflpdppiaaDoor
