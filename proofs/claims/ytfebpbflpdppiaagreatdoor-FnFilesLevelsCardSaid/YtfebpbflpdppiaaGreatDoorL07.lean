/- ReadAt of bitFiler: what is asked of the filer beneath; the walk · ReadAt and WriteAt of bitFiler ahead of the beginning · WriteAt of bitFiler. -/
import Derived.Test.YtfebpbflpdppiaaGreatDoorL06
namespace Go.Proofs.YtfebpbflpdppiaaGreatDoor
open Go Go.Sl
set_option maxRecDepth 100000
/-- a filer is read as a file with this content and size -/
def RdC (pv : Value) (glb X : HP) (ea : Addr) (N : Nat) (c : Cn) (s : Nat) : Prop := ∀ (db e : Nat) (old : List UInt8) (k off : Nat), old.length = k → off + k ≤ N →
  MCt Tryz.prog pv "ReadAt" [.slice (some ⟨db, 0, none⟩) k k, .int .i64 (off : Nat)] [glb, X, blk db (cl (u8s old) e)]
    (fun v B => ∃ x, v = .tuple #[.int .i64 (min k (s - off) : Nat), x] ∧ (x = .nilIface ∨ x = eofV ea) ∧ (k < s - off → x = .nilIface) ∧ B = [glb, X, blk db (cl (u8s (rdd old c off (min k (s - off)))) e)]) nev
/-- reads ahead of the beginning are refused -/
def RdM (pv : Value) (glb X : HP) (N : Int) : Prop := ∀ (a : Option Addr) (k cp : Nat) (off : Int), 0 < k → off < 0 → -N ≤ off →
  MCt Tryz.prog pv "ReadAt" [.slice a k cp, .int .i64 off] [glb, X] (fun v B => ∃ b, v = .tuple #[.int .i64 0, invV b] ∧ B = [glb, X]) nev
theorem u8s_rep (n : Nat) : u8s (List.replicate n 0) = List.replicate n (.int .u8 0) := by simp [u8s]
theorem rdd_page (c : Cn) (s i : Nat) : rdd (List.replicate 4096 0) c (i * 4096) (min 4096 (s - i * 4096)) = pgl (cutC c s) i := by
  apply List.ext_getElem?
  intro j
  unfold rdd pgl
  rw [List.getElem?_append, rng_get', rng_get', rng_length]
  simp only [List.getElem?_drop, List.getElem?_replicate, cutC]
  by_cases h1 : j < min 4096 (s - i * 4096)
  · rw [if_pos h1, if_pos h1, if_pos (by omega), if_pos (by omega)]
  · rw [if_neg h1]
    by_cases h2 : j < 4096
    · rw [if_pos (by omega), if_pos h2, if_neg (by omega)]
    · rw [if_neg (by omega), if_neg h2]
theorem BOK.more {cb c : Cn} {s k : Nat} {d : Nat → Bool} {l : List BP} (h : BOK cb c s d l k) {p : BP} (hn : ∀ q ∈ l, q.z.idx ≠ p.z.idx) (hk : p.z.born = k) (hs : p.z.idx * 4096 < s) (hd : p.dirty = d p.z.idx) (hp : p.pv = none ∧ p.nx = none) : BOK cb c s d (l ++ [p]) (k + 1) where
  nd := by
    rw [List.map_append, List.nodup_append]
    refine ⟨h.nd, by simp, ?_⟩
    intro a ha b hb e
    subst e
    simp at hb
    simp only [List.mem_map] at ha
    obtain ⟨q, hq, e⟩ := ha
    exact hn q hq (e.trans hb)
  nb := by
    rw [List.map_append, List.nodup_append]
    refine ⟨h.nb, by simp, ?_⟩
    intro a ha b hb e
    subst e
    simp at hb
    simp only [List.mem_map] at ha
    obtain ⟨q, hq, e⟩ := ha
    have := h.lt q hq
    omega
  lt := fun q hq => by
    rcases List.mem_append.1 hq with hq | hq
    · have := h.lt q hq; omega
    · simp at hq; subst hq; omega
  bd := fun q hq => by
    rcases List.mem_append.1 hq with hq | hq
    · exact h.bd q hq
    · simp at hq; subst hq; exact hs
  dd := fun q hq => by
    rcases List.mem_append.1 hq with hq | hq
    · exact h.dd q hq
    · simp at hq; subst hq; exact hd
  dn := fun j hj => by
    obtain ⟨q, hq, e⟩ := h.dn j hj
    exact ⟨q, List.mem_append_left _ hq, e⟩
  cb := h.cb
  pn := fun q hq => by
    rcases List.mem_append.1 hq with hq | hq
    · exact h.pn q hq
    · simp at hq; subst hq; exact hp
/-- a page that is not there shows what is beneath -/
theorem BOK.under {cb c : Cn} {s k i : Nat} {d : Nat → Bool} {l : List BP} (h : BOK cb c s d l k) (hn : ∀ q ∈ l, q.z.idx ≠ i) : d i = false ∧ pgl c i = pgl cb i := by
  have hd : d i = false := by
    cases hdi : d i with
    | false => rfl
    | true =>
      obtain ⟨q, hq, e⟩ := h.dn i hdi
      exact absurd e (hn q hq)
  exact ⟨hd, pgl_congr fun j hj => h.cb j (by rw [hj]; exact hd)⟩
section
variable {P : Program} {σ : Env} {ty : TypeId} {pos : String} {aft : Array Edge} {gd : Option (Nat × Bool)} {x y : Operand} {t e : TypeId}
theorem r_slF {od : Option Tmp} {size bytes len cap b o lo : Nat} {z : Value} {k : IntKind} [h1 : TyU P t (.slice e)] [h2 : TyI P e size bytes z] (hx : opd σ x = some (.slice (some ⟨b, o, none⟩) len cap)) (hy : opd σ y = some (.int k (lo : Nat))) (hlo : lo ≤ len ∧ lo < cap) :
    RunS P ⟨od, .slice t x (some y) none none, ty, pos, aft, gd⟩ σ (.slice (some ⟨b, o + lo * size, none⟩) (len - lo) (cap - lo)) := by
  have h := r_slAdv (P := P) (od := od) (t := t) (ty := ty) (pos := pos) (aft := aft) (gd := gd) hx hy hlo.1
  unfold adv at h
  rwa [if_neg (by omega)] at h
end
theorem bme_one (p : BP) : bme [p] = [p.z.me] := rfl
attribute [local irreducible] wpList Code.wp Exit.then Exit.inBlock bodyPost RunS RunV G St Ct Sat Ent At Rd GQ QL wpAny wpOp wpQuiet slP Sl.ex sep
attribute [local irreducible] zf memf pgl rng ov cutC zc mapO rdd bme
section
variable {bb s sp : Nat} {cb cp : Cn} {c : Cn} {d : Nat → Bool} {glb X : HP} {ea : Addr} {pt : TypeId} {pw : Value}
set_option maxHeartbeats 4000000 in
theorem bReadAt_c {N : Nat} (hN : N ≤ 1000000000000) (hglb : Rd [glb] ⟨1, 0, none⟩ (eofV ea)) (h : RdC (.iface pt pw) glb X ea N cp sp) (hcb : cb = cutC cp sp) (db e : Nat) (old : List UInt8) (k off : Nat) (hk : old.length = k) (hb : off + k + 4096 ≤ N) (hsz : s ≤ 900000000000) :
    Ct Tryz.prog 120 #[.pointer (some ⟨bb, 0, none⟩), .slice (some ⟨db, 0, none⟩) k k, .int .i64 (off : Nat)] [glb, X, bf bb (.iface pt pw) cb c s d, blk db (cl (u8s old) e)]
      (fun v B => ∃ x, v = .tuple #[.int .i64 (min k (s - off) : Nat), x] ∧ (x = .nilIface ∨ x = eofV ea) ∧ (k < s - off → x = .nilIface) ∧ B = [glb, X, bf bb (.iface pt pw) cb c s d, blk db (cl (u8s (rdd old c off (min k (s - off)))) e)]) nev := by
  refine Ct.of Tryz.func120 rfl Tryz.ntmps120 rfl fun m F => ?_
  refine G.ent (arr_ent 0 [2, 0, 0, 0] _) ?_
  refine bf_open fun mb l kk hok => ?_
  repeat (first | refine wZ ?_ | intro b)
  refine c_mid (α := Value × Int) (fun y => [(0, .pointer (some ⟨bb, 0, none⟩)), (1, .slice (some ⟨db, 0, none⟩) k k), (2, .int .i64 (off : Nat)), (6, .int .i64 0), (7, y.1), (8, .int .i64 ((s : Int) - (off : Int))), (9, .int .i64 (off / 4096 : Nat)), (10, .int .i64 (off % 4096 : Nat)), (11, .int .i64 y.2)])
    (fun _ => blk bb (cl (bcells (.iface pt pw) mb s) 180) :: blk mb (mapO (bme l) kk) :: bpgs c l :: glb :: X :: blk db (cl (u8s old) e) :: F)
    (fun y => (y.1 = .nilIface ∨ y.1 = eofV ea) ∧ (k < s - off → y.1 = .nilIface) ∧ y.2 = if (s : Int) - (off : Int) ≤ (k : Nat) then (s : Int) - (off : Int) else (k : Nat)) ?_ ?_
  · refine c_cond rfl (fun h1 => ?_) (fun h1 => ?_)
    · have h1 := of_decide_eq_true h1
      repeat (first | refine wZ ?_ | intro b)
      refine l_plain rfl ?_
      apply s_val rfl rfl
      · exact r_load rfl rfl (Rd.at hglb 3 rfl)
      repeat (first | refine wZ ?_ | intro b)
      exact at_intro (eofV ea, (s : Int) - (off : Int)) ⟨.inr rfl, fun h2 => by omega, by rw [if_pos h1]⟩ ⟨rfl, rfl, rfl, rfl, rfl, rfl, rfl, rfl, rfl, trivial⟩ (Ent.refl _)
    · have h1 := of_decide_eq_false h1
      repeat (first | refine wZ ?_ | intro b)
      exact at_intro (.nilIface, ((k : Nat) : Int)) ⟨.inl rfl, fun _ => rfl, by rw [if_neg h1]⟩ ⟨rfl, rfl, rfl, rfl, rfl, rfl, rfl, rfl, rfl, trivial⟩ (Ent.refl _)
  rintro ⟨x, r⟩ ⟨hx1, hx2, hr⟩
  dsimp only at hx1 hx2 hr ⊢
  refine c_seq ?_
  refine c_block ?_
  by_cases hav : s ≤ off
  · refine c_loop (α := Unit) (fun _ => [(0, .pointer (some ⟨bb, 0, none⟩)), (1, .slice (some ⟨db, 0, none⟩) k k), (2, .int .i64 (off : Nat)), (6, .int .i64 0), (7, x), (8, .int .i64 ((s : Int) - (off : Int))), (9, .int .i64 (off / 4096 : Nat)), (10, .int .i64 (off % 4096 : Nat)), (11, .int .i64 r)])
      (fun _ => blk bb (cl (bcells (.iface pt pw) mb s) 180) :: blk mb (mapO (bme l) kk) :: bpgs c l :: glb :: X :: blk db (cl (u8s old) e) :: F) (fun _ => True) (fun _ => 0) () trivial (by exact ⟨rfl, rfl, rfl, rfl, rfl, rfl, rfl, rfl, rfl, trivial⟩) (Ent.refl _) ?_
    rintro _ _
    have hm0 : min k (s - off) = 0 := by omega
    by_cases hr0 : r = 0
    · subst hr0
      repeat (first | refine wZ ?_ | intro b)
      rw [hm0, rdd_zero]
      exact e_ret2 _ rfl rfl rfl ⟨x, rfl, hx1, hx2, rfl⟩ ((bf_shut hok).trans (arr_ent 0 [1, 1, 0] _))
    · repeat (first | refine wZ ?_ | intro b)
      rw [decide_eq_false hr0]
      repeat (first | refine wZ ?_ | intro b)
      rw [decide_eq_false (by omega : ¬ (0 : Int) < (s : Int) - (off : Int))]
      repeat (first | refine wZ ?_ | intro b)
      rw [hm0, rdd_zero]
      exact e_ret2 _ rfl rfl rfl ⟨x, rfl, hx1, hx2, rfl⟩ ((bf_shut hok).trans (arr_ent 0 [1, 1, 0] _))
  have hr2 : r = ((min k (s - off) : Nat) : Int) := by rw [hr]; split <;> omega
  subst hr2
  generalize hrn : min k (s - off) = r at *
  refine G.ent (bf_shut hok) ?_
  refine c_loop (α := Nat × Value × Option Addr × Nat × Nat × Nat) (fun y => [(0, .pointer (some ⟨bb, 0, none⟩)), (1, .slice y.2.2.1 (k - y.1) y.2.2.2.1), (2, .int .i64 (off + y.1 : Nat)), (6, .int .i64 (y.1 : Nat)), (7, y.2.1), (8, .int .i64 ((s : Int) - (off : Int))), (9, .int .i64 (y.2.2.2.2.1 : Nat)), (10, .int .i64 (y.2.2.2.2.2 : Nat)), (11, .int .i64 (r - y.1 : Nat))])
    (fun y => bf bb (.iface pt pw) cb c s d :: glb :: X :: blk db (cl (u8s (rdd old c off y.1)) e) :: F)
    (fun y => y.1 ≤ r ∧ (y.1 < r → y.2.2.1 = some ⟨db, y.1, none⟩ ∧ y.2.2.2.1 = k - y.1 ∧ y.2.2.2.2.1 = (off + y.1) / 4096 ∧ y.2.2.2.2.2 = (off + y.1) % 4096) ∧ (y.2.1 = .nilIface ∨ y.2.1 = eofV ea) ∧ (k < s - off → y.2.1 = .nilIface)) (fun y => r - y.1) (0, x, some ⟨db, 0, none⟩, k, off / 4096, off % 4096)
    ⟨Nat.zero_le _, fun _ => ⟨rfl, rfl, rfl, rfl⟩, hx1, hx2⟩ (by exact ⟨rfl, rfl, rfl, rfl, rfl, rfl, rfl, rfl, rfl, trivial⟩) (by dsimp only; rw [rdd_zero]; exact Ent.refl _) ?_
  rintro ⟨dn, x, a', cp', pgI, pgO⟩ ⟨hdn, hI, hx1, hx2⟩
  dsimp only at hdn hI hx1 hx2 ⊢
  by_cases hlt : dn < r
  rotate_left
  · obtain rfl : dn = r := by omega
    repeat (first | refine wZ ?_ | intro b)
    rw [decide_eq_true (by omega : ((dn - dn : Nat) : Int) = 0)]
    repeat (first | refine wZ ?_ | intro b)
    exact e_ret2 _ rfl rfl rfl ⟨x, rfl, hx1, hx2, rfl⟩ (arr_ent 0 [1, 1, 0] _)
  obtain ⟨rfl, rfl, rfl, rfl⟩ := hI hlt
  clear hok hI
  refine bf_open fun mb l kk hok => ?_
  repeat (first | refine wZ ?_ | intro b)
  rw [decide_eq_false (by omega : ¬ ((r - dn : Nat) : Int) = 0)]
  repeat (first | refine wZ ?_ | intro b)
  rw [decide_eq_true (by omega : (0 : Int) < (s : Int) - (off : Int))]
  repeat (first | refine wZ ?_ | intro b)
  refine l_plain rfl ?_
  apply s_val rfl rfl
  · exact r_lookV 1 rfl rfl rfl (bq_look l ((off + dn) / 4096) 0)
  repeat (first | refine wZ ?_ | intro b)
  refine c_mid (α := List BP × BP × List BP × Nat × Value) (fun y => [(0, .pointer (some ⟨bb, 0, none⟩)), (1, .slice (some ⟨db, dn, none⟩) (k - dn) (k - dn)), (2, .int .i64 (off + dn : Nat)), (6, .int .i64 (dn : Nat)), (7, y.2.2.2.2), (8, .int .i64 ((s : Int) - (off : Int))), (9, .int .i64 ((off + dn) / 4096 : Nat)), (10, .int .i64 ((off + dn) % 4096 : Nat)), (11, .int .i64 (r - dn : Nat)), (12, .pointer (some y.2.1.z.ad))])
    (fun y => blk bb (cl (bcells (.iface pt pw) mb s) 180) :: blk mb (mapO (bme (y.1 ++ y.2.1 :: y.2.2.1)) y.2.2.2.1) :: bpgs c (y.1 ++ y.2.1 :: y.2.2.1) :: glb :: X :: blk db (cl (u8s (rdd old c off dn)) e) :: F)
    (fun y => BOK cb c s d (y.1 ++ y.2.1 :: y.2.2.1) y.2.2.2.1 ∧ y.2.1.z.idx = (off + dn) / 4096 ∧ (y.2.2.2.2 = .nilIface ∨ y.2.2.2.2 = eofV ea) ∧ (k < s - off → y.2.2.2.2 = .nilIface)) ?_ ?_
  · refine c_cond rfl (fun h3 => ?_) (fun h3 => ?_)
    rotate_left
    · cases hq : bq l ((off + dn) / 4096) with
      | none => rw [hq] at h3; cases h3
      | some ad =>
        obtain ⟨l1, p, l2, rfl, hpi, rfl⟩ := bq_some hq
        repeat (first | refine wZ ?_ | intro b)
        exact at_intro (l1, p, l2, kk, x) ⟨hok, hpi, hx1, hx2⟩ ⟨rfl, rfl, rfl, rfl, rfl, rfl, rfl, rfl, rfl, rfl, trivial⟩ (Ent.refl _)
    have hn : bq l ((off + dn) / 4096) = none := Option.isNone_iff_eq_none.1 h3
    rw [hn]
    repeat (first | refine wZ ?_ | intro b)
    refine l_plain rfl ?_
    apply s_val rfl rfl
    · exact RunS.v (r_build (cells := #[.pointer none, .pointer none, .pointer none, .slice none 0 0, .bool false]) rfl (by kernel_rfl))
    repeat (first | refine wZ ?_ | intro b)
    refine l_plain rfl (s_call rfl rfl zzGet_c [] rfl ?_ (fun _ _ h => h.elim))
    rintro _ _ ⟨xb, db2, rfl, rfl⟩
    rw [← u8s_rep]
    repeat (first | refine wY ?_ | intro b)
    refine G.ent (L' := blk b (cl [.pointer none, .pointer none, .pointer (some ⟨xb, 0, none⟩), .slice (some ⟨db2, 0, none⟩) 4096 4096, .bool false] 194) :: blk xb (cl [.slice (some ⟨db2, 0, none⟩) 4096 4096] 22) :: blk db2 (cl (u8s (List.replicate 4096 0)) 5) :: blk bb (cl (bcells (.iface pt pw) mb s) 180) :: blk mb (mapO (bme l) kk) :: bpgs c l :: glb :: X :: blk db (cl (u8s (rdd old c off dn)) e) :: F) (Ent.refl _) ?_
    refine h_any [blk b (cl [.pointer none, .pointer none, .pointer (some ⟨xb, 0, none⟩), .slice (some ⟨db2, 0, none⟩) 4096 4096, .bool false] 194), blk bb (cl (bcells (.iface pt pw) mb s) 180)] 17 rfl ?_
    have hE : Ent (blk b (cl [.pointer none, .pointer none, .pointer (some ⟨xb, 0, none⟩), .slice (some ⟨db2, 0, none⟩) 4096 4096, .bool false] 194) :: blk xb (cl [.slice (some ⟨db2, 0, none⟩) 4096 4096] 22) :: blk db2 (cl (u8s (List.replicate 4096 0)) 5) :: blk bb (cl (bcells (.iface pt pw) mb s) 180) :: blk mb (mapO (bme l) kk) :: bpgs c l :: glb :: X :: blk db (cl (u8s (rdd old c off dn)) e) :: F) [blk b (cl [.pointer none, .pointer none, .pointer (some ⟨xb, 0, none⟩), .slice (some ⟨db2, 0, none⟩) 4096 4096, .bool false] 194), blk bb (cl (bcells (.iface pt pw) mb s) 180)] := Ent.trans (arr_ent 0 [0, 2] _) (Ent.left [_, _] _)
    refine h_take (by assumption) 0 rfl (by kernel_rfl) (by kernel_rfl) (by kernel_rfl) rfl rfl rfl pQ rV ?_
    refine h_take (by assumption) 1 rfl (by kernel_rfl) (by kernel_rfl) (by kernel_rfl) rfl rfl rfl pQ rV ?_
    refine h_take (by assumption) 2 rfl (by kernel_rfl) (by kernel_rfl) (by kernel_rfl) rfl rfl rfl pQ rV ?_
    refine h_take (by assumption) 3 rfl (by kernel_rfl) (by kernel_rfl) (by kernel_rfl) rfl rfl rfl pQ rV ?_
    refine h_take (by assumption) 4 rfl (by kernel_rfl) (by kernel_rfl) (by kernel_rfl) rfl rfl rfl pQ rV ?_
    refine h_take (by assumption) 5 rfl (by kernel_rfl) (by kernel_rfl) (by kernel_rfl) rfl rfl rfl pQ rV ?_
    refine h_take (by assumption) 6 rfl (by kernel_rfl) (by kernel_rfl) (by kernel_rfl) rfl rfl rfl pQ rV ?_
    refine h_take (by assumption) 7 rfl (by kernel_rfl) (by kernel_rfl) (by kernel_rfl) rfl rfl rfl pQ rV ?_
    refine h_take (by assumption) 8 rfl (by kernel_rfl) (by kernel_rfl) (by kernel_rfl) rfl rfl rfl pQ rV ?_
    refine h_take (by assumption) 9 rfl (by kernel_rfl) (by kernel_rfl) (by kernel_rfl) rfl rfl rfl pQ rV ?_
    refine h_take (by assumption) 10 rfl (by kernel_rfl) (by kernel_rfl) (by kernel_rfl) rfl rfl rfl pQ (RunS.v (r_nilI rfl)) ?_
    refine h_take (by assumption) 11 rfl (by kernel_rfl) (by kernel_rfl) (by kernel_rfl) rfl rfl rfl pQ rV ?_
    refine h_one 12 (by kernel_rfl) rfl rfl ?_
    refine s_invokeM rfl rfl rfl (h db2 5 (List.replicate 4096 0) 4096 ((off + dn) / 4096 * 4096) (by simp) (by omega)) [6, 6, 2] rfl ?_ (fun _ _ h => h.elim)
    rintro _ _ ⟨y, rfl, hy1, hy2, rfl⟩
    rw [rdd_page, ← hcb, ← (hok.under (bq_none hn)).2]
    refine h_then (Ent.trans (arr_ent 0 [3, 4] _) (Ent.left [_, _] _)) ?_
    have hE2 : Ent ([glb, X, blk db2 (cl (u8s (pgl c ((off + dn) / 4096))) 5)] ++ blk b (cl [.pointer none, .pointer none, .pointer (some ⟨xb, 0, none⟩), .slice (some ⟨db2, 0, none⟩) 4096 4096, .bool false] 194) :: blk xb (cl [.slice (some ⟨db2, 0, none⟩) 4096 4096] 22) :: blk bb (cl (bcells (.iface pt pw) mb s) 180) :: blk mb (mapO (bme l) kk) :: bpgs c l :: blk db (cl (u8s (rdd old c off dn)) e) :: F) [blk b (cl [.pointer none, .pointer none, .pointer (some ⟨xb, 0, none⟩), .slice (some ⟨db2, 0, none⟩) 4096 4096, .bool false] 194), blk bb (cl (bcells (.iface pt pw) mb s) 180)] := Ent.trans (arr_ent 0 [3, 4] _) (Ent.left [_, _] _)
    refine h_take (by assumption) 13 rfl (by kernel_rfl) (by kernel_rfl) (by kernel_rfl) rfl rfl rfl pQ rV ?_
    refine h_take (by assumption) 14 rfl (by kernel_rfl) (by kernel_rfl) (by kernel_rfl) rfl rfl rfl pQ rV ?_
    refine h_take (by assumption) 15 rfl (by kernel_rfl) (by kernel_rfl) (by kernel_rfl) rfl rfl rfl pQ rV ?_
    refine h_take (by assumption) 16 rfl (by kernel_rfl) (by kernel_rfl) (by kernel_rfl) rfl rfl rfl pQ rV ?_
    refine h_done (by kernel_rfl) ?_
    refine q_then_n ?_
    refine c_mid (α := Unit) (fun _ => [(0, .pointer (some ⟨bb, 0, none⟩)), (1, .slice (some ⟨db, dn, none⟩) (k - dn) (k - dn)), (2, .int .i64 (off + dn : Nat)), (6, .int .i64 (dn : Nat)), (7, .nilIface), (8, .int .i64 ((s : Int) - (off : Int))), (9, .int .i64 ((off + dn) / 4096 : Nat)), (10, .int .i64 ((off + dn) % 4096 : Nat)), (11, .int .i64 (r - dn : Nat)), (12, .pointer (some ⟨b, 0, none⟩))])
      (fun _ => [glb, X, blk db2 (cl (u8s (pgl c ((off + dn) / 4096))) 5)] ++ blk b (cl [.pointer none, .pointer none, .pointer (some ⟨xb, 0, none⟩), .slice (some ⟨db2, 0, none⟩) 4096 4096, .bool false] 194) :: blk xb (cl [.slice (some ⟨db2, 0, none⟩) 4096 4096] 22) :: blk bb (cl (bcells (.iface pt pw) mb s) 180) :: blk mb (mapO (bme l) kk) :: bpgs c l :: blk db (cl (u8s (rdd old c off dn)) e) :: F) (fun _ => True) ?_ ?_
    · rcases hy1 with rfl | rfl
      · repeat (first | refine wZ ?_ | intro b)
        exact at_intro () trivial ⟨rfl, rfl, rfl, rfl, rfl, rfl, rfl, rfl, rfl, rfl, trivial⟩ (Ent.refl _)
      · repeat (first | refine wZ ?_ | intro b)
        refine l_yes rfl rfl rfl (s_call rfl rfl (zzIsEOF_t hglb) [0] rfl ?_ (fun _ _ h => h.elim))
        rintro _ _ ⟨rfl, rfl⟩
        repeat (first | refine wZ ?_ | intro b)
        exact at_intro () trivial ⟨rfl, rfl, rfl, rfl, rfl, rfl, rfl, rfl, rfl, rfl, trivial⟩ (Ent.refl _)
    rintro _ _
    repeat (first | refine wZ ?_ | intro b)
    refine l_plain rfl (s_mapPut 6 rfl rfl rfl rfl (bq_miss hn 0) ?_)
    repeat (first | refine wZ ?_ | intro b)
    refine at_intro (l, ⟨⟨(off + dn) / 4096, b, kk⟩, db2, .pointer (some ⟨xb, 0, none⟩), none, none, false⟩, [], kk + 1, .nilIface) ⟨hok.more (bq_none hn) rfl (by dsimp only; omega) (by dsimp only; exact (hok.under (bq_none hn)).1.symm) ⟨rfl, rfl⟩, rfl, .inl rfl, fun _ => rfl⟩ ⟨rfl, rfl, rfl, rfl, rfl, rfl, rfl, rfl, rfl, rfl, trivial⟩ ?_
    have hput := bpgs_put (L := glb :: X :: blk db (cl (u8s (rdd old c off dn)) e) :: F) c l [] ⟨⟨(off + dn) / 4096, b, kk⟩, db2, .pointer (some ⟨xb, 0, none⟩), none, none, false⟩
    rw [List.append_nil] at hput
    simp only [bpc] at hput
    dsimp only
    rw [bme_append, bme_one]
    exact (arr_ent 1 [6, 0, 3, 2, 3, 0, 0] _).trans (Ent.cons (Ent.cons hput))
  rintro ⟨l1, p, l2, k3, x2⟩ ⟨hok3, hpi, hx1, hx2⟩
  dsimp only at hok3 hpi hx1 hx2 ⊢
  refine G.ent (Ent.cons (Ent.cons (bpgs_take c l1 l2 p))) ?_
  unfold bpc
  repeat (first | refine wY ?_ | intro b)
  obtain ⟨g, hg, hg1⟩ : ∃ g : Nat, min ((r - dn : Nat) : Int) 4096 = (g : Nat) ∧ g = min (r - dn) 4096 := ⟨min (r - dn) 4096, by omega, rfl⟩
  refine h_any [blk p.z.blk (cl [.pointer p.pv, .pointer p.nx, p.pd, .slice (some ⟨p.db, 0, none⟩) 4096 4096, .bool p.dirty] 194)] 12 rfl ?_
  have hE : Ent (blk bb (cl (bcells (.iface pt pw) mb s) 180) :: blk mb (mapO (bme (l1 ++ p :: l2)) k3) :: blk p.z.blk (cl [.pointer p.pv, .pointer p.nx, p.pd, .slice (some ⟨p.db, 0, none⟩) 4096 4096, .bool p.dirty] 194) :: blk p.db (cl (u8s (pgl c p.z.idx)) 5) :: bpgs c (l1 ++ l2) :: glb :: X :: blk db (cl (u8s (rdd old c off dn)) e) :: F) [blk p.z.blk (cl [.pointer p.pv, .pointer p.nx, p.pd, .slice (some ⟨p.db, 0, none⟩) 4096 4096, .bool p.dirty] 194)] := Ent.trans (arr_ent 0 [2] _) (Ent.left [_] _)
  refine h_take (by assumption) 0 rfl (by kernel_rfl) (by kernel_rfl) (by kernel_rfl) rfl rfl rfl pQ rV ?_
  refine h_take (by assumption) 1 rfl (by kernel_rfl) (by kernel_rfl) (by kernel_rfl) rfl rfl rfl pQ rV ?_
  refine h_take (by assumption) 4 rfl (by kernel_rfl) (by kernel_rfl) (by kernel_rfl) rfl rfl rfl pQ rV ?_
  refine h_take (by assumption) 5 rfl (by kernel_rfl) (by kernel_rfl) (by kernel_rfl) rfl rfl rfl pQ rV ?_
  refine h_take (by assumption) 6 rfl (by kernel_rfl) (by kernel_rfl) (by kernel_rfl) rfl rfl rfl pQ rV ?_
  refine h_take (by assumption) 7 rfl (by kernel_rfl) (by kernel_rfl) (by kernel_rfl) rfl rfl rfl pQ rV ?_
  refine h_take (by assumption) 8 rfl (by kernel_rfl) (by kernel_rfl) (by kernel_rfl) rfl rfl rfl pQ rV ?_
  refine h_take (by assumption) 9 rfl (by kernel_rfl) (by kernel_rfl) (by kernel_rfl) rfl rfl rfl pQ (RunS.v (r_slF rfl rfl (by omega))) ?_
  refine h_one 2 (by kernel_rfl) rfl rfl ?_
  refine s_call rfl rfl (zzMin_c _ _) [] rfl ?_ (fun _ _ h => h.elim)
  rintro _ _ ⟨rfl, rfl⟩
  rw [hg]
  refine h_then hE ?_
  refine h_take hE 3 rfl (by kernel_rfl) (by kernel_rfl) (by kernel_rfl) rfl rfl rfl pQ (RunS.v (r_slTo rfl rfl (by omega))) ?_
  refine h_one 10 (by kernel_rfl) rfl rfl ?_
  have hlo : (rdd old c off dn).length = k := by rw [rdd_length (by omega), hk]
  refine s_copy (size := 1) (kk := 4096 - (off + dn) % 4096) (news := (u8s (pgl c p.z.idx)).drop ((off + dn) % 4096)) 7 rfl rfl rfl (.some p.db (0 + (off + dn) % 4096 * 1) _ _ _ (by simp) ?_) (by simp [hlo]; omega) (by rw [u8s_drop]; exact u8s_one _) rfl ?_
  · rw [Nat.mul_one]
    exact RdN.skip (rdn_all 3 rfl) _
  generalize hen : min (4096 - (off + dn) % 4096) g = en
  rw [Nat.mul_one en, rng_pgl c p.z.idx _ _ (by omega), show p.z.idx * 4096 + (off + dn) % 4096 = off + dn from by omega, rdd_more old c off dn en (by omega)]
  refine h_then (Ent.trans (arr_ent 0 [3] _) (Ent.left [_] _)) ?_
  have hE3 : Ent (blk db (cl (u8s (rdd old c off (dn + en))) e) :: blk bb (cl (bcells (.iface pt pw) mb s) 180) :: blk mb (mapO (bme (l1 ++ p :: l2)) k3) :: blk p.z.blk (cl [.pointer p.pv, .pointer p.nx, p.pd, .slice (some ⟨p.db, 0, none⟩) 4096 4096, .bool p.dirty] 194) :: blk p.db (cl (u8s (pgl c p.z.idx)) 5) :: bpgs c (l1 ++ l2) :: glb :: X :: F) [blk p.z.blk (cl [.pointer p.pv, .pointer p.nx, p.pd, .slice (some ⟨p.db, 0, none⟩) 4096 4096, .bool p.dirty] 194)] := Ent.trans (arr_ent 0 [3] _) (Ent.left [_] _)
  refine h_take (by assumption) 11 rfl (by kernel_rfl) (by kernel_rfl) (by kernel_rfl) rfl rfl rfl pQ rV ?_
  refine h_done (by kernel_rfl) ?_
  refine q_then_n ?_
  repeat (first | refine wZ ?_ | intro b)
  refine l_plain rfl ?_
  apply s_val rfl rfl
  · exact RunS.v (r_slAdv rfl rfl (by omega))
  repeat (first | refine wZ ?_ | intro b)
  rw [show k - dn - en = k - (dn + en) from by omega, show r - dn - en = r - (dn + en) from by omega, show off + dn + en = off + (dn + en) from by omega]
  refine at_intro (dn + en, x2, adv db dn 1 en (k - dn), k - (dn + en), (off + dn) / 4096 + 1, 0) ⟨⟨by dsimp only; omega, fun hlt => ⟨?_, rfl, by dsimp only at hlt ⊢; omega, by dsimp only at hlt ⊢; omega⟩, hx1, hx2⟩, by dsimp only; omega⟩ ⟨rfl, rfl, rfl, rfl, rfl, rfl, rfl, rfl, rfl, trivial⟩ ?_
  · dsimp only at hlt ⊢
    unfold adv
    rw [if_neg (by omega), Nat.mul_one]
  · dsimp only
    have hput := bpgs_put (L := glb :: X :: blk db (cl (u8s (rdd old c off (dn + en))) e) :: F) c l1 l2 p
    simp only [bpc] at hput
    refine Ent.trans (arr_ent 0 [1, 1, 1, 1, 1, 1, 1, 0] _) ?_
    exact Ent.trans (Ent.cons (Ent.cons hput)) (bf_shut hok3)
end
end Go.Proofs.YtfebpbflpdppiaaGreatDoor
namespace Go.Proofs.YtfebpbflpdppiaaGreatDoor
open Go Go.Sl
set_option maxRecDepth 100000
theorem bq_neg {l : List BP} {off : Int} (h : off < 0) : (match mgo (off / 4096) (bme l) 0 with | some p => p.2 | none => Value.pointer none) = .pointer none := by
  have : mgo (off / 4096) (bme l) 0 = none := mgo_none.2 fun e he => by
    obtain ⟨p, _, rfl⟩ := bme_mem he
    simp only [ZP.me]
    omega
  rw [this]
attribute [local irreducible] wpList Code.wp Exit.then Exit.inBlock bodyPost RunS RunV G St Ct Sat Ent At Rd GQ QL wpAny wpOp wpQuiet slP Sl.ex sep
attribute [local irreducible] zf memf pgl rng ov cutC zc mapO rdd bme
section
variable {bb s sp : Nat} {cb cp : Cn} {c : Cn} {d : Nat → Bool} {glb X : HP} {ea : Addr} {pt : TypeId} {pw : Value}
set_option maxHeartbeats 4000000 in
theorem bReadAt_n (hglb : Rd [glb] ⟨1, 0, none⟩ (eofV ea)) {N : Int} (hN : N ≤ 1000000000000000) (h : RdM (.iface pt pw) glb X N) (a : Option Addr) (k cp2 : Nat) (off : Int) (hk : 0 < k) (ho : off < 0) (hb : -N + 4096 ≤ off) (hsz : s ≤ 900000000000) :
    Ct Tryz.prog 120 #[.pointer (some ⟨bb, 0, none⟩), .slice a k cp2, .int .i64 off] [glb, X, bf bb (.iface pt pw) cb c s d] (fun v B => ∃ b, v = .tuple #[.int .i64 0, invV b] ∧ B = [glb, X, bf bb (.iface pt pw) cb c s d]) nev := by
  refine Ct.of Tryz.func120 rfl Tryz.ntmps120 rfl fun m F => ?_
  refine G.ent (arr_ent 0 [2, 0, 0] _) ?_
  refine bf_open fun mb l kk hok => ?_
  repeat (first | refine wZ ?_ | intro b)
  refine c_mid (α := Value × Int) (fun y => [(0, .pointer (some ⟨bb, 0, none⟩)), (2, .int .i64 off), (6, .int .i64 0), (7, y.1), (8, .int .i64 ((s : Int) - off)), (9, .int .i64 (off / 4096)), (10, .int .i64 (off % 4096)), (11, .int .i64 y.2)])
    (fun _ => blk bb (cl (bcells (.iface pt pw) mb s) 180) :: blk mb (mapO (bme l) kk) :: bpgs c l :: glb :: X :: F)
    (fun y => 0 < y.2) ?_ ?_
  · refine c_cond rfl (fun h1 => ?_) (fun h1 => ?_)
    · repeat (first | refine wZ ?_ | intro b)
      refine l_plain rfl ?_
      apply s_val rfl rfl
      · exact r_load rfl rfl (Rd.at hglb 3 rfl)
      repeat (first | refine wZ ?_ | intro b)
      exact at_intro (eofV ea, (s : Int) - off) (by dsimp only; omega) ⟨rfl, rfl, rfl, rfl, rfl, rfl, rfl, rfl, trivial⟩ (Ent.refl _)
    · repeat (first | refine wZ ?_ | intro b)
      exact at_intro (.nilIface, ((k : Nat) : Int)) (by dsimp only; omega) ⟨rfl, rfl, rfl, rfl, rfl, rfl, rfl, rfl, trivial⟩ (Ent.refl _)
  rintro ⟨x, r⟩ hr
  dsimp only at hr ⊢
  refine c_seq ?_
  refine c_block ?_
  refine c_loop (α := Unit) (fun _ => [(0, .pointer (some ⟨bb, 0, none⟩)), (2, .int .i64 off), (6, .int .i64 0), (7, x), (8, .int .i64 ((s : Int) - off)), (9, .int .i64 (off / 4096)), (10, .int .i64 (off % 4096)), (11, .int .i64 r)])
    (fun _ => blk bb (cl (bcells (.iface pt pw) mb s) 180) :: blk mb (mapO (bme l) kk) :: bpgs c l :: glb :: X :: F) (fun _ => True) (fun _ => 0) () trivial (by exact ⟨rfl, rfl, rfl, rfl, rfl, rfl, rfl, rfl, trivial⟩) (Ent.refl _) ?_
  rintro _ _
  repeat (first | refine wZ ?_ | intro b)
  rw [decide_eq_false (by omega : ¬ r = 0)]
  repeat (first | refine wZ ?_ | intro b)
  rw [decide_eq_true (by omega : (0 : Int) < (s : Int) - off)]
  repeat (first | refine wZ ?_ | intro b)
  refine l_plain rfl ?_
  apply s_val rfl rfl
  · exact r_lookV 1 rfl rfl rfl (bq_neg ho)
  repeat (first | refine wZ ?_ | intro b)
  refine l_plain rfl ?_
  apply s_val rfl rfl
  · exact RunS.v (r_build (cells := #[.pointer none, .pointer none, .pointer none, .slice none 0 0, .bool false]) rfl (by kernel_rfl))
  repeat (first | refine wZ ?_ | intro b)
  refine l_plain rfl (s_call rfl rfl zzGet_c [] rfl ?_ (fun _ _ h => h.elim))
  rintro _ _ ⟨xb, db2, rfl, rfl⟩
  repeat (first | refine wY ?_ | intro b)
  refine G.ent (L' := blk b (cl [.pointer none, .pointer none, .pointer (some ⟨xb, 0, none⟩), .slice (some ⟨db2, 0, none⟩) 4096 4096, .bool false] 194) :: blk bb (cl (bcells (.iface pt pw) mb s) 180) :: blk mb (mapO (bme l) kk) :: bpgs c l :: glb :: X :: F) (arr_ent 0 [0, 2] _ |>.trans (Ent.cons (Ent.cons (arr_ent 2 [] _)))) ?_
  refine h_any [blk b (cl [.pointer none, .pointer none, .pointer (some ⟨xb, 0, none⟩), .slice (some ⟨db2, 0, none⟩) 4096 4096, .bool false] 194), blk bb (cl (bcells (.iface pt pw) mb s) 180)] 17 rfl ?_
  have hE : Ent (blk b (cl [.pointer none, .pointer none, .pointer (some ⟨xb, 0, none⟩), .slice (some ⟨db2, 0, none⟩) 4096 4096, .bool false] 194) :: blk bb (cl (bcells (.iface pt pw) mb s) 180) :: blk mb (mapO (bme l) kk) :: bpgs c l :: glb :: X :: F) [blk b (cl [.pointer none, .pointer none, .pointer (some ⟨xb, 0, none⟩), .slice (some ⟨db2, 0, none⟩) 4096 4096, .bool false] 194), blk bb (cl (bcells (.iface pt pw) mb s) 180)] := Ent.left [_, _] _
  refine h_take (by assumption) 0 rfl (by kernel_rfl) (by kernel_rfl) (by kernel_rfl) rfl rfl rfl pQ rV ?_
  refine h_take (by assumption) 1 rfl (by kernel_rfl) (by kernel_rfl) (by kernel_rfl) rfl rfl rfl pQ rV ?_
  refine h_take (by assumption) 2 rfl (by kernel_rfl) (by kernel_rfl) (by kernel_rfl) rfl rfl rfl pQ rV ?_
  refine h_take (by assumption) 3 rfl (by kernel_rfl) (by kernel_rfl) (by kernel_rfl) rfl rfl rfl pQ rV ?_
  refine h_take (by assumption) 4 rfl (by kernel_rfl) (by kernel_rfl) (by kernel_rfl) rfl rfl rfl pQ rV ?_
  refine h_take (by assumption) 5 rfl (by kernel_rfl) (by kernel_rfl) (by kernel_rfl) rfl rfl rfl pQ rV ?_
  refine h_take (by assumption) 6 rfl (by kernel_rfl) (by kernel_rfl) (by kernel_rfl) rfl rfl rfl pQ rV ?_
  refine h_take (by assumption) 7 rfl (by kernel_rfl) (by kernel_rfl) (by kernel_rfl) rfl rfl rfl pQ rV ?_
  refine h_take (by assumption) 8 rfl (by kernel_rfl) (by kernel_rfl) (by kernel_rfl) rfl rfl rfl pQ rV ?_
  refine h_take (by assumption) 9 rfl (by kernel_rfl) (by kernel_rfl) (by kernel_rfl) rfl rfl rfl pQ (RunS.v (r_an rfl rfl (by omega))) ?_
  refine h_take (by assumption) 10 rfl (by kernel_rfl) (by kernel_rfl) (by kernel_rfl) rfl rfl rfl pQ (RunS.v (r_nilI rfl)) ?_
  refine h_take (by assumption) 11 rfl (by kernel_rfl) (by kernel_rfl) (by kernel_rfl) rfl rfl rfl pQ rV ?_
  refine h_one 12 (by kernel_rfl) rfl rfl ?_
  refine s_invokeM rfl rfl rfl (h _ 4096 4096 _ (by omega) (by omega) (by omega)) [4, 4] rfl ?_ (fun _ _ h => h.elim)
  rintro _ _ ⟨ib, rfl, rfl⟩
  refine h_then (Ent.trans (arr_ent 0 [2, 2] _) (Ent.left [_, _] _)) ?_
  have hE2 : Ent ([glb, X] ++ blk b (cl [.pointer none, .pointer none, .pointer (some ⟨xb, 0, none⟩), .slice (some ⟨db2, 0, none⟩) 4096 4096, .bool false] 194) :: blk bb (cl (bcells (.iface pt pw) mb s) 180) :: blk mb (mapO (bme l) kk) :: bpgs c l :: F) [blk b (cl [.pointer none, .pointer none, .pointer (some ⟨xb, 0, none⟩), .slice (some ⟨db2, 0, none⟩) 4096 4096, .bool false] 194), blk bb (cl (bcells (.iface pt pw) mb s) 180)] := Ent.trans (arr_ent 0 [2, 2] _) (Ent.left [_, _] _)
  refine h_take (by assumption) 13 rfl (by kernel_rfl) (by kernel_rfl) (by kernel_rfl) rfl rfl rfl pQ rV ?_
  refine h_take (by assumption) 14 rfl (by kernel_rfl) (by kernel_rfl) (by kernel_rfl) rfl rfl rfl pQ rV ?_
  refine h_take (by assumption) 15 rfl (by kernel_rfl) (by kernel_rfl) (by kernel_rfl) rfl rfl rfl pQ rV ?_
  refine h_take (by assumption) 16 rfl (by kernel_rfl) (by kernel_rfl) (by kernel_rfl) rfl rfl rfl pQ rV ?_
  refine h_done (by kernel_rfl) ?_
  refine q_then_n ?_
  repeat (first | refine wZ ?_ | intro b)
  refine l_yes rfl rfl rfl (s_call rfl rfl (zzIsEOF_f hglb ib) [0] rfl ?_ (fun _ _ h => h.elim))
  rintro _ _ ⟨rfl, rfl⟩
  repeat (first | refine wZ ?_ | intro b)
  refine e_ret2 _ rfl rfl rfl ⟨ib, rfl, rfl⟩ ?_
  exact (arr_ent 1 [3, 3, 3, 0, 0] _).trans ((bf_shut hok).trans (arr_ent 0 [1, 1, 0] _))
set_option maxHeartbeats 4000000 in
theorem bWriteAt_n (hglb : Rd [glb] ⟨1, 0, none⟩ (eofV ea)) {N : Int} (hN : N ≤ 1000000000000000) (h : RdM (.iface pt pw) glb X N) (a : Option Addr) (k cp2 : Nat) (off : Int) (hk : 0 < k) (ho : off < 0) (hb : -N + 4096 ≤ off) :
    Ct Tryz.prog 123 #[.pointer (some ⟨bb, 0, none⟩), .slice a k cp2, .int .i64 off] [glb, X, bf bb (.iface pt pw) cb c s d] (fun v B => ∃ b, v = .tuple #[.int .i64 (k : Nat), invV b] ∧ B = [glb, X, bf bb (.iface pt pw) cb c s d]) nev := by
  refine Ct.of Tryz.func123 rfl Tryz.ntmps123 rfl fun m F => ?_
  refine G.ent (arr_ent 0 [2, 0, 0] _) ?_
  refine bf_open fun mb l kk hok => ?_
  repeat (first | refine wZ ?_ | intro b)
  refine c_loop (α := Unit) (fun _ => [(0, .pointer (some ⟨bb, 0, none⟩)), (2, .int .i64 off), (6, .int .i64 (k : Nat)), (9, .int .i64 (off / 4096)), (10, .int .i64 (off % 4096)), (11, .int .i64 (k : Nat))])
    (fun _ => blk bb (cl (bcells (.iface pt pw) mb s) 180) :: blk mb (mapO (bme l) kk) :: bpgs c l :: glb :: X :: F) (fun _ => True) (fun _ => 0) () trivial (by exact ⟨rfl, rfl, rfl, rfl, rfl, rfl, trivial⟩) (Ent.refl _) ?_
  rintro _ _
  repeat (first | refine wZ ?_ | intro b)
  rw [decide_eq_false (by omega : ¬ ((k : Nat) : Int) = 0)]
  repeat (first | refine wZ ?_ | intro b)
  refine l_plain rfl ?_
  apply s_val rfl rfl
  · exact r_lookV 1 rfl rfl rfl (bq_neg ho)
  repeat (first | refine wZ ?_ | intro b)
  refine l_plain rfl ?_
  apply s_val rfl rfl
  · exact RunS.v (r_build (cells := #[.pointer none, .pointer none, .pointer none, .slice none 0 0, .bool false]) rfl (by kernel_rfl))
  repeat (first | refine wZ ?_ | intro b)
  refine l_plain rfl (s_call rfl rfl zzGet_c [] rfl ?_ (fun _ _ h => h.elim))
  rintro _ _ ⟨xb, db2, rfl, rfl⟩
  repeat (first | refine wY ?_ | intro b)
  refine G.ent (L' := blk b (cl [.pointer none, .pointer none, .pointer (some ⟨xb, 0, none⟩), .slice (some ⟨db2, 0, none⟩) 4096 4096, .bool false] 194) :: blk bb (cl (bcells (.iface pt pw) mb s) 180) :: blk mb (mapO (bme l) kk) :: bpgs c l :: glb :: X :: F) (arr_ent 0 [0, 2] _ |>.trans (Ent.cons (Ent.cons (arr_ent 2 [] _)))) ?_
  refine h_any [blk b (cl [.pointer none, .pointer none, .pointer (some ⟨xb, 0, none⟩), .slice (some ⟨db2, 0, none⟩) 4096 4096, .bool false] 194), blk bb (cl (bcells (.iface pt pw) mb s) 180)] 17 rfl ?_
  have hE : Ent (blk b (cl [.pointer none, .pointer none, .pointer (some ⟨xb, 0, none⟩), .slice (some ⟨db2, 0, none⟩) 4096 4096, .bool false] 194) :: blk bb (cl (bcells (.iface pt pw) mb s) 180) :: blk mb (mapO (bme l) kk) :: bpgs c l :: glb :: X :: F) [blk b (cl [.pointer none, .pointer none, .pointer (some ⟨xb, 0, none⟩), .slice (some ⟨db2, 0, none⟩) 4096 4096, .bool false] 194), blk bb (cl (bcells (.iface pt pw) mb s) 180)] := Ent.left [_, _] _
  refine h_take (by assumption) 0 rfl (by kernel_rfl) (by kernel_rfl) (by kernel_rfl) rfl rfl rfl pQ rV ?_
  refine h_take (by assumption) 1 rfl (by kernel_rfl) (by kernel_rfl) (by kernel_rfl) rfl rfl rfl pQ rV ?_
  refine h_take (by assumption) 2 rfl (by kernel_rfl) (by kernel_rfl) (by kernel_rfl) rfl rfl rfl pQ rV ?_
  refine h_take (by assumption) 3 rfl (by kernel_rfl) (by kernel_rfl) (by kernel_rfl) rfl rfl rfl pQ rV ?_
  refine h_take (by assumption) 4 rfl (by kernel_rfl) (by kernel_rfl) (by kernel_rfl) rfl rfl rfl pQ rV ?_
  refine h_take (by assumption) 5 rfl (by kernel_rfl) (by kernel_rfl) (by kernel_rfl) rfl rfl rfl pQ rV ?_
  refine h_take (by assumption) 6 rfl (by kernel_rfl) (by kernel_rfl) (by kernel_rfl) rfl rfl rfl pQ rV ?_
  refine h_take (by assumption) 7 rfl (by kernel_rfl) (by kernel_rfl) (by kernel_rfl) rfl rfl rfl pQ rV ?_
  refine h_take (by assumption) 8 rfl (by kernel_rfl) (by kernel_rfl) (by kernel_rfl) rfl rfl rfl pQ rV ?_
  refine h_take (by assumption) 9 rfl (by kernel_rfl) (by kernel_rfl) (by kernel_rfl) rfl rfl rfl pQ (RunS.v (r_an rfl rfl (by omega))) ?_
  refine h_take (by assumption) 10 rfl (by kernel_rfl) (by kernel_rfl) (by kernel_rfl) rfl rfl rfl pQ (RunS.v (r_nilI rfl)) ?_
  refine h_take (by assumption) 11 rfl (by kernel_rfl) (by kernel_rfl) (by kernel_rfl) rfl rfl rfl pQ rV ?_
  refine h_one 12 (by kernel_rfl) rfl rfl ?_
  refine s_invokeM rfl rfl rfl (h _ 4096 4096 _ (by omega) (by omega) (by omega)) [4, 4] rfl ?_ (fun _ _ h => h.elim)
  rintro _ _ ⟨ib, rfl, rfl⟩
  refine h_then (Ent.trans (arr_ent 0 [2, 2] _) (Ent.left [_, _] _)) ?_
  have hE2 : Ent ([glb, X] ++ blk b (cl [.pointer none, .pointer none, .pointer (some ⟨xb, 0, none⟩), .slice (some ⟨db2, 0, none⟩) 4096 4096, .bool false] 194) :: blk bb (cl (bcells (.iface pt pw) mb s) 180) :: blk mb (mapO (bme l) kk) :: bpgs c l :: F) [blk b (cl [.pointer none, .pointer none, .pointer (some ⟨xb, 0, none⟩), .slice (some ⟨db2, 0, none⟩) 4096 4096, .bool false] 194), blk bb (cl (bcells (.iface pt pw) mb s) 180)] := Ent.trans (arr_ent 0 [2, 2] _) (Ent.left [_, _] _)
  refine h_take (by assumption) 13 rfl (by kernel_rfl) (by kernel_rfl) (by kernel_rfl) rfl rfl rfl pQ rV ?_
  refine h_take (by assumption) 14 rfl (by kernel_rfl) (by kernel_rfl) (by kernel_rfl) rfl rfl rfl pQ rV ?_
  refine h_take (by assumption) 15 rfl (by kernel_rfl) (by kernel_rfl) (by kernel_rfl) rfl rfl rfl pQ rV ?_
  refine h_take (by assumption) 16 rfl (by kernel_rfl) (by kernel_rfl) (by kernel_rfl) rfl rfl rfl pQ rV ?_
  refine h_done (by kernel_rfl) ?_
  refine q_then_n ?_
  repeat (first | refine wZ ?_ | intro b)
  refine l_yes rfl rfl rfl (s_call rfl rfl (zzIsEOF_f hglb ib) [0] rfl ?_ (fun _ _ h => h.elim))
  rintro _ _ ⟨rfl, rfl⟩
  repeat (first | refine wZ ?_ | intro b)
  refine e_ret2 _ rfl rfl rfl ⟨ib, rfl, rfl⟩ ?_
  exact (arr_ent 1 [3, 3, 3, 0, 0] _).trans ((bf_shut hok).trans (arr_ent 0 [1, 1, 0] _))
end
end Go.Proofs.YtfebpbflpdppiaaGreatDoor
namespace Go.Proofs.YtfebpbflpdppiaaGreatDoor
open Go Go.Sl
set_option maxRecDepth 100000
/-- the pages that are written -/
def dw (d : Nat → Bool) (off n : Nat) : Nat → Bool := fun j => d j || (decide (0 < n) && decide (off / 4096 ≤ j) && decide (j * 4096 < off + n))
theorem dw_zero (d : Nat → Bool) (off : Nat) : dw d off 0 = d := by
  funext j
  simp [dw]
theorem BOK.grow {cb c : Cn} {s s' k : Nat} {d : Nat → Bool} {l : List BP} (h : BOK cb c s d l k) (hs : s ≤ s') : BOK cb c s' d l k := ⟨h.nd, h.nb, h.lt, fun p hp => by have := h.bd p hp; omega, h.dd, h.dn, h.cb, h.pn⟩
def BP.wet (p : BP) : BP := { p with dirty := true }
theorem map_wet {α : Type} (f : BP → α) (l1 l2 : List BP) (p : BP) (hf : f p.wet = f p) : (l1 ++ p.wet :: l2).map f = (l1 ++ p :: l2).map f := by simp [hf]
theorem bme_wet (l1 l2 : List BP) (p : BP) : bme (l1 ++ p.wet :: l2) = bme (l1 ++ p :: l2) := by
  unfold bme
  rw [map_wet _ _ _ _ rfl]
theorem mem_wet {l1 l2 : List BP} {p q : BP} (h : q ∈ l1 ++ p.wet :: l2) : q = p.wet ∨ q ∈ l1 ++ l2 := by
  rcases List.mem_append.1 h with h | h
  · exact .inr (List.mem_append_left _ h)
  · rcases List.mem_cons.1 h with h | h
    · exact .inl h
    · exact .inr (List.mem_append_right _ h)
theorem mem_less {l1 l2 : List BP} {p q : BP} (h : q ∈ l1 ++ l2) : q ∈ l1 ++ p :: l2 := by
  rcases List.mem_append.1 h with h | h
  · exact List.mem_append_left _ h
  · exact List.mem_append_right _ (List.mem_cons_of_mem _ h)
theorem BOK.wetted {cb c c' : Cn} {s k : Nat} {d d' : Nat → Bool} {l1 l2 : List BP} {p : BP} (h : BOK cb c s d (l1 ++ p :: l2) k) (hd : d' p.z.idx = true) (hd2 : ∀ j, j ≠ p.z.idx → d' j = d j) (hc : ∀ i, i / 4096 ≠ p.z.idx → c' i = c i) : BOK cb c' s d' (l1 ++ p.wet :: l2) k where
  nd := by rw [map_wet _ _ _ _ rfl]; exact h.nd
  nb := by rw [map_wet _ _ _ _ rfl]; exact h.nb
  lt := fun q hq => by
    rcases mem_wet hq with rfl | hq
    · exact h.lt p (by simp)
    · exact h.lt q (mem_less hq)
  bd := fun q hq => by
    rcases mem_wet hq with rfl | hq
    · exact h.bd p (by simp)
    · exact h.bd q (mem_less hq)
  dd := fun q hq => by
    rcases mem_wet hq with rfl | hq
    · exact hd.symm
    · rw [hd2 _ (h.other q hq)]
      exact h.dd q (mem_less hq)
  dn := fun j hj => by
    by_cases hjp : j = p.z.idx
    · exact ⟨p.wet, by simp, hjp.symm⟩
    · rw [hd2 _ hjp] at hj
      obtain ⟨q, hq, rfl⟩ := h.dn j hj
      rcases List.mem_append.1 hq with hq | hq
      · exact ⟨q, List.mem_append_left _ hq, rfl⟩
      · rcases List.mem_cons.1 hq with rfl | hq
        · exact absurd rfl hjp
        · exact ⟨q, List.mem_append_right _ (List.mem_cons_of_mem _ hq), rfl⟩
  cb := fun i hi => by
    by_cases hjp : i / 4096 = p.z.idx
    · rw [hjp, hd] at hi
      cases hi
    · rw [hd2 _ hjp] at hi
      rw [hc i hjp]
      exact h.cb i hi
  pn := fun q hq => by
    rcases mem_wet hq with rfl | hq
    · exact h.pn p (by simp)
    · exact h.pn q (mem_less hq)
theorem BOK.laid {cb c : Cn} {s k off dn e : Nat} {d : Nat → Bool} {l1 l2 : List BP} {p : BP} {bs : List UInt8} (h : BOK cb (ov c off (bs.take dn)) s (dw d off dn) (l1 ++ p :: l2) k) (hp : p.z.idx = (off + dn) / 4096) (he : 0 < e) (hq : (off + dn) % 4096 + e ≤ 4096) (hl : dn + e ≤ bs.length) :
    BOK cb (ov c off (bs.take (dn + e))) s (dw d off (dn + e)) (l1 ++ p.wet :: l2) k ∧ bpgs (ov c off (bs.take dn)) (l1 ++ l2) = bpgs (ov c off (bs.take (dn + e))) (l1 ++ l2) := by
  have hov := ov_ov c off dn e bs
  have hpi : p.z.idx * 4096 + (off + dn) % 4096 = off + dn := by omega
  have hlen : ((bs.drop dn).take e).length = e := by simp; omega
  refine ⟨h.wetted ?_ (fun j hj => ?_) (fun i hi => ?_), bpgs_congr fun q hq2 => ?_⟩
  · simp only [dw, Bool.or_eq_true, Bool.and_eq_true, decide_eq_true_eq]
    right
    omega
  · have e1 : (decide (0 < dn + e) && decide (off / 4096 ≤ j) && decide (j * 4096 < off + (dn + e))) = (decide (0 < dn) && decide (off / 4096 ≤ j) && decide (j * 4096 < off + dn)) := by
      rw [Bool.eq_iff_iff]
      simp only [Bool.and_eq_true, decide_eq_true_eq]
      omega
    simp only [dw, e1]
  · rw [← hov]
    simp only [ov, hlen]
    rw [if_neg (by omega)]
  · rw [← hov, ← hpi, pgl_ov_ne _ p.z.idx q.z.idx _ _ (by rw [hlen]; omega) (h.other q hq2)]
attribute [local irreducible] wpList Code.wp Exit.then Exit.inBlock bodyPost RunS RunV G St Ct Sat Ent At Rd GQ QL wpAny wpOp wpQuiet slP Sl.ex sep
attribute [local irreducible] zf memf pgl rng ov cutC zc mapO rdd bme
section
variable {bb s sp : Nat} {cb cp : Cn} {c : Cn} {d : Nat → Bool} {glb X A : HP} {ea : Addr} {pt : TypeId} {pw : Value}
set_option maxHeartbeats 4000000 in
theorem bWriteAt_c {N : Nat} (hN : N ≤ 1000000000000) (hglb : Rd [glb] ⟨1, 0, none⟩ (eofV ea)) (h : RdC (.iface pt pw) glb X ea N cp sp) (hcb : cb = cutC cp sp) (bs : List UInt8) (a : Option Addr) (k cap off : Nat) (hs : Src [A] 1 (.slice a k cap) k (u8s bs)) (hcp : k ≤ cap) (hb : off + k + 4096 ≤ N) (_hsz : s ≤ 900000000000) :
    Ct Tryz.prog 123 #[.pointer (some ⟨bb, 0, none⟩), .slice a k cap, .int .i64 (off : Nat)] [glb, X, bf bb (.iface pt pw) cb c s d, A]
      (fun v B => v = .tuple #[.int .i64 (k : Nat), .nilIface] ∧ B = [glb, X, bf bb (.iface pt pw) cb (ov c off bs) (max s (off + k)) (dw d off k), A]) nev := by
  have hk : bs.length = k := by have := hs.len; simpa using this
  refine Ct.of Tryz.func123 rfl Tryz.ntmps123 rfl fun m F => ?_
  refine G.ent (arr_ent 0 [2, 0, 0, 0] _) ?_
  refine bf_open fun mb l kk hok => ?_
  have hlast : bs.take k = bs := List.take_of_length_le (by omega)
  generalize hS : max s (off + k) = S
  repeat (first | refine wZ ?_ | intro b)
  refine c_loop (α := Nat × Option Addr × Nat × Nat × Nat × List BP × Nat) (fun y => [(0, .pointer (some ⟨bb, 0, none⟩)), (1, .slice y.2.1 (k - y.1) y.2.2.1), (2, .int .i64 (off + y.1 : Nat)), (6, .int .i64 (k : Nat)), (7, .nilIface), (8, .int .i64 (off : Nat)), (9, .int .i64 (y.2.2.2.1 : Nat)), (10, .int .i64 (y.2.2.2.2.1 : Nat)), (11, .int .i64 (k - y.1 : Nat))])
    (fun y => blk bb (cl (bcells (.iface pt pw) mb s) 180) :: blk mb (mapO (bme y.2.2.2.2.2.1) y.2.2.2.2.2.2) :: bpgs (ov c off (bs.take y.1)) y.2.2.2.2.2.1 :: glb :: X :: A :: F)
    (fun y => y.1 ≤ k ∧ (y.1 < k → (∃ b o, RdN [A] b o (u8s bs) ∧ y.2.1 = some ⟨b, o + y.1, none⟩) ∧ y.2.2.1 = cap - y.1 ∧ y.2.2.2.1 = (off + y.1) / 4096 ∧ y.2.2.2.2.1 = (off + y.1) % 4096) ∧ BOK cb (ov c off (bs.take y.1)) S (dw d off y.1) y.2.2.2.2.2.1 y.2.2.2.2.2.2) (fun y => k - y.1) (0, a, cap, off / 4096, off % 4096, l, kk)
    ⟨Nat.zero_le _, fun hk0 => ⟨?_, rfl, rfl, rfl⟩, by dsimp only; rw [ov_take0, dw_zero]; exact hok.grow (by omega)⟩ (by exact ⟨rfl, rfl, rfl, rfl, rfl, rfl, rfl, rfl, rfl, trivial⟩) (by dsimp only; rw [ov_take0]; exact Ent.refl _) ?_
  · obtain ⟨b, o, rfl, hr⟩ := Src.addr hs hk0
    exact ⟨b, o, hr, rfl⟩
  clear hok
  rintro ⟨dn, a', cp', pgI, pgO, l, kk⟩ ⟨hdn, hI, hok⟩
  dsimp only at hdn hI hok ⊢
  by_cases hlt : dn < k
  rotate_left
  · obtain rfl : dn = k := by omega
    repeat (first | refine wZ ?_ | intro b)
    rw [decide_eq_true (by omega : ((dn - dn : Nat) : Int) = 0)]
    repeat (first | refine wZ ?_ | intro b)
    refine l_plain rfl (s_call rfl rfl (zzMaxInt64_c _ _) [] rfl ?_ (fun _ _ h => h.elim))
    rintro _ _ ⟨rfl, rfl⟩
    rw [show max ((s : Nat) : Int) ((off + dn : Nat) : Int) = (S : Nat) from by omega]
    repeat (first | refine wZ ?_ | intro b)
    rw [hlast] at hok ⊢
    exact e_ret2 _ rfl rfl rfl ⟨rfl, rfl⟩ ((bf_shut hok).trans (arr_ent 0 [1, 1, 0] _))
  obtain ⟨⟨sb, so, hr, rfl⟩, rfl, rfl, rfl⟩ := hI hlt
  clear hI
  generalize hC : ov c off (bs.take dn) = C at hok ⊢
  repeat (first | refine wZ ?_ | intro b)
  rw [decide_eq_false (by omega : ¬ ((k - dn : Nat) : Int) = 0)]
  repeat (first | refine wZ ?_ | intro b)
  refine l_plain rfl ?_
  apply s_val rfl rfl
  · exact r_lookV 1 rfl rfl rfl (bq_look l ((off + dn) / 4096) 0)
  repeat (first | refine wZ ?_ | intro b)
  refine c_mid (α := List BP × BP × List BP × Nat) (fun y => [(0, .pointer (some ⟨bb, 0, none⟩)), (1, .slice (some ⟨sb, so + dn, none⟩) (k - dn) (cap - dn)), (2, .int .i64 (off + dn : Nat)), (6, .int .i64 (k : Nat)), (7, .nilIface), (8, .int .i64 (off : Nat)), (9, .int .i64 ((off + dn) / 4096 : Nat)), (10, .int .i64 ((off + dn) % 4096 : Nat)), (11, .int .i64 (k - dn : Nat)), (13, .pointer (some y.2.1.z.ad))])
    (fun y => blk bb (cl (bcells (.iface pt pw) mb s) 180) :: blk mb (mapO (bme (y.1 ++ y.2.1 :: y.2.2.1)) y.2.2.2) :: bpgs C (y.1 ++ y.2.1 :: y.2.2.1) :: glb :: X :: A :: F)
    (fun y => BOK cb C S (dw d off dn) (y.1 ++ y.2.1 :: y.2.2.1) y.2.2.2 ∧ y.2.1.z.idx = (off + dn) / 4096) ?_ ?_
  · refine c_cond rfl (fun h3 => ?_) (fun h3 => ?_)
    rotate_left
    · cases hq : bq l ((off + dn) / 4096) with
      | none => rw [hq] at h3; cases h3
      | some ad =>
        obtain ⟨l1, p, l2, rfl, hpi, rfl⟩ := bq_some hq
        repeat (first | refine wZ ?_ | intro b)
        exact at_intro (l1, p, l2, kk) ⟨hok, hpi⟩ ⟨rfl, rfl, rfl, rfl, rfl, rfl, rfl, rfl, rfl, rfl, trivial⟩ (Ent.refl _)
    have hn : bq l ((off + dn) / 4096) = none := Option.isNone_iff_eq_none.1 h3
    rw [hn]
    repeat (first | refine wZ ?_ | intro b)
    refine l_plain rfl ?_
    apply s_val rfl rfl
    · exact RunS.v (r_build (cells := #[.pointer none, .pointer none, .pointer none, .slice none 0 0, .bool false]) rfl (by kernel_rfl))
    repeat (first | refine wZ ?_ | intro b)
    refine l_plain rfl (s_call rfl rfl zzGet_c [] rfl ?_ (fun _ _ h => h.elim))
    rintro _ _ ⟨xb, db2, rfl, rfl⟩
    rw [← u8s_rep]
    repeat (first | refine wY ?_ | intro b)
    refine G.ent (L' := blk b (cl [.pointer none, .pointer none, .pointer (some ⟨xb, 0, none⟩), .slice (some ⟨db2, 0, none⟩) 4096 4096, .bool false] 194) :: blk xb (cl [.slice (some ⟨db2, 0, none⟩) 4096 4096] 22) :: blk db2 (cl (u8s (List.replicate 4096 0)) 5) :: blk bb (cl (bcells (.iface pt pw) mb s) 180) :: blk mb (mapO (bme l) kk) :: bpgs C l :: glb :: X :: A :: F) (Ent.refl _) ?_
    refine h_any [blk b (cl [.pointer none, .pointer none, .pointer (some ⟨xb, 0, none⟩), .slice (some ⟨db2, 0, none⟩) 4096 4096, .bool false] 194), blk bb (cl (bcells (.iface pt pw) mb s) 180)] 17 rfl ?_
    have hE : Ent (blk b (cl [.pointer none, .pointer none, .pointer (some ⟨xb, 0, none⟩), .slice (some ⟨db2, 0, none⟩) 4096 4096, .bool false] 194) :: blk xb (cl [.slice (some ⟨db2, 0, none⟩) 4096 4096] 22) :: blk db2 (cl (u8s (List.replicate 4096 0)) 5) :: blk bb (cl (bcells (.iface pt pw) mb s) 180) :: blk mb (mapO (bme l) kk) :: bpgs C l :: glb :: X :: A :: F) [blk b (cl [.pointer none, .pointer none, .pointer (some ⟨xb, 0, none⟩), .slice (some ⟨db2, 0, none⟩) 4096 4096, .bool false] 194), blk bb (cl (bcells (.iface pt pw) mb s) 180)] := Ent.trans (arr_ent 0 [0, 2] _) (Ent.left [_, _] _)
    refine h_take (by assumption) 0 rfl (by kernel_rfl) (by kernel_rfl) (by kernel_rfl) rfl rfl rfl pQ rV ?_
    refine h_take (by assumption) 1 rfl (by kernel_rfl) (by kernel_rfl) (by kernel_rfl) rfl rfl rfl pQ rV ?_
    refine h_take (by assumption) 2 rfl (by kernel_rfl) (by kernel_rfl) (by kernel_rfl) rfl rfl rfl pQ rV ?_
    refine h_take (by assumption) 3 rfl (by kernel_rfl) (by kernel_rfl) (by kernel_rfl) rfl rfl rfl pQ rV ?_
    refine h_take (by assumption) 4 rfl (by kernel_rfl) (by kernel_rfl) (by kernel_rfl) rfl rfl rfl pQ rV ?_
    refine h_take (by assumption) 5 rfl (by kernel_rfl) (by kernel_rfl) (by kernel_rfl) rfl rfl rfl pQ rV ?_
    refine h_take (by assumption) 6 rfl (by kernel_rfl) (by kernel_rfl) (by kernel_rfl) rfl rfl rfl pQ rV ?_
    refine h_take (by assumption) 7 rfl (by kernel_rfl) (by kernel_rfl) (by kernel_rfl) rfl rfl rfl pQ rV ?_
    refine h_take (by assumption) 8 rfl (by kernel_rfl) (by kernel_rfl) (by kernel_rfl) rfl rfl rfl pQ rV ?_
    refine h_take (by assumption) 9 rfl (by kernel_rfl) (by kernel_rfl) (by kernel_rfl) rfl rfl rfl pQ rV ?_
    refine h_take (by assumption) 10 rfl (by kernel_rfl) (by kernel_rfl) (by kernel_rfl) rfl rfl rfl pQ (RunS.v (r_nilI rfl)) ?_
    refine h_take (by assumption) 11 rfl (by kernel_rfl) (by kernel_rfl) (by kernel_rfl) rfl rfl rfl pQ rV ?_
    refine h_one 12 (by kernel_rfl) rfl rfl ?_
    refine s_invokeM rfl rfl rfl (h db2 5 (List.replicate 4096 0) 4096 ((off + dn) / 4096 * 4096) (by simp) (by omega)) [6, 6, 2] rfl ?_ (fun _ _ h => h.elim)
    rintro _ _ ⟨y, rfl, hy1, hy2, rfl⟩
    rw [rdd_page, ← hcb, ← (hok.under (bq_none hn)).2]
    refine h_then (Ent.trans (arr_ent 0 [3, 4] _) (Ent.left [_, _] _)) ?_
    have hE2 : Ent ([glb, X, blk db2 (cl (u8s (pgl C ((off + dn) / 4096))) 5)] ++ blk b (cl [.pointer none, .pointer none, .pointer (some ⟨xb, 0, none⟩), .slice (some ⟨db2, 0, none⟩) 4096 4096, .bool false] 194) :: blk xb (cl [.slice (some ⟨db2, 0, none⟩) 4096 4096] 22) :: blk bb (cl (bcells (.iface pt pw) mb s) 180) :: blk mb (mapO (bme l) kk) :: bpgs C l :: A :: F) [blk b (cl [.pointer none, .pointer none, .pointer (some ⟨xb, 0, none⟩), .slice (some ⟨db2, 0, none⟩) 4096 4096, .bool false] 194), blk bb (cl (bcells (.iface pt pw) mb s) 180)] := Ent.trans (arr_ent 0 [3, 4] _) (Ent.left [_, _] _)
    refine h_take (by assumption) 13 rfl (by kernel_rfl) (by kernel_rfl) (by kernel_rfl) rfl rfl rfl pQ rV ?_
    refine h_take (by assumption) 14 rfl (by kernel_rfl) (by kernel_rfl) (by kernel_rfl) rfl rfl rfl pQ rV ?_
    refine h_take (by assumption) 15 rfl (by kernel_rfl) (by kernel_rfl) (by kernel_rfl) rfl rfl rfl pQ rV ?_
    refine h_take (by assumption) 16 rfl (by kernel_rfl) (by kernel_rfl) (by kernel_rfl) rfl rfl rfl pQ rV ?_
    refine h_done (by kernel_rfl) ?_
    refine q_then_n ?_
    refine c_mid (α := Unit) (fun _ => [(0, .pointer (some ⟨bb, 0, none⟩)), (1, .slice (some ⟨sb, so + dn, none⟩) (k - dn) (cap - dn)), (2, .int .i64 (off + dn : Nat)), (6, .int .i64 (k : Nat)), (7, .nilIface), (8, .int .i64 (off : Nat)), (9, .int .i64 ((off + dn) / 4096 : Nat)), (10, .int .i64 ((off + dn) % 4096 : Nat)), (11, .int .i64 (k - dn : Nat)), (13, .pointer (some ⟨b, 0, none⟩))])
      (fun _ => [glb, X, blk db2 (cl (u8s (pgl C ((off + dn) / 4096))) 5)] ++ blk b (cl [.pointer none, .pointer none, .pointer (some ⟨xb, 0, none⟩), .slice (some ⟨db2, 0, none⟩) 4096 4096, .bool false] 194) :: blk xb (cl [.slice (some ⟨db2, 0, none⟩) 4096 4096] 22) :: blk bb (cl (bcells (.iface pt pw) mb s) 180) :: blk mb (mapO (bme l) kk) :: bpgs C l :: A :: F) (fun _ => True) ?_ ?_
    · rcases hy1 with rfl | rfl
      · repeat (first | refine wZ ?_ | intro b)
        exact at_intro () trivial ⟨rfl, rfl, rfl, rfl, rfl, rfl, rfl, rfl, rfl, rfl, trivial⟩ (Ent.refl _)
      · repeat (first | refine wZ ?_ | intro b)
        refine l_yes rfl rfl rfl (s_call rfl rfl (zzIsEOF_t hglb) [0] rfl ?_ (fun _ _ h => h.elim))
        rintro _ _ ⟨rfl, rfl⟩
        repeat (first | refine wZ ?_ | intro b)
        exact at_intro () trivial ⟨rfl, rfl, rfl, rfl, rfl, rfl, rfl, rfl, rfl, rfl, trivial⟩ (Ent.refl _)
    rintro _ _
    repeat (first | refine wZ ?_ | intro b)
    refine l_plain rfl (s_mapPut 6 rfl rfl rfl rfl (bq_miss hn 0) ?_)
    repeat (first | refine wZ ?_ | intro b)
    refine at_intro (l, ⟨⟨(off + dn) / 4096, b, kk⟩, db2, .pointer (some ⟨xb, 0, none⟩), none, none, false⟩, [], kk + 1) ⟨hok.more (bq_none hn) rfl (by dsimp only; omega) (by dsimp only; exact (hok.under (bq_none hn)).1.symm) ⟨rfl, rfl⟩, rfl⟩ ⟨rfl, rfl, rfl, rfl, rfl, rfl, rfl, rfl, rfl, rfl, trivial⟩ ?_
    have hput := bpgs_put (L := glb :: X :: A :: F) C l [] ⟨⟨(off + dn) / 4096, b, kk⟩, db2, .pointer (some ⟨xb, 0, none⟩), none, none, false⟩
    rw [List.append_nil] at hput
    simp only [bpc] at hput
    dsimp only
    rw [bme_append, bme_one]
    exact (arr_ent 1 [6, 0, 3, 2, 3, 0, 0] _).trans (Ent.cons (Ent.cons hput))
  rintro ⟨l1, p, l2, k3⟩ ⟨hok3, hpi⟩
  dsimp only at hok3 hpi ⊢
  refine G.ent (Ent.cons (Ent.cons (bpgs_take C l1 l2 p))) ?_
  unfold bpc
  repeat (first | refine wZ ?_ | intro b)
  refine l_plain rfl ?_
  apply s_val rfl rfl
  · exact RunS.v (r_slF rfl rfl (by omega))
  repeat (first | refine wZ ?_ | intro b)
  have hlen : (bs.drop dn).length = k - dn := by simp; omega
  refine l_plain rfl (s_copy (size := 1) (kk := k - dn) (news := u8s (bs.drop dn)) 3 rfl rfl rfl (.some sb (so + dn) _ _ _ (by simp [hlen]) ?_) (by simp; omega) (u8s_one _) rfl ?_)
  · have h1 := RdN.skip hr dn
    rw [u8s_drop] at h1
    exact RdN.ent h1 ((arr_ent 0 [7] _).trans (Ent.left [A] _))
  generalize he : min (k - dn) (4096 - (off + dn) % 4096) = e
  have he0 : 0 < e ∧ e ≤ k - dn ∧ (off + dn) % 4096 + e ≤ 4096 := by omega
  rw [Nat.mul_one, Nat.mul_one, u8s_take, Nat.zero_add]
  have hch : ((bs.drop dn).take e).length = e := by simp; omega
  rw [pgl_ov C p.z.idx _ _ (by rw [hch]; omega)]
  have hpi2 : p.z.idx * 4096 + (off + dn) % 4096 = off + dn := by omega
  subst hC
  rw [hpi2, ov_ov c off dn e bs]
  obtain ⟨hok4, hoth⟩ := hok3.laid (bs := bs) hpi he0.1 he0.2.2 (by omega)
  rw [hoth]
  repeat (first | refine wZ ?_ | intro b)
  refine l_plain rfl ?_
  apply s_val rfl rfl
  · exact RunS.v (r_slAdv rfl rfl (by omega))
  repeat (first | refine wZ ?_ | intro b)
  rw [show k - dn - e = k - (dn + e) from by omega, Nat.add_assoc off dn e]
  refine at_intro (dn + e, adv sb (so + dn) 1 e (cap - dn), cap - dn - e, (off + dn) / 4096 + 1, 0, l1 ++ p.wet :: l2, k3) ⟨⟨by dsimp only; omega, fun hlt => ⟨⟨sb, so, hr, ?_⟩, by dsimp only; omega, by dsimp only at hlt ⊢; omega, by dsimp only at hlt ⊢; omega⟩, hok4⟩, by dsimp only; omega⟩ ⟨rfl, rfl, rfl, rfl, rfl, rfl, rfl, rfl, rfl, trivial⟩ ?_
  · dsimp only at hlt ⊢
    unfold adv
    rw [if_neg (by omega), Nat.mul_one, Nat.add_assoc]
  · dsimp only
    have hput := bpgs_put (L := glb :: X :: A :: F) (ov c off (bs.take (dn + e))) l1 l2 p.wet
    simp only [bpc, BP.wet] at hput
    rw [bme_wet]
    exact Ent.trans (arr_ent 0 [2, 2, 0, 0, 0] _) (Ent.cons (Ent.cons hput))
end
end Go.Proofs.YtfebpbflpdppiaaGreatDoor
