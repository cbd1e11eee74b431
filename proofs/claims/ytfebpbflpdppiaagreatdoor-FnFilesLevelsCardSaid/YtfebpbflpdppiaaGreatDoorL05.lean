/- The walk over put: bytes are laid over a file · Walks over a file in memory: allowed, WriteAt, Size, Close, NewZzFile · Walks: the lesser and the greater number; ReadAt of a file in memory · The walk over ReadAt of a file in memory · The walk over Truncate of a file in memory · Walks over the methods of MemFiler. -/
import Derived.Test.YtfebpbflpdppiaaGreatDoorL04
namespace Go.Proofs.YtfebpbflpdppiaaGreatDoor
open Go Go.Sl
set_option maxRecDepth 100000
theorem Src.addr {L : List HP} {k c : Nat} {a : Option Addr} {l : List Value} (h : Src L 1 (.slice a k c) k l) (hk : 0 < k) : ∃ b o, a = some ⟨b, o, none⟩ ∧ RdN L b o l := by
  cases h with
  | nil => omega
  | emp _ _ => omega
  | some b o _ _ _ hl hr => exact ⟨b, o, rfl, hr⟩
attribute [local irreducible] wpList Code.wp Exit.then Exit.inBlock bodyPost RunS RunV G St Ct Sat Ent At Rd GQ QL wpAny wpOp wpQuiet slP Sl.ex sep
attribute [local irreducible] zf zpgs zpg pgl rng ov cutC zc mapO
theorem put_c {A : HP} (fb : Nat) (c : Cn) (s : Nat) (bs : List UInt8) (a : Option Addr) (k cp off : Nat) (hs : Src [A] 1 (.slice a k cp) k (u8s bs)) (hcp : k ≤ cp) (hb : off + k ≤ 1000000000000) (hsz : s ≤ 1000000000000) :
    Ct Tryz.prog 43 #[.pointer (some ⟨fb, 0, none⟩), .slice a k cp, .int .i64 (off : Nat)] [zf fb c s, A] (fun v B => v = .tuple #[] ∧ B = [zf fb (ov c off bs) (if k = 0 then s else max s (off + k)), A]) nev := by
  have hk : bs.length = k := by have := hs.len; simpa using this
  refine Ct.of Tryz.func43 rfl Tryz.ntmps43 rfl fun m F => ?_
  refine zf_open fun mb l kk hok => ?_
  have hend : ∀ d, d ≤ k → ∃ s', s' = (if k = 0 then s else max s (off + k)) := fun _ _ => ⟨_, rfl⟩
  have hlast : bs.take k = bs := List.take_of_length_le (by omega)
  generalize hs' : (if k = 0 then s else max s (off + k)) = s'
  have hss : s ≤ s' := by rw [← hs']; split <;> omega
  have hs2 : 0 < k → off + k ≤ s' := fun h => by rw [← hs', if_neg (by omega)]; omega
  have hs3 : s' ≤ 1000000000000 := by rw [← hs']; split <;> omega
  clear hend
  refine c_cut (α := List ZP × Nat) (fun _ => [(0, .pointer (some ⟨fb, 0, none⟩)), (1, .slice a k cp), (2, .int .i64 (off : Nat))]) (fun y => blk fb (cl (zcells mb s') 127) :: blk mb (mapO (y.1.map ZP.me) y.2) :: zpgs c y.1 :: [A].append F) (fun y => ZOK c s' y.1 y.2) ?_ ?_
  · repeat (first | refine wZ ?_ | intro b)
    rcases Nat.eq_zero_or_pos k with h0 | h0
    · rw [decide_eq_false (by omega : ¬ (0 : Int) < (k : Nat))]
      repeat (first | refine wZ ?_ | intro b)
      rw [if_pos h0] at hs'
      subst hs'
      exact at_intro (l, kk) hok ⟨rfl, rfl, rfl, trivial⟩ (Ent.refl _)
    · rw [decide_eq_true (by omega : (0 : Int) < (k : Nat))]
      repeat (first | refine wZ ?_ | intro b)
      refine c_cond rfl (fun h => ?_) (fun h => ?_)
      · have h := of_decide_eq_true h
        repeat (first | refine wZ ?_ | intro b)
        rw [if_neg (by omega)] at hs'
        rw [show off + k = s' from by omega]
        exact at_intro (l, kk) (hok.grow hss) ⟨rfl, rfl, rfl, trivial⟩ (Ent.refl _)
      · have h := of_decide_eq_false h
        repeat (first | refine wZ ?_ | intro b)
        rw [if_neg (by omega)] at hs'
        obtain rfl : s = s' := by omega
        exact at_intro (l, kk) hok ⟨rfl, rfl, rfl, trivial⟩ (Ent.refl _)
  · rintro ⟨l2, kk2⟩ hok2
    dsimp only at hok2 ⊢
    clear hok
    refine G.ent (zf_shut hok2) ?_
    refine c_block ?_
    refine c_loop (α := Nat × Option Addr × Nat) (fun y => [(0, .pointer (some ⟨fb, 0, none⟩)), (1, .slice y.2.1 (k - y.1) y.2.2), (2, .int .i64 ((off + y.1 : Nat) : Int))]) (fun y => zf fb (ov c off (bs.take y.1)) s' :: A :: F)
      (fun y => y.1 ≤ k ∧ (y.1 < k → ∃ b o, RdN [A] b o (u8s bs) ∧ y.2.1 = some ⟨b, o + y.1, none⟩ ∧ y.2.2 = cp - y.1)) (fun y => k - y.1) (0, a, cp) ⟨Nat.zero_le _, fun h => ?_⟩ (by exact ⟨rfl, rfl, rfl, trivial⟩) (by dsimp only; rw [ov_take0]; exact Ent.refl _) ?_
    · obtain ⟨b, o, rfl, hr⟩ := Src.addr hs h
      exact ⟨b, o, hr, rfl, rfl⟩
    rintro ⟨d, a', cp'⟩ ⟨hd, hdk⟩
    dsimp only at hd hdk ⊢
    refine zf_open fun mb l k3 hok => ?_
    repeat (first | refine wZ ?_ | intro b)
    refine c_cond rfl (fun h => ?_) (fun h => ?_)
    rotate_left
    · have h := of_decide_eq_false h
      obtain rfl : d = k := by omega
      repeat (first | refine wZ ?_ | intro b)
      rw [hlast] at hok
      rw [hlast]
      exact e_nor0 _ rfl ⟨rfl, rfl⟩ (zf_shut hok)
    have h := of_decide_eq_true h
    obtain ⟨sb, so, hr, rfl, rfl⟩ := hdk (by omega)
    clear hdk
    repeat (first | refine wZ ?_ | intro b)
    refine l_plain rfl ?_
    apply s_val rfl rfl
    · exact r_lookV 1 rfl rfl rfl (zq_look l ((off + d) / 4096) 0)
    repeat (first | refine wZ ?_ | intro b)
    generalize hC : ov c off (bs.take d) = C at hok
    refine c_mid (α := List ZP × ZP × List ZP × Nat) (fun y => [(0, .pointer (some ⟨fb, 0, none⟩)), (1, .slice (some ⟨sb, so + d, none⟩) (k - d) (cp - d)), (2, .int .i64 ((off + d : Nat) : Int)), (6, .pointer (some y.2.1.ad))])
      (fun y => blk fb (cl (zcells mb s') 127) :: blk mb (mapO ((y.1 ++ y.2.1 :: y.2.2.1).map ZP.me) y.2.2.2) :: zpgs C (y.1 ++ y.2.1 :: y.2.2.1) :: A :: F)
      (fun y => ZOK C s' (y.1 ++ y.2.1 :: y.2.2.1) y.2.2.2 ∧ y.2.1.idx = (off + d) / 4096) ?_ ?_
    · refine c_cond rfl (fun h => ?_) (fun h => ?_)
      · have hn : zq l ((off + d) / 4096) = none := Option.isNone_iff_eq_none.1 h
        rw [hn]
        repeat (first | refine wZ ?_ | intro b)
        refine l_plain rfl (s_mapPut 2 rfl rfl rfl rfl (zq_miss hn 0) ?_)
        repeat (first | refine wZ ?_ | intro b)
        have hz := hok.zero hn
        have hput := zpgs_put (L := A :: F) C l [] ⟨(off + d) / 4096, b, k3⟩
        rw [List.append_nil] at hput
        simp only [zpg, hz] at hput
        refine at_intro (l, ⟨(off + d) / 4096, b, k3⟩, [], k3 + 1) ⟨hok.more hn (by omega), rfl⟩ ⟨rfl, rfl, rfl, rfl, trivial⟩ ?_
        dsimp only
        rw [List.map_append]
        exact (arr_ent 0 [2, 0] _).trans (Ent.cons (Ent.cons hput))
      · cases hq : zq l ((off + d) / 4096) with
        | none => rw [hq] at h; cases h
        | some ad =>
          obtain ⟨l1, p, l2, rfl, hpi, rfl⟩ := zq_some hq
          repeat (first | refine wZ ?_ | intro b)
          exact at_intro (l1, p, l2, k3) ⟨hok, hpi⟩ ⟨rfl, rfl, rfl, rfl, trivial⟩ (Ent.refl _)
    rintro ⟨l1, p, l2, kk3⟩ ⟨hok3, hpi⟩
    dsimp only at hok3 hpi ⊢
    refine G.ent (Ent.cons (Ent.cons (zpgs_take C l1 l2 p))) ?_
    simp only [zpg]
    repeat (first | refine wZ ?_ | intro b)
    refine l_plain rfl ?_
    apply s_val rfl rfl
    · exact RunS.v (r_slArr rfl rfl (by omega))
    repeat (first | refine wZ ?_ | intro b)
    have hlen : (bs.drop d).length = k - d := by simp; omega
    refine l_plain rfl (s_copy (size := 1) (kk := k - d) (news := u8s (bs.drop d)) 2 rfl rfl rfl (.some sb (so + d) _ _ _ (by simp [hlen]) ?_) (by simp; omega) (u8s_one _) rfl ?_)
    · have h1 := RdN.skip hr d
      rw [u8s_drop] at h1
      exact RdN.ent h1 ((arr_ent 0 [4] _).trans (Ent.left [A] _))
    generalize he : min (k - d) (4096 - (off + d) % 4096) = e
    have he0 : 0 < e ∧ e ≤ k - d ∧ (off + d) % 4096 + e ≤ 4096 := by omega
    rw [Nat.mul_one, Nat.mul_one, u8s_take, Nat.zero_add]
    have hch : ((bs.drop d).take e).length = e := by simp; omega
    rw [pgl_ov C p.idx _ _ (by rw [hch]; omega)]
    have hpi2 : p.idx * 4096 + (off + d) % 4096 = off + d := by omega
    rw [hpi2]
    repeat (first | refine wZ ?_ | intro b)
    refine l_plain rfl ?_
    apply s_val rfl rfl
    · exact RunS.v (r_slAdv rfl rfl (by omega))
    repeat (first | refine wZ ?_ | intro b)
    rw [show k - d - e = k - (d + e) from by omega, Nat.add_assoc off d e]
    refine at_intro (d + e, adv sb (so + d) 1 e (cp - d), cp - d - e) ⟨⟨by dsimp only; omega, fun hlt => ⟨sb, so, hr, ?_, by dsimp only; omega⟩⟩, by dsimp only; omega⟩ ⟨rfl, rfl, rfl, trivial⟩ ?_
    · dsimp only at hlt ⊢
      unfold adv
      rw [if_neg (by omega), Nat.mul_one, Nat.add_assoc]
    · dsimp only
      have hov : ov C (off + d) ((bs.drop d).take e) = ov c off (bs.take (d + e)) := by rw [← hC]; exact ov_ov c off d e bs
      rw [hov]
      have hok4 : ZOK (ov c off (bs.take (d + e))) s' (l1 ++ p :: l2) kk3 := by
        rw [← hov, ← hpi2]
        exact hok3.laid (by rw [hch]; omega) ⟨p, by simp, rfl⟩ (by rw [hch, hpi2]; have := hs2 (by omega); omega)
      have hoth : zpgs C (l1 ++ l2) = zpgs (ov c off (bs.take (d + e))) (l1 ++ l2) := zpgs_congr fun q hq => by
        rw [← hov, ← hpi2, pgl_ov_ne C p.idx q.idx _ _ (by rw [hch]; omega)]
        exact hok3.other q hq
      rw [hoth]
      have hput := zpgs_put (L := A :: F) (ov c off (bs.take (d + e))) l1 l2 p
      simp only [zpg] at hput
      refine Ent.trans (arr_ent 0 [1, 1, 0] _) ?_
      exact Ent.trans (Ent.cons (Ent.cons hput)) (zf_shut hok4)
end Go.Proofs.YtfebpbflpdppiaaGreatDoor
namespace Go.Proofs.YtfebpbflpdppiaaGreatDoor
open Go Go.Sl
set_option maxRecDepth 100000
def invV (b : Nat) : Value := .iface 92 (.pointer (some ⟨b, 0, none⟩))
def permV (b : Nat) : Value := .iface 111 (.pointer (some ⟨b, 0, none⟩))
def eofV (a : Addr) : Value := .iface 154 (.pointer (some a))
section
variable {P : Program} {σ : Env} {L : List HP} {ty : TypeId} {pos : String} {aft : Array Edge} {gd : Option (Nat × Bool)} {x y : Operand} {t e : TypeId}
theorem r_slTo {od : Option Tmp} {size bytes len cap hi : Nat} {z : Value} {a : Option Addr} {k : IntKind} [h1 : TyU P t (.slice e)] [h2 : TyI P e size bytes z] (hx : opd σ x = some (.slice a len cap)) (hy : opd σ y = some (.int k (hi : Nat))) (hhi : hi ≤ cap) :
    RunS P ⟨od, .slice t x none (some y) none, ty, pos, aft, gd⟩ σ (.slice a hi cap) := by
  have h := r_slHi (P := P) (od := od) (t := t) (ty := ty) (pos := pos) (aft := aft) (gd := gd) hx hy (by omega)
  rwa [Int.toNat_natCast] at h
end
theorem czero_ok : ZOK (fun _ => 0) 0 [] 0 := ⟨by simp, by simp, by simp, fun _ _ => rfl, fun _ _ => rfl, by simp⟩
attribute [local irreducible] wpList Code.wp Exit.then Exit.inBlock bodyPost RunS RunV G St Ct Sat Ent At Rd GQ QL wpAny wpOp wpQuiet slP Sl.ex sep
attribute [local irreducible] zf zpgs zpg pgl rng ov cutC zc mapO
theorem allowed_c (fb : Nat) (c : Cn) (s : Nat) (k : Int) : Ct Tryz.prog 44 #[.pointer (some ⟨fb, 0, none⟩), .int .i64 k] [zf fb c s] (fun v B => v = .int .i64 k ∧ B = [zf fb c s]) nev := by
  refine Ct.of Tryz.func44 rfl Tryz.ntmps44 rfl fun m F => ?_
  refine zf_open fun mb l kk hok => ?_
  repeat (first | refine wZ ?_ | intro b)
  exact e_ret1 _ rfl rfl ⟨rfl, rfl⟩ (zf_shut hok)
theorem ZWriteAt_c {A : HP} (fb : Nat) (c : Cn) (s : Nat) (bs : List UInt8) (a : Option Addr) (k cp off : Nat) (hs : Src [A] 1 (.slice a k cp) k (u8s bs)) (hcp : k ≤ cp) (hb : off + k ≤ 1000000000000) (hsz : s ≤ 1000000000000) :
    Ct Tryz.prog 33 #[.pointer (some ⟨fb, 0, none⟩), .slice a k cp, .int .i64 (off : Nat)] [zf fb c s, A] (fun v B => v = .tuple #[.int .i64 (k : Nat), .nilIface] ∧ B = [zf fb (ov c off bs) (if k = 0 then s else max s (off + k)), A]) nev := by
  refine Ct.of Tryz.func33 rfl Tryz.ntmps33 rfl fun m F => ?_
  repeat (first | refine wZ ?_ | intro b)
  rw [decide_eq_false (by omega : ¬ ((off : Nat) : Int) < 0)]
  repeat (first | refine wZ ?_ | intro b)
  rw [decide_eq_false (by omega : ¬ (4611686018427387904 : Int) < ((off : Nat) : Int))]
  repeat (first | refine wZ ?_ | intro b)
  refine l_plain rfl (s_call rfl rfl (allowed_c fb c s k) [0] rfl ?_ (fun _ _ h => h.elim))
  rintro _ _ ⟨rfl, rfl⟩
  repeat (first | refine wZ ?_ | intro b)
  refine l_plain rfl ?_
  apply s_val rfl rfl
  · exact RunS.v (r_slTo rfl rfl hcp)
  repeat (first | refine wZ ?_ | intro b)
  refine l_plain rfl (s_call rfl rfl (put_c fb c s bs a k cp off hs hcp hb hsz) [0, 0] rfl ?_ (fun _ _ h => h.elim))
  rintro _ _ ⟨rfl, rfl⟩
  repeat (first | refine wZ ?_ | intro b)
  rw [decide_eq_false (by omega : ¬ ((k : Nat) : Int) < ((k : Nat) : Int))]
  repeat (first | refine wZ ?_ | intro b)
  exact e_ret2 _ rfl rfl rfl ⟨rfl, rfl⟩ (Ent.refl _)
theorem ZWriteAt_n {A : List HP} (fb : Nat) (sl : Value) (off : Int) (hb : off < 0) :
    Ct Tryz.prog 33 #[.pointer (some ⟨fb, 0, none⟩), sl, .int .i64 off] A (fun v B => ∃ b, v = .tuple #[.int .i64 0, invV b] ∧ B = A) nev := by
  refine Ct.of Tryz.func33 rfl Tryz.ntmps33 rfl fun m F => ?_
  repeat (first | refine wZ ?_ | intro b)
  rw [decide_eq_true hb]
  repeat (first | refine wZ ?_ | intro b)
  refine l_plain rfl ?_
  apply s_val rfl rfl
  · exact RunS.v (r_build (cells := #[.string ⟨#[87, 114, 105, 116, 101, 65, 116]⟩, .iface 2 (.int .i64 off)]) rfl (by kernel_rfl))
  repeat (first | refine wZ ?_ | intro b)
  exact e_ret2 _ rfl rfl rfl ⟨b, rfl, rfl⟩ Ent.drop
theorem ZSize_c (fb : Nat) (c : Cn) (s : Nat) : Ct Tryz.prog 82 #[.pointer (some ⟨fb, 0, none⟩)] [zf fb c s] (fun v B => v = .int .i64 (s : Nat) ∧ B = [zf fb c s]) nev := by
  refine Ct.of Tryz.func82 rfl Tryz.ntmps82 rfl fun m F => ?_
  refine zf_open fun mb l kk hok => ?_
  repeat (first | refine wZ ?_ | intro b)
  exact e_ret1 _ rfl rfl ⟨rfl, rfl⟩ (zf_shut hok)
theorem ZClose_c (p : Value) : Ct Tryz.prog 80 #[p] [] (fun v B => v = .nilIface ∧ B = []) nev := by
  refine Ct.of Tryz.func80 rfl Tryz.ntmps80 rfl fun m F => ?_
  repeat (first | refine wZ ?_ | intro b)
  exact e_ret1 _ rfl rfl ⟨rfl, rfl⟩ (Ent.refl _)
theorem NewZzFile_c : Ct Tryz.prog 32 #[.slice none 0 0] [] (fun v B => ∃ fb, v = .pointer (some ⟨fb, 0, none⟩) ∧ B = [zf fb (fun _ => 0) 0]) nev := by
  refine Ct.of Tryz.func32 rfl Tryz.ntmps32 rfl fun m F => ?_
  repeat (first | refine wZ ?_ | intro b)
  refine l_plain rfl (s_mkMap rfl ?_)
  intro mb
  refine l_plain rfl ?_
  apply s_val rfl rfl
  · exact RunS.v (r_build (cells := (zcells mb 0).toArray) rfl (by kernel_rfl))
  repeat (first | refine wZ ?_ | intro b)
  have hsh := zf_shut (fb := b) (mb := mb) (L := [] ++ F) czero_ok
  have hemp : Ent (blk b (cl (zcells mb 0) 127) :: blk mb (mapO [] 0) :: ([] ++ F)) (zf b (fun _ => 0) 0 :: ([] ++ F)) :=
    (Ent.cons (Ent.cons (by unfold zpgs; exact sep_shut [] _))).trans hsh
  refine G.ent hemp ?_
  refine G.ent (pure_in (A := fun _ => True) True.intro) ?_
  refine l_plain rfl (s_call rfl rfl (put_c (A := fun _ => True) b (fun _ => 0) 0 [] none 0 0 0 .nil (Nat.le_refl _) (by omega) (by omega)) [1, 0] rfl ?_ (fun _ _ h => h.elim))
  rintro _ _ ⟨rfl, rfl⟩
  rw [ov_nil, if_pos rfl]
  repeat (first | refine wZ ?_ | intro b)
  exact e_ret1 _ rfl rfl ⟨b, rfl, rfl⟩ (arr_ent 1 [0] _)
end Go.Proofs.YtfebpbflpdppiaaGreatDoor
namespace Go.Proofs.YtfebpbflpdppiaaGreatDoor
open Go Go.Sl
set_option maxRecDepth 100000
/-- what has been read lies over what was there -/
def rdd (old : List UInt8) (c : Cn) (off k : Nat) : List UInt8 := rng c off k ++ old.drop k
theorem rdd_length {old : List UInt8} {c : Cn} {off k : Nat} (h : k ≤ old.length) : (rdd old c off k).length = old.length := by simp [rdd]; omega
theorem rdd_zero (old : List UInt8) (c : Cn) (off : Nat) : rdd old c off 0 = old := by simp [rdd, rng]
theorem rdd_more (old : List UInt8) (c : Cn) (off d e : Nat) (h : d + e ≤ old.length) : spl (u8s (rdd old c off d)) d (u8s (rng c (off + d) e)) = u8s (rdd old c off (d + e)) := by
  apply List.ext_getElem?
  intro j
  have hl : (u8s (rdd old c off d)).length = old.length := by rw [u8s_length, rdd_length (by omega)]
  rw [spl_get _ _ _ _ (by rw [hl]; simp; omega), u8s_get, u8s_get, u8s_get]
  simp only [u8s_length, rng_length, rdd, List.getElem?_append, rng_get', List.getElem?_drop]
  by_cases h1 : d ≤ j ∧ j < d + e
  · rw [if_pos h1, if_pos (by omega), if_pos (by omega), if_pos (by omega), show off + d + (j - d) = off + j from by omega]
  · rw [if_neg h1]
    by_cases h2 : j < d
    · rw [if_pos h2, if_pos h2, if_pos (by omega), if_pos (by omega)]
    · rw [if_neg h2, if_neg (by omega), show d + (j - d) = d + e + (j - (d + e)) from by omega]
theorem rng_pgl (c : Cn) (i q e : Nat) (h : q + e ≤ 4096) : ((u8s (pgl c i)).drop q).take e = u8s (rng c (i * 4096 + q) e) := by
  rw [u8s_drop, u8s_take]
  congr 1
  apply List.ext_getElem?
  intro j
  rw [List.getElem?_take, List.getElem?_drop, rng_get']
  unfold pgl
  rw [rng_get']
  by_cases hj : j < e
  · rw [if_pos hj, if_pos (by omega), if_pos hj, Nat.add_assoc]
  · rw [if_neg hj, if_neg hj]
theorem rdd_one (old : List UInt8) (c : Cn) (off d i : Nat) (h : d + i < old.length) (hz : c (off + (d + i)) = 0) : (u8s (rdd old c off (d + i))).set (d + i) (.int .u8 0) = u8s (rdd old c off (d + (i + 1))) := by
  have := rdd_more old c off (d + i) 1 (by omega)
  rw [← Nat.add_assoc, ← this]
  simp [rng, u8s, spl, hz]
attribute [local irreducible] wpList Code.wp Exit.then Exit.inBlock bodyPost RunS RunV G St Ct Sat Ent At Rd GQ QL wpAny wpOp wpQuiet slP Sl.ex sep
attribute [local irreducible] zf zpgs zpg pgl rng ov cutC zc mapO rdd
theorem zzMin_c (a b : Int) : Ct Tryz.prog 84 #[.int .i64 a, .int .i64 b] [] (fun v B => v = .int .i64 (min a b) ∧ B = []) nev := by
  refine Ct.of Tryz.func84 rfl Tryz.ntmps84 rfl fun m F => ?_
  repeat (first | refine wZ ?_ | intro b)
  refine c_cond rfl (fun h => ?_) (fun h => ?_)
  · have h := of_decide_eq_true h
    repeat (first | refine wZ ?_ | intro b)
    exact e_ret1 [] rfl rfl ⟨by rw [show min a b = a from by omega], rfl⟩ (Ent.refl _)
  · have h := of_decide_eq_false h
    repeat (first | refine wZ ?_ | intro b)
    exact e_ret1 [] rfl rfl ⟨by rw [show min a b = b from by omega], rfl⟩ (Ent.refl _)
theorem zzMinInt64_c (a b : Int) : Ct Tryz.prog 85 #[.int .i64 a, .int .i64 b] [] (fun v B => v = .int .i64 (min a b) ∧ B = []) nev := by
  refine Ct.of Tryz.func85 rfl Tryz.ntmps85 rfl fun m F => ?_
  repeat (first | refine wZ ?_ | intro b)
  refine c_cond rfl (fun h => ?_) (fun h => ?_)
  · have h := of_decide_eq_true h
    repeat (first | refine wZ ?_ | intro b)
    exact e_ret1 [] rfl rfl ⟨by rw [show min a b = a from by omega], rfl⟩ (Ent.refl _)
  · have h := of_decide_eq_false h
    repeat (first | refine wZ ?_ | intro b)
    exact e_ret1 [] rfl rfl ⟨by rw [show min a b = b from by omega], rfl⟩ (Ent.refl _)
theorem zzMaxInt64_c (a b : Int) : Ct Tryz.prog 97 #[.int .i64 a, .int .i64 b] [] (fun v B => v = .int .i64 (max a b) ∧ B = []) nev := by
  refine Ct.of Tryz.func97 rfl Tryz.ntmps97 rfl fun m F => ?_
  repeat (first | refine wZ ?_ | intro b)
  refine c_cond rfl (fun h => ?_) (fun h => ?_)
  · have h := of_decide_eq_true h
    repeat (first | refine wZ ?_ | intro b)
    exact e_ret1 [] rfl rfl ⟨by rw [show max a b = a from by omega], rfl⟩ (Ent.refl _)
  · have h := of_decide_eq_false h
    repeat (first | refine wZ ?_ | intro b)
    exact e_ret1 [] rfl rfl ⟨by rw [show max a b = b from by omega], rfl⟩ (Ent.refl _)
theorem ZReadAt_n {A : List HP} (fb : Nat) (sl : Value) (off : Int) (hb : off < 0) :
    Ct Tryz.prog 81 #[.pointer (some ⟨fb, 0, none⟩), sl, .int .i64 off] A (fun v B => ∃ b, v = .tuple #[.int .i64 0, invV b] ∧ B = A) nev := by
  refine Ct.of Tryz.func81 rfl Tryz.ntmps81 rfl fun m F => ?_
  repeat (first | refine wZ ?_ | intro b)
  refine c_cond rfl (fun h => ?_) (fun h => ?_)
  rotate_left
  · have h := of_decide_eq_false h
    omega
  repeat (first | refine wZ ?_ | intro b)
  refine l_plain rfl ?_
  apply s_val rfl rfl
  · exact RunS.v (r_build (cells := #[.string ⟨#[82, 101, 97, 100, 65, 116]⟩, .iface 2 (.int .i64 off)]) rfl (by kernel_rfl))
  repeat (first | refine wZ ?_ | intro b)
  exact e_ret2 _ rfl rfl rfl ⟨b, rfl, rfl⟩ Ent.drop
end Go.Proofs.YtfebpbflpdppiaaGreatDoor
namespace Go.Proofs.YtfebpbflpdppiaaGreatDoor
open Go Go.Sl
set_option maxRecDepth 100000
attribute [local irreducible] wpList Code.wp Exit.then Exit.inBlock bodyPost RunS RunV G St Ct Sat Ent At Rd GQ QL wpAny wpOp wpQuiet slP Sl.ex sep
attribute [local irreducible] zf zpgs zpg pgl rng ov cutC zc mapO rdd
set_option maxHeartbeats 4000000 in
theorem ZReadAt_c {glb : HP} {ea : Addr} (hglb : Rd [glb] ⟨1, 0, none⟩ (eofV ea)) (fb : Nat) (c : Cn) (s db e : Nat) (old : List UInt8) (k off : Nat) (hk : old.length = k) (hb : off + k ≤ 1000000000000) (hsz : s ≤ 1000000000000) :
    Ct Tryz.prog 81 #[.pointer (some ⟨fb, 0, none⟩), .slice (some ⟨db, 0, none⟩) k k, .int .i64 (off : Nat)] [glb, zf fb c s, blk db (cl (u8s old) e)]
      (fun v B => v = .tuple #[.int .i64 (min k (s - off) : Nat), if k ≤ s - off then .nilIface else eofV ea] ∧ B = [glb, zf fb c s, blk db (cl (u8s (rdd old c off (min k (s - off)))) e)]) nev := by
  refine Ct.of Tryz.func81 rfl Tryz.ntmps81 rfl fun m F => ?_
  repeat (first | refine wZ ?_ | intro b)
  rw [decide_eq_false (by omega : ¬ ((off : Nat) : Int) < 0)]
  repeat (first | refine wZ ?_ | intro b)
  refine G.ent (arr_ent 0 [1, 0] _) ?_
  refine c_loop (α := Nat) (fun d => [(0, .pointer (some ⟨fb, 0, none⟩)), (1, .slice (some ⟨db, 0, none⟩) k k), (2, .int .i64 ((off + d : Nat) : Int)), (8, .int .i64 (d : Nat))]) (fun d => zf fb c s :: glb :: blk db (cl (u8s (rdd old c off d)) e) :: F)
    (fun d => d ≤ k ∧ (d = 0 ∨ off + d ≤ s)) (fun d => k - d) 0 ⟨Nat.zero_le _, .inl rfl⟩ (by exact ⟨rfl, rfl, rfl, rfl, trivial⟩) (by rw [rdd_zero]; exact Ent.refl _) ?_
  intro d ⟨hd, hds⟩
  refine zf_open fun mb l kk hok => ?_
  repeat (first | refine wZ ?_ | intro b)
  by_cases h1 : d < k
  rotate_left
  · rw [decide_eq_false (by omega : ¬ ((d : Nat) : Int) < ((k : Nat) : Int))]
    repeat (first | refine wZ ?_ | intro b)
    rw [decide_eq_false (by omega : ¬ ((d : Nat) : Int) < ((k : Nat) : Int))]
    repeat (first | refine wZ ?_ | intro b)
    have e1 : min k (s - off) = d := by omega
    rw [e1]
    exact e_ret2 _ rfl rfl rfl ⟨by rw [if_pos (by omega)], rfl⟩ ((zf_shut hok).trans (arr_ent 0 [1, 0] _))
  rw [decide_eq_true (by omega : ((d : Nat) : Int) < ((k : Nat) : Int))]
  repeat (first | refine wZ ?_ | intro b)
  refine c_cond rfl (fun h => ?_) (fun h => ?_)
  rotate_left
  · have h := of_decide_eq_false h
    repeat (first | refine wZ ?_ | intro b)
    rw [decide_eq_true (by omega : ((d : Nat) : Int) < ((k : Nat) : Int))]
    repeat (first | refine wZ ?_ | intro b)
    apply qt_val rfl rfl rfl
    · exact r_load rfl rfl (Rd.at hglb 3 rfl)
    repeat (first | refine wZ ?_ | intro b)
    have e1 : min k (s - off) = d := by omega
    rw [e1]
    exact e_ret2 _ rfl rfl rfl ⟨by rw [if_neg (by omega)], rfl⟩ ((zf_shut hok).trans (arr_ent 0 [1, 0] _))
  have h := of_decide_eq_true h
  repeat (first | refine wZ ?_ | intro b)
  refine l_plain rfl (s_call rfl rfl (zzMinInt64_c _ _) [] rfl ?_ (fun _ _ h => h.elim))
  rintro _ _ ⟨rfl, rfl⟩
  repeat (first | refine wZ ?_ | intro b)
  refine l_plain rfl (s_call rfl rfl (zzMin_c _ _) [] rfl ?_ (fun _ _ h => h.elim))
  rintro _ _ ⟨rfl, rfl⟩
  obtain ⟨g, hg, hg0⟩ : ∃ g : Nat, min (min ((s - (off + d) : Nat) : Int) (4096 - ((off + d) % 4096 : Nat))) ((k - d : Nat) : Int) = (g : Nat) ∧ 0 < g ∧ g ≤ k - d ∧ g ≤ s - (off + d) ∧ (off + d) % 4096 + g ≤ 4096 :=
    ⟨min (min (s - (off + d)) (4096 - (off + d) % 4096)) (k - d), by omega, by omega⟩
  rw [hg]
  repeat (first | refine wZ ?_ | intro b)
  refine l_plain rfl ?_
  apply s_val rfl rfl
  · exact r_lookV 1 rfl rfl rfl (zq_look l ((off + d) / 4096) 0)
  repeat (first | refine wZ ?_ | intro b)
  refine c_mid (α := Unit) (fun _ => [(0, .pointer (some ⟨fb, 0, none⟩)), (1, .slice (some ⟨db, 0, none⟩) k k), (2, .int .i64 ((off + d : Nat) : Int)), (8, .int .i64 (d : Nat)), (9, .int .i64 (g : Nat))]) (fun _ => zf fb c s :: glb :: blk db (cl (u8s (rdd old c off (d + g))) e) :: F) (fun _ => True) ?_ ?_
  rotate_left
  · intro _ _
    repeat (first | refine wZ ?_ | intro b)
    rw [Nat.add_assoc off d g]
    exact at_intro (d + g) ⟨⟨by omega, .inr (by omega)⟩, by omega⟩ ⟨rfl, rfl, rfl, rfl, trivial⟩ (Ent.refl _)
  refine c_cond rfl (fun h => ?_) (fun h => ?_)
  · cases hq : zq l ((off + d) / 4096) with
    | none => rw [hq] at h; cases h
    | some ad =>
      obtain ⟨l1, p, l2, rfl, hpi, rfl⟩ := zq_some hq
      refine G.ent (Ent.cons (Ent.cons (zpgs_take c l1 l2 p))) ?_
      simp only [zpg]
      refine h_any [] 12 rfl ?_
      have hE : Ent (blk fb (cl (zcells mb s) 127) :: blk mb (mapO ((l1 ++ p :: l2).map ZP.me) kk) :: blk p.blk (cl (u8s (pgl c p.idx)) 144) :: zpgs c (l1 ++ l2) :: glb :: blk db (cl (u8s (rdd old c off d)) e) :: F) [] := Ent.nil
      refine h_take (by assumption) 0 rfl (by kernel_rfl) (by kernel_rfl) (by kernel_rfl) rfl rfl rfl pQ rV ?_
      refine h_take (by assumption) 1 rfl (by kernel_rfl) (by kernel_rfl) (by kernel_rfl) rfl rfl rfl pQ rV ?_
      refine h_take (by assumption) 2 rfl (by kernel_rfl) (by kernel_rfl) (by kernel_rfl) rfl rfl rfl pQ rV ?_
      refine h_take (by assumption) 3 rfl (by kernel_rfl) (by kernel_rfl) (by kernel_rfl) rfl rfl rfl pQ rV ?_
      refine h_take (by assumption) 4 rfl (by kernel_rfl) (by kernel_rfl) (by kernel_rfl) rfl rfl rfl pQ rV ?_
      refine h_take hE 5 rfl (by kernel_rfl) (by kernel_rfl) (by kernel_rfl) rfl rfl rfl pQ (RunS.v (r_slBt rfl rfl rfl (by omega) (by omega))) ?_
      refine h_take (by assumption) 6 rfl (by kernel_rfl) (by kernel_rfl) (by kernel_rfl) rfl rfl rfl pQ rV ?_
      refine h_take (by assumption) 7 rfl (by kernel_rfl) (by kernel_rfl) (by kernel_rfl) rfl rfl rfl pQ rV ?_
      refine h_take (by assumption) 8 rfl (by kernel_rfl) (by kernel_rfl) (by kernel_rfl) rfl rfl rfl pQ rV ?_
      refine h_take (by assumption) 9 rfl (by kernel_rfl) (by kernel_rfl) (by kernel_rfl) rfl rfl rfl pQ rV ?_
      refine h_take hE 10 rfl (by kernel_rfl) (by kernel_rfl) (by kernel_rfl) rfl rfl rfl pQ (RunS.v (r_slArr rfl rfl (by omega))) ?_
      refine h_one 11 (by kernel_rfl) rfl rfl ?_
      have hmin : min (4096 - (off + d) % 4096) (d + g - d) = g := by omega
      have hlo : (rdd old c off d).length = k := by rw [rdd_length (by omega), hk]
      refine s_copy (size := 1) (kk := 4096 - (off + d) % 4096) (news := (u8s (pgl c p.idx)).drop ((off + d) % 4096)) 5 rfl rfl rfl (.some p.blk (0 + (off + d) % 4096 * 1) _ _ _ (by simp) ?_) (by rw [hmin]; simp [hlo]; omega) (by rw [u8s_drop]; exact u8s_one _) rfl ?_
      · rw [Nat.mul_one]
        exact RdN.skip (rdn_all 2 rfl) _
      rw [hmin, Nat.mul_one g, show 0 + d * 1 = d from by omega, rng_pgl c p.idx _ _ (by omega), show p.idx * 4096 + (off + d) % 4096 = off + d from by omega, rdd_more old c off d g (by omega)]
      refine h_then Ent.nil ?_
      refine h_done (by kernel_rfl) ?_
      refine q_then_n ?_
      refine at_intro () trivial ⟨rfl, rfl, rfl, rfl, rfl, trivial⟩ ?_
      have hput := zpgs_put (L := glb :: blk db (cl (u8s (rdd old c off (d + g))) e) :: F) c l1 l2 p
      simp only [zpg] at hput
      refine Ent.trans (arr_ent 0 [1, 1, 1, 1, 1, 0] _) ?_
      exact Ent.trans (Ent.cons (Ent.cons hput)) (zf_shut hok)
  · cases hq : zq l ((off + d) / 4096) with
    | some ad => rw [hq] at h; cases h
    | none =>
      repeat (first | refine wZ ?_ | intro b)
      have hzero : ∀ j, j < g → c (off + (d + j)) = 0 := fun j hj => hok.ze _ fun p hp e => zq_none hq p hp (by omega)
      refine c_loop (α := Nat) (fun i => [(0, .pointer (some ⟨fb, 0, none⟩)), (1, .slice (some ⟨db, 0, none⟩) k k), (2, .int .i64 ((off + d : Nat) : Int)), (8, .int .i64 (d : Nat)), (9, .int .i64 (g : Nat)), (11, .int .i64 ((d + i : Nat) : Int))])
        (fun i => blk db (cl (u8s (rdd old c off (d + i))) e) :: blk fb (cl (zcells mb s) 127) :: blk mb (mapO (l.map ZP.me) kk) :: zpgs c l :: glb :: F) (fun i => i ≤ g) (fun i => g - i) 0 (Nat.zero_le _) (by exact ⟨rfl, rfl, rfl, rfl, rfl, rfl, trivial⟩) (arr_ent 0 [4] _) ?_
      intro i hi
      have hlo : (rdd old c off (d + i)).length = k := by rw [rdd_length (by omega), hk]
      repeat (first | refine wZ ?_ | intro b)
      refine c_cond rfl (fun h => ?_) (fun h => ?_)
      rotate_left
      · have h := of_decide_eq_false h
        obtain rfl : i = g := by omega
        repeat (first | refine wZ ?_ | intro b)
        exact at_intro () trivial ⟨rfl, rfl, rfl, rfl, rfl, trivial⟩ (Ent.trans (arr_ent 0 [1, 1, 1, 1, 0] _) (zf_shut hok))
      have h := of_decide_eq_true h
      repeat (first | refine wZ ?_ | intro b)
      refine l_plain rfl ?_
      apply s_val rfl rfl
      · exact RunS.v (r_index (i := d + i) rfl rfl rfl (by omega))
      refine l_plain rfl (s_store (i := 0) rfl rfl rfl rfl rfl rfl (by simp [hlo]; omega) ?_)
      rw [Nat.mul_one, Nat.zero_add, rdd_one old c off d i (by omega) (hzero i (by omega))]
      repeat (first | refine wZ ?_ | intro b)
      rw [Nat.add_assoc d i 1]
      exact at_intro (i + 1) ⟨by omega, by omega⟩ ⟨rfl, rfl, rfl, rfl, rfl, rfl, trivial⟩ (Ent.refl _)
end Go.Proofs.YtfebpbflpdppiaaGreatDoor
namespace Go.Proofs.YtfebpbflpdppiaaGreatDoor
open Go Go.Sl
set_option maxRecDepth 100000
theorem zc_none (c : Cn) (a : Nat) : zc c a a = c := by
  funext i
  simp only [zc]
  rw [if_neg (by omega)]
theorem pgl_cut_lo (c : Cn) (n i : Nat) (h : (i + 1) * 4096 ≤ n) : pgl (cutC c n) i = pgl c i := pgl_congr fun k hk => by
  simp only [cutC]
  rw [if_pos (by omega)]
theorem pgl_cut_zc (c : Cn) (n i : Nat) : pgl (zc c n (i * 4096 + 4096)) i = pgl (cutC c n) i := pgl_congr fun k hk => by
  simp only [cutC, zc]
  by_cases h : k < n
  · rw [if_neg (by omega), if_pos h]
  · rw [if_pos (by omega), if_neg h]
/-- a file is cut: what is left of its pages -/
theorem ZOK.cut {c : Cn} {s k n : Nat} {l l' : List ZP} (h : ZOK c s l k) (hs : l'.Sublist l) (hk : ∀ p ∈ l, p.idx * 4096 < n → p ∈ l') : ZOK (cutC c n) n l' k where
  nd := h.nd.sublist (hs.map _)
  nb := h.nb.sublist (hs.map _)
  lt := fun p hp => h.lt p (hs.subset hp)
  ze := fun i hi => by
    simp only [cutC]
    split
    · rename_i hin
      exact h.ze i fun p hp e => hi p (hk p hp (by omega)) e
    · rfl
  zs := fun i hi => by
    simp only [cutC]
    rw [if_neg (by omega)]
  bd := fun p hp => h.bd p (hs.subset hp)
theorem cutC_all {c : Cn} {s n : Nat} (h : ∀ i, s ≤ i → c i = 0) (hn : s ≤ n) : cutC c n = c := by
  funext i
  simp only [cutC]
  split
  · rfl
  · rw [h i (by omega)]
structure TrI (n kk : Nat) (l l' : List ZP) (seen : Array Nat) : Prop where
  sub : l'.Sublist l
  kp : ∀ p ∈ l, p.idx * 4096 < n → p ∈ l'
  sn : ∀ p ∈ l', seen.contains p.born = true → p.idx * 4096 < n
theorem s_delE {P : Program} {n : Nat} {ds : List Deferred} {σ : Env} {m : Amb} {L R : List HP} {Q : Exit → Act → World → Prop} {K : Act → World → Prop} {ty : TypeId} {pos : String} {aft : Array Edge} {gd : Option (Nat × Bool)} {x y : Operand} {t kt et : TypeId}
    {kk : IntKind} {mb c : Nat} {l l' : List ME} {k : Int} {T : TypeId} [h1 : TyU P t (.map kt et)] [h2 : TyU P kt (.int kk)] (i : Nat) (hi : takeAt i L = some (blk mb (mapO l c), R)) (hx : opd σ x = some (.map (some mb))) (hy : opd σ y = some (.int .i64 k))
    (he : (match mgo k l 0 with | some p => l.eraseIdx p.1 | none => l) = l') (h : G n ds σ m (blk mb (mapO l' c) :: R) K) : G n ds σ m L (St P ⟨none, .call ⟨.builtin .delete, #[x, y], #[t, T]⟩, ty, pos, aft, gd⟩ K Q) := by
  subst he
  exact s_del i hi hx hy h
attribute [local irreducible] wpList Code.wp Exit.then Exit.inBlock bodyPost RunS RunV G St Ct Sat Ent At Rd GQ QL wpAny wpOp wpQuiet slP Sl.ex sep
attribute [local irreducible] zf zpgs zpg pgl rng ov cutC zc mapO rdd
theorem ZTruncate_n {A : List HP} (fb : Nat) (off : Int) (hb : off < 0) :
    Ct Tryz.prog 83 #[.pointer (some ⟨fb, 0, none⟩), .int .i64 off] A (fun v B => ∃ b, v = invV b ∧ B = A) nev := by
  refine Ct.of Tryz.func83 rfl Tryz.ntmps83 rfl fun m F => ?_
  repeat (first | refine wZ ?_ | intro b)
  refine c_cond rfl (fun h => ?_) (fun h => ?_)
  rotate_left
  · have h := of_decide_eq_false h
    omega
  repeat (first | refine wZ ?_ | intro b)
  refine l_plain rfl ?_
  apply s_val rfl rfl
  · exact RunS.v (r_build (cells := #[.string ⟨#[84, 114, 117, 110, 99, 97, 116, 101]⟩, .iface 2 (.int .i64 off)]) rfl (by kernel_rfl))
  repeat (first | refine wZ ?_ | intro b)
  exact e_ret1 _ rfl rfl ⟨b, rfl, rfl⟩ Ent.drop
set_option maxHeartbeats 4000000 in
theorem ZTruncate_c (fb : Nat) (c : Cn) (s n : Nat) (hn : n ≤ 1000000000000) (_hsz : s ≤ 1000000000000) :
    Ct Tryz.prog 83 #[.pointer (some ⟨fb, 0, none⟩), .int .i64 (n : Nat)] [zf fb c s] (fun v B => v = .nilIface ∧ B = [zf fb (cutC c n) n]) nev := by
  refine Ct.of Tryz.func83 rfl Tryz.ntmps83 rfl fun m F => ?_
  repeat (first | refine wZ ?_ | intro b)
  rw [decide_eq_false (by omega : ¬ ((n : Nat) : Int) < 0)]
  repeat (first | refine wZ ?_ | intro b)
  refine l_plain rfl (s_call rfl rfl (allowed_c fb c s 1) [0] rfl ?_ (fun _ _ h => h.elim))
  rintro _ _ ⟨rfl, rfl⟩
  refine zf_open fun mb l kk hok => ?_
  repeat (first | refine wZ ?_ | intro b)
  refine c_mid (α := List ZP × Nat) (fun _ => [(0, .pointer (some ⟨fb, 0, none⟩)), (1, .int .i64 (n : Nat))]) (fun y => blk fb (cl (zcells mb y.2) 127) :: blk mb (mapO (y.1.map ZP.me) kk) :: zpgs (cutC c n) y.1 :: F) (fun y => ZOK (cutC c n) n y.1 kk) ?_ ?_
  rotate_left
  · rintro ⟨l', s'⟩ hok'
    repeat (first | refine wZ ?_ | intro b)
    exact e_ret1 _ rfl rfl ⟨rfl, rfl⟩ (zf_shut hok')
  refine c_cond rfl (fun h => ?_) (fun h => ?_)
  rotate_left
  · have h := of_decide_eq_false h
    repeat (first | refine wZ ?_ | intro b)
    have e1 : cutC c n = c := cutC_all hok.zs (by omega)
    exact at_intro (l, s) (by rw [e1]; exact hok.grow (by omega)) ⟨rfl, rfl, trivial⟩ (by rw [e1]; exact Ent.refl _)
  have h := of_decide_eq_true h
  repeat (first | refine wZ ?_ | intro b)
  refine l_plain rfl (s_range 1 rfl rfl rfl ?_)
  intro it
  repeat (first | refine wZ ?_ | intro b)
  refine c_loop (α := List ZP × Array Nat) (fun _ => [(0, .pointer (some ⟨fb, 0, none⟩)), (1, .int .i64 (n : Nat)), (29, .pointer (some ⟨it, 0, none⟩))])
    (fun y => blk it (.mapIter (some mb) kk y.2 kk) :: blk fb (cl (zcells mb s) 127) :: blk mb (mapO (y.1.map ZP.me) kk) :: zpgs c y.1 :: F) (fun y => TrI n kk l y.1 y.2) (fun y => unseen y.1 y.2) (l, #[])
    ⟨List.Sublist.refl _, fun _ hp _ => hp, fun _ _ hc => by simp at hc⟩ (by exact ⟨rfl, rfl, rfl, trivial⟩) (Ent.refl _) ?_
  rintro ⟨l', seen⟩ hI
  dsimp only at hI ⊢
  repeat (first | refine wZ ?_ | intro b)
  refine l_plain rfl (s_next [0, 1] rfl rfl (fun e he => ?_) (Nat.le_refl _) rfl (fun hall => ?_) (fun e he hns => ?_))
  · simp only [List.mem_map] at he
    obtain ⟨p, hp, rfl⟩ := he
    exact hok.lt p (hI.sub.subset hp)
  · have hall' : ∀ p ∈ l', p.idx * 4096 < n := fun p hp => hI.sn p hp (hall p.me (List.mem_map_of_mem hp))
    have hok' := hok.cut hI.sub hI.kp
    repeat (first | refine wZ ?_ | intro b)
    refine l_plain rfl ?_
    apply s_val rfl rfl
    · exact r_lookV 1 rfl rfl rfl (zq_look l' (n / 4096) 0)
    repeat (first | refine wZ ?_ | intro b)
    refine c_cond rfl (fun h2 => ?_) (fun h2 => ?_)
    rotate_left
    · cases hq : zq l' (n / 4096) with
      | some ad => rw [hq] at h2; cases h2
      | none =>
        repeat (first | refine wZ ?_ | intro b)
        refine at_intro (l', s) hok' ⟨rfl, rfl, trivial⟩ ?_
        rw [← zpgs_congr (c := c) (c' := cutC c n) fun p hp => ?_]
        · exact arr_ent 1 [2, 1] _
        · have h3 := hall' p hp
          have h4 := zq_none hq p hp
          exact (pgl_cut_lo c n p.idx (by omega)).symm
    · cases hq : zq l' (n / 4096) with
      | none => rw [hq] at h2; cases h2
      | some ad =>
        obtain ⟨l1, p, l2, rfl, hpi, rfl⟩ := zq_some hq
        have hpn := hall' p (by simp)
        refine G.ent ((arr_ent 1 [2, 1] _).trans (Ent.cons (Ent.cons (zpgs_take c l1 l2 p)))) ?_
        simp only [zpg]
        repeat (first | refine wZ ?_ | intro b)
        have hq0 : n = p.idx * 4096 + n % 4096 := by omega
        refine c_loop (α := Nat) (fun j => [(0, .pointer (some ⟨fb, 0, none⟩)), (1, .int .i64 (n : Nat)), (6, .pointer (some p.ad)), (7, .int .i64 ((n % 4096 + j : Nat) : Int))])
          (fun j => blk p.blk (cl (u8s (pgl (zc c n (p.idx * 4096 + (n % 4096 + j))) p.idx)) 144) :: blk fb (cl (zcells mb s) 127) :: blk mb (mapO ((l1 ++ p :: l2).map ZP.me) kk) :: zpgs c (l1 ++ l2) :: F) (fun j => n % 4096 + j ≤ 4096) (fun j => 4096 - j) 0 (by omega) (by exact ⟨rfl, rfl, rfl, rfl, trivial⟩)
          (by rw [Nat.add_zero, ← hq0, zc_none]; exact arr_ent 0 [2, 0, 0] _) ?_
        intro j hj
        repeat (first | refine wZ ?_ | intro b)
        refine c_cond rfl (fun h4 => ?_) (fun h4 => ?_)
        rotate_left
        · have h4 := of_decide_eq_false h4
          repeat (first | refine wZ ?_ | intro b)
          refine at_intro (l1 ++ p :: l2, s) hok' ⟨rfl, rfl, trivial⟩ ?_
          have e1 : n % 4096 + j = 4096 := by omega
          rw [e1, pgl_cut_zc, zpgs_congr (l := l1 ++ l2) (c := c) (c' := cutC c n) fun q hq => ?_]
          · have hput := zpgs_put (L := F) (cutC c n) l1 l2 p
            simp only [zpg] at hput
            refine Ent.trans (arr_ent 0 [1, 1, 0] _) ?_
            exact Ent.cons (Ent.cons hput)
          · have h5 := hall' q (by rcases List.mem_append.1 hq with h | h <;> simp [h])
            have h6 := (hok'.other q hq)
            exact (pgl_cut_lo c n q.idx (by omega)).symm
        have h4 := of_decide_eq_true h4
        repeat (first | refine wZ ?_ | intro b)
        refine l_plain rfl ?_
        apply s_val rfl rfl
        · exact RunS.v (r_indexA (i := n % 4096 + j) rfl rfl rfl (by omega))
        refine l_plain rfl (s_store (i := 0) rfl rfl rfl rfl rfl rfl (by simp; omega) ?_)
        rw [Nat.mul_one, Nat.zero_add, pgl_zc c p.idx n _ (by omega) (by omega)]
        repeat (first | refine wZ ?_ | intro b)
        rw [Nat.add_assoc (n % 4096) j 1]
        exact at_intro (j + 1) ⟨by omega, by omega⟩ ⟨rfl, rfl, rfl, rfl, trivial⟩ (Ent.refl _)
  · simp only [List.mem_map] at he
    obtain ⟨p, hp, rfl⟩ := he
    have hpl := hI.sub.subset hp
    have hbd := hok.bd p hpl
    repeat (first | refine wZ ?_ | intro b)
    refine l_plain rfl ?_
    apply s_val rfl rfl
    · exact r_entry 0 1 rfl rfl rfl (List.mem_map_of_mem hp) (by simpa [Function.comp_def, ZP.me] using hok.nb.sublist (hI.sub.map _))
    repeat (first | refine wZ ?_ | intro b)
    refine l_plain rfl ?_
    apply s_val rfl rfl
    · exact RunS.v (r_shlN 12 rfl rfl rfl (by rw [max_i64]; omega))
    repeat (first | refine wZ ?_ | intro b)
    have hone : ∀ q ∈ l', q.idx = p.idx → q = p := fun q hq e => hok.one (hI.sub.subset hq) hpl e
    have hnb := (hok.nb.sublist (hI.sub.map (·.born)))
    refine c_cond rfl (fun h4 => ?_) (fun h4 => ?_)
    · have h4 := of_decide_eq_true h4
      obtain ⟨l1, l2, rfl, hdel⟩ := zdel hp hone
      repeat (first | refine wZ ?_ | intro b)
      refine l_plain rfl (s_delE 1 rfl rfl rfl hdel ?_)
      repeat (first | refine wZ ?_ | intro b)
      have hlt := (unseen_lt (l1 := l1) (l2 := l2) (p := p) hns).1
      refine at_intro (l1 ++ l2, seen.push p.born) ⟨⟨(by simp : (l1 ++ l2).Sublist (l1 ++ p :: l2)).trans hI.sub, fun q hq hqn => ?_, fun q hq hc => ?_⟩, hlt⟩ ⟨rfl, rfl, rfl, trivial⟩ ?_
      · have := hI.kp q hq hqn
        rcases List.mem_append.1 this with h | h
        · exact List.mem_append_left _ h
        · rcases List.mem_cons.1 h with rfl | h
          · omega
          · exact List.mem_append_right _ h
      · have hq' : q ∈ l1 ++ p :: l2 := by rcases List.mem_append.1 hq with h | h <;> simp [h]
        simp only [Array.contains_push, Bool.or_eq_true, beq_iff_eq] at hc
        rcases hc with hc | hc
        · exact hI.sn q hq' hc
        · exfalso
          rw [List.map_append, List.map_cons] at hnb
          have h2 := List.perm_middle.nodup_iff.1 hnb
          rw [List.nodup_cons] at h2
          exact h2.1 (by rw [← hc, ← List.map_append]; exact List.mem_map_of_mem hq)
      · refine Ent.trans (arr_ent 0 [1, 1, 0] _) ?_
        exact Ent.cons (Ent.cons (Ent.cons ((zpgs_take c l1 l2 p).trans Ent.drop)))
    · have h4 := of_decide_eq_false h4
      obtain ⟨l1, l2, rfl⟩ := List.append_of_mem hp
      repeat (first | refine wZ ?_ | intro b)
      have hlt := (unseen_lt (l1 := l1) (l2 := l2) (p := p) hns).2
      refine at_intro (l1 ++ p :: l2, seen.push p.born) ⟨⟨hI.sub, hI.kp, fun q hq hc => ?_⟩, hlt⟩ ⟨rfl, rfl, rfl, trivial⟩ (arr_ent 0 [0, 1, 0] _)
      simp only [Array.contains_push, Bool.or_eq_true, beq_iff_eq] at hc
      rcases hc with hc | hc
      · exact hI.sn q hq hc
      · have hqp : q = p := by
          rcases List.mem_append.1 hq with h | h
          · exfalso
            rw [List.map_append, List.map_cons] at hnb
            have h2 := List.perm_middle.nodup_iff.1 hnb
            rw [List.nodup_cons] at h2
            exact h2.1 (by rw [← hc, ← List.map_append]; exact List.mem_map_of_mem (List.mem_append_left _ h))
          · rcases List.mem_cons.1 h with rfl | h
            · rfl
            · exfalso
              rw [List.map_append, List.map_cons] at hnb
              have h2 := List.perm_middle.nodup_iff.1 hnb
              rw [List.nodup_cons] at h2
              exact h2.1 (by rw [← hc, ← List.map_append]; exact List.mem_map_of_mem (List.mem_append_right _ h))
        subst hqp
        omega
end Go.Proofs.YtfebpbflpdppiaaGreatDoor
namespace Go.Proofs.YtfebpbflpdppiaaGreatDoor
open Go Go.Sl
set_option maxRecDepth 100000
/-- an error, by its number: none, the end, arguments that are not let, a call that is not let -/
def isErr (ea : Addr) : Nat → Value → Prop
  | 0, v => v = .nilIface
  | 1, v => v = eofV ea
  | 2, v => ∃ b, v = invV b
  | 3, v => ∃ b, v = permV b
  | _, _ => False
def nameS : ByteArray := ⟨#[109, 101, 109, 102, 105, 108, 101, 114]⟩
def memf (mb : Nat) (c : Cn) (s : Nat) : HP := ex fun x : Nat × Int => sep [blk mb (cl [.pointer (some ⟨x.1, 0, none⟩), .int .i64 x.2] 85), zf x.1 c s]
section
variable {n : Nat} {ds : List Deferred} {σ : Env} {m : Amb} {L R : List HP}
theorem memf_open {mb s : Nat} {c : Cn} {Φ : Act → World → Prop} (h : ∀ fb q, G n ds σ m (blk mb (cl [.pointer (some ⟨fb, 0, none⟩), .int .i64 q] 85) :: zf fb c s :: L) Φ) : G n ds σ m (memf mb c s :: L) Φ :=
  G.exE fun x => G.ent (sep_open _ _) (h x.1 x.2)
theorem memf_shut {mb fb s : Nat} {q : Int} {c : Cn} : Ent (blk mb (cl [.pointer (some ⟨fb, 0, none⟩), .int .i64 q] 85) :: zf fb c s :: L) (memf mb c s :: L) :=
  (sep_shut [_, _] L).trans (ex_shut (fun x : Nat × Int => sep [blk mb (cl [.pointer (some ⟨x.1, 0, none⟩), .int .i64 x.2] 85), zf x.1 c s]) (fb, q) L)
end
attribute [local irreducible] wpList Code.wp Exit.then Exit.inBlock bodyPost RunS RunV G St Ct Sat Ent At Rd GQ QL wpAny wpOp wpQuiet slP Sl.ex sep
attribute [local irreducible] zf memf zpgs zpg pgl rng ov cutC zc mapO rdd
theorem NewMemFiler_c : Ct Tryz.prog 19 #[] [] (fun v B => ∃ mb, v = .pointer (some ⟨mb, 0, none⟩) ∧ B = [memf mb (fun _ => 0) 0]) nev := by
  refine Ct.of Tryz.func19 rfl Tryz.ntmps19 rfl fun m F => ?_
  repeat (first | refine wZ ?_ | intro b)
  refine l_plain rfl (s_call rfl rfl NewZzFile_c [] rfl ?_ (fun _ _ h => h.elim))
  rintro _ _ ⟨fb, rfl, rfl⟩
  refine l_plain rfl ?_
  apply s_val rfl rfl
  · exact RunS.v (r_build (cells := #[.pointer (some ⟨fb, 0, none⟩), .int .i64 0]) rfl (by kernel_rfl))
  repeat (first | refine wZ ?_ | intro b)
  exact e_ret1 _ rfl rfl ⟨b, rfl, rfl⟩ memf_shut
section
variable {mb s : Nat} {c : Cn}
theorem MBegin_c : Ct Tryz.prog 70 #[.pointer (some ⟨mb, 0, none⟩)] [memf mb c s] (fun v B => v = .nilIface ∧ B = [memf mb c s]) nev := by
  refine Ct.of Tryz.func70 rfl Tryz.ntmps70 rfl fun m F => ?_
  refine memf_open fun fb q => ?_
  repeat (first | refine wZ ?_ | intro b)
  refine l_plain rfl ?_
  apply s_val rfl rfl
  · exact RunS.v (r_add rfl rfl)
  repeat (first | refine wZ ?_ | intro b)
  exact e_ret1 _ rfl rfl ⟨rfl, rfl⟩ memf_shut
theorem MName_c (v0 : Value) : Ct Tryz.prog 73 #[v0] [] (fun v B => v = .string nameS ∧ B = []) nev := by
  refine Ct.of Tryz.func73 rfl Tryz.ntmps73 rfl fun m F => ?_
  repeat (first | refine wZ ?_ | intro b)
  exact e_ret1 _ rfl rfl ⟨rfl, rfl⟩ (Ent.refl _)
theorem MClose_c (ea : Addr) : Ct Tryz.prog 71 #[.pointer (some ⟨mb, 0, none⟩)] [memf mb c s] (fun v B => (isErr ea 0 v ∨ isErr ea 3 v) ∧ B = [memf mb c s]) nev := by
  refine Ct.of Tryz.func71 rfl Tryz.ntmps71 rfl fun m F => ?_
  refine memf_open fun fb q => ?_
  repeat (first | refine wZ ?_ | intro b)
  refine c_cond rfl (fun h => ?_) (fun h => ?_)
  · repeat (first | refine wZ ?_ | intro b)
    refine l_plain rfl (s_call rfl rfl (MName_c _) [] rfl ?_ (fun _ _ h => h.elim))
    rintro _ _ ⟨rfl, rfl⟩
    refine l_plain rfl ?_
    apply s_val rfl rfl
    · exact RunS.v (r_strAdd rfl rfl (Nat.le_of_ble_eq_true rfl))
    generalize nameS ++ _ = str
    refine l_plain rfl ?_
    apply s_val rfl rfl
    · exact RunS.v (r_build (cells := #[.string str]) rfl (by kernel_rfl))
    repeat (first | refine wZ ?_ | intro b)
    exact e_ret1 _ rfl rfl ⟨.inr ⟨b, rfl⟩, rfl⟩ (Ent.drop.trans memf_shut)
  · repeat (first | refine wZ ?_ | intro b)
    refine l_plain rfl (s_call rfl rfl (ZClose_c _) [] rfl ?_ (fun _ _ h => h.elim))
    rintro _ _ ⟨rfl, rfl⟩
    repeat (first | refine wZ ?_ | intro b)
    exact e_ret1 _ rfl rfl ⟨.inl rfl, rfl⟩ memf_shut
theorem MEnd_c (ea : Addr) : Ct Tryz.prog 72 #[.pointer (some ⟨mb, 0, none⟩)] [memf mb c s] (fun v B => (isErr ea 0 v ∨ isErr ea 3 v) ∧ B = [memf mb c s]) nev := by
  refine Ct.of Tryz.func72 rfl Tryz.ntmps72 rfl fun m F => ?_
  refine memf_open fun fb q => ?_
  repeat (first | refine wZ ?_ | intro b)
  refine c_cond rfl (fun h => ?_) (fun h => ?_)
  · repeat (first | refine wZ ?_ | intro b)
    refine l_plain rfl (s_call rfl rfl (MName_c _) [] rfl ?_ (fun _ _ h => h.elim))
    rintro _ _ ⟨rfl, rfl⟩
    refine l_plain rfl ?_
    apply s_val rfl rfl
    · exact RunS.v (r_strAdd rfl rfl (Nat.le_of_ble_eq_true rfl))
    generalize nameS ++ _ = str
    refine l_plain rfl ?_
    apply s_val rfl rfl
    · exact RunS.v (r_build (cells := #[.string str]) rfl (by kernel_rfl))
    repeat (first | refine wZ ?_ | intro b)
    exact e_ret1 _ rfl rfl ⟨.inr ⟨b, rfl⟩, rfl⟩ (Ent.drop.trans memf_shut)
  · repeat (first | refine wZ ?_ | intro b)
    refine l_plain rfl ?_
    apply s_val rfl rfl
    · exact RunS.v (r_sub rfl rfl)
    repeat (first | refine wZ ?_ | intro b)
    exact e_ret1 _ rfl rfl ⟨.inl rfl, rfl⟩ memf_shut
theorem MPunch_c (v0 v1 v2 : Value) : Ct Tryz.prog 74 #[v0, v1, v2] [] (fun v B => v = .nilIface ∧ B = []) nev := by
  refine Ct.of Tryz.func74 rfl Tryz.ntmps74 rfl fun m F => ?_
  repeat (first | refine wZ ?_ | intro b)
  exact e_ret1 _ rfl rfl ⟨rfl, rfl⟩ (Ent.refl _)
theorem MRoll_c (v0 : Value) : Ct Tryz.prog 76 #[v0] [] (fun v B => v = .nilIface ∧ B = []) nev := by
  refine Ct.of Tryz.func76 rfl Tryz.ntmps76 rfl fun m F => ?_
  repeat (first | refine wZ ?_ | intro b)
  exact e_ret1 _ rfl rfl ⟨rfl, rfl⟩ (Ent.refl _)
theorem MSync_c (v0 : Value) : Ct Tryz.prog 78 #[v0] [] (fun v B => v = .nilIface ∧ B = []) nev := by
  refine Ct.of Tryz.func78 rfl Tryz.ntmps78 rfl fun m F => ?_
  repeat (first | refine wZ ?_ | intro b)
  exact e_ret1 _ rfl rfl ⟨rfl, rfl⟩ (Ent.refl _)
theorem MSize_c : Ct Tryz.prog 77 #[.pointer (some ⟨mb, 0, none⟩)] [memf mb c s] (fun v B => v = .tuple #[.int .i64 (s : Nat), .nilIface] ∧ B = [memf mb c s]) nev := by
  refine Ct.of Tryz.func77 rfl Tryz.ntmps77 rfl fun m F => ?_
  refine memf_open fun fb q => ?_
  repeat (first | refine wZ ?_ | intro b)
  refine l_plain rfl (s_call rfl rfl (ZSize_c fb c s) [1] rfl ?_ (fun _ _ h => h.elim))
  rintro _ _ ⟨rfl, rfl⟩
  repeat (first | refine wZ ?_ | intro b)
  exact e_ret2 _ rfl rfl rfl ⟨rfl, rfl⟩ ((arr_ent 0 [1, 0] _).trans memf_shut)
theorem MReadAt_c {glb : HP} {ea : Addr} (hglb : Rd [glb] ⟨1, 0, none⟩ (eofV ea)) (db e : Nat) (old : List UInt8) (k off : Nat) (hk : old.length = k) (hb : off + k ≤ 1000000000000) (hsz : s ≤ 1000000000000) :
    Ct Tryz.prog 75 #[.pointer (some ⟨mb, 0, none⟩), .slice (some ⟨db, 0, none⟩) k k, .int .i64 (off : Nat)] [glb, memf mb c s, blk db (cl (u8s old) e)]
      (fun v B => v = .tuple #[.int .i64 (min k (s - off) : Nat), if k ≤ s - off then .nilIface else eofV ea] ∧ B = [glb, memf mb c s, blk db (cl (u8s (rdd old c off (min k (s - off)))) e)]) nev := by
  refine Ct.of Tryz.func75 rfl Tryz.ntmps75 rfl fun m F => ?_
  refine G.ent (arr_ent 0 [1, 0] _) ?_
  refine memf_open fun fb q => ?_
  repeat (first | refine wZ ?_ | intro b)
  refine l_plain rfl (s_call rfl rfl (ZReadAt_c hglb fb c s db e old k off hk hb hsz) [2, 1, 1] rfl ?_ (fun _ _ h => h.elim))
  rintro _ _ ⟨rfl, rfl⟩
  repeat (first | refine wZ ?_ | intro b)
  exact e_ret2 _ rfl rfl rfl ⟨rfl, rfl⟩ (Ent.trans (arr_ent 0 [3, 1, 0] _) (memf_shut.trans (arr_ent 0 [1, 0] _)))
theorem MReadAt_n {A : List HP} (sl : Value) (off : Int) (hb : off < 0) : Ct Tryz.prog 75 #[.pointer (some ⟨mb, 0, none⟩), sl, .int .i64 off] (memf mb c s :: A) (fun v B => ∃ b, v = .tuple #[.int .i64 0, invV b] ∧ B = memf mb c s :: A) nev := by
  refine Ct.of Tryz.func75 rfl Tryz.ntmps75 rfl fun m F => ?_
  refine memf_open fun fb q => ?_
  repeat (first | refine wZ ?_ | intro b)
  refine l_plain rfl (s_call rfl rfl (ZReadAt_n (A := []) fb sl off hb) [] rfl ?_ (fun _ _ h => h.elim))
  rintro _ _ ⟨eb, rfl, rfl⟩
  repeat (first | refine wZ ?_ | intro b)
  exact e_ret2 _ rfl rfl rfl ⟨eb, rfl, rfl⟩ memf_shut
theorem MWriteAt_c {A : HP} (bs : List UInt8) (a : Option Addr) (k cp off : Nat) (hs : Src [A] 1 (.slice a k cp) k (u8s bs)) (hcp : k ≤ cp) (hb : off + k ≤ 1000000000000) (hsz : s ≤ 1000000000000) :
    Ct Tryz.prog 20 #[.pointer (some ⟨mb, 0, none⟩), .slice a k cp, .int .i64 (off : Nat)] [memf mb c s, A] (fun v B => v = .tuple #[.int .i64 (k : Nat), .nilIface] ∧ B = [memf mb (ov c off bs) (if k = 0 then s else max s (off + k)), A]) nev := by
  refine Ct.of Tryz.func20 rfl Tryz.ntmps20 rfl fun m F => ?_
  refine memf_open fun fb q => ?_
  repeat (first | refine wZ ?_ | intro b)
  refine l_plain rfl (s_call rfl rfl (ZWriteAt_c fb c s bs a k cp off hs hcp hb hsz) [1, 1] rfl ?_ (fun _ _ h => h.elim))
  rintro _ _ ⟨rfl, rfl⟩
  repeat (first | refine wZ ?_ | intro b)
  exact e_ret2 _ rfl rfl rfl ⟨rfl, rfl⟩ (Ent.trans (arr_ent 0 [2, 0, 0] _) memf_shut)
theorem MWriteAt_n {A : List HP} (sl : Value) (off : Int) (hb : off < 0) : Ct Tryz.prog 20 #[.pointer (some ⟨mb, 0, none⟩), sl, .int .i64 off] (memf mb c s :: A) (fun v B => ∃ b, v = .tuple #[.int .i64 0, invV b] ∧ B = memf mb c s :: A) nev := by
  refine Ct.of Tryz.func20 rfl Tryz.ntmps20 rfl fun m F => ?_
  refine memf_open fun fb q => ?_
  repeat (first | refine wZ ?_ | intro b)
  refine l_plain rfl (s_call rfl rfl (ZWriteAt_n (A := []) fb sl off hb) [] rfl ?_ (fun _ _ h => h.elim))
  rintro _ _ ⟨eb, rfl, rfl⟩
  repeat (first | refine wZ ?_ | intro b)
  exact e_ret2 _ rfl rfl rfl ⟨eb, rfl, rfl⟩ memf_shut
theorem MTruncate_c (k : Nat) (hk : k ≤ 1000000000000) (hsz : s ≤ 1000000000000) : Ct Tryz.prog 79 #[.pointer (some ⟨mb, 0, none⟩), .int .i64 (k : Nat)] [memf mb c s] (fun v B => v = .nilIface ∧ B = [memf mb (cutC c k) k]) nev := by
  refine Ct.of Tryz.func79 rfl Tryz.ntmps79 rfl fun m F => ?_
  refine memf_open fun fb q => ?_
  repeat (first | refine wZ ?_ | intro b)
  refine l_plain rfl (s_call rfl rfl (ZTruncate_c fb c s k hk hsz) [1] rfl ?_ (fun _ _ h => h.elim))
  rintro _ _ ⟨rfl, rfl⟩
  repeat (first | refine wZ ?_ | intro b)
  exact e_ret1 _ rfl rfl ⟨rfl, rfl⟩ ((arr_ent 0 [1, 0] _).trans memf_shut)
theorem MTruncate_n (off : Int) (hb : off < 0) : Ct Tryz.prog 79 #[.pointer (some ⟨mb, 0, none⟩), .int .i64 off] [memf mb c s] (fun v B => ∃ b, v = invV b ∧ B = [memf mb c s]) nev := by
  refine Ct.of Tryz.func79 rfl Tryz.ntmps79 rfl fun m F => ?_
  refine memf_open fun fb q => ?_
  repeat (first | refine wZ ?_ | intro b)
  refine l_plain rfl (s_call rfl rfl (ZTruncate_n (A := []) fb off hb) [] rfl ?_ (fun _ _ h => h.elim))
  rintro _ _ ⟨eb, rfl, rfl⟩
  repeat (first | refine wZ ?_ | intro b)
  exact e_ret1 _ rfl rfl ⟨eb, rfl, rfl⟩ memf_shut
end
end Go.Proofs.YtfebpbflpdppiaaGreatDoor
