/- Walks over what appends to the bytes behind a pointer: encUint0, encUintPrefix, encFloatPrefix, encFloat, encComplex, encUint, encInt. -/
import Derived.Test.YtfebpbflpdppiaaDoorD1
namespace Go.Proofs.YtfebpbflpdppiaaDoor
open Go Go.Sl
set_option maxRecDepth 100000
attribute [local irreducible] wpList Code.wp Exit.then Exit.inBlock bodyPost RunS RunV G St Ct Sat Ent At Rd GQ QL wpAny wpOp wpQuiet slP Sl.ex sep
/-- the bytes behind a pointer to a slice -/
def bufP (pb : Nat) (ls : List Value) : HP := Sl.ex fun p : Option Addr × Nat => sep [blk pb (cl [.slice p.1 ls.length p.2] 22), slP (.slice p.1 ls.length p.2) 5 1 ls]
theorem bufP_open {n : Nat} {ds : List Deferred} {σ : Env} {m : Amb} {pb : Nat} {ls : List Value} {L : List HP} {Φ : Act → World → Prop}
    (h : ∀ a c, G n ds σ m (blk pb (cl [.slice a ls.length c] 22) :: slP (.slice a ls.length c) 5 1 ls :: L) Φ) : G n ds σ m (bufP pb ls :: L) Φ :=
  G.exE fun p => G.ent (sep_open _ _) (h p.1 p.2)
theorem bufP_shut {pb k : Nat} {ls : List Value} {L : List HP} (a : Option Addr) (c : Nat) (hk : k = ls.length) : Ent (blk pb (cl [.slice a k c] 22) :: slP (.slice a k c) 5 1 ls :: L) (bufP pb ls :: L) := by
  subst hk
  exact (sep_shut [blk pb (cl [.slice a ls.length c] 22), slP (.slice a ls.length c) 5 1 ls] L).trans (ex_shut (fun p : Option Addr × Nat => sep [blk pb (cl [.slice p.1 ls.length p.2] 22), slP (.slice p.1 ls.length p.2) 5 1 ls]) (a, c) L)
/-- byte(n >> c) -/
def bt (n : Int) (c : Nat) : Value := .int .u8 (IntKind.u8.wrap (n.fdiv (2 ^ c)))
def b0 (n : Int) : Value := .int .u8 (IntKind.u8.wrap n)
def encU (n : Nat) : List Value :=
  if n ≤ 255 then [b0 n]
  else if n ≤ 65535 then [bt n 8, b0 n]
  else if n ≤ 16777215 then [bt n 16, bt n 8, b0 n]
  else if n ≤ 4294967295 then [bt n 24, bt n 16, bt n 8, b0 n]
  else if n ≤ 1099511627775 then [bt n 32, bt n 24, bt n 16, bt n 8, b0 n]
  else if n ≤ 281474976710655 then [bt n 40, bt n 32, bt n 24, bt n 16, bt n 8, b0 n]
  else if n ≤ 72057594037927935 then [bt n 48, bt n 40, bt n 32, bt n 24, bt n 16, bt n 8, b0 n]
  else [bt n 56, bt n 48, bt n 40, bt n 32, bt n 24, bt n 16, bt n 8, b0 n]
set_option maxHeartbeats 4000000 in
theorem encU0_c (n : Nat) (hn : n < 2 ^ 64) (pb : Nat) (ls : List Value) (hl : ls.length ≤ 1099511627776) : Ct Tryd.prog 32 #[.int .u64 n, .pointer (some ⟨pb, 0, none⟩)] [bufP pb ls] (fun v B => v = .tuple #[] ∧ B = [bufP pb (ls ++ encU n)]) nev := by
  refine Ct.of Tryd.func32 rfl Tryd.ntmps32 rfl fun m F => bufP_open fun a c => ?_
  unfold encU
  repeat (first | refine wW ?_ | intro b)
  by_cases h0 : n ≤ 255
  · refine c_condT (by rw [show decide ((n : Int) ≤ 255) = true from decide_eq_true (by omega)]; rfl) ?_
    rw [if_pos h0]
    repeat (first | refine wW ?_ | intro b)
    (refine l_plain rfl (s_append (i := 2) rfl rfl rfl (Src.some _ _ _ _ _ rfl (rdn_all 0 rfl)) rfl rfl (Nat.mul_one _).symm rfl (by omega) (by unfold maxLen; omega) rfl ?_); intro a c)
    repeat (first | refine wW ?_ | intro b)
    exact e_nor0 [bufP pb (ls ++ [b0 n])] rfl ⟨rfl, rfl⟩ ((arr_ent 1 [0, 0] _).trans (bufP_shut (ls := ls ++ [b0 n]) a c (by simp)))
  rw [if_neg h0]
  refine c_condF (by rw [show decide ((n : Int) ≤ 255) = false from decide_eq_false (by omega)]; rfl) ?_
  repeat (first | refine wW ?_ | intro b)
  by_cases h1 : n ≤ 65535
  · refine c_condT (by rw [show decide ((n : Int) ≤ 65535) = true from decide_eq_true (by omega)]; rfl) ?_
    rw [if_pos h1]
    repeat (first | refine wW ?_ | intro b)
    (refine l_plain rfl (s_append (i := 2) rfl rfl rfl (Src.some _ _ _ _ _ rfl (rdn_all 0 rfl)) rfl rfl (Nat.mul_one _).symm rfl (by omega) (by unfold maxLen; omega) rfl ?_); intro a c)
    repeat (first | refine wW ?_ | intro b)
    exact e_nor0 [bufP pb (ls ++ [bt n 8, b0 n])] rfl ⟨rfl, rfl⟩ ((arr_ent 1 [0, 0] _).trans (bufP_shut (ls := ls ++ [bt n 8, b0 n]) a c (by simp)))
  rw [if_neg h1]
  refine c_condF (by rw [show decide ((n : Int) ≤ 65535) = false from decide_eq_false (by omega)]; rfl) ?_
  repeat (first | refine wW ?_ | intro b)
  by_cases h2 : n ≤ 16777215
  · refine c_condT (by rw [show decide ((n : Int) ≤ 16777215) = true from decide_eq_true (by omega)]; rfl) ?_
    rw [if_pos h2]
    repeat (first | refine wW ?_ | intro b)
    (refine l_plain rfl (s_append (i := 2) rfl rfl rfl (Src.some _ _ _ _ _ rfl (rdn_all 0 rfl)) rfl rfl (Nat.mul_one _).symm rfl (by omega) (by unfold maxLen; omega) rfl ?_); intro a c)
    repeat (first | refine wW ?_ | intro b)
    exact e_nor0 [bufP pb (ls ++ [bt n 16, bt n 8, b0 n])] rfl ⟨rfl, rfl⟩ ((arr_ent 1 [0, 0] _).trans (bufP_shut (ls := ls ++ [bt n 16, bt n 8, b0 n]) a c (by simp)))
  rw [if_neg h2]
  refine c_condF (by rw [show decide ((n : Int) ≤ 16777215) = false from decide_eq_false (by omega)]; rfl) ?_
  repeat (first | refine wW ?_ | intro b)
  by_cases h3 : n ≤ 4294967295
  · refine c_condT (by rw [show decide ((n : Int) ≤ 4294967295) = true from decide_eq_true (by omega)]; rfl) ?_
    rw [if_pos h3]
    repeat (first | refine wW ?_ | intro b)
    (refine l_plain rfl (s_append (i := 2) rfl rfl rfl (Src.some _ _ _ _ _ rfl (rdn_all 0 rfl)) rfl rfl (Nat.mul_one _).symm rfl (by omega) (by unfold maxLen; omega) rfl ?_); intro a c)
    repeat (first | refine wW ?_ | intro b)
    exact e_nor0 [bufP pb (ls ++ [bt n 24, bt n 16, bt n 8, b0 n])] rfl ⟨rfl, rfl⟩ ((arr_ent 1 [0, 0] _).trans (bufP_shut (ls := ls ++ [bt n 24, bt n 16, bt n 8, b0 n]) a c (by simp)))
  rw [if_neg h3]
  refine c_condF (by rw [show decide ((n : Int) ≤ 4294967295) = false from decide_eq_false (by omega)]; rfl) ?_
  repeat (first | refine wW ?_ | intro b)
  by_cases h4 : n ≤ 1099511627775
  · refine c_condT (by rw [show decide ((n : Int) ≤ 1099511627775) = true from decide_eq_true (by omega)]; rfl) ?_
    rw [if_pos h4]
    repeat (first | refine wW ?_ | intro b)
    (refine l_plain rfl (s_append (i := 2) rfl rfl rfl (Src.some _ _ _ _ _ rfl (rdn_all 0 rfl)) rfl rfl (Nat.mul_one _).symm rfl (by omega) (by unfold maxLen; omega) rfl ?_); intro a c)
    repeat (first | refine wW ?_ | intro b)
    exact e_nor0 [bufP pb (ls ++ [bt n 32, bt n 24, bt n 16, bt n 8, b0 n])] rfl ⟨rfl, rfl⟩ ((arr_ent 1 [0, 0] _).trans (bufP_shut (ls := ls ++ [bt n 32, bt n 24, bt n 16, bt n 8, b0 n]) a c (by simp)))
  rw [if_neg h4]
  refine c_condF (by rw [show decide ((n : Int) ≤ 1099511627775) = false from decide_eq_false (by omega)]; rfl) ?_
  repeat (first | refine wW ?_ | intro b)
  by_cases h5 : n ≤ 281474976710655
  · refine c_condT (by rw [show decide ((n : Int) ≤ 281474976710655) = true from decide_eq_true (by omega)]; rfl) ?_
    rw [if_pos h5]
    repeat (first | refine wW ?_ | intro b)
    (refine l_plain rfl (s_append (i := 2) rfl rfl rfl (Src.some _ _ _ _ _ rfl (rdn_all 0 rfl)) rfl rfl (Nat.mul_one _).symm rfl (by omega) (by unfold maxLen; omega) rfl ?_); intro a c)
    repeat (first | refine wW ?_ | intro b)
    exact e_nor0 [bufP pb (ls ++ [bt n 40, bt n 32, bt n 24, bt n 16, bt n 8, b0 n])] rfl ⟨rfl, rfl⟩ ((arr_ent 1 [0, 0] _).trans (bufP_shut (ls := ls ++ [bt n 40, bt n 32, bt n 24, bt n 16, bt n 8, b0 n]) a c (by simp)))
  rw [if_neg h5]
  refine c_condF (by rw [show decide ((n : Int) ≤ 281474976710655) = false from decide_eq_false (by omega)]; rfl) ?_
  repeat (first | refine wW ?_ | intro b)
  by_cases h6 : n ≤ 72057594037927935
  · refine c_condT (by rw [show decide ((n : Int) ≤ 72057594037927935) = true from decide_eq_true (by omega)]; rfl) ?_
    rw [if_pos h6]
    repeat (first | refine wW ?_ | intro b)
    (refine l_plain rfl (s_append (i := 2) rfl rfl rfl (Src.some _ _ _ _ _ rfl (rdn_all 0 rfl)) rfl rfl (Nat.mul_one _).symm rfl (by omega) (by unfold maxLen; omega) rfl ?_); intro a c)
    repeat (first | refine wW ?_ | intro b)
    exact e_nor0 [bufP pb (ls ++ [bt n 48, bt n 40, bt n 32, bt n 24, bt n 16, bt n 8, b0 n])] rfl ⟨rfl, rfl⟩ ((arr_ent 1 [0, 0] _).trans (bufP_shut (ls := ls ++ [bt n 48, bt n 40, bt n 32, bt n 24, bt n 16, bt n 8, b0 n]) a c (by simp)))
  rw [if_neg h6]
  refine c_condF (by rw [show decide ((n : Int) ≤ 72057594037927935) = false from decide_eq_false (by omega)]; rfl) ?_
  repeat (first | refine wW ?_ | intro b)
  · refine c_condT (by rw [show decide ((n : Int) ≤ 18446744073709551615) = true from decide_eq_true (by omega)]; rfl) ?_
    repeat (first | refine wW ?_ | intro b)
    (refine l_plain rfl (s_append (i := 2) rfl rfl rfl (Src.some _ _ _ _ _ rfl (rdn_all 0 rfl)) rfl rfl (Nat.mul_one _).symm rfl (by omega) (by unfold maxLen; omega) rfl ?_); intro a c)
    repeat (first | refine wW ?_ | intro b)
    exact e_nor0 [bufP pb (ls ++ [bt n 56, bt n 48, bt n 40, bt n 32, bt n 24, bt n 16, bt n 8, b0 n])] rfl ⟨rfl, rfl⟩ ((arr_ent 1 [0, 0] _).trans (bufP_shut (ls := ls ++ [bt n 56, bt n 48, bt n 40, bt n 32, bt n 24, bt n 16, bt n 8, b0 n]) a c (by simp)))

end Go.Proofs.YtfebpbflpdppiaaDoor
