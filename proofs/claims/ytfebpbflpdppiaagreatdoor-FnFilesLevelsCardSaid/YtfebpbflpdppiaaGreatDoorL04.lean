/- The tenth part of the calculus: numbers that are places in files; the steps of a walk with them · The eleventh part of the calculus: regions in any order, in which what is read is not written · Files as contents: a place's byte as a function of the place; pages of 4,096 bytes. Plain laws, no program · A file in memory (ZzFile): what it holds; the walk over put. -/
import Derived.Test.YtfebpbflpdppiaaGreatDoorL03
import Derived.OrdersHeld
namespace Go.Sl
open Go
set_option maxRecDepth 100000
theorem bv_and12 (a : Int) (_h : -9223372036854775808 ≤ a ∧ a ≤ 9223372036854775807) : (((BitVec.ofInt 64 a).toNat &&& (BitVec.ofInt 64 4095).toNat : Nat) : Int) = a % 4096 := by
  have e1 : (BitVec.ofInt 64 4095).toNat = 4095 := by decide
  have e2 : ∀ x : Nat, x &&& 4095 = x % 4096 := fun x => by rw [show (4095 : Nat) = 2 ^ 12 - 1 from rfl, Nat.and_two_pow_sub_one_eq_mod]
  rw [e1, e2, BitVec.toNat_ofInt]
  have : (2 : Nat) ^ 64 = 18446744073709551616 := by decide
  rw [this]
  omega
theorem bv_anot12 (a : Int) (h : -9223372036854775808 ≤ a ∧ a ≤ 9223372036854775807) : IntKind.i64.wrap (((BitVec.ofInt 64 a).toNat &&& (~~~ BitVec.ofInt 64 4095).toNat : Nat) : Int) = a - a % 4096 := by
  have e0 : (~~~ BitVec.ofInt 64 4095).toNat = 18446744073709547520 := by decide
  have e2 : ∀ x : Nat, x < 18446744073709551616 → x &&& 18446744073709547520 = x / 4096 * 4096 := fun x hx => by
    have h1 : x &&& ((2 ^ 52 - 1) <<< 12) = (x >>> 12) <<< 12 := by
      apply Nat.eq_of_testBit_eq
      intro i
      simp only [Nat.testBit_and, Nat.testBit_shiftLeft, Nat.testBit_two_pow_sub_one, Nat.testBit_shiftRight]
      by_cases h12 : 12 ≤ i
      · simp only [h12, decide_true, Bool.true_and]
        rw [show 12 + (i - 12) = i from by omega]
        by_cases h64 : i < 64
        · simp [show i - 12 < 52 from by omega]
        · have : x.testBit i = false := Nat.testBit_lt_two_pow (Nat.lt_of_lt_of_le (show x < 2 ^ 64 from hx) (Nat.pow_le_pow_right (by omega) (by omega)))
          simp [this]
      · simp [h12]
    rw [Nat.shiftRight_eq_div_pow, Nat.shiftLeft_eq, Nat.shiftLeft_eq] at h1
    exact h1
  have hp : (2 : Nat) ^ 64 = 18446744073709551616 := by decide
  have hlt : (BitVec.ofInt 64 a).toNat < 18446744073709551616 := (BitVec.ofInt 64 a).isLt
  rw [e0, e2 _ hlt, BitVec.toNat_ofInt, hp]
  unfold IntKind.wrap
  simp only [show IntKind.i64.bits = 64 from rfl, show IntKind.i64.signed = true from rfl, Bool.true_and]
  have e : (2 : Int) ^ 64 = 18446744073709551616 := by decide
  have e' : (2 : Int) ^ (64 - 1) = 9223372036854775808 := by decide
  simp only [e, e', ge_iff_le, decide_eq_true_eq]
  split <;> omega
section
variable {P : Program} {σ : Env} {d : Option Tmp} {ty : TypeId} {pos : String} {aft : Array Edge} {gd : Option (Nat × Bool)} {x y : Operand} {t u : TypeId}
theorem r_sh {a : Int} {j : IntKind} (hx : opd σ x = some (.int .i64 a)) (hy : opd σ y = some (.int j 12)) : RunS P ⟨d, .binOp .shr t x y u, ty, pos, aft, gd⟩ σ (.int .i64 (a / 4096)) := by
  have h := r_shr (P := P) (d := d) (t := t) (u := u) (ty := ty) (pos := pos) (aft := aft) (gd := gd) hx hy (by decide)
  have e : (a.fdiv (2 ^ (Nat.min (Int.toNat 12) IntKind.i64.bits))) = a / 4096 := by
    rw [Int.fdiv_eq_ediv_of_nonneg _ (by decide)]; rfl
  have : a.fdiv (2 ^ min (Int.toNat 12) IntKind.i64.bits) = a / 4096 := e
  rwa [this] at h
theorem r_shN {a : Nat} {j : IntKind} (hx : opd σ x = some (.int .i64 (a : Nat))) (hy : opd σ y = some (.int j 12)) : RunS P ⟨d, .binOp .shr t x y u, ty, pos, aft, gd⟩ σ (.int .i64 ((a / 4096 : Nat) : Int)) := by
  have h := r_sh (P := P) (d := d) (t := t) (u := u) (ty := ty) (pos := pos) (aft := aft) (gd := gd) hx hy
  rwa [show ((a : Int) / 4096) = ((a / 4096 : Nat) : Int) from by omega] at h
theorem r_md {a : Int} (hx : opd σ x = some (.int .i64 a)) (hy : opd σ y = some (.int .i64 4095)) (h : -9223372036854775808 ≤ a ∧ a ≤ 9223372036854775807) : RunS P ⟨d, .binOp .and t x y u, ty, pos, aft, gd⟩ σ (.int .i64 (a % 4096)) :=
  r_bits hx hy (fun w => by
    have e := bv_and12 a h
    simp only [Op.intBits, BitVec.toNat_and]
    have e' : IntKind.i64.wrap (((BitVec.ofInt IntKind.i64.bits a).toNat &&& (BitVec.ofInt IntKind.i64.bits 4095).toNat : Nat) : Int) = a % 4096 := by
      rw [show IntKind.i64.bits = 64 from rfl, e]
      exact wrap_i64 (by omega)
    rw [e']; rfl) (by simp)
theorem r_mdN {a : Nat} (hx : opd σ x = some (.int .i64 (a : Nat))) (hy : opd σ y = some (.int .i64 4095)) (h : a ≤ 9223372036854775807) : RunS P ⟨d, .binOp .and t x y u, ty, pos, aft, gd⟩ σ (.int .i64 ((a % 4096 : Nat) : Int)) := by
  have h := r_md (P := P) (d := d) (t := t) (u := u) (ty := ty) (pos := pos) (aft := aft) (gd := gd) hx hy (by omega)
  rwa [show ((a : Int) % 4096) = ((a % 4096 : Nat) : Int) from by omega] at h
theorem r_an {a : Int} (hx : opd σ x = some (.int .i64 a)) (hy : opd σ y = some (.int .i64 4095)) (h : -9223372036854775808 ≤ a ∧ a ≤ 9223372036854775807) : RunS P ⟨d, .binOp .andNot t x y u, ty, pos, aft, gd⟩ σ (.int .i64 (a - a % 4096)) :=
  r_bits hx hy (fun w => by
    have e := bv_anot12 a h
    simp only [Op.intBits, BitVec.toNat_and]
    have e' : IntKind.i64.wrap (((BitVec.ofInt IntKind.i64.bits a).toNat &&& (~~~ BitVec.ofInt IntKind.i64.bits 4095).toNat : Nat) : Int) = a - a % 4096 := e
    rw [e']; rfl) (by simp)
theorem r_anN {a : Nat} (hx : opd σ x = some (.int .i64 (a : Nat))) (hy : opd σ y = some (.int .i64 4095)) (h : a ≤ 9223372036854775807) : RunS P ⟨d, .binOp .andNot t x y u, ty, pos, aft, gd⟩ σ (.int .i64 ((a / 4096 * 4096 : Nat) : Int)) := by
  have h := r_an (P := P) (d := d) (t := t) (u := u) (ty := ty) (pos := pos) (aft := aft) (gd := gd) hx hy (by omega)
  rwa [show ((a : Int) - (a : Int) % 4096) = ((a / 4096 * 4096 : Nat) : Int) from by omega] at h
theorem r_adN {a b : Nat} (hx : opd σ x = some (.int .i64 (a : Nat))) (hy : opd σ y = some (.int .i64 (b : Nat))) (h : a + b ≤ 9223372036854775807) : RunS P ⟨d, .binOp .add t x y u, ty, pos, aft, gd⟩ σ (.int .i64 ((a + b : Nat) : Int)) := by
  have h := r_add64 (P := P) (d := d) (t := t) (u := u) (ty := ty) (pos := pos) (aft := aft) (gd := gd) hx hy (by omega)
  rwa [show ((a : Int) + (b : Int)) = ((a + b : Nat) : Int) from by omega] at h
theorem r_sbN {a b : Nat} (hx : opd σ x = some (.int .i64 (a : Nat))) (hy : opd σ y = some (.int .i64 (b : Nat))) (h : b ≤ a ∧ a ≤ 9223372036854775807) : RunS P ⟨d, .binOp .sub t x y u, ty, pos, aft, gd⟩ σ (.int .i64 ((a - b : Nat) : Int)) := by
  have h := r_sub64 (P := P) (d := d) (t := t) (u := u) (ty := ty) (pos := pos) (aft := aft) (gd := gd) hx hy (by omega)
  rwa [show ((a : Int) - (b : Int)) = ((a - b : Nat) : Int) from by omega] at h
theorem r_incN {a : Nat} (hx : opd σ x = some (.int .i64 (a : Nat))) (hy : opd σ y = some (.int .i64 1)) (h : a + 1 ≤ 9223372036854775807) : RunS P ⟨d, .binOp .add t x y u, ty, pos, aft, gd⟩ σ (.int .i64 ((a + 1 : Nat) : Int)) := by
  have h := r_add64 (P := P) (d := d) (t := t) (u := u) (ty := ty) (pos := pos) (aft := aft) (gd := gd) hx hy (by omega)
  rwa [show ((a : Int) + 1) = ((a + 1 : Nat) : Int) from by omega] at h
theorem r_decN {a : Nat} (hx : opd σ x = some (.int .i64 (a : Nat))) (hy : opd σ y = some (.int .i64 1)) (h : 1 ≤ a ∧ a ≤ 9223372036854775807) : RunS P ⟨d, .binOp .sub t x y u, ty, pos, aft, gd⟩ σ (.int .i64 ((a - 1 : Nat) : Int)) := by
  have h := r_sub64 (P := P) (d := d) (t := t) (u := u) (ty := ty) (pos := pos) (aft := aft) (gd := gd) hx hy (by omega)
  rwa [show ((a : Int) - 1) = ((a - 1 : Nat) : Int) from by omega] at h
end
theorem wZ {g g' : Prop} (k : g') (h : Hold g' → g := by intro k; (first | ((first | refine l_plain rfl ?_ | refine l_yes rfl rfl rfl ?_); (first | (apply s_val rfl rfl; (first | exact RunS.v (r_move rfl) | exact RunS.v (r_assign rfl) | (apply k_load; first | exact r_load rfl rfl (rd_blk 0 rfl rfl) | exact r_load rfl rfl (rd_blk 1 rfl rfl) | exact r_load rfl rfl (rd_blk 2 rfl rfl) | exact r_load rfl rfl (rd_blk 3 rfl rfl) | exact r_load rfl rfl (rd_blk 4 rfl rfl) | exact r_load rfl rfl (rd_blk 5 rfl rfl) | exact r_load rfl rfl (rd_blk 6 rfl rfl) | exact r_loadN rfl rfl rfl (rdn_all 0 rfl) | exact r_loadN rfl rfl rfl (rdn_all 1 rfl) | exact r_loadN rfl rfl rfl (rdn_all 2 rfl) | exact r_loadN rfl rfl rfl (rdn_all 3 rfl) | exact r_loadN rfl rfl rfl (rdn_all 4 rfl) | exact r_loadN rfl rfl rfl (rdn_all 5 rfl) | exact r_loadN rfl rfl rfl (rdn_all 6 rfl)) | (apply k_bin; first | exact RunS.v (r_shN rfl rfl) | exact RunS.v (r_mdN rfl rfl (by omega)) | exact RunS.v (r_anN rfl rfl (by omega)) | exact RunS.v (r_adN rfl rfl (by omega)) | exact RunS.v (r_sbN rfl rfl (by omega)) | exact RunS.v (r_incN rfl rfl (by omega)) | exact RunS.v (r_decN rfl rfl (by omega)) | exact RunS.v (r_sh rfl rfl) | exact RunS.v (r_md rfl rfl (by omega)) | exact RunS.v (r_an rfl rfl (by omega)) | exact RunS.v (r_strAdd rfl rfl (by assumption)) | exact RunS.v (r_lss rfl rfl) | exact RunS.v (r_gtr rfl rfl) | exact RunS.v (r_eql rfl rfl) | exact RunS.v (r_neq rfl rfl) | exact RunS.v (r_leq rfl rfl) | exact RunS.v (r_geq rfl rfl) | exact RunS.v (r_add64 rfl rfl (by omega)) | exact RunS.v (r_sub64 rfl rfl (by omega)) | exact RunS.v (r_mul64 rfl rfl (by omega)) | exact RunS.v (r_strEqD rfl rfl) | exact RunS.v (r_strNe rfl rfl) | exact RunS.v (r_shr rfl rfl (by decide)) | exact RunS.v (r_fltEq rfl rfl) | exact RunS.v (r_fltNe rfl rfl) | exact RunS.v (r_eqIN rfl rfl) | exact RunS.v (r_neIN rfl rfl) | exact RunS.v (r_eqNN rfl) | exact RunS.v (r_neNN rfl) | exact RunS.v (r_eqNI rfl rfl) | exact RunS.v (r_eqPN rfl rfl) | exact RunS.v (r_nePN rfl rfl) | exact RunS.v (r_eqBool rfl rfl) | exact RunS.v (r_eqFN rfl rfl)) | (apply k_call; first | exact RunS.v (r_lenSl rfl) | exact RunS.v (r_lenStr rfl) | exact RunS.v (r_max rfl rfl) | exact RunS.v (r_min rfl rfl) | exact RunS.v (r_complex rfl rfl) | exact RunS.v (r_real rfl) | exact RunS.v (r_imag rfl)) | (apply k_as; first | exact RunS.v (r_asOk rfl rfl) | exact RunS.v (r_asNo rfl rfl rfl) | exact RunS.v (r_asNil rfl rfl)) | exact RunS.v (r_extract rfl rfl) | exact RunS.v (r_fld rfl) | exact RunS.v (r_nilP rfl) | exact RunS.v (r_conv rfl) | exact RunS.v (r_not rfl) | exact RunS.v (r_iface rfl rfl) | exact RunS.v (r_pickT rfl rfl) | exact RunS.v (r_pickF rfl rfl))) | (first | refine s_build1 rfl rfl rfl rfl rfl rfl rfl ?_ | refine s_alloc rfl rfl ?_ | refine s_box rfl rfl rfl ?_ | refine s_store (i := 0) rfl rfl rfl rfl rfl rfl rfl ?_ | refine s_store (i := 1) rfl rfl rfl rfl rfl rfl rfl ?_ | refine s_store (i := 2) rfl rfl rfl rfl rfl rfl rfl ?_ | refine s_store (i := 3) rfl rfl rfl rfl rfl rfl rfl ?_ | refine s_store (i := 4) rfl rfl rfl rfl rfl rfl rfl ?_ | refine s_store (i := 5) rfl rfl rfl rfl rfl rfl rfl ?_ | refine s_store (i := 6) rfl rfl rfl rfl rfl rfl rfl ?_ | refine s_storeN (i := 0) rfl rfl rfl rfl rfl rfl ?_ | refine s_storeN (i := 1) rfl rfl rfl rfl rfl rfl ?_ | refine s_storeN (i := 2) rfl rfl rfl rfl rfl rfl ?_ | refine s_storeN (i := 3) rfl rfl rfl rfl rfl rfl ?_ | refine s_storeN (i := 4) rfl rfl rfl rfl rfl rfl ?_ | refine s_storeN (i := 5) rfl rfl rfl rfl rfl rfl ?_ | refine s_storeN (i := 6) rfl rfl rfl rfl rfl rfl ?_))) | refine c_seq ?_ | refine c_region ?_ | refine c_block ?_ | refine c_ret ?_ | refine c_skip ?_ | refine c_exit ?_ | refine q_then_n ?_ | refine q_block_n ?_ | refine q_then_x ?_ | refine q_block_x ?_ | refine q_block_y rfl ?_ | refine q_then_r ?_ | refine q_block_r ?_ | refine l_nil ?_ | refine c_condT rfl ?_ | refine c_condF rfl ?_ | refine c_goto ?_ | refine q_then_g ?_ | refine q_block_g ?_ | refine q_then_p ?_ | refine q_block_p ?_ | refine q_jump_r ?_ | refine q_jump_p ?_ | refine q_jump_g ?_ | refine q_jump_n ?_ | refine c_label ?_ | refine l_no rfl rfl rfl rfl rfl rfl ?_ | refine l_noU rfl rfl rfl rfl rfl ?_ | ((first | refine c_quiet (by kernel_rfl) ?_ | refine qt_nil ?_ | refine qt_no rfl rfl rfl rfl rfl rfl ?_ | refine qt_noU rfl rfl rfl rfl rfl ?_ | ((first | apply qt_val rfl rfl rfl | apply qt_valY rfl rfl rfl rfl rfl); (first | exact RunS.v (r_move rfl) | exact RunS.v (r_assign rfl) | (apply k_load; first | exact r_load rfl rfl (rd_blk 0 rfl rfl) | exact r_load rfl rfl (rd_blk 1 rfl rfl) | exact r_load rfl rfl (rd_blk 2 rfl rfl) | exact r_load rfl rfl (rd_blk 3 rfl rfl) | exact r_load rfl rfl (rd_blk 4 rfl rfl) | exact r_load rfl rfl (rd_blk 5 rfl rfl) | exact r_load rfl rfl (rd_blk 6 rfl rfl) | exact r_loadN rfl rfl rfl (rdn_all 0 rfl) | exact r_loadN rfl rfl rfl (rdn_all 1 rfl) | exact r_loadN rfl rfl rfl (rdn_all 2 rfl) | exact r_loadN rfl rfl rfl (rdn_all 3 rfl) | exact r_loadN rfl rfl rfl (rdn_all 4 rfl) | exact r_loadN rfl rfl rfl (rdn_all 5 rfl) | exact r_loadN rfl rfl rfl (rdn_all 6 rfl)) | (apply k_bin; first | exact RunS.v (r_shN rfl rfl) | exact RunS.v (r_mdN rfl rfl (by omega)) | exact RunS.v (r_anN rfl rfl (by omega)) | exact RunS.v (r_adN rfl rfl (by omega)) | exact RunS.v (r_sbN rfl rfl (by omega)) | exact RunS.v (r_incN rfl rfl (by omega)) | exact RunS.v (r_decN rfl rfl (by omega)) | exact RunS.v (r_sh rfl rfl) | exact RunS.v (r_md rfl rfl (by omega)) | exact RunS.v (r_an rfl rfl (by omega)) | exact RunS.v (r_strAdd rfl rfl (by assumption)) | exact RunS.v (r_lss rfl rfl) | exact RunS.v (r_gtr rfl rfl) | exact RunS.v (r_eql rfl rfl) | exact RunS.v (r_neq rfl rfl) | exact RunS.v (r_leq rfl rfl) | exact RunS.v (r_geq rfl rfl) | exact RunS.v (r_add64 rfl rfl (by omega)) | exact RunS.v (r_sub64 rfl rfl (by omega)) | exact RunS.v (r_mul64 rfl rfl (by omega)) | exact RunS.v (r_strEqD rfl rfl) | exact RunS.v (r_strNe rfl rfl) | exact RunS.v (r_shr rfl rfl (by decide)) | exact RunS.v (r_fltEq rfl rfl) | exact RunS.v (r_fltNe rfl rfl) | exact RunS.v (r_eqIN rfl rfl) | exact RunS.v (r_neIN rfl rfl) | exact RunS.v (r_eqNN rfl) | exact RunS.v (r_neNN rfl) | exact RunS.v (r_eqNI rfl rfl) | exact RunS.v (r_eqPN rfl rfl) | exact RunS.v (r_nePN rfl rfl) | exact RunS.v (r_eqBool rfl rfl) | exact RunS.v (r_eqFN rfl rfl)) | (apply k_call; first | exact RunS.v (r_lenSl rfl) | exact RunS.v (r_lenStr rfl) | exact RunS.v (r_max rfl rfl) | exact RunS.v (r_min rfl rfl) | exact RunS.v (r_complex rfl rfl) | exact RunS.v (r_real rfl) | exact RunS.v (r_imag rfl)) | (apply k_as; first | exact RunS.v (r_asOk rfl rfl) | exact RunS.v (r_asNo rfl rfl rfl) | exact RunS.v (r_asNil rfl rfl)) | exact RunS.v (r_extract rfl rfl) | exact RunS.v (r_fld rfl) | exact RunS.v (r_nilP rfl) | exact RunS.v (r_conv rfl) | exact RunS.v (r_not rfl) | exact RunS.v (r_iface rfl rfl) | exact RunS.v (r_pickT rfl rfl) | exact RunS.v (r_pickF rfl rfl)))))); (repeat (first | ((first | refine l_plain rfl ?_ | refine l_yes rfl rfl rfl ?_); (first | (apply s_val rfl rfl; (first | exact RunS.v (r_move rfl) | exact RunS.v (r_assign rfl) | (apply k_load; first | exact r_load rfl rfl (rd_blk 0 rfl rfl) | exact r_load rfl rfl (rd_blk 1 rfl rfl) | exact r_load rfl rfl (rd_blk 2 rfl rfl) | exact r_load rfl rfl (rd_blk 3 rfl rfl) | exact r_load rfl rfl (rd_blk 4 rfl rfl) | exact r_load rfl rfl (rd_blk 5 rfl rfl) | exact r_load rfl rfl (rd_blk 6 rfl rfl) | exact r_loadN rfl rfl rfl (rdn_all 0 rfl) | exact r_loadN rfl rfl rfl (rdn_all 1 rfl) | exact r_loadN rfl rfl rfl (rdn_all 2 rfl) | exact r_loadN rfl rfl rfl (rdn_all 3 rfl) | exact r_loadN rfl rfl rfl (rdn_all 4 rfl) | exact r_loadN rfl rfl rfl (rdn_all 5 rfl) | exact r_loadN rfl rfl rfl (rdn_all 6 rfl)) | (apply k_bin; first | exact RunS.v (r_shN rfl rfl) | exact RunS.v (r_mdN rfl rfl (by omega)) | exact RunS.v (r_anN rfl rfl (by omega)) | exact RunS.v (r_adN rfl rfl (by omega)) | exact RunS.v (r_sbN rfl rfl (by omega)) | exact RunS.v (r_incN rfl rfl (by omega)) | exact RunS.v (r_decN rfl rfl (by omega)) | exact RunS.v (r_sh rfl rfl) | exact RunS.v (r_md rfl rfl (by omega)) | exact RunS.v (r_an rfl rfl (by omega)) | exact RunS.v (r_strAdd rfl rfl (by assumption)) | exact RunS.v (r_lss rfl rfl) | exact RunS.v (r_gtr rfl rfl) | exact RunS.v (r_eql rfl rfl) | exact RunS.v (r_neq rfl rfl) | exact RunS.v (r_leq rfl rfl) | exact RunS.v (r_geq rfl rfl) | exact RunS.v (r_add64 rfl rfl (by omega)) | exact RunS.v (r_sub64 rfl rfl (by omega)) | exact RunS.v (r_mul64 rfl rfl (by omega)) | exact RunS.v (r_strEqD rfl rfl) | exact RunS.v (r_strNe rfl rfl) | exact RunS.v (r_shr rfl rfl (by decide)) | exact RunS.v (r_fltEq rfl rfl) | exact RunS.v (r_fltNe rfl rfl) | exact RunS.v (r_eqIN rfl rfl) | exact RunS.v (r_neIN rfl rfl) | exact RunS.v (r_eqNN rfl) | exact RunS.v (r_neNN rfl) | exact RunS.v (r_eqNI rfl rfl) | exact RunS.v (r_eqPN rfl rfl) | exact RunS.v (r_nePN rfl rfl) | exact RunS.v (r_eqBool rfl rfl) | exact RunS.v (r_eqFN rfl rfl)) | (apply k_call; first | exact RunS.v (r_lenSl rfl) | exact RunS.v (r_lenStr rfl) | exact RunS.v (r_max rfl rfl) | exact RunS.v (r_min rfl rfl) | exact RunS.v (r_complex rfl rfl) | exact RunS.v (r_real rfl) | exact RunS.v (r_imag rfl)) | (apply k_as; first | exact RunS.v (r_asOk rfl rfl) | exact RunS.v (r_asNo rfl rfl rfl) | exact RunS.v (r_asNil rfl rfl)) | exact RunS.v (r_extract rfl rfl) | exact RunS.v (r_fld rfl) | exact RunS.v (r_nilP rfl) | exact RunS.v (r_conv rfl) | exact RunS.v (r_not rfl) | exact RunS.v (r_iface rfl rfl) | exact RunS.v (r_pickT rfl rfl) | exact RunS.v (r_pickF rfl rfl))) | (first | refine s_build1 rfl rfl rfl rfl rfl rfl rfl ?_ | refine s_alloc rfl rfl ?_ | refine s_box rfl rfl rfl ?_ | refine s_store (i := 0) rfl rfl rfl rfl rfl rfl rfl ?_ | refine s_store (i := 1) rfl rfl rfl rfl rfl rfl rfl ?_ | refine s_store (i := 2) rfl rfl rfl rfl rfl rfl rfl ?_ | refine s_store (i := 3) rfl rfl rfl rfl rfl rfl rfl ?_ | refine s_store (i := 4) rfl rfl rfl rfl rfl rfl rfl ?_ | refine s_store (i := 5) rfl rfl rfl rfl rfl rfl rfl ?_ | refine s_store (i := 6) rfl rfl rfl rfl rfl rfl rfl ?_ | refine s_storeN (i := 0) rfl rfl rfl rfl rfl rfl ?_ | refine s_storeN (i := 1) rfl rfl rfl rfl rfl rfl ?_ | refine s_storeN (i := 2) rfl rfl rfl rfl rfl rfl ?_ | refine s_storeN (i := 3) rfl rfl rfl rfl rfl rfl ?_ | refine s_storeN (i := 4) rfl rfl rfl rfl rfl rfl ?_ | refine s_storeN (i := 5) rfl rfl rfl rfl rfl rfl ?_ | refine s_storeN (i := 6) rfl rfl rfl rfl rfl rfl ?_))) | refine c_seq ?_ | refine c_region ?_ | refine c_block ?_ | refine c_ret ?_ | refine c_skip ?_ | refine c_exit ?_ | refine q_then_n ?_ | refine q_block_n ?_ | refine q_then_x ?_ | refine q_block_x ?_ | refine q_block_y rfl ?_ | refine q_then_r ?_ | refine q_block_r ?_ | refine l_nil ?_ | refine c_condT rfl ?_ | refine c_condF rfl ?_ | refine c_goto ?_ | refine q_then_g ?_ | refine q_block_g ?_ | refine q_then_p ?_ | refine q_block_p ?_ | refine q_jump_r ?_ | refine q_jump_p ?_ | refine q_jump_g ?_ | refine q_jump_n ?_ | refine c_label ?_ | refine l_no rfl rfl rfl rfl rfl rfl ?_ | refine l_noU rfl rfl rfl rfl rfl ?_ | ((first | refine c_quiet (by kernel_rfl) ?_ | refine qt_nil ?_ | refine qt_no rfl rfl rfl rfl rfl rfl ?_ | refine qt_noU rfl rfl rfl rfl rfl ?_ | ((first | apply qt_val rfl rfl rfl | apply qt_valY rfl rfl rfl rfl rfl); (first | exact RunS.v (r_move rfl) | exact RunS.v (r_assign rfl) | (apply k_load; first | exact r_load rfl rfl (rd_blk 0 rfl rfl) | exact r_load rfl rfl (rd_blk 1 rfl rfl) | exact r_load rfl rfl (rd_blk 2 rfl rfl) | exact r_load rfl rfl (rd_blk 3 rfl rfl) | exact r_load rfl rfl (rd_blk 4 rfl rfl) | exact r_load rfl rfl (rd_blk 5 rfl rfl) | exact r_load rfl rfl (rd_blk 6 rfl rfl) | exact r_loadN rfl rfl rfl (rdn_all 0 rfl) | exact r_loadN rfl rfl rfl (rdn_all 1 rfl) | exact r_loadN rfl rfl rfl (rdn_all 2 rfl) | exact r_loadN rfl rfl rfl (rdn_all 3 rfl) | exact r_loadN rfl rfl rfl (rdn_all 4 rfl) | exact r_loadN rfl rfl rfl (rdn_all 5 rfl) | exact r_loadN rfl rfl rfl (rdn_all 6 rfl)) | (apply k_bin; first | exact RunS.v (r_shN rfl rfl) | exact RunS.v (r_mdN rfl rfl (by omega)) | exact RunS.v (r_anN rfl rfl (by omega)) | exact RunS.v (r_adN rfl rfl (by omega)) | exact RunS.v (r_sbN rfl rfl (by omega)) | exact RunS.v (r_incN rfl rfl (by omega)) | exact RunS.v (r_decN rfl rfl (by omega)) | exact RunS.v (r_sh rfl rfl) | exact RunS.v (r_md rfl rfl (by omega)) | exact RunS.v (r_an rfl rfl (by omega)) | exact RunS.v (r_strAdd rfl rfl (by assumption)) | exact RunS.v (r_lss rfl rfl) | exact RunS.v (r_gtr rfl rfl) | exact RunS.v (r_eql rfl rfl) | exact RunS.v (r_neq rfl rfl) | exact RunS.v (r_leq rfl rfl) | exact RunS.v (r_geq rfl rfl) | exact RunS.v (r_add64 rfl rfl (by omega)) | exact RunS.v (r_sub64 rfl rfl (by omega)) | exact RunS.v (r_mul64 rfl rfl (by omega)) | exact RunS.v (r_strEqD rfl rfl) | exact RunS.v (r_strNe rfl rfl) | exact RunS.v (r_shr rfl rfl (by decide)) | exact RunS.v (r_fltEq rfl rfl) | exact RunS.v (r_fltNe rfl rfl) | exact RunS.v (r_eqIN rfl rfl) | exact RunS.v (r_neIN rfl rfl) | exact RunS.v (r_eqNN rfl) | exact RunS.v (r_neNN rfl) | exact RunS.v (r_eqNI rfl rfl) | exact RunS.v (r_eqPN rfl rfl) | exact RunS.v (r_nePN rfl rfl) | exact RunS.v (r_eqBool rfl rfl) | exact RunS.v (r_eqFN rfl rfl)) | (apply k_call; first | exact RunS.v (r_lenSl rfl) | exact RunS.v (r_lenStr rfl) | exact RunS.v (r_max rfl rfl) | exact RunS.v (r_min rfl rfl) | exact RunS.v (r_complex rfl rfl) | exact RunS.v (r_real rfl) | exact RunS.v (r_imag rfl)) | (apply k_as; first | exact RunS.v (r_asOk rfl rfl) | exact RunS.v (r_asNo rfl rfl rfl) | exact RunS.v (r_asNil rfl rfl)) | exact RunS.v (r_extract rfl rfl) | exact RunS.v (r_fld rfl) | exact RunS.v (r_nilP rfl) | exact RunS.v (r_conv rfl) | exact RunS.v (r_not rfl) | exact RunS.v (r_iface rfl rfl) | exact RunS.v (r_pickT rfl rfl) | exact RunS.v (r_pickF rfl rfl))))))); exact k.out) : g := h ⟨k⟩
theorem wY {g g' : Prop} (k : g') (h : Hold g' → g := by intro k; (first | ((first | refine l_plain rfl ?_ | refine l_yes rfl rfl rfl ?_); (first | (apply s_val rfl rfl; (first | exact RunS.v (r_move rfl) | exact RunS.v (r_assign rfl) | (apply k_load; first | exact r_load rfl rfl (rd_blk 0 rfl rfl) | exact r_load rfl rfl (rd_blk 1 rfl rfl) | exact r_load rfl rfl (rd_blk 2 rfl rfl) | exact r_load rfl rfl (rd_blk 3 rfl rfl) | exact r_load rfl rfl (rd_blk 4 rfl rfl) | exact r_load rfl rfl (rd_blk 5 rfl rfl) | exact r_load rfl rfl (rd_blk 6 rfl rfl) | exact r_loadN rfl rfl rfl (rdn_all 0 rfl) | exact r_loadN rfl rfl rfl (rdn_all 1 rfl) | exact r_loadN rfl rfl rfl (rdn_all 2 rfl) | exact r_loadN rfl rfl rfl (rdn_all 3 rfl) | exact r_loadN rfl rfl rfl (rdn_all 4 rfl) | exact r_loadN rfl rfl rfl (rdn_all 5 rfl) | exact r_loadN rfl rfl rfl (rdn_all 6 rfl)) | (apply k_bin; first | exact RunS.v (r_shN rfl rfl) | exact RunS.v (r_mdN rfl rfl (by omega)) | exact RunS.v (r_anN rfl rfl (by omega)) | exact RunS.v (r_adN rfl rfl (by omega)) | exact RunS.v (r_sbN rfl rfl (by omega)) | exact RunS.v (r_incN rfl rfl (by omega)) | exact RunS.v (r_decN rfl rfl (by omega)) | exact RunS.v (r_sh rfl rfl) | exact RunS.v (r_md rfl rfl (by omega)) | exact RunS.v (r_an rfl rfl (by omega)) | exact RunS.v (r_strAdd rfl rfl (by assumption)) | exact RunS.v (r_lss rfl rfl) | exact RunS.v (r_gtr rfl rfl) | exact RunS.v (r_eql rfl rfl) | exact RunS.v (r_neq rfl rfl) | exact RunS.v (r_leq rfl rfl) | exact RunS.v (r_geq rfl rfl) | exact RunS.v (r_add64 rfl rfl (by omega)) | exact RunS.v (r_sub64 rfl rfl (by omega)) | exact RunS.v (r_mul64 rfl rfl (by omega)) | exact RunS.v (r_strEqD rfl rfl) | exact RunS.v (r_strNe rfl rfl) | exact RunS.v (r_shr rfl rfl (by decide)) | exact RunS.v (r_fltEq rfl rfl) | exact RunS.v (r_fltNe rfl rfl) | exact RunS.v (r_eqIN rfl rfl) | exact RunS.v (r_neIN rfl rfl) | exact RunS.v (r_eqNN rfl) | exact RunS.v (r_neNN rfl) | exact RunS.v (r_eqNI rfl rfl) | exact RunS.v (r_eqPN rfl rfl) | exact RunS.v (r_nePN rfl rfl) | exact RunS.v (r_eqBool rfl rfl) | exact RunS.v (r_eqFN rfl rfl)) | (apply k_call; first | exact RunS.v (r_lenSl rfl) | exact RunS.v (r_lenStr rfl) | exact RunS.v (r_max rfl rfl) | exact RunS.v (r_min rfl rfl) | exact RunS.v (r_complex rfl rfl) | exact RunS.v (r_real rfl) | exact RunS.v (r_imag rfl)) | (apply k_as; first | exact RunS.v (r_asOk rfl rfl) | exact RunS.v (r_asNo rfl rfl rfl) | exact RunS.v (r_asNil rfl rfl)) | exact RunS.v (r_extract rfl rfl) | exact RunS.v (r_fld rfl) | exact RunS.v (r_nilP rfl) | exact RunS.v (r_conv rfl) | exact RunS.v (r_not rfl) | exact RunS.v (r_iface rfl rfl) | exact RunS.v (r_pickT rfl rfl) | exact RunS.v (r_pickF rfl rfl))) | (first | refine s_build1 rfl rfl rfl rfl rfl rfl rfl ?_ | refine s_alloc rfl rfl ?_ | refine s_box rfl rfl rfl ?_ | refine s_store (i := 0) rfl rfl rfl rfl rfl rfl rfl ?_ | refine s_store (i := 1) rfl rfl rfl rfl rfl rfl rfl ?_ | refine s_store (i := 2) rfl rfl rfl rfl rfl rfl rfl ?_ | refine s_store (i := 3) rfl rfl rfl rfl rfl rfl rfl ?_ | refine s_store (i := 4) rfl rfl rfl rfl rfl rfl rfl ?_ | refine s_store (i := 5) rfl rfl rfl rfl rfl rfl rfl ?_ | refine s_store (i := 6) rfl rfl rfl rfl rfl rfl rfl ?_ | refine s_storeN (i := 0) rfl rfl rfl rfl rfl rfl ?_ | refine s_storeN (i := 1) rfl rfl rfl rfl rfl rfl ?_ | refine s_storeN (i := 2) rfl rfl rfl rfl rfl rfl ?_ | refine s_storeN (i := 3) rfl rfl rfl rfl rfl rfl ?_ | refine s_storeN (i := 4) rfl rfl rfl rfl rfl rfl ?_ | refine s_storeN (i := 5) rfl rfl rfl rfl rfl rfl ?_ | refine s_storeN (i := 6) rfl rfl rfl rfl rfl rfl ?_))) | refine c_seq ?_ | refine c_region ?_ | refine c_block ?_ | refine c_ret ?_ | refine c_skip ?_ | refine c_exit ?_ | refine q_then_n ?_ | refine q_block_n ?_ | refine q_then_x ?_ | refine q_block_x ?_ | refine q_block_y rfl ?_ | refine q_then_r ?_ | refine q_block_r ?_ | refine l_nil ?_ | refine c_condT rfl ?_ | refine c_condF rfl ?_ | refine c_goto ?_ | refine q_then_g ?_ | refine q_block_g ?_ | refine q_then_p ?_ | refine q_block_p ?_ | refine q_jump_r ?_ | refine q_jump_p ?_ | refine q_jump_g ?_ | refine q_jump_n ?_ | refine c_label ?_ | refine l_no rfl rfl rfl rfl rfl rfl ?_ | refine l_noU rfl rfl rfl rfl rfl ?_); (repeat (first | ((first | refine l_plain rfl ?_ | refine l_yes rfl rfl rfl ?_); (first | (apply s_val rfl rfl; (first | exact RunS.v (r_move rfl) | exact RunS.v (r_assign rfl) | (apply k_load; first | exact r_load rfl rfl (rd_blk 0 rfl rfl) | exact r_load rfl rfl (rd_blk 1 rfl rfl) | exact r_load rfl rfl (rd_blk 2 rfl rfl) | exact r_load rfl rfl (rd_blk 3 rfl rfl) | exact r_load rfl rfl (rd_blk 4 rfl rfl) | exact r_load rfl rfl (rd_blk 5 rfl rfl) | exact r_load rfl rfl (rd_blk 6 rfl rfl) | exact r_loadN rfl rfl rfl (rdn_all 0 rfl) | exact r_loadN rfl rfl rfl (rdn_all 1 rfl) | exact r_loadN rfl rfl rfl (rdn_all 2 rfl) | exact r_loadN rfl rfl rfl (rdn_all 3 rfl) | exact r_loadN rfl rfl rfl (rdn_all 4 rfl) | exact r_loadN rfl rfl rfl (rdn_all 5 rfl) | exact r_loadN rfl rfl rfl (rdn_all 6 rfl)) | (apply k_bin; first | exact RunS.v (r_shN rfl rfl) | exact RunS.v (r_mdN rfl rfl (by omega)) | exact RunS.v (r_anN rfl rfl (by omega)) | exact RunS.v (r_adN rfl rfl (by omega)) | exact RunS.v (r_sbN rfl rfl (by omega)) | exact RunS.v (r_incN rfl rfl (by omega)) | exact RunS.v (r_decN rfl rfl (by omega)) | exact RunS.v (r_sh rfl rfl) | exact RunS.v (r_md rfl rfl (by omega)) | exact RunS.v (r_an rfl rfl (by omega)) | exact RunS.v (r_strAdd rfl rfl (by assumption)) | exact RunS.v (r_lss rfl rfl) | exact RunS.v (r_gtr rfl rfl) | exact RunS.v (r_eql rfl rfl) | exact RunS.v (r_neq rfl rfl) | exact RunS.v (r_leq rfl rfl) | exact RunS.v (r_geq rfl rfl) | exact RunS.v (r_add64 rfl rfl (by omega)) | exact RunS.v (r_sub64 rfl rfl (by omega)) | exact RunS.v (r_mul64 rfl rfl (by omega)) | exact RunS.v (r_strEqD rfl rfl) | exact RunS.v (r_strNe rfl rfl) | exact RunS.v (r_shr rfl rfl (by decide)) | exact RunS.v (r_fltEq rfl rfl) | exact RunS.v (r_fltNe rfl rfl) | exact RunS.v (r_eqIN rfl rfl) | exact RunS.v (r_neIN rfl rfl) | exact RunS.v (r_eqNN rfl) | exact RunS.v (r_neNN rfl) | exact RunS.v (r_eqNI rfl rfl) | exact RunS.v (r_eqPN rfl rfl) | exact RunS.v (r_nePN rfl rfl) | exact RunS.v (r_eqBool rfl rfl) | exact RunS.v (r_eqFN rfl rfl)) | (apply k_call; first | exact RunS.v (r_lenSl rfl) | exact RunS.v (r_lenStr rfl) | exact RunS.v (r_max rfl rfl) | exact RunS.v (r_min rfl rfl) | exact RunS.v (r_complex rfl rfl) | exact RunS.v (r_real rfl) | exact RunS.v (r_imag rfl)) | (apply k_as; first | exact RunS.v (r_asOk rfl rfl) | exact RunS.v (r_asNo rfl rfl rfl) | exact RunS.v (r_asNil rfl rfl)) | exact RunS.v (r_extract rfl rfl) | exact RunS.v (r_fld rfl) | exact RunS.v (r_nilP rfl) | exact RunS.v (r_conv rfl) | exact RunS.v (r_not rfl) | exact RunS.v (r_iface rfl rfl) | exact RunS.v (r_pickT rfl rfl) | exact RunS.v (r_pickF rfl rfl))) | (first | refine s_build1 rfl rfl rfl rfl rfl rfl rfl ?_ | refine s_alloc rfl rfl ?_ | refine s_box rfl rfl rfl ?_ | refine s_store (i := 0) rfl rfl rfl rfl rfl rfl rfl ?_ | refine s_store (i := 1) rfl rfl rfl rfl rfl rfl rfl ?_ | refine s_store (i := 2) rfl rfl rfl rfl rfl rfl rfl ?_ | refine s_store (i := 3) rfl rfl rfl rfl rfl rfl rfl ?_ | refine s_store (i := 4) rfl rfl rfl rfl rfl rfl rfl ?_ | refine s_store (i := 5) rfl rfl rfl rfl rfl rfl rfl ?_ | refine s_store (i := 6) rfl rfl rfl rfl rfl rfl rfl ?_ | refine s_storeN (i := 0) rfl rfl rfl rfl rfl rfl ?_ | refine s_storeN (i := 1) rfl rfl rfl rfl rfl rfl ?_ | refine s_storeN (i := 2) rfl rfl rfl rfl rfl rfl ?_ | refine s_storeN (i := 3) rfl rfl rfl rfl rfl rfl ?_ | refine s_storeN (i := 4) rfl rfl rfl rfl rfl rfl ?_ | refine s_storeN (i := 5) rfl rfl rfl rfl rfl rfl ?_ | refine s_storeN (i := 6) rfl rfl rfl rfl rfl rfl ?_))) | refine c_seq ?_ | refine c_region ?_ | refine c_block ?_ | refine c_ret ?_ | refine c_skip ?_ | refine c_exit ?_ | refine q_then_n ?_ | refine q_block_n ?_ | refine q_then_x ?_ | refine q_block_x ?_ | refine q_block_y rfl ?_ | refine q_then_r ?_ | refine q_block_r ?_ | refine l_nil ?_ | refine c_condT rfl ?_ | refine c_condF rfl ?_ | refine c_goto ?_ | refine q_then_g ?_ | refine q_block_g ?_ | refine q_then_p ?_ | refine q_block_p ?_ | refine q_jump_r ?_ | refine q_jump_p ?_ | refine q_jump_g ?_ | refine q_jump_n ?_ | refine c_label ?_ | refine l_no rfl rfl rfl rfl rfl rfl ?_ | refine l_noU rfl rfl rfl rfl rfl ?_)); exact k.out) : g := h ⟨k⟩
end Go.Sl
namespace Go.Sl
open Go
set_option maxRecDepth 100000
section
variable {P : Program} {n : Nat} {ds : List Deferred} {σ : Env} {m : Amb} {L LS : List HP} {Q : Exit → Act → World → Prop} {K : Act → World → Prop} {ops : Array Oper} {fuel : Nat} {listed : Array Bool} {d : Nat}
/-- what follows a panic does not look at this slot -/
def PId (d : Nat) (Q : Exit → Act → World → Prop) : Prop := ∀ (v : Value) (c : List PanicEntry) (a : Act) (w : World), Q (.panic c) (a.put (some d) v) w → Q (.panic c) a w
theorem pid_body {fn : Func} {R : Ending → World → Prop} : PId d (bodyPost P fn R) := fun _v _c _a _w h => h
theorem pid_block {i : Nat} (h : PId d Q) : PId d (Exit.inBlock i Q) := fun v c a w hq => h v c a w hq
theorem pid_then (h : PId d Q) : PId d (Exit.then K Q) := fun v c a w hq => h v c a w hq
theorem pid_jump {l : Nat} (h : PId d Q) : PId d (Exit.jump l K Q) := fun v c a w hq => h v c a w hq
theorem leaves_congr {fn : Func} {R : Ending → World → Prop} {t t' : Array Value} (he : ∀ w, (results fn t).run P w = (results fn t').run P w) : ∀ (ds : List Deferred) (u : FrameMode) (w : World), Leaves P fn t R ds u w → Leaves P fn t' R ds u w
  | [], .returning, w, h => by obtain ⟨v, h1, h2⟩ := h; exact ⟨v, (he w) ▸ h1, h2⟩
  | [], .panicking c, w, h => h
  | [], .run, w, h => h
  | d :: ds, u, w, h => by
    obtain ⟨h1, fv, cap, f, args, h2, h3, h4⟩ := h
    refine ⟨h1, fv, cap, f, args, h2, h3, h4.mono fun e u' w' hr => ?_⟩
    cases e with
    | returned v => exact leaves_congr he ds _ _ hr
    | panicked c => exact leaves_congr he ds _ _ hr
    | outgrown => exact hr
theorem put_get {a : Act} {v : Value} {t : Nat} (h : Nat.beq t d = false) : (a.put (some d) v).tmps[t]?.getD undef = a.tmps[t]?.getD undef := by
  have hne : d ≠ t := fun e => by subst e; rw [Nat.beq_refl] at h; cases h
  simp [Act.put, Array.getElem?_setIfInBounds_ne hne]
theorem pid_bodyD1 {fn : Func} {R : Ending → World → Prop} {t : Nat} (hf : fn.results = #[.tmp t]) (h1 : Nat.beq t d = false) : PId d (bodyPostD P fn R) := fun v c a w h => by
  show Leaves P fn a.tmps R a.defers (.panicking c) w
  exact leaves_congr (fun w' => by simp [results, hf, put_get h1]) _ _ _ h
theorem pid_bodyD2 {fn : Func} {R : Ending → World → Prop} {t u : Nat} (hf : fn.results = #[.tmp t, .tmp u]) (h1 : Nat.beq t d = false) (h2 : Nat.beq u d = false) : PId d (bodyPostD P fn R) := fun v c a w h => by
  show Leaves P fn a.tmps R a.defers (.panicking c) w
  exact leaves_congr (fun w' => by simp [results, hf, put_get h1, put_get h2]) _ _ _ h
theorem pid_bodyD3 {fn : Func} {R : Ending → World → Prop} {t u x t' u' x' : Nat} (hf : fn.results = #[.cell t t', .cell u u', .cell x x']) (h1 : Nat.beq t d = false) (h2 : Nat.beq u d = false) (h3 : Nat.beq x d = false) : PId d (bodyPostD P fn R) := fun v c a w h => by
  show Leaves P fn a.tmps R a.defers (.panicking c) w
  exact leaves_congr (fun w' => by simp [results, hf, put_get h1, put_get h2, put_get h3]) _ _ _ h
/-- a region whose order is open: what is in LS stands as long as the region lasts -/
theorem h_any {id : Nat} {l : List Oper} [hm : Mixed P] (LS : List HP) (fuel : Nat) (hf : l.length = fuel) (h : G n ds σ m L (wpAnyH P .any l.toArray Q (Sat m LS) fuel (Array.replicate fuel false))) : G n ds σ m L ((Code.region id l.toArray true).wp P Q) :=
  fun a w h1 h2 h3 h4 => wp_region_held (S := Sat m LS) hm.h (by subst hf; exact h a _ h1 h2 h3 (h4.drawn _))
theorem h_done (hr : Region.ready .any ops listed = []) (h : G n ds σ m L (Q .normal)) : G n ds σ m L (wpAnyH P .any ops Q (Sat m LS) fuel listed) := fun a w h1 h2 h3 h4 => wpAnyH_done hr (h a w h1 h2 h3 h4) fuel
theorem h_take {o : Oper} {v : Value} (e : Ent L LS) (i : Nat) (hi : ops[i]? = some o) (hs : Region.noSelect ops = true) (hf : Region.free .any ops listed i = true) (hr : (Region.ready .any ops listed).contains i = true) (hg : o.guard = none) (hd : o.dst = some d) (hk : Nat.blt d n = true)
    (hQ : PId d Q) (hv : RunV P o σ m LS v) (h : G n ds ((d, v) :: σ) m L (wpAnyH P .any ops Q (Sat m LS) fuel (listed.setIfInBounds i true))) :
    G n ds σ m L (wpAnyH P .any ops Q (Sat m LS) (fuel + 1) listed) := fun a w h1 h2 h3 h4 => by
  have hk : d < a.tmps.size := by rw [h2]; exact ltOf hk
  refine wpAnyH_take hi hs hf hr (by rw [hd]; exact fun c a w hq => hQ v c a w hq) (.inl ⟨by simp [Region.wanted, hg], fun w' hw' => hv a w' h3 hw'⟩) (h4.ent e) ?_
  rw [hd]
  exact h _ w h1 (by simp [Act.put, h2]) (h3.put hk v) h4
theorem h_one {o : Oper} (i : Nat) (hr : Region.ready .any ops listed = [i]) (hi : ops[i]? = some o) (hg : o.guard = none) (h : G n ds σ m L (St P o (fun a' w' => Sat m LS w' ∧ wpAnyH P .any ops Q (Sat m LS) fuel (listed.setIfInBounds i true) a' w') Q)) :
    G n ds σ m L (wpAnyH P .any ops Q (Sat m LS) (fuel + 1) listed) := fun a w h1 h2 h3 h4 =>
  wpAnyH_all hr (by simp) fun k hk => by
    simp at hk; subst hk; exact a_op hi hg h a w h1 h2 h3 h4
theorem h_then {X : Act → World → Prop} (e : Ent L LS) (h : G n ds σ m L X) : G n ds σ m L (fun a' w' => Sat m LS w' ∧ X a' w') := fun a w h1 h2 h3 h4 => ⟨h4.ent e, h a w h1 h2 h3 h4⟩
theorem Ent.nil : Ent L [] := fun _ _ => trivial
end
theorem rV {P : Program} {o : Oper} {σ : Env} {m : Amb} {L : List HP} {v : Value} (h : RunV P o σ m L v := by first | exact RunS.v (r_move rfl) | exact RunS.v (r_assign rfl) | (apply k_load; first | exact r_load rfl rfl (rd_blk 0 rfl rfl) | exact r_load rfl rfl (rd_blk 1 rfl rfl) | exact r_load rfl rfl (rd_blk 2 rfl rfl) | exact r_load rfl rfl (rd_blk 3 rfl rfl) | exact r_load rfl rfl (rd_blk 4 rfl rfl) | exact r_load rfl rfl (rd_blk 5 rfl rfl) | exact r_load rfl rfl (rd_blk 6 rfl rfl) | exact r_loadN rfl rfl rfl (rdn_all 0 rfl) | exact r_loadN rfl rfl rfl (rdn_all 1 rfl) | exact r_loadN rfl rfl rfl (rdn_all 2 rfl) | exact r_loadN rfl rfl rfl (rdn_all 3 rfl) | exact r_loadN rfl rfl rfl (rdn_all 4 rfl) | exact r_loadN rfl rfl rfl (rdn_all 5 rfl) | exact r_loadN rfl rfl rfl (rdn_all 6 rfl)) | (apply k_bin; first | exact RunS.v (r_shN rfl rfl) | exact RunS.v (r_mdN rfl rfl (by omega)) | exact RunS.v (r_anN rfl rfl (by omega)) | exact RunS.v (r_adN rfl rfl (by omega)) | exact RunS.v (r_sbN rfl rfl (by omega)) | exact RunS.v (r_incN rfl rfl (by omega)) | exact RunS.v (r_decN rfl rfl (by omega)) | exact RunS.v (r_sh rfl rfl) | exact RunS.v (r_md rfl rfl (by omega)) | exact RunS.v (r_an rfl rfl (by omega)) | exact RunS.v (r_strAdd rfl rfl (by assumption)) | exact RunS.v (r_lss rfl rfl) | exact RunS.v (r_gtr rfl rfl) | exact RunS.v (r_eql rfl rfl) | exact RunS.v (r_neq rfl rfl) | exact RunS.v (r_leq rfl rfl) | exact RunS.v (r_geq rfl rfl) | exact RunS.v (r_add64 rfl rfl (by omega)) | exact RunS.v (r_sub64 rfl rfl (by omega)) | exact RunS.v (r_mul64 rfl rfl (by omega)) | exact RunS.v (r_strEqD rfl rfl) | exact RunS.v (r_strNe rfl rfl) | exact RunS.v (r_shr rfl rfl (by decide)) | exact RunS.v (r_fltEq rfl rfl) | exact RunS.v (r_fltNe rfl rfl) | exact RunS.v (r_eqIN rfl rfl) | exact RunS.v (r_neIN rfl rfl) | exact RunS.v (r_eqNN rfl) | exact RunS.v (r_neNN rfl) | exact RunS.v (r_eqNI rfl rfl) | exact RunS.v (r_eqPN rfl rfl) | exact RunS.v (r_nePN rfl rfl) | exact RunS.v (r_eqBool rfl rfl) | exact RunS.v (r_eqFN rfl rfl)) | (apply k_call; first | exact RunS.v (r_lenSl rfl) | exact RunS.v (r_lenStr rfl) | exact RunS.v (r_max rfl rfl) | exact RunS.v (r_min rfl rfl) | exact RunS.v (r_complex rfl rfl) | exact RunS.v (r_real rfl) | exact RunS.v (r_imag rfl)) | (apply k_as; first | exact RunS.v (r_asOk rfl rfl) | exact RunS.v (r_asNo rfl rfl rfl) | exact RunS.v (r_asNil rfl rfl)) | exact RunS.v (r_extract rfl rfl) | exact RunS.v (r_fld rfl) | exact RunS.v (r_nilP rfl) | exact RunS.v (r_conv rfl) | exact RunS.v (r_not rfl) | exact RunS.v (r_iface rfl rfl) | exact RunS.v (r_pickT rfl rfl) | exact RunS.v (r_pickF rfl rfl)) : RunV P o σ m L v := h
theorem pQ {d : Nat} {Q : Exit → Act → World → Prop} (h : PId d Q := by repeat (first | exact pid_body | refine pid_then ?_ | refine pid_block ?_ | refine pid_jump ?_ | exact pid_bodyD1 rfl rfl | exact pid_bodyD2 rfl rfl rfl | exact pid_bodyD3 rfl rfl rfl rfl)) : PId d Q := h
end Go.Sl
namespace Go.Proofs.YtfebpbflpdppiaaGreatDoor
open Go Go.Sl
set_option maxRecDepth 100000
abbrev Cn := Nat → UInt8
/-- a content with bytes laid over it from a place on -/
def ov (c : Cn) (o : Nat) (bs : List UInt8) : Cn := fun i => if o ≤ i ∧ i < o + bs.length then bs.getD (i - o) 0 else c i
/-- a content with nothing from a place on -/
def cutC (c : Cn) (n : Nat) : Cn := fun i => if i < n then c i else 0
/-- a content with zeros between two places -/
def zc (c : Cn) (a b : Nat) : Cn := fun i => if a ≤ i ∧ i < b then 0 else c i
/-- so many bytes from a place on -/
def rng (c : Cn) (o n : Nat) : List UInt8 := (List.range n).map fun j => c (o + j)
/-- a page -/
def pgl (c : Cn) (i : Nat) : List UInt8 := rng c (i * 4096) 4096
@[simp] theorem rng_length (c : Cn) (o n : Nat) : (rng c o n).length = n := by simp [rng]
@[simp] theorem pgl_length (c : Cn) (i : Nat) : (pgl c i).length = 4096 := rng_length _ _ _
theorem rng_get (c : Cn) (o n j : Nat) (h : j < n) : (rng c o n)[j]? = some (c (o + j)) := by simp [rng, h]
theorem rng_get' (c : Cn) (o n j : Nat) : (rng c o n)[j]? = if j < n then some (c (o + j)) else none := by
  split
  · exact rng_get c o n j ‹_›
  · simp [rng]; omega
theorem rng_congr {c c' : Cn} {o n : Nat} (h : ∀ j, j < n → c (o + j) = c' (o + j)) : rng c o n = rng c' o n := by
  apply List.ext_getElem?
  intro j
  rw [rng_get', rng_get']
  split
  · rw [h j ‹_›]
  · rfl
theorem pgl_congr {c c' : Cn} {i : Nat} (h : ∀ k, k / 4096 = i → c k = c' k) : pgl c i = pgl c' i := rng_congr fun j hj => h _ (by omega)
theorem u8s_get (l : List UInt8) (j : Nat) : (u8s l)[j]? = (l[j]?).map fun b => Value.int .u8 b.toNat := by simp [u8s]
theorem spl_get : ∀ (vs l : List Value) (o i : Nat), o + vs.length ≤ l.length → (spl l o vs)[i]? = if o ≤ i ∧ i < o + vs.length then vs[i - o]? else l[i]?
  | [], l, o, i, _ => by
    simp only [spl, List.length_nil, Nat.add_zero]
    rw [if_neg (by omega)]
  | v :: vs, l, o, i, h => by
    simp only [List.length_cons] at h
    simp only [spl, List.length_cons]
    rw [spl_get vs (l.set o v) (o + 1) i (by simp; omega)]
    by_cases h1 : o + 1 ≤ i ∧ i < o + 1 + vs.length
    · rw [if_pos h1, if_pos (by omega), show i - o = (i - (o + 1)) + 1 from by omega]
      simp
    · rw [if_neg h1]
      by_cases h2 : i = o
      · subst h2
        rw [if_pos (by omega)]
        simp [show i < l.length from by omega]
      · rw [if_neg (by omega), List.getElem?_set_ne (fun e => h2 e.symm)]
/-- bytes are copied into a page -/
theorem pgl_ov (c : Cn) (i q : Nat) (bs : List UInt8) (h : q + bs.length ≤ 4096) : spl (u8s (pgl c i)) q (u8s bs) = u8s (pgl (ov c (i * 4096 + q) bs) i) := by
  apply List.ext_getElem?
  intro j
  rw [spl_get _ _ _ _ (by simp; omega), u8s_get, u8s_get, u8s_get]
  unfold pgl
  rw [rng_get', rng_get']
  simp only [u8s_length]
  by_cases hj : q ≤ j ∧ j < q + bs.length
  · rw [if_pos hj, if_pos (by omega)]
    simp only [ov]
    rw [if_pos (by omega), show i * 4096 + j - (i * 4096 + q) = j - q from by omega, List.getD]
    rw [List.getElem?_eq_getElem (by omega)]
    rfl
  · rw [if_neg hj]
    split
    · simp only [ov]
      rw [if_neg (by omega)]
    · rfl
theorem pgl_ov_ne (c : Cn) (i k q : Nat) (bs : List UInt8) (h : q + bs.length ≤ 4096) (hne : k ≠ i) : pgl (ov c (i * 4096 + q) bs) k = pgl c k := pgl_congr fun j hj => by
  simp only [ov]
  rw [if_neg (by omega)]
theorem ov_ov (c : Cn) (o d k : Nat) (bs : List UInt8) : ov (ov c o (bs.take d)) (o + d) ((bs.drop d).take k) = ov c o (bs.take (d + k)) := by
  funext i
  simp only [ov, List.length_take, List.length_drop]
  by_cases h1 : o + d ≤ i ∧ i < o + d + min k (bs.length - d)
  · rw [if_pos h1, if_pos (by omega)]
    simp only [List.getD, List.getElem?_take, List.getElem?_drop]
    rw [if_pos (by omega), if_pos (by omega), show d + (i - (o + d)) = i - o from by omega]
  · rw [if_neg h1]
    by_cases h2 : o ≤ i ∧ i < o + min d bs.length
    · rw [if_pos h2, if_pos (by omega)]
      simp only [List.getD, List.getElem?_take]
      rw [if_pos (by omega), if_pos (by omega)]
    · rw [if_neg h2, if_neg (by omega)]
theorem ov_nil (c : Cn) (o : Nat) : ov c o [] = c := by
  funext i
  simp only [ov, List.length_nil]
  rw [if_neg (by omega)]
theorem ov_take0 (c : Cn) (o : Nat) (bs : List UInt8) : ov c o (bs.take 0) = c := ov_nil c o
/-- a byte of a page is set to 0 -/
theorem pgl_zc (c : Cn) (i a j : Nat) (h : j < 4096) (ha : a ≤ i * 4096 + j) : (u8s (pgl (zc c a (i * 4096 + j)) i)).set j (.int .u8 0) = u8s (pgl (zc c a (i * 4096 + (j + 1))) i) := by
  apply List.ext_getElem?
  intro k
  rw [List.getElem?_set, u8s_get, u8s_get]
  unfold pgl
  rw [rng_get', rng_get']
  simp only [u8s_length, rng_length]
  by_cases hk : j = k
  · subst hk
    rw [if_pos rfl, if_pos h, if_pos h]
    simp only [zc]
    rw [if_pos (by omega)]
    rfl
  · rw [if_neg hk]
    split
    · simp only [zc]
      by_cases h1 : a ≤ i * 4096 + k ∧ i * 4096 + k < i * 4096 + j
      · rw [if_pos h1, if_pos (by omega)]
      · rw [if_neg h1, if_neg (by omega)]
    · rfl
theorem pgl_zero {c : Cn} {i : Nat} (h : ∀ k, k / 4096 = i → c k = 0) : u8s (pgl c i) = List.replicate 4096 (.int .u8 0) := by
  rw [pgl_congr (c' := fun _ => 0) h]
  apply List.ext_getElem?
  intro j
  rw [u8s_get]
  unfold pgl
  rw [rng_get', List.getElem?_replicate]
  split <;> rfl
/-- where a slice begins that begins later -/
def adv (b o size lo cap : Nat) : Option Addr := if cap = lo then some ⟨b, o, none⟩ else some ⟨b, o + lo * size, none⟩
section
variable {P : Program} {σ : Env} {L : List HP} {ty : TypeId} {pos : String} {aft : Array Edge} {gd : Option (Nat × Bool)} {x y : Operand} {t e : TypeId}
theorem r_slAdv {od : Option Tmp} {size bytes len cap b o lo : Nat} {z : Value} {k : IntKind} [h1 : TyU P t (.slice e)] [h2 : TyI P e size bytes z] (hx : opd σ x = some (.slice (some ⟨b, o, none⟩) len cap)) (hy : opd σ y = some (.int k (lo : Nat))) (hlo : lo ≤ len) :
    RunS P ⟨od, .slice t x (some y) none none, ty, pos, aft, gd⟩ σ (.slice (adv b o size lo cap) (len - lo) (cap - lo)) := by
  have h := r_slLo (P := P) (od := od) (t := t) (ty := ty) (pos := pos) (aft := aft) (gd := gd) hx hy (by omega)
  rw [Int.toNat_natCast] at h
  have e1 : (if cap = lo then some (⟨b, o, none⟩ : Addr) else (some (⟨b, o, none⟩ : Addr)).map (·.add (lo * size))) = adv b o size lo cap := by
    unfold adv
    split
    · rfl
    · simp [addr_add]
  rwa [e1] at h
theorem r_slBt {od : Option Tmp} {size bytes len cap b o lo hi : Nat} {z : Value} {k j : IntKind} {x' : Operand} [h1 : TyU P t (.slice e)] [h2 : TyI P e size bytes z] (hx : opd σ x = some (.slice (some ⟨b, o, none⟩) len cap)) (hy : opd σ y = some (.int k (lo : Nat))) (hy' : opd σ x' = some (.int j (hi : Nat)))
    (hlo : lo ≤ hi ∧ lo < cap) (hhi : hi ≤ cap) : RunS P ⟨od, .slice t x (some y) (some x') none, ty, pos, aft, gd⟩ σ (.slice (some ⟨b, o + lo * size, none⟩) (hi - lo) (cap - lo)) := by
  have h := r_slLH (P := P) (od := od) (t := t) (ty := ty) (pos := pos) (aft := aft) (gd := gd) hx hy hy' (by omega) (by omega)
  rw [Int.toNat_natCast, Int.toNat_natCast, if_neg (by omega)] at h
  simpa [addr_add] using h
theorem Rd.at {A : HP} {R : List HP} {a : Addr} {v : Value} (h : Rd [A] a v) (i : Nat) (hi : takeAt i L = some (A, R)) : Rd L a v := fun m w hw => h m w ((hw.ent (takeAt_ent hi)).ent (Ent.left [A] R))
theorem RdN.skip {b o : Nat} {l : List Value} (h : RdN L b o l) (d : Nat) : RdN L b (o + d) (l.drop d) := RdN.of fun j v hv => by
  rw [Nat.add_assoc]
  exact h.get (by simpa using hv)
theorem RdN.ent {L' : List HP} {b o : Nat} {l : List Value} (h : RdN L b o l) (e : Ent L' L) : RdN L' b o l := RdN.of fun _j _v hv m w hw => h.get hv m w (hw.ent e)
end
theorem u8s_take (l : List UInt8) (k : Nat) : (u8s l).take k = u8s (l.take k) := by simp [u8s, List.map_take]
theorem u8s_drop (l : List UInt8) (k : Nat) : (u8s l).drop k = u8s (l.drop k) := by simp [u8s, List.map_drop]
end Go.Proofs.YtfebpbflpdppiaaGreatDoor
namespace Go.Proofs.YtfebpbflpdppiaaGreatDoor
open Go Go.Sl
set_option maxRecDepth 100000
structure ZP where
  idx : Nat
  blk : Nat
  born : Nat
def ZP.ad (p : ZP) : Addr := ⟨p.blk, 0, none⟩
def ZP.me (p : ZP) : ME := ⟨(p.idx : Nat), .pointer (some p.ad), p.born⟩
def zpg (c : Cn) (p : ZP) : HP := Sl.blk p.blk (cl (u8s (pgl c p.idx)) 144)
def zpgs (c : Cn) (l : List ZP) : HP := sep (l.map (zpg c))
structure ZOK (c : Cn) (s : Nat) (l : List ZP) (k : Nat) : Prop where
  nd : (l.map (·.idx)).Nodup
  nb : (l.map (·.born)).Nodup
  lt : ∀ p ∈ l, p.born < k
  ze : ∀ i, (∀ p ∈ l, p.idx ≠ i / 4096) → c i = 0
  zs : ∀ i, s ≤ i → c i = 0
  bd : ∀ p ∈ l, p.idx ≤ 1000000000000
def zcells (mb s : Nat) : List Value := [.map (some mb), .int .i64 (s : Nat), .int .i64 0, .pointer none]
/-- a file in memory -/
def zf (fb : Nat) (c : Cn) (s : Nat) : HP := ex fun x : Nat × List ZP × Nat => also (ZOK c s x.2.1 x.2.2) (sep [blk fb (cl (zcells x.1 s) 127), blk x.1 (mapO (x.2.1.map ZP.me) x.2.2), zpgs c x.2.1])
section
variable {n : Nat} {ds : List Deferred} {σ : Env} {m : Amb} {L R : List HP}
theorem zf_open {fb s : Nat} {c : Cn} {Φ : Act → World → Prop} (h : ∀ mb l k, ZOK c s l k → G n ds σ m (blk fb (cl (zcells mb s) 127) :: blk mb (mapO (l.map ZP.me) k) :: zpgs c l :: L) Φ) : G n ds σ m (zf fb c s :: L) Φ :=
  G.exE fun x => G.alsoE fun hp => G.ent (sep_open _ _) (h x.1 x.2.1 x.2.2 hp)
theorem zf_shut {fb s mb k : Nat} {c : Cn} {l : List ZP} (h : ZOK c s l k) : Ent (blk fb (cl (zcells mb s) 127) :: blk mb (mapO (l.map ZP.me) k) :: zpgs c l :: L) (zf fb c s :: L) :=
  (sep_shut [_, _, _] L).trans ((also_shut h _ L).trans (ex_shut (fun x : Nat × List ZP × Nat => also (ZOK c s x.2.1 x.2.2) (sep [blk fb (cl (zcells x.1 s) 127), blk x.1 (mapO (x.2.1.map ZP.me) x.2.2), zpgs c x.2.1])) (mb, l, k) L))
theorem zpgs_take (c : Cn) (l1 l2 : List ZP) (p : ZP) : Ent (zpgs c (l1 ++ p :: l2) :: L) (zpg c p :: zpgs c (l1 ++ l2) :: L) := by
  unfold zpgs
  refine (sep_open _ _).trans (Ent.trans (Ent.perm ?_) (Ent.cons (sep_shut _ _)))
  simp only [List.map_append, List.map_cons, List.append_assoc, List.cons_append]
  exact List.perm_middle
theorem zpgs_put (c : Cn) (l1 l2 : List ZP) (p : ZP) : Ent (zpg c p :: zpgs c (l1 ++ l2) :: L) (zpgs c (l1 ++ p :: l2) :: L) := by
  unfold zpgs
  refine (Ent.cons (sep_open _ _)).trans (Ent.trans (Ent.perm ?_) (sep_shut _ _))
  simp only [List.map_append, List.map_cons, List.append_assoc, List.cons_append]
  exact List.perm_middle.symm
end
theorem zpgs_congr {c c' : Cn} {l : List ZP} (h : ∀ p ∈ l, pgl c p.idx = pgl c' p.idx) : zpgs c l = zpgs c' l := by
  unfold zpgs
  rw [List.map_congr_left (g := zpg c') fun p hp => by unfold zpg; rw [h p hp]]
/-- the page at an index, if it is there -/
def zq (l : List ZP) (i : Nat) : Option Addr := (l.find? fun p => p.idx == i).map ZP.ad
theorem zq_look (l : List ZP) (i j : Nat) : (match mgo (i : Nat) (l.map ZP.me) j with | some p => p.2 | none => Value.pointer none) = .pointer (zq l i) := by
  induction l generalizing j with
  | nil => rfl
  | cons p l ih =>
    simp only [List.map_cons, mgo, zq, List.find?_cons]
    by_cases h : p.idx = i
    · subst h
      simp [ZP.me]
    · have h1 : (((i : Nat) : Int) == (p.me).key) = false := by
        simp only [ZP.me, beq_eq_false_iff_ne, ne_eq]; omega
      have h2 : (p.idx == i) = false := by simpa using h
      simp only [h1, h2, Bool.false_eq_true, if_false]
      exact ih (j + 1)
theorem zq_none {l : List ZP} {i : Nat} (h : zq l i = none) : ∀ p ∈ l, p.idx ≠ i := by
  unfold zq at h
  rw [Option.map_eq_none_iff, List.find?_eq_none] at h
  intro p hp e
  exact h p hp (by simp [e])
theorem zq_some {l : List ZP} {i : Nat} {a : Addr} (h : zq l i = some a) : ∃ l1 p l2, l = l1 ++ p :: l2 ∧ p.idx = i ∧ a = p.ad := by
  unfold zq at h
  rw [Option.map_eq_some_iff] at h
  obtain ⟨p, hp, rfl⟩ := h
  have h1 := List.mem_of_find?_eq_some hp
  have h2 := List.find?_some hp
  obtain ⟨l1, l2, rfl⟩ := List.append_of_mem h1
  exact ⟨l1, p, l2, rfl, by simpa using h2, rfl⟩
theorem zq_miss {l : List ZP} {i : Nat} (h : zq l i = none) (j : Nat) : mgo (i : Nat) (l.map ZP.me) j = none := mgo_none.2 fun e he => by
  simp only [List.mem_map] at he
  obtain ⟨p, hp, rfl⟩ := he
  have := zq_none h p hp
  simp only [ZP.me]; omega
section
variable {P : Program} {σ : Env} {m : Amb} {L R : List HP} {ty : TypeId} {pos : String} {aft : Array Edge} {gd : Option (Nat × Bool)} {x y : Operand} {t kt et : TypeId}
theorem r_lookV {od : Option Tmp} {kk : IntKind} {s b mb c : Nat} {zv v : Value} {l : List ME} {k : Int} [h1 : TyU P t (.map kt et)] [h2 : TyU P kt (.int kk)] [h3 : TyI P et s b zv] (i : Nat) (hi : takeAt i L = some (blk mb (mapO l c), R)) (hx : opd σ x = some (.map (some mb))) (hy : opd σ y = some (.int .i64 k))
    (h : (match mgo k l 0 with | some p => p.2 | none => zv) = v) : RunV P ⟨od, .lookup t x y false, ty, pos, aft, gd⟩ σ m L v := fun a w g hw => by
  simp only [execOp, opd_eval g hx, opd_eval g hy, Sem.run_bind, run_lookup h1 h2 h3 (hw.at_ hi), Result.andThen_ok, ← h]
  rfl
end
/-- a page more, of zeros -/
theorem ZOK.more {c : Cn} {s k : Nat} {l : List ZP} (h : ZOK c s l k) {i b : Nat} (hn : zq l i = none) (hb : i ≤ 1000000000000) : ZOK c s (l ++ [⟨i, b, k⟩]) (k + 1) where
  nd := by
    rw [List.map_append, List.nodup_append]
    refine ⟨h.nd, by simp, ?_⟩
    intro a ha b hb e
    subst e
    simp at hb
    simp only [List.mem_map] at ha
    obtain ⟨p, hp, e⟩ := ha
    exact zq_none hn p hp (e.trans hb)
  nb := by
    rw [List.map_append, List.nodup_append]
    refine ⟨h.nb, by simp, ?_⟩
    intro a ha b hb e
    subst e
    simp at hb
    simp only [List.mem_map] at ha
    obtain ⟨p, hp, e⟩ := ha
    have := h.lt p hp
    omega
  lt := fun p hp => by
    rcases List.mem_append.1 hp with hp | hp
    · have := h.lt p hp; omega
    · simp at hp; subst hp; show k < k + 1; omega
  ze := fun j hj => h.ze j fun p hp => hj p (List.mem_append_left _ hp)
  zs := h.zs
  bd := fun p hp => by
    rcases List.mem_append.1 hp with hp | hp
    · exact h.bd p hp
    · simp at hp; subst hp; exact hb
theorem ZOK.zero {c : Cn} {s k : Nat} {l : List ZP} (h : ZOK c s l k) {i : Nat} (hn : zq l i = none) : u8s (pgl c i) = List.replicate 4096 (.int .u8 0) :=
  pgl_zero fun j hj => h.ze j fun p hp e => zq_none hn p hp (by omega)
/-- bytes in one page -/
theorem ZOK.laid {c : Cn} {s k : Nat} {l : List ZP} (h : ZOK c s l k) {i q : Nat} {bs : List UInt8} (hq : q + bs.length ≤ 4096) (hi : ∃ p ∈ l, p.idx = i) (hs : i * 4096 + q + bs.length ≤ s) : ZOK (ov c (i * 4096 + q) bs) s l k where
  nd := h.nd
  nb := h.nb
  lt := h.lt
  ze := fun j hj => by
    simp only [ov]
    rw [if_neg ?_]
    · exact h.ze j hj
    · intro hc
      obtain ⟨p, hp, rfl⟩ := hi
      exact hj p hp (by omega)
  zs := fun j hj => by
    simp only [ov]
    rw [if_neg (by omega)]
    exact h.zs j hj
  bd := h.bd
theorem ZOK.grow {c : Cn} {s s' k : Nat} {l : List ZP} (h : ZOK c s l k) (hs : s ≤ s') : ZOK c s' l k := ⟨h.nd, h.nb, h.lt, h.ze, fun j hj => h.zs j (by omega), h.bd⟩
theorem ZOK.other {c : Cn} {s k : Nat} {l1 l2 : List ZP} {p : ZP} (h : ZOK c s (l1 ++ p :: l2) k) : ∀ q ∈ l1 ++ l2, q.idx ≠ p.idx := fun q hq e => by
  have hnd := h.nd
  rw [List.map_append, List.map_cons] at hnd
  have h2 := List.perm_middle.nodup_iff.1 hnd
  rw [List.nodup_cons] at h2
  exact h2.1 (by rw [← e, ← List.map_append]; exact List.mem_map_of_mem hq)
theorem ZOK.one {c : Cn} {s k : Nat} {l : List ZP} (h : ZOK c s l k) {p q : ZP} (hp : p ∈ l) (hq : q ∈ l) (e : p.idx = q.idx) : p = q := by
  have hnd := h.nd
  obtain ⟨l1, l2, rfl⟩ := List.append_of_mem hp
  rcases List.mem_append.1 hq with hq' | hq'
  · exact absurd e.symm (h.other q (List.mem_append_left _ hq'))
  · rcases List.mem_cons.1 hq' with rfl | hq'
    · rfl
    · exact absurd e.symm (h.other q (List.mem_append_right _ hq'))
/-- an entry is struck out -/
theorem zdel {l : List ZP} {p : ZP} (hp : p ∈ l) (h1 : ∀ q ∈ l, q.idx = p.idx → q = p) : ∃ l1 l2, l = l1 ++ p :: l2 ∧ (match mgo (p.idx : Nat) (l.map ZP.me) 0 with | some q => (l.map ZP.me).eraseIdx q.1 | none => l.map ZP.me) = (l1 ++ l2).map ZP.me := by
  cases hg : mgo (p.idx : Nat) (l.map ZP.me) 0 with
  | none => exact absurd rfl (mgo_none.1 hg p.me (List.mem_map_of_mem hp))
  | some jv =>
    obtain ⟨j, v⟩ := jv
    obtain ⟨_, e, he, hk, _⟩ := mgo_some hg
    simp only [Nat.sub_zero, List.getElem?_map, Option.map_eq_some_iff] at he
    obtain ⟨q, hq, rfl⟩ := he
    have hqp : q = p := h1 q (List.mem_of_getElem? hq) (by simp only [ZP.me] at hk; omega)
    subst hqp
    have hlt : j < l.length := (List.getElem?_eq_some_iff.1 hq).1
    have hge : l[j] = q := (List.getElem?_eq_some_iff.1 hq).2
    refine ⟨l.take j, l.drop (j + 1), ?_, ?_⟩
    · rw [← hge, List.getElem_cons_drop, List.take_append_drop]
    · simp [List.eraseIdx_eq_take_drop_succ, List.map_take, List.map_drop]
/-- how many are still to come -/
def unseen (l : List ZP) (seen : Array Nat) : Nat := l.countP fun p => !seen.contains p.born
theorem unseen_lt {l1 l2 : List ZP} {p : ZP} {seen : Array Nat} (h : seen.contains p.born = false) : unseen (l1 ++ l2) (seen.push p.born) < unseen (l1 ++ p :: l2) seen ∧ unseen (l1 ++ p :: l2) (seen.push p.born) < unseen (l1 ++ p :: l2) seen := by
  have hm : ∀ l : List ZP, l.countP (fun q => !(seen.push p.born).contains q.born) ≤ l.countP (fun q => !seen.contains q.born) := fun l => List.countP_mono_left fun q _ hq => by
    simp at hq ⊢; exact hq.1
  have e1 : (!(seen.push p.born).contains p.born) = false := by simp
  unfold unseen
  simp only [List.countP_append, List.countP_cons, h, e1, Bool.not_false, if_true, Bool.false_eq_true, if_false]
  have := hm l1
  have := hm l2
  omega
end Go.Proofs.YtfebpbflpdppiaaGreatDoor
