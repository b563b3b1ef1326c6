import JvmDerived
import JvmDerived.Pilot.@@N@@Statement
import JvmDerived.Pilot.@@N@@Code
set_option linter.unusedVariables false
set_option linter.unusedSimpArgs false
namespace Jvm.Pilot.@@N@@
open Jvm Jvm.ClassFile Sem Op Lib Jvm.Free Jvm.Stand Jvm.LawKit Jvm.RoadKit Bundle Jvm.Pilot.@@N@@.Jvm.D
section OwnPlain
open Jvm.FP.Core
/-! The plain law: what the doubles of this law are worth, in units of the least double (2^-1074). -/
def own_zv (a : UInt64) : Int := zval b64 (val64 a)
def own_h : Nat := 1021
def own_H : Nat := 2 ^ own_h
def own_top : Nat := b64.tails * 2 ^ (b64.exps - 2)
theorem own_H_pos : (0 : Int) < (own_H : Int) := by
  have : 0 < own_H := by decide +kernel
  omega
theorem own_pow_H (k : Nat) : 2 ^ (1022 + k) = 2 ^ (k + 1) * own_H := by
  have e : k + 1 + own_h = 1022 + k := by unfold own_h; omega
  show 2 ^ (1022 + k) = 2 ^ (k + 1) * 2 ^ own_h
  rw [← Nat.pow_add, e]
theorem own_oneN : one64 = 9007199254740992 * own_H := by decide +kernel
theorem own_one : (one64 : Int) = 9007199254740992 * (own_H : Int) := by
  have := own_oneN
  omega
theorem own_pow : ((2 ^ (b64.qmin - 2 * b64.qmin).toNat : Nat) : Int) = (one64 : Int) := by
  rw [← pow_qmin64, show b64.qmin - 2 * b64.qmin = -b64.qmin by omega]
theorem own_q2 : 2 * b64.qmin ≤ b64.qmin := by rw [qmin_b64]; decide
theorem own_mul_le {x y V : UInt64} (hx : DFin x) (hy : DFin y) (hV : val64 V ≠ .nan) (h : own_zv x * own_zv y ≤ own_zv V * (one64 : Int)) : own_zv (dmul x y) ≤ own_zv V := by
  obtain ⟨s, c, q, ex⟩ := hx
  obtain ⟨t, d, r, ey⟩ := hy
  have fx := val64_fits x
  have fy := val64_fits y
  rw [ex] at fx
  rw [ey] at fy
  obtain ⟨h1, h2, h3⟩ := product_units fx fy
  unfold own_zv at h ⊢
  rw [ex, ey] at h
  rw [val64_dmul, ex, ey, h1]
  refine zval_round_le good_b64 (val64_fits V) hV (e0 := 2 * b64.qmin) own_q2 h2 ?_
  rw [h3, own_pow, signed_xor]
  exact h
theorem own_mul_ge {x y V : UInt64} (hx : DFin x) (hy : DFin y) (hV : val64 V ≠ .nan) (h : own_zv V * (one64 : Int) ≤ own_zv x * own_zv y) : own_zv V ≤ own_zv (dmul x y) := by
  obtain ⟨s, c, q, ex⟩ := hx
  obtain ⟨t, d, r, ey⟩ := hy
  have fx := val64_fits x
  have fy := val64_fits y
  rw [ex] at fx
  rw [ey] at fy
  obtain ⟨h1, h2, h3⟩ := product_units fx fy
  unfold own_zv at h ⊢
  rw [ex, ey] at h
  rw [val64_dmul, ex, ey, h1]
  refine zval_round_ge good_b64 (val64_fits V) hV (e0 := 2 * b64.qmin) own_q2 h2 ?_
  rw [h3, own_pow, signed_xor]
  exact h
theorem own_inf (s : Bool) : zval b64 (.inf s) = signed s own_top := rfl
theorem own_fin {a : UInt64} (hn : val64 a ≠ .nan) (h1 : -(own_top : Int) < own_zv a) (h2 : own_zv a < (own_top : Int)) : DFin a := by
  unfold own_zv at h1 h2
  cases hv : val64 a with
  | nan => exact absurd hv hn
  | inf s =>
    rw [hv, own_inf] at h1 h2
    exfalso
    generalize own_top = k at h1 h2
    cases s <;> simp only [signed, if_true, Bool.false_eq_true, if_false] at h1 h2 <;> omega
  | fin s c q => exact ⟨s, c, q, hv⟩
theorem own_notfin {a : UInt64} (h : (own_top : Int) ≤ own_zv a) : ¬ DFin a := fun hf => by
  have h3 : zmag b64 (val64 a) < own_top := DFin.zval_lt hf
  have h4 : own_zv a ≤ (zmag b64 (val64 a) : Int) := by
    unfold own_zv zval
    generalize zmag b64 (val64 a) = k
    cases sgn (val64 a) <;> simp only [signed, if_true, Bool.false_eq_true, if_false] <;> omega
  omega
theorem own_qmax : b64.qmax = 971 := by decide
theorem own_repD (n k : Nat) (hn : n < 2 ^ 53) (hk : k ≤ 2000) : ∃ V : Datum, Jvm.FP.Core.fits b64 V ∧ V ≠ .nan ∧ zmag b64 V = n * 2 ^ k ∧ sgn V = false := by
  obtain ⟨c', q', h1, h2⟩ := round_exact good_b64 false (c := n) (q := (k : Int) - 1074) hn (by rw [qmin_b64]; omega) (by rw [own_qmax]; omega)
  have hf := round_fits good_b64 (.fin false n ((k : Int) - 1074))
  rw [h1] at hf
  refine ⟨.fin false c' q', hf, Datum.noConfusion, ?_, rfl⟩
  show inUnits c' q' b64.qmin = _
  rw [h2]
  unfold inUnits
  rw [qmin_b64, show ((k : Int) - 1074 - -1074).toNat = k by omega]
theorem own_rep (n k : Nat) (hn : n < 2 ^ 53) (hk : k ≤ 2000) : ∃ V : UInt64, val64 V ≠ .nan ∧ own_zv V = ((n * 2 ^ k : Nat) : Int) := by
  obtain ⟨V, h1, h2, h3, h4⟩ := own_repD n k hn hk
  refine ⟨of64 V, by rw [val64_of64 h1]; exact h2, ?_⟩
  unfold own_zv zval
  rw [val64_of64 h1, h3, h4]
  rfl
theorem own_nn_fin {a : UInt64} (h : DFin a) : val64 a ≠ .nan := by
  obtain ⟨s, c, q, e⟩ := h
  rw [e]; exact Datum.noConfusion
theorem own_nn_mul {a b : UInt64} (ha : DFin a) (hb : DFin b) : val64 (dmul a b) ≠ .nan := (notNaN_iff _).mp (dmul_out ha hb)
/-! comparisons -/
theorem own_dlt {x y : UInt64} (nx : val64 x ≠ .nan) (ny : val64 y ≠ .nan) (h : own_zv x < own_zv y) : FP.dcmp x y = some .lt := by
  have e : FP.dcmp x y = some (compare (own_zv x) (own_zv y)) := dcmp_zval nx ny
  rw [e, (compare_lt_iff _ _).mpr h]
theorem own_dgt {x y : UInt64} (nx : val64 x ≠ .nan) (ny : val64 y ≠ .nan) (h : own_zv y < own_zv x) : FP.dcmp x y = some .gt := by
  have e : FP.dcmp x y = some (compare (own_zv x) (own_zv y)) := dcmp_zval nx ny
  rw [e, (compare_gt_iff _ _).mpr h]
theorem own_deq {x y : UInt64} (nx : val64 x ≠ .nan) (ny : val64 y ≠ .nan) (h : own_zv x = own_zv y) : FP.dcmp x y = some .eq := by
  have e : FP.dcmp x y = some (compare (own_zv x) (own_zv y)) := dcmp_zval nx ny
  rw [e, (compare_eq_iff _ _).mpr h]
theorem own_le_g {x y : UInt64} (nx : val64 x ≠ .nan) (ny : val64 y ≠ .nan) (h : own_zv x ≤ own_zv y) : ifCond.holds .gt (cmpValue (FP.dcmp x y) .g) = false := by
  rcases Int.lt_or_eq_of_le h with h | h
  · rw [own_dlt nx ny h]; rfl
  · rw [own_deq nx ny h]; rfl
theorem own_gt_g {x y : UInt64} (nx : val64 x ≠ .nan) (ny : val64 y ≠ .nan) (h : own_zv y < own_zv x) : ifCond.holds .gt (cmpValue (FP.dcmp x y) .g) = true := by
  rw [own_dgt nx ny h]; rfl
theorem own_lt_g {x y : UInt64} (nx : val64 x ≠ .nan) (ny : val64 y ≠ .nan) (h : own_zv x < own_zv y) : ifCond.holds .ge (cmpValue (FP.dcmp x y) .g) = false := by
  rw [own_dlt nx ny h]; rfl
theorem own_ge_g {x y : UInt64} (nx : val64 x ≠ .nan) (ny : val64 y ≠ .nan) (h : own_zv y ≤ own_zv x) : ifCond.holds .ge (cmpValue (FP.dcmp x y) .g) = true := by
  rcases Int.lt_or_eq_of_le h with h | h
  · rw [own_dgt nx ny h]; rfl
  · rw [own_deq nx ny h.symm]; rfl
theorem own_lt_l {x y : UInt64} (nx : val64 x ≠ .nan) (ny : val64 y ≠ .nan) (h : own_zv x < own_zv y) : ifCond.holds .lt (cmpValue (FP.dcmp x y) .l) = true := by
  rw [own_dlt nx ny h]; rfl
theorem own_ge_l {x y : UInt64} (nx : val64 x ≠ .nan) (ny : val64 y ≠ .nan) (h : own_zv y ≤ own_zv x) : ifCond.holds .lt (cmpValue (FP.dcmp x y) .l) = false := by
  rcases Int.lt_or_eq_of_le h with h | h
  · rw [own_dgt nx ny h]; rfl
  · rw [own_deq nx ny h.symm]; rfl
theorem own_gt_l {x y : UInt64} (nx : val64 x ≠ .nan) (ny : val64 y ≠ .nan) (h : own_zv y < own_zv x) : ifCond.holds .le (cmpValue (FP.dcmp x y) .l) = false := by
  rw [own_dgt nx ny h]; rfl
/-! in units of own_H -/
theorem own_leH {a b : Int} (h : a ≤ b) : a * (own_H : Int) ≤ b * (own_H : Int) := Int.mul_le_mul_of_nonneg_right h (Int.le_of_lt own_H_pos)
theorem own_ltH {a b : Int} (h : a < b) : a * (own_H : Int) < b * (own_H : Int) := Int.mul_lt_mul_of_pos_right h own_H_pos
theorem own_reH (a b h : Int) : (a * h) * (b * h) = (a * b) * (h * h) := by ac_rfl
theorem own_re1 (k t h : Int) : (k * h) * (t * h) = (k * t) * (h * h) := own_reH k t h
theorem own_mulH_ge {x y V : UInt64} {i j k : Int} (fx : DFin x) (fy : DFin y) (hV : val64 V ≠ .nan) (hi : 0 ≤ i) (hj : 0 ≤ j) (hx : i * (own_H : Int) ≤ own_zv x) (hy : j * (own_H : Int) ≤ own_zv y) (hk : own_zv V ≤ k * (own_H : Int)) (h : k * 9007199254740992 ≤ i * j) : own_zv V ≤ own_zv (dmul x y) := by
  have hp := own_H_pos
  have hHH : (0 : Int) ≤ (own_H : Int) * (own_H : Int) := Int.mul_nonneg (Int.le_of_lt hp) (Int.le_of_lt hp)
  refine own_mul_ge fx fy hV ?_
  have h1 : own_zv V * (one64 : Int) ≤ (k * (own_H : Int)) * (one64 : Int) := Int.mul_le_mul_of_nonneg_right hk (by have := one64_pos; omega)
  have h2 : (i * (own_H : Int)) * (j * (own_H : Int)) ≤ own_zv x * own_zv y := Int.mul_le_mul hx hy (Int.mul_nonneg hj (Int.le_of_lt hp)) (Int.le_trans (Int.mul_nonneg hi (Int.le_of_lt hp)) hx)
  have h3 : (k * (own_H : Int)) * (one64 : Int) ≤ (i * (own_H : Int)) * (j * (own_H : Int)) := by
    rw [own_one, own_reH k 9007199254740992, own_reH i j]
    exact Int.mul_le_mul_of_nonneg_right h hHH
  exact Int.le_trans h1 (Int.le_trans h3 h2)
theorem own_mulH_le {x y V : UInt64} {i j k : Int} (fx : DFin x) (fy : DFin y) (hV : val64 V ≠ .nan) (hx0 : 0 ≤ own_zv x) (hy0 : 0 ≤ own_zv y) (hx : own_zv x ≤ i * (own_H : Int)) (hy : own_zv y ≤ j * (own_H : Int)) (hk : k * (own_H : Int) ≤ own_zv V) (h : i * j ≤ k * 9007199254740992) : own_zv (dmul x y) ≤ own_zv V := by
  have hp := own_H_pos
  have hHH : (0 : Int) ≤ (own_H : Int) * (own_H : Int) := Int.mul_nonneg (Int.le_of_lt hp) (Int.le_of_lt hp)
  refine own_mul_le fx fy hV ?_
  have h1 : (k * (own_H : Int)) * (one64 : Int) ≤ own_zv V * (one64 : Int) := Int.mul_le_mul_of_nonneg_right hk (by have := one64_pos; omega)
  have h2 : own_zv x * own_zv y ≤ (i * (own_H : Int)) * (j * (own_H : Int)) := Int.mul_le_mul hx hy hy0 (Int.le_trans hx0 hx)
  have h3 : (i * (own_H : Int)) * (j * (own_H : Int)) ≤ (k * (own_H : Int)) * (one64 : Int) := by
    rw [own_one, own_reH k 9007199254740992, own_reH i j]
    exact Int.mul_le_mul_of_nonneg_right h hHH
  exact Int.le_trans h2 (Int.le_trans h3 h1)
/-! the constants -/
theorem own_dfin {a : UInt64} (h : a.toNat % 2 ^ 63 < 9218868437227405312) : DFin a := (fin_bits a).mpr h
theorem own_fC : DFin 4607182418800017318 := own_dfin (by decide +kernel)
theorem own_zC : own_zv 4607182418800017318 = 9007199254740902 * (own_H : Int) := by decide +kernel
theorem own_f1 : DFin 4607182418800017408 := own_dfin (by decide +kernel)
theorem own_z1 : own_zv 4607182418800017408 = 9007199254740992 * (own_H : Int) := by decide +kernel
theorem own_f31 : DFin 4746794007248502784 := own_dfin (by decide +kernel)
theorem own_z31 : own_zv 4746794007248502784 = 19342813113834066795298816 * (own_H : Int) := by decide +kernel
theorem own_f31n : DFin 13970166044103278592 := own_dfin (by decide +kernel)
theorem own_z31n : own_zv 13970166044103278592 = -19342813113834066795298816 * (own_H : Int) := by decide +kernel
theorem own_f32 : DFin 4751297606875873280 := own_dfin (by decide +kernel)
theorem own_z32 : own_zv 4751297606875873280 = 38685626227668133590597632 * (own_H : Int) := by decide +kernel
theorem own_f63 : DFin 4890909195324358656 := own_dfin (by decide +kernel)
theorem own_z63 : own_zv 4890909195324358656 = 83076749736557242056487941267521536 * (own_H : Int) := by decide +kernel
theorem own_f126 : DFin 5174635971848699904 := own_dfin (by decide +kernel)
theorem own_z126 : own_zv 5174635971848699904 = 766247770432944429179173513575154591809369561091801088 * (own_H : Int) := by decide +kernel
/-- the limit is a whole number held as a double: a length in 1024ths is surely allowed just where it is below -/
theorem own_lim {L : Int64} {U : UInt64} {u : Int} (hL : 1 ≤ L.toInt) (nU : val64 U ≠ .nan) (hU : own_zv U = (u * 8796093022208) * (own_H : Int)) (hu : u ≤ 2199023255552) :
    (ifCond.holds .gt (cmpValue (FP.dcmp U (FP.dmul (FP.l2d L) 4607182418800017318)) .g) = false ∧ ifCond.holds .ge (cmpValue (FP.dcmp U (FP.l2d L)) .g) = false) ∨
    (ifCond.holds .gt (cmpValue (FP.dcmp U (FP.dmul (FP.l2d L) 4607182418800017318)) .g) = true ∧ ifCond.holds .ge (cmpValue (FP.dcmp U (FP.l2d L)) .g) = true) := by
  have hp := own_H_pos
  have fL : DFin (l2d L) := l2d_fin L
  have nL := own_nn_fin fL
  have nI : val64 (dmul (l2d L) 4607182418800017318) ≠ .nan := own_nn_mul fL own_fC
  by_cases hb : 4294967296 < L.toInt
  · left
    have h32 : own_zv 4751297606875873280 ≤ own_zv (l2d L) := by
      refine l2d_zval_ge (own_nn_fin own_f32) ?_
      show own_zv 4751297606875873280 ≤ _
      rw [own_z32, own_one, ← Int.mul_assoc]
      exact own_leH (by omega)
    rw [own_z32] at h32
    have h31 : own_zv 4746794007248502784 ≤ own_zv (dmul (l2d L) 4607182418800017318) :=
      own_mulH_ge fL own_fC (own_nn_fin own_f31) (by decide) (by decide) h32 (Int.le_of_eq own_zC.symm) (Int.le_of_eq own_z31) (by decide)
    have hU31 : own_zv U ≤ own_zv 4746794007248502784 := by
      rw [hU, own_z31]
      exact own_leH (by omega)
    refine ⟨own_le_g nU nI (Int.le_trans hU31 h31), own_lt_g nU nL (Int.lt_of_lt_of_le ?_ h32)⟩
    rw [hU]
    exact own_ltH (by omega)
  · have hz : own_zv (l2d L) = (L.toInt * 9007199254740992) * (own_H : Int) := by
      have h : own_zv (l2d L) = L.toInt * (one64 : Int) := DInt_zval (l2d_int (by omega))
      rw [h, own_one, Int.mul_assoc]
    by_cases hlt : u < 1024 * L.toInt
    · left
      refine ⟨own_le_g nU nI ?_, own_lt_g nU nL ?_⟩
      · exact own_mulH_ge fL own_fC nU (i := L.toInt * 9007199254740992) (j := 9007199254740902) (k := u * 8796093022208) (by omega) (by decide) (Int.le_of_eq hz.symm) (Int.le_of_eq own_zC.symm) (Int.le_of_eq hU) (by omega)
      · rw [hU, hz]
        exact own_ltH (by omega)
    · right
      have hUL : own_zv (l2d L) ≤ own_zv U := by
        rw [hU, hz]
        exact own_leH (by omega)
      obtain ⟨n, hn⟩ : ∃ n : Nat, (n : Int) = L.toInt := ⟨L.toInt.toNat, by omega⟩
      have hn0 : n ≠ 0 := by omega
      have l1 : 2 ^ n.log2 ≤ n := Nat.log2_self_le hn0
      have l2 : n < 2 ^ (n.log2 + 1) := Nat.lt_log2_self
      have l3 : n.log2 < 33 := by
        refine (Nat.pow_lt_pow_iff_right (by decide : 1 < 2)).mp (Nat.lt_of_le_of_lt l1 ?_)
        have : (2 : Nat) ^ 33 = 8589934592 := by decide
        omega
      generalize n.log2 = k at l1 l2 l3
      have hq : 1 ≤ n * 2 ^ (52 - k) := Nat.mul_pos (by omega) (Nat.two_pow_pos _)
      have hq2 : n * 2 ^ (52 - k) < 2 ^ 53 := by
        calc n * 2 ^ (52 - k) < 2 ^ (k + 1) * 2 ^ (52 - k) := Nat.mul_lt_mul_of_pos_right l2 (Nat.two_pow_pos _)
          _ = 2 ^ 53 := by rw [← Nat.pow_add]; congr 1; omega
      have hq3 : n * 2 ^ (52 - k) * 2 ^ (k + 1) = n * 9007199254740992 := by
        rw [Nat.mul_assoc, ← Nat.pow_add, show 52 - k + (k + 1) = 53 by omega, show (2 : Nat) ^ 53 = 9007199254740992 by decide]
      obtain ⟨V, nV, zV⟩ := own_rep (n * 2 ^ (52 - k) - 1) (1022 + k) (by omega) (by omega)
      have hw : (n * 2 ^ (52 - k) - 1) * 2 ^ (1022 + k) = ((n * 2 ^ (52 - k) - 1) * 2 ^ (k + 1)) * own_H := by
        rw [own_pow_H, Nat.mul_assoc]
      have hw2 : (n * 2 ^ (52 - k) - 1) * 2 ^ (k + 1) + 2 ^ (k + 1) = n * 9007199254740992 := by
        rw [← hq3]
        generalize n * 2 ^ (52 - k) = a at hq
        obtain ⟨a, rfl⟩ : ∃ b, a = b + 1 := ⟨a - 1, by omega⟩
        rw [Nat.add_sub_cancel, Nat.add_mul, Nat.one_mul]
      have hw3 : 2 ^ (k + 1) ≤ 2 * n := by rw [Nat.pow_succ]; omega
      have hw4 : 0 < 2 ^ (k + 1) := Nat.two_pow_pos _
      generalize hm : (n * 2 ^ (52 - k) - 1) * 2 ^ (k + 1) = w at hw hw2
      have zV' : own_zv V = (w : Int) * (own_H : Int) := by rw [zV, hw, Int.natCast_mul]
      generalize 2 ^ (k + 1) = g at hw2 hw3 hw4
      have hIV : own_zv (dmul (l2d L) 4607182418800017318) ≤ own_zv V :=
        own_mulH_le fL own_fC nV (i := L.toInt * 9007199254740992) (j := 9007199254740902) (k := (w : Int)) (by rw [hz]; exact Int.mul_nonneg (by omega) (Int.le_of_lt hp)) (by rw [own_zC]; exact Int.mul_nonneg (by decide) (Int.le_of_lt hp)) (Int.le_of_eq hz) (Int.le_of_eq own_zC) (Int.le_of_eq zV'.symm) (by omega)
      have hVL : own_zv V < own_zv (l2d L) := by
        rw [zV', hz]
        exact own_ltH (by omega)
      exact ⟨own_gt_g nU nI (Int.lt_of_le_of_lt hIV (Int.lt_of_lt_of_le hVL hUL)), own_ge_g nU nL hUL⟩
end OwnPlain
section OwnPlain2
open Jvm.FP.Core Jvm.Free.Fl
theorem own_f900 : DFin 553942754166571008 := own_dfin (by decide +kernel)
theorem own_900_1 : own_zv 553942754166571008 ≤ own_zv 4607182418800017408 := by decide +kernel
theorem own_top1 : -(own_top : Int) < own_zv 4607182418800017408 := by decide +kernel
theorem own_top126 : own_zv 5174635971848699904 < (own_top : Int) := by decide +kernel
theorem own_lim1 {L : Int64} (hL : 1 ≤ L.toInt) : own_zv 4607182418800017408 ≤ own_zv (l2d L) ∧ own_zv (l2d L) ≤ own_zv 4890909195324358656 := by
  refine ⟨l2d_zval_ge (own_nn_fin own_f1) ?_, l2d_zval_le (own_nn_fin own_f63) ?_⟩
  · show own_zv 4607182418800017408 ≤ _
    rw [own_z1, own_one, ← Int.mul_assoc]
    exact own_leH (by omega)
  · show _ ≤ own_zv 4890909195324358656
    rw [own_z63, own_one, ← Int.mul_assoc]
    have := (Jvm.RoadKit.rng64 L).2
    exact own_leH (by omega)
/-- kinds 0 and 1: the square is in the fast range -/
theorem own_sq {L : Int64} (hL : 1 ≤ L.toInt) : Fin64 (FP.dmul (FP.l2d L) (FP.l2d L)) ∧ ifCond.holds .lt (cmpValue (FP.dcmp (FP.dmul (FP.l2d L) (FP.l2d L)) 553942754166571008) .l) = false := by
  have fL : DFin (l2d L) := Jvm.FP.Core.l2d_fin L
  obtain ⟨h1, h2⟩ := own_lim1 hL
  rw [own_z1] at h1
  rw [own_z63] at h2
  have nS := own_nn_mul fL fL
  have g1 : own_zv 4607182418800017408 ≤ own_zv (dmul (l2d L) (l2d L)) := own_mulH_ge fL fL (own_nn_fin own_f1) (by decide) (by decide) h1 h1 (Int.le_of_eq own_z1) (by decide)
  have h0 : 0 ≤ own_zv (l2d L) := Int.le_trans (Int.mul_nonneg (by decide) (Int.le_of_lt own_H_pos)) h1
  have g2 : own_zv (dmul (l2d L) (l2d L)) ≤ own_zv 5174635971848699904 := own_mulH_le fL fL (own_nn_fin own_f126) h0 h0 h2 h2 (Int.le_of_eq own_z126.symm) (by decide)
  exact ⟨fin64_core.mpr (own_fin nS (Int.lt_of_lt_of_le own_top1 g1) (Int.lt_of_le_of_lt g2 own_top126)), own_ge_l nS (own_nn_fin own_f900) (Int.le_trans own_900_1 g1)⟩
/-! kinds 2 and 3 -/
theorem own_f500 : DFin 2355382605114769408 := own_dfin (by decide +kernel)
theorem own_f600 : DFin 7309342195222315008 := own_dfin (by decide +kernel)
theorem own_f20 : DFin 4697254411347427328 := own_dfin (by decide +kernel)
theorem own_z20 : own_zv 4697254411347427328 = 9444732965739290427392 * (own_H : Int) := by decide +kernel
theorem own_f480 : DFin 2445454597662179328 := own_dfin (by decide +kernel)
theorem own_f960 : DFin 283726776524341248 := own_dfin (by decide +kernel)
theorem own_f620 : DFin 7399414187769724928 := own_dfin (by decide +kernel)
theorem own_zero : own_zv 0 = 0 := zval64_zero
theorem own_f0 : DFin 0 := own_dfin (by decide +kernel)
theorem own_l20 {F : Int64} (h2 : F.toInt ≤ 1048576) : own_zv (l2d F) ≤ own_zv 4697254411347427328 := by
  refine l2d_zval_le (own_nn_fin own_f20) ?_
  show _ ≤ own_zv 4697254411347427328
  rw [own_z20, own_one, ← Int.mul_assoc]
  exact own_leH (by omega)
theorem own_500_pos : 0 ≤ own_zv 2355382605114769408 := by decide +kernel
theorem own_600_pos : 0 ≤ own_zv 7309342195222315008 := by decide +kernel
theorem own_1_pos : 0 ≤ own_zv 4607182418800017408 := by decide +kernel
theorem own_k480 : own_zv 2355382605114769408 * own_zv 4697254411347427328 ≤ own_zv 2445454597662179328 * (one64 : Int) := by decide +kernel
theorem own_k960 : own_zv 2445454597662179328 * own_zv 2445454597662179328 ≤ own_zv 283726776524341248 * (one64 : Int) := by decide +kernel
theorem own_960_900 : own_zv 283726776524341248 < own_zv 553942754166571008 := by decide +kernel
theorem own_480_top : own_zv 2445454597662179328 < (own_top : Int) := by decide +kernel
theorem own_960_top : own_zv 283726776524341248 < (own_top : Int) := by decide +kernel
theorem own_top_pos : -(own_top : Int) < 0 := by decide +kernel
theorem own_small {F : Int64} (h1 : 1 ≤ F.toInt) (h2 : F.toInt ≤ 1048576) :
    Fin64 (FP.dmul 2355382605114769408 (FP.l2d F)) ∧ Fin64 (FP.dmul (FP.dmul 2355382605114769408 (FP.l2d F)) (FP.dmul 2355382605114769408 (FP.l2d F))) ∧
    ifCond.holds .lt (cmpValue (FP.dcmp (FP.dmul (FP.dmul 2355382605114769408 (FP.l2d F)) (FP.dmul 2355382605114769408 (FP.l2d F))) 553942754166571008) .l) = true := by
  have fF : DFin (l2d F) := Jvm.FP.Core.l2d_fin F
  have a1 := (own_lim1 h1).1
  have a0 : 0 ≤ own_zv (l2d F) := Int.le_trans own_1_pos a1
  have a2 := own_l20 h2
  have nL := own_nn_mul own_f500 fF
  have b1 : own_zv 0 ≤ own_zv (dmul 2355382605114769408 (l2d F)) := own_mul_ge own_f500 fF (own_nn_fin own_f0) (by rw [own_zero, Int.zero_mul]; exact Int.mul_nonneg own_500_pos a0)
  have b2 : own_zv (dmul 2355382605114769408 (l2d F)) ≤ own_zv 2445454597662179328 := own_mul_le own_f500 fF (own_nn_fin own_f480) (Int.le_trans (Int.mul_le_mul_of_nonneg_left a2 own_500_pos) own_k480)
  rw [own_zero] at b1
  have fL : DFin (dmul 2355382605114769408 (l2d F)) := own_fin nL (Int.lt_of_lt_of_le own_top_pos b1) (Int.lt_of_le_of_lt b2 own_480_top)
  have nS := own_nn_mul fL fL
  have c1 : own_zv 0 ≤ own_zv (dmul (dmul 2355382605114769408 (l2d F)) (dmul 2355382605114769408 (l2d F))) := own_mul_ge fL fL (own_nn_fin own_f0) (by rw [own_zero, Int.zero_mul]; exact Int.mul_nonneg b1 b1)
  have c2 : own_zv (dmul (dmul 2355382605114769408 (l2d F)) (dmul 2355382605114769408 (l2d F))) ≤ own_zv 283726776524341248 := own_mul_le fL fL (own_nn_fin own_f960) (Int.le_trans (Int.mul_le_mul b2 b2 b1 (Int.le_trans b1 b2)) own_k960)
  rw [own_zero] at c1
  exact ⟨fin64_core.mpr fL, fin64_core.mpr (own_fin nS (Int.lt_of_lt_of_le own_top_pos c1) (Int.lt_of_le_of_lt c2 own_960_top)), own_lt_l nS (own_nn_fin own_f900) (Int.lt_of_le_of_lt c2 own_960_900)⟩
theorem own_1_one : own_zv 4607182418800017408 = (one64 : Int) := by decide +kernel
theorem own_k620 : own_zv 7309342195222315008 * own_zv 4697254411347427328 ≤ own_zv 7399414187769724928 * (one64 : Int) := by decide +kernel
theorem own_620_top : own_zv 7399414187769724928 < (own_top : Int) := by decide +kernel
theorem own_nninf : val64 9218868437227405312 ≠ .nan := by decide +kernel
theorem own_zinf : own_zv 9218868437227405312 = (own_top : Int) := by decide +kernel
theorem own_kinf : own_zv 9218868437227405312 * (one64 : Int) ≤ own_zv 7309342195222315008 * own_zv 7309342195222315008 := by decide +kernel
theorem own_large {F : Int64} (h1 : 1 ≤ F.toInt) (h2 : F.toInt ≤ 1048576) :
    Fin64 (FP.dmul 7309342195222315008 (FP.l2d F)) ∧ ¬ Fin64 (FP.dmul (FP.dmul 7309342195222315008 (FP.l2d F)) (FP.dmul 7309342195222315008 (FP.l2d F))) := by
  have fF : DFin (l2d F) := Jvm.FP.Core.l2d_fin F
  have a1 := (own_lim1 h1).1
  have a2 := own_l20 h2
  have nL := own_nn_mul own_f600 fF
  have b1 : own_zv 7309342195222315008 ≤ own_zv (dmul 7309342195222315008 (l2d F)) := own_mul_ge own_f600 fF (own_nn_fin own_f600) (by rw [← own_1_one]; exact Int.mul_le_mul_of_nonneg_left a1 own_600_pos)
  have b2 : own_zv (dmul 7309342195222315008 (l2d F)) ≤ own_zv 7399414187769724928 := own_mul_le own_f600 fF (own_nn_fin own_f620) (Int.le_trans (Int.mul_le_mul_of_nonneg_left a2 own_600_pos) own_k620)
  have fL : DFin (dmul 7309342195222315008 (l2d F)) := own_fin nL (Int.lt_of_lt_of_le own_top_pos (Int.le_trans own_600_pos b1)) (Int.lt_of_le_of_lt b2 own_620_top)
  have c1 : own_zv 9218868437227405312 ≤ own_zv (dmul (dmul 7309342195222315008 (l2d F)) (dmul 7309342195222315008 (l2d F))) :=
    own_mul_ge fL fL own_nninf (Int.le_trans own_kinf (Int.mul_le_mul b1 b1 own_600_pos (Int.le_trans own_600_pos b1)))
  rw [own_zinf] at c1
  exact ⟨fin64_core.mpr fL, fun h => own_notfin c1 (fin64_core.mp h)⟩
/-! the length handed over at kinds 2 and 3 is finite -/
theorem own_prod {U S V W : UInt64} (fU : DFin U) (fS : DFin S) (fV : DFin V) (fW : DFin W) (hS : 0 ≤ own_zv S) (u1 : own_zv 13970166044103278592 ≤ own_zv U) (u2 : own_zv U ≤ own_zv 4746794007248502784)
    (k1 : own_zv W * (one64 : Int) ≤ own_zv 13970166044103278592 * own_zv S) (k2 : own_zv 4746794007248502784 * own_zv S ≤ own_zv V * (one64 : Int)) (t1 : -(own_top : Int) < own_zv W) (t2 : own_zv V < (own_top : Int)) : Fin64 (FP.dmul U S) := by
  have n := own_nn_mul fU fS
  have b1 := own_mul_ge fU fS (own_nn_fin fW) (Int.le_trans k1 (Int.mul_le_mul_of_nonneg_right u1 hS))
  have b2 := own_mul_le fU fS (own_nn_fin fV) (Int.le_trans (Int.mul_le_mul_of_nonneg_right u2 hS) k2)
  exact fin64_core.mpr (own_fin n (Int.lt_of_lt_of_le t1 b1) (Int.lt_of_le_of_lt b2 t2))
theorem own_prod2 {U : UInt64} (fU : DFin U) (u1 : own_zv 13970166044103278592 ≤ own_zv U) (u2 : own_zv U ≤ own_zv 4746794007248502784) : Fin64 (FP.dmul U 2355382605114769408) :=
  own_prod (V := 2494994193563254784) (W := 11718366230418030592) fU own_f500 (own_dfin (by decide +kernel)) (own_dfin (by decide +kernel)) own_500_pos u1 u2 (by decide +kernel) (by decide +kernel) (by decide +kernel) (by decide +kernel)
theorem own_prod3 {U : UInt64} (fU : DFin U) (u1 : own_zv 13970166044103278592 ≤ own_zv U) (u2 : own_zv U ≤ own_zv 4746794007248502784) : Fin64 (FP.dmul U 7309342195222315008) :=
  own_prod (V := 7448953783670800384) (W := 16672325820525576192) fU own_f600 (own_dfin (by decide +kernel)) (own_dfin (by decide +kernel)) own_600_pos u1 u2 (by decide +kernel) (by decide +kernel) (by decide +kernel) (by decide +kernel)
/-! the units -/
def own_k : Nat := 1064
theorem own_1064 : ((2 ^ own_k : Nat) : Int) = 8796093022208 * (own_H : Int) := by
  have : 2 ^ own_k = 8796093022208 * own_H := by decide +kernel
  rw [this, Int.natCast_mul]
  rfl
theorem own_z1024 : val64 4652218415073722368 = .fin false 4503599627370496 (-42) := by decide +kernel
theorem own_f1024 : DFin 4652218415073722368 := own_dfin (by decide +kernel)
theorem own_div (l : Int32) : own_zv (ddiv (i2d l) 4652218415073722368) = (l.toInt * 8796093022208) * (own_H : Int) := by
  have hD : own_zv (i2d l) = l.toInt * (one64 : Int) := DInt_zval (i2d_int l)
  obtain ⟨s, c, q, ex⟩ := Jvm.FP.Core.i2d_fin l
  have fx := val64_fits (i2d l)
  rw [ex] at fx
  have hs : signed s (inUnits c q b64.qmin) = l.toInt * (one64 : Int) := by
    have h := hD
    unfold own_zv at h
    rw [ex] at h
    exact h
  have hm : inUnits c q b64.qmin = l.toInt.natAbs * one64 := by
    have h := congrArg Int.natAbs hs
    rw [natAbs_signed, Int.natAbs_mul, Int.natAbs_natCast] at h
    exact h
  have hsg : signed s l.toInt.natAbs = l.toInt := by
    rw [hm, signed_mul] at hs
    exact Int.eq_of_mul_eq_mul_right (by have := one64_pos; omega) hs
  have hq := fx.2.1
  have hlt : l.toInt.natAbs < 2 ^ 53 := by
    have := Jvm.RoadKit.rng32 l
    have e53 : (2 : Nat) ^ 53 = 9007199254740992 := by decide
    omega
  obtain ⟨V, v1, v2, v3, v4⟩ := own_repD l.toInt.natAbs own_k hlt (by decide)
  have hi : inUnits c (q - -42) b64.qmin = inUnits c q b64.qmin * 4398046511104 := by
    unfold inUnits
    rw [show (q - -42 - b64.qmin).toNat = (q - b64.qmin).toNat + 42 by omega, Nat.pow_add, show (2 : Nat) ^ 42 = 4398046511104 by decide, Nat.mul_assoc]
  have hE : inUnits c (q - -42) b64.qmin = zmag b64 V * 2 ^ (b64.qmin - b64.qmin).toNat * 4503599627370496 := by
    have hk : one64 * 4398046511104 = 2 ^ own_k * 4503599627370496 := by decide +kernel
    rw [hi, hm, v3, Int.sub_self, show (0 : Int).toNat = 0 from rfl, Nat.pow_zero, Nat.mul_one, Nat.mul_assoc, Nat.mul_assoc, hk]
  have z1 := zmag_roundRatio_le good_b64 (s := s != false) (A := c) (B := 4503599627370496) (e := q - -42) (e0 := b64.qmin) (V := V) (by decide) v1 v2 (Int.le_refl _) (by omega) (Nat.le_of_eq hE)
  have z2 := zmag_roundRatio_ge good_b64 (s := s != false) (A := c) (B := 4503599627370496) (e := q - -42) (e0 := b64.qmin) (V := V) (by decide) v1 (Int.le_refl _) (by omega) (Nat.le_of_eq hE.symm)
  have hR : quotient b64 (.fin s c q) (.fin false 4503599627370496 (-42)) = roundRatio b64 (s != false) c 4503599627370496 (q - -42) := by
    show (if (4503599627370496 : Nat) = 0 then (if c = 0 then Datum.nan else Datum.inf (s != false)) else roundRatio b64 (s != false) c 4503599627370496 (q - -42)) = _
    exact if_neg (by decide)
  unfold own_zv
  rw [val64_ddiv, ex, own_z1024, hR]
  unfold zval
  rw [sgn_roundRatio, Nat.le_antisymm z1 z2, v3, show (s != false) = s by cases s <;> rfl, signed_mul, hsg, own_1064, Int.mul_assoc]
/-- what the law holds as units: a whole number of 1024ths -/
theorem own_units (l : Int32) {U : UInt64} (h : U = FP.i2d l ∨ U = FP.ddiv (FP.i2d l) 4652218415073722368) :
    ∃ u : Int, own_zv U = (u * 8796093022208) * (own_H : Int) ∧ -2199023255552 ≤ u ∧ u ≤ 2199023255552 := by
  obtain ⟨h1, h2⟩ := Jvm.RoadKit.rng32 l
  rcases h with rfl | rfl
  · refine ⟨l.toInt * 1024, ?_, by omega, by omega⟩
    have hD : own_zv (i2d l) = l.toInt * (one64 : Int) := DInt_zval (i2d_int l)
    rw [hD, own_one, ← Int.mul_assoc, show l.toInt * 1024 * 8796093022208 = l.toInt * 9007199254740992 by omega]
  · exact ⟨l.toInt, own_div l, by omega, by omega⟩
theorem own_div_nn (l : Int32) : NoNaN64 (FP.ddiv (FP.i2d l) 4652218415073722368) :=
  Jvm.Free.Fl.ddiv_out (Jvm.Free.Fl.i2d_fin l).noNaN (fin64_core.mpr own_f1024) (nz64_core.mpr (fun ⟨s, q, h⟩ => by rw [own_z1024] at h; cases h))
theorem own_31_top : own_zv 4746794007248502784 < (own_top : Int) := by decide +kernel
theorem own_31n_top : -(own_top : Int) < own_zv 13970166044103278592 := by decide +kernel
theorem own_units_fin (l : Int32) {U : UInt64} (h : U = FP.i2d l ∨ U = FP.ddiv (FP.i2d l) 4652218415073722368) :
    DFin U ∧ own_zv 13970166044103278592 ≤ own_zv U ∧ own_zv U ≤ own_zv 4746794007248502784 := by
  obtain ⟨u, hu, h1, h2⟩ := own_units l h
  have a1 : own_zv 13970166044103278592 ≤ own_zv U := by rw [hu, own_z31n]; exact own_leH (by omega)
  have a2 : own_zv U ≤ own_zv 4746794007248502784 := by rw [hu, own_z31]; exact own_leH (by omega)
  have n : val64 U ≠ .nan := by
    rcases h with rfl | rfl
    · exact own_nn_fin (Jvm.FP.Core.i2d_fin l)
    · exact (notNaN_iff _).mp (noNaN64_no.mp (own_div_nn l))
  exact ⟨own_fin n (Int.lt_of_lt_of_le own_31n_top a1) (Int.lt_of_le_of_lt a2 own_31_top), a1, a2⟩
/-! whole numbers -/
theorem own_and32 (x m : Int32) {k : Nat} (hm : m.toBitVec.toNat = k) (hk : k < 2147483648) : 0 ≤ (x &&& m).toInt ∧ (x &&& m).toInt ≤ (k : Int) := by
  have e : (x &&& m).toBitVec.toNat = x.toBitVec.toNat &&& m.toBitVec.toNat := by rw [Int32.toBitVec_and, BitVec.toNat_and]
  have hle : (x &&& m).toBitVec.toNat ≤ k := by rw [e, hm]; exact Nat.and_le_right
  have e1 : (x &&& m).toInt = (x &&& m).toBitVec.toInt := rfl
  rw [e1, BitVec.toInt_eq_toNat_cond, if_pos (by omega)]
  omega
theorem own_and64 (x m : Int64) {k : Nat} (hm : m.toBitVec.toNat = k) (hk : k < 9223372036854775808) : 0 ≤ (x &&& m).toInt ∧ (x &&& m).toInt ≤ (k : Int) := by
  have e : (x &&& m).toBitVec.toNat = x.toBitVec.toNat &&& m.toBitVec.toNat := by rw [Int64.toBitVec_and, BitVec.toNat_and]
  have hle : (x &&& m).toBitVec.toNat ≤ k := by rw [e, hm]; exact Nat.and_le_right
  have e1 : (x &&& m).toInt = (x &&& m).toBitVec.toInt := rfl
  rw [e1, BitVec.toInt_eq_toNat_cond, if_pos (by omega)]
  omega
theorem own_base (b : Int32) : 1 ≤ (1 + (b &&& 1023)).toInt64.toInt ∧ (1 + (b &&& 1023)).toInt64.toInt ≤ 1024 := by
  have h := own_and32 b 1023 (k := 1023) (by decide) (by decide)
  have h2 := Jvm.RoadKit.c_iadd 1 (b &&& 1023)
  have h3 := Jvm.RoadKit.rng32 (1 + (b &&& 1023))
  rw [show (1 : Int32).toInt = 1 from by decide] at h2
  rw [Int32.toInt_toInt64]
  omega
theorem own_factor (f : Int64) : 1 ≤ (1 + (f &&& 1048575)).toInt ∧ (1 + (f &&& 1048575)).toInt ≤ 1048576 := by
  have h := own_and64 f 1048575 (k := 1048575) (by decide) (by decide)
  have h2 := Jvm.RoadKit.c_ladd 1 (f &&& 1048575)
  have h3 := Jvm.RoadKit.rng64 (1 + (f &&& 1048575))
  rw [show (1 : Int64).toInt = 1 from by decide] at h2
  omega
theorem own_factor1 (f : Int64) (h : ¬ (f &&& 9223372036854775807) = 0) : 1 ≤ (f &&& 9223372036854775807).toInt := by
  have h1 := own_and64 f 9223372036854775807 (k := 9223372036854775807) (by decide) (by decide)
  have h2 : (f &&& 9223372036854775807).toInt ≠ 0 := fun e => h (Int64.toInt_inj.mp (by rw [e]; decide))
  omega
/-- kind 0: the product of the two doubles is the double of the product -/
theorem own_prod0 (b : Int32) (f : Int64) : FP.dmul (FP.l2d (1 + (b &&& 1023)).toInt64) (FP.l2d (1 + (f &&& 1048575))) = FP.l2d ((1 + (b &&& 1023)).toInt64 * (1 + (f &&& 1048575))) ∧ 1 ≤ ((1 + (b &&& 1023)).toInt64 * (1 + (f &&& 1048575))).toInt := by
  obtain ⟨b1, b2⟩ := own_base b
  obtain ⟨f1, f2⟩ := own_factor f
  generalize (1 + (b &&& 1023)).toInt64 = B at *
  generalize (1 + (f &&& 1048575)) = F at *
  have p1 : 1 * 1 ≤ B.toInt * F.toInt := Int.mul_le_mul b1 f1 (by decide) (by omega)
  have p2 : B.toInt * F.toInt ≤ 1024 * 1048576 := Int.mul_le_mul b2 f2 (by omega) (by decide)
  have nB : ¬ B = 0 := fun e => by rw [e] at b1; exact absurd b1 (by decide)
  have nF : ¬ F = 0 := fun e => by rw [e] at f1; exact absurd f1 (by decide)
  refine ⟨Jvm.RoadKit.dmul_w ⟨by omega, by omega⟩ ⟨by omega, by omega⟩ nB nF (by omega) (by omega), ?_⟩
  have h5 := Jvm.RoadKit.c_lmul B F
  have h6 := Jvm.RoadKit.rng64 (B * F)
  omega
theorem own_pos {L : Int64} (h : 1 ≤ L.toInt) : ifCond.holds .le (cmpValue (FP.dcmp (FP.l2d L) 0) .l) = false := by
  refine own_gt_l (own_nn_fin (Jvm.FP.Core.l2d_fin L)) (own_nn_fin own_f0) ?_
  rw [own_zero]
  exact Int.lt_of_lt_of_le (by decide +kernel) (own_lim1 h).1
end OwnPlain2
theorem d1_0 : decode prog_15_method_1_code 0 = .ok (.aload_n 0, 1) := by decide +kernel
theorem d1_1 : decode prog_15_method_1_code 1 = .ok (.invokespecial 1, 3) := by decide +kernel
theorem d1_4 : decode prog_15_method_1_code 4 = .ok (.dload_n 1, 1) := by decide +kernel
theorem d1_5 : decode prog_15_method_1_code 5 = .ok (.dconst 0, 1) := by decide +kernel
theorem d1_6 : decode prog_15_method_1_code 6 = .ok (.dcmp .l, 1) := by decide +kernel
theorem d1_7 : decode prog_15_method_1_code 7 = .ok (.ifCond .le 16, 3) := by decide +kernel
theorem d1_10 : decode prog_15_method_1_code 10 = .ok (.dload_n 1, 1) := by decide +kernel
theorem d1_11 : decode prog_15_method_1_code 11 = .ok (.invokestatic 7, 3) := by decide +kernel
theorem d1_14 : decode prog_15_method_1_code 14 = .ok (.ifCond .ne 9, 3) := by decide +kernel
theorem d1_17 : decode prog_15_method_1_code 17 = .ok (.lload_n 3, 1) := by decide +kernel
theorem d1_18 : decode prog_15_method_1_code 18 = .ok (.lconst 1, 1) := by decide +kernel
theorem d1_19 : decode prog_15_method_1_code 19 = .ok (.lcmp, 1) := by decide +kernel
theorem d1_20 : decode prog_15_method_1_code 20 = .ok (.ifCond .ge 18, 3) := by decide +kernel
theorem d1_23 : decode prog_15_method_1_code 23 = .ok (.new 13, 3) := by decide +kernel
theorem d1_26 : decode prog_15_method_1_code 26 = .ok (.dup, 1) := by decide +kernel
theorem d1_27 : decode prog_15_method_1_code 27 = .ok (.dload_n 1, 1) := by decide +kernel
theorem d1_28 : decode prog_15_method_1_code 28 = .ok (.lload_n 3, 1) := by decide +kernel
theorem d1_29 : decode prog_15_method_1_code 29 = .ok (.invokedynamic 15, 5) := by decide +kernel
theorem d1_34 : decode prog_15_method_1_code 34 = .ok (.invokespecial 19, 3) := by decide +kernel
theorem d1_37 : decode prog_15_method_1_code 37 = .ok (.athrow, 1) := by decide +kernel
theorem d1_38 : decode prog_15_method_1_code 38 = .ok (.aload_n 0, 1) := by decide +kernel
theorem d1_39 : decode prog_15_method_1_code 39 = .ok (.dload_n 1, 1) := by decide +kernel
theorem d1_40 : decode prog_15_method_1_code 40 = .ok (.putfield 22, 3) := by decide +kernel
theorem d1_43 : decode prog_15_method_1_code 43 = .ok (.aload_n 0, 1) := by decide +kernel
theorem d1_44 : decode prog_15_method_1_code 44 = .ok (.lload_n 3, 1) := by decide +kernel
theorem d1_45 : decode prog_15_method_1_code 45 = .ok (.putfield 28, 3) := by decide +kernel
theorem d1_48 : decode prog_15_method_1_code 48 = .ok (.dload_n 1, 1) := by decide +kernel
theorem d1_49 : decode prog_15_method_1_code 49 = .ok (.lload_n 3, 1) := by decide +kernel
theorem d1_50 : decode prog_15_method_1_code 50 = .ok (.l2d, 1) := by decide +kernel
theorem d1_51 : decode prog_15_method_1_code 51 = .ok (.dmul, 1) := by decide +kernel
theorem d1_52 : decode prog_15_method_1_code 52 = .ok (.dstore 5, 2) := by decide +kernel
theorem d1_54 : decode prog_15_method_1_code 54 = .ok (.aload_n 0, 1) := by decide +kernel
theorem d1_55 : decode prog_15_method_1_code 55 = .ok (.dload 5, 2) := by decide +kernel
theorem d1_57 : decode prog_15_method_1_code 57 = .ok (.dload 5, 2) := by decide +kernel
theorem d1_59 : decode prog_15_method_1_code 59 = .ok (.dmul, 1) := by decide +kernel
theorem d1_60 : decode prog_15_method_1_code 60 = .ok (.putfield 32, 3) := by decide +kernel
theorem d1_63 : decode prog_15_method_1_code 63 = .ok (.aload_n 0, 1) := by decide +kernel
theorem d1_64 : decode prog_15_method_1_code 64 = .ok (.aload_n 0, 1) := by decide +kernel
theorem d1_65 : decode prog_15_method_1_code 65 = .ok (.getfield 32, 3) := by decide +kernel
theorem d1_68 : decode prog_15_method_1_code 68 = .ok (.invokestatic 35, 3) := by decide +kernel
theorem d1_71 : decode prog_15_method_1_code 71 = .ok (.ifCond .eq 18, 3) := by decide +kernel
theorem d1_74 : decode prog_15_method_1_code 74 = .ok (.aload_n 0, 1) := by decide +kernel
theorem d1_75 : decode prog_15_method_1_code 75 = .ok (.getfield 32, 3) := by decide +kernel
theorem d1_78 : decode prog_15_method_1_code 78 = .ok (.ldc2_w 38, 3) := by decide +kernel
theorem d1_81 : decode prog_15_method_1_code 81 = .ok (.dcmp .l, 1) := by decide +kernel
theorem d1_82 : decode prog_15_method_1_code 82 = .ok (.ifCond .lt 7, 3) := by decide +kernel
theorem d1_85 : decode prog_15_method_1_code 85 = .ok (.iconst 1, 1) := by decide +kernel
theorem d1_86 : decode prog_15_method_1_code 86 = .ok (.goto 4, 3) := by decide +kernel
theorem d1_89 : decode prog_15_method_1_code 89 = .ok (.iconst 0, 1) := by decide +kernel
theorem d1_90 : decode prog_15_method_1_code 90 = .ok (.putfield 40, 3) := by decide +kernel
theorem d1_93 : decode prog_15_method_1_code 93 = .ok (.aload_n 0, 1) := by decide +kernel
theorem d1_94 : decode prog_15_method_1_code 94 = .ok (.dload 5, 2) := by decide +kernel
theorem d1_96 : decode prog_15_method_1_code 96 = .ok (.ldc2_w 44, 3) := by decide +kernel
theorem d1_99 : decode prog_15_method_1_code 99 = .ok (.dmul, 1) := by decide +kernel
theorem d1_100 : decode prog_15_method_1_code 100 = .ok (.putfield 46, 3) := by decide +kernel
theorem d1_103 : decode prog_15_method_1_code 103 = .ok (.aload_n 0, 1) := by decide +kernel
theorem d1_104 : decode prog_15_method_1_code 104 = .ok (.aload_n 0, 1) := by decide +kernel
theorem d1_105 : decode prog_15_method_1_code 105 = .ok (.getfield 40, 3) := by decide +kernel
theorem d1_108 : decode prog_15_method_1_code 108 = .ok (.ifCond .eq 12, 3) := by decide +kernel
theorem d1_111 : decode prog_15_method_1_code 111 = .ok (.dload 5, 2) := by decide +kernel
theorem d1_113 : decode prog_15_method_1_code 113 = .ok (.ldc2_w 49, 3) := by decide +kernel
theorem d1_116 : decode prog_15_method_1_code 116 = .ok (.dmul, 1) := by decide +kernel
theorem d1_117 : decode prog_15_method_1_code 117 = .ok (.goto 6, 3) := by decide +kernel
theorem d1_120 : decode prog_15_method_1_code 120 = .ok (.ldc2_w 51, 3) := by decide +kernel
theorem d1_123 : decode prog_15_method_1_code 123 = .ok (.putfield 53, 3) := by decide +kernel
theorem d1_126 : decode prog_15_method_1_code 126 = .ok (.return_, 1) := by decide +kernel
theorem d6_0 : decode prog_15_method_5_code 0 = .ok (.dload_n 1, 1) := by decide +kernel
theorem d6_1 : decode prog_15_method_5_code 1 = .ok (.aload_n 0, 1) := by decide +kernel
theorem d6_2 : decode prog_15_method_5_code 2 = .ok (.getfield 53, 3) := by decide +kernel
theorem d6_5 : decode prog_15_method_5_code 5 = .ok (.dcmp .g, 1) := by decide +kernel
theorem d6_6 : decode prog_15_method_5_code 6 = .ok (.ifCond .gt 7, 3) := by decide +kernel
theorem d6_9 : decode prog_15_method_5_code 9 = .ok (.iconst 1, 1) := by decide +kernel
theorem d6_10 : decode prog_15_method_5_code 10 = .ok (.goto 4, 3) := by decide +kernel
theorem d6_13 : decode prog_15_method_5_code 13 = .ok (.iconst 0, 1) := by decide +kernel
theorem d6_14 : decode prog_15_method_5_code 14 = .ok (.ireturn, 1) := by decide +kernel
theorem pnD : plainName "com/example/murmuration/murmuration/cluster/DistanceLimit" = true := by first | (simp [plainName, overriddenIn]; done) | decide +kernel
theorem pnL : plainName "com/example/murmuration/murmuration/cluster/DistanceLimitSurelyAllowsPinLaw" = true := by first | (simp [plainName, overriddenIn]; done) | decide +kernel
theorem pdI : parseMethodDescriptor "(DJ)V" = some ⟨[.double, .long], none⟩ := by decide +kernel
theorem own_ifEq {x : Int32} : ifCond.holds .eq x = true ↔ x = 0 := by simp [ifCond.holds]
theorem own_ifEqN {x : Int32} : ifCond.holds .eq x = false ↔ ¬ x = 0 := by simp [ifCond.holds]
theorem own_ifNe {x : Int32} : ifCond.holds .ne x = true ↔ ¬ x = 0 := by simp [ifCond.holds]
theorem own_ifNeN {x : Int32} : ifCond.holds .ne x = false ↔ x = 0 := by simp [ifCond.holds]
theorem own_ne01 {x : Int32} (h : x = 1) : ¬ x = 0 := by rw [h]; decide
theorem own_lcNe {x : Int64} : ifCond.holds .ne (lcmpW x 0) = true ↔ ¬ x = 0 := by rw [own_ifNe, lw_eq]
theorem own_lcNeN {x : Int64} : ifCond.holds .ne (lcmpW x 0) = false ↔ x = 0 := by rw [own_ifNeN, lw_eq]
theorem own_lcGe {x : Int64} (h : 1 ≤ x.toInt) : ifCond.holds .ge (lcmpW x 1) = true := by
  have h1 : ¬ lcmpW x 1 < 0 := fun q => by
    have := (lw_lt x 1).mp q
    rw [Int64.lt_iff_toInt_lt] at this
    have e : (1 : Int64).toInt = 1 := by decide
    omega
  rw [if0]
  exact (flt h1).2.1
section OwnCalls
open Jvm.Free.Fl
variable {p : Program} {l : Launch} {e : Env} {R : Room} {s : State} {m : MethodId} {args : Array Value} {below : List Frame} {meth : Method} {c : Code} {T : State} {locs : List Loc} {cells slots : Nat} {Z : State} {h : Heap} {a0 : Array Value}
theorem own_andB {a b : Jvm.Cond} {s : State} {args : Array Value} (ha : a.before args s = true) (hb : b.before args s = true) : (Jvm.Cond.and a b).before args s = true := by rw [Cond.before_and, ha, hb]; rfl
theorem pdZ : parseMethodDescriptor "(D)Z" = some ⟨[.double], some .boolean⟩ := by decide +kernel
theorem own_infS (X : Stand p l e R s m args below meth c T locs cells slots) (hx : p.tables.exec = Jvm.exec) (hZ : Z.Warmed39 s.vm) (hw : ∀ d ∈ tables_1, d.before a0 Z = true) (hown : s.vm.findClass "com/example/murmuration/murmuration/cluster/DistanceLimit" = some m.cls) (eT : T.heap = h) {x : UInt64} (hr : Fin64 x) {g : JFrame} (hg : g.method = m) (hsize : g.locals.size = c.maxLocals) {rest : List Value} (hst : g.stack = .double x :: rest) (hW : 2 * g.monitorRoom + (rest.map fun v => v.category).sum ≤ 0) (hd : decode c.code g.pc = .ok (.invokestatic 7, 3)) (hf : 2 ≤ R.frames) (hl : 27 ≤ R.locals) (hc : cells ≤ R.cells) (hs : slots ≤ R.slots) :
    ∃ T', Stand p l e R s m args below meth c T' locs cells slots ∧ T'.heap = h ∧ ∀ target, Steps p.tables e below (T'.setTop { g with pc := g.pc + 3, stack := .int (0 : Int32) :: rest }) target → Steps p.tables e below (T.setTop g) target := by
  have nx : NoNaN64 x := hr.noNaN
  have tb : Jvm.Free.Fl.IsInfinite.tab.before args s = true := own_andB (mvT hZ (hw _ (List.mem_of_getElem? (i := 13) rfl))) (own_andB (mvT hZ (hw _ (List.mem_of_getElem? (i := 14) rfl))) (own_andB (mvT hZ (hw _ (List.mem_of_getElem? (i := 15) rfl))) (own_andB (mvT hZ (hw _ (List.mem_of_getElem? (i := 16) rfl))) (own_andB (mvT hZ (hw _ (List.mem_of_getElem? (i := 17) rfl))) (mvT hZ (hw _ (List.mem_of_getElem? (i := 18) rfl)))))))
  obtain ⟨v, vm1, ⟨T', L', k', n'⟩, -, X', ⟨⟨e1, e2, e3, e4⟩, hv⟩, st⟩ := Jvm.LawKit.callS X hx (y := Jvm.Free.Fl.IsInfinite.yN) hown (mvT hZ (hw _ (List.mem_of_getElem? (i := 10) rfl))) (mvT hZ (hw _ (List.mem_of_getElem? (i := 11) rfl))) (mvT hZ (hw _ (List.mem_of_getElem? (i := 12) rfl))) (mvT hZ (hw _ (List.mem_of_getElem? (i := 13) rfl))) (by decide) (Jvm.Free.Fl.IsInfinite.pays (W := 0) (by show 1 + 1 ≤ R.frames; omega) (by show 0 + (2 + 11) + 13 ≤ R.locals; omega) tb (mvT hZ (hw _ (List.mem_of_getElem? (i := 12) rfl)))) hg hsize (argsL := [.double x]) (rest := rest) (lenOf pdZ rfl) hst hW hd (fun _ _ => ⟨hc, hs, x, rfl, nx⟩)
  dsimp only [Pt.U, Pt.locs, Pt.cells, Pt.slots] at X' e1 e2 e3 e4 st hv
  rw [e2, e3, e4] at X'
  have hv1 := hv x ⟨rfl, nx⟩
  rw [if_neg (fun q => (gt_max_iff nx).mp q hr)] at hv1
  subst hv1
  exact ⟨T', X', e1.trans eT, st⟩
theorem own_finS (X : Stand p l e R s m args below meth c T locs cells slots) (hx : p.tables.exec = Jvm.exec) (hZ : Z.Warmed39 s.vm) (hw : ∀ d ∈ tables_1, d.before a0 Z = true) (hown : s.vm.findClass "com/example/murmuration/murmuration/cluster/DistanceLimit" = some m.cls) (eT : T.heap = h) {x : UInt64} {r : Int32} (hr : (Fin64 x ∧ r = 1) ∨ (NoNaN64 x ∧ ¬ Fin64 x ∧ r = 0)) {g : JFrame} (hg : g.method = m) (hsize : g.locals.size = c.maxLocals) {rest : List Value} (hst : g.stack = .double x :: rest) (hW : 2 * g.monitorRoom + (rest.map fun v => v.category).sum ≤ 1) (hd : decode c.code g.pc = .ok (.invokestatic 35, 3)) (hf : 2 ≤ R.frames) (hl : 27 ≤ R.locals) (hc : cells ≤ R.cells) (hs : slots ≤ R.slots) :
    ∃ T', Stand p l e R s m args below meth c T' locs cells slots ∧ T'.heap = h ∧ ∀ target, Steps p.tables e below (T'.setTop { g with pc := g.pc + 3, stack := .int r :: rest }) target → Steps p.tables e below (T.setTop g) target := by
  have nx : NoNaN64 x := hr.elim (fun h => h.1.noNaN) (fun h => h.1)
  have tb : Jvm.Free.Fl.IsFinite.tab.before args s = true := own_andB (mvT hZ (hw _ (List.mem_of_getElem? (i := 27) rfl))) (own_andB (mvT hZ (hw _ (List.mem_of_getElem? (i := 14) rfl))) (own_andB (mvT hZ (hw _ (List.mem_of_getElem? (i := 15) rfl))) (own_andB (mvT hZ (hw _ (List.mem_of_getElem? (i := 16) rfl))) (own_andB (mvT hZ (hw _ (List.mem_of_getElem? (i := 17) rfl))) (mvT hZ (hw _ (List.mem_of_getElem? (i := 18) rfl)))))))
  obtain ⟨v, vm1, ⟨T', L', k', n'⟩, -, X', ⟨⟨e1, e2, e3, e4⟩, hv⟩, st⟩ := Jvm.LawKit.callS X hx (y := Jvm.Free.Fl.IsFinite.yN) hown (mvT hZ (hw _ (List.mem_of_getElem? (i := 25) rfl))) (mvT hZ (hw _ (List.mem_of_getElem? (i := 26) rfl))) (mvT hZ (hw _ (List.mem_of_getElem? (i := 12) rfl))) (mvT hZ (hw _ (List.mem_of_getElem? (i := 27) rfl))) (by decide) (Jvm.Free.Fl.IsFinite.pays (W := 1) (by show 1 + 1 ≤ R.frames; omega) (by show 1 + (2 + 11) + 13 ≤ R.locals; omega) tb (mvT hZ (hw _ (List.mem_of_getElem? (i := 12) rfl)))) hg hsize (argsL := [.double x]) (rest := rest) (lenOf pdZ rfl) hst hW hd (fun _ _ => ⟨hc, hs, x, rfl, nx⟩)
  dsimp only [Pt.U, Pt.locs, Pt.cells, Pt.slots] at X' e1 e2 e3 e4 st hv
  rw [e2, e3, e4] at X'
  have hv1 := hv x ⟨rfl, nx⟩
  rcases hr with ⟨h1, rfl⟩ | ⟨-, h1, rfl⟩
  · rw [if_pos ((le_max_iff nx).mpr h1)] at hv1
    subst hv1
    exact ⟨T', X', e1.trans eT, st⟩
  · rw [if_neg (fun q => h1 ((le_max_iff nx).mp q))] at hv1
    subst hv1
    exact ⟨T', X', e1.trans eT, st⟩
theorem own_fC2 : Fin64 4607182418800017453 := fin64_core.mpr (own_dfin (by decide +kernel))
theorem own_fC64 : Fin64 4607182418800017318 := fin64_core.mpr own_fC
end OwnCalls
theorem efI (m : MethodId) (a5 : Addr) (p6 : UInt64) (f7 : Int64) : entryFrame m #[(.ref a5), (.double p6), (.long f7)] 7 = mkF m 0 #[.val (.ref a5), .val (.double p6), .second, .val (.long f7), .second, .unset, .unset] [] := by first | (simp [entryFrame, mkF, argsToLocals, Value.category]; done) | rfl
def QI (Z : State) (a5 : Addr) (inn : UInt64) (h0 : Heap) (n0 : Nat) (v : Option Value) (h : Heap) (L : List Loc) : Prop := (v = none ∧ Fr n0 L ∧ (Keep h0 h [a5]) ∧ (Exa Z h a5 "com/example/murmuration/murmuration/cluster/DistanceLimit") ∧ (Fld Z h a5 "com/example/murmuration/murmuration/cluster/DistanceLimit" "inner" "D" (.double inn)))
set_option maxRecDepth 65536 in
set_option maxHeartbeats 40000000 in
theorem rmIG (l : Launch) (Z : State) (a0 : Array Value) (hw : ∀ d ∈ tables_1, d.before a0 Z = true) (ws : List Jvm.Cond) (a5 : Addr) (p6 : UInt64) (f7 : Int64) (lim sq inn : UInt64) (h0 : Heap) (n0 : Nat) (Z0 : n0 ≤ h0.size) (Fbase0 : Fld Z h0 a5 "com/example/murmuration/murmuration/cluster/DistanceLimit" "base" "D" (.double 0)) (Ffactor0 : Fld Z h0 a5 "com/example/murmuration/murmuration/cluster/DistanceLimit" "factor" "J" (.long 0)) (Fsquared0 : Fld Z h0 a5 "com/example/murmuration/murmuration/cluster/DistanceLimit" "squared" "D" (.double 0)) (Ffast0 : Fld Z h0 a5 "com/example/murmuration/murmuration/cluster/DistanceLimit" "fast" "Z" (.int 0)) (Freach0 : Fld Z h0 a5 "com/example/murmuration/murmuration/cluster/DistanceLimit" "reach" "D" (.double 0)) (Finner0 : Fld Z h0 a5 "com/example/murmuration/murmuration/cluster/DistanceLimit" "inner" "D" (.double 0)) (E0 : Exa Z h0 a5 "com/example/murmuration/murmuration/cluster/DistanceLimit") (g9 : n0 ≤ a5)
    (c1 : ifCond.holds .le (cmpValue (FP.dcmp p6 0) .l) = false) (c2 : Jvm.Free.Fl.Fin64 p6) (c3 : ifCond.holds .ge (lcmpW f7 1) = true) (q1 : FP.dmul p6 (FP.l2d f7) = lim) (fl : Jvm.Free.Fl.Fin64 lim) (q2 : FP.dmul lim lim = sq) (r1 : Jvm.Free.Fl.Fin64 sq) (r2 : ifCond.holds .lt (cmpValue (FP.dcmp sq 553942754166571008) .l) = false) (r3 : FP.dmul lim 4607182418800017318 = inn) :
    MetFree l (⟨"com/example/murmuration/murmuration/cluster/DistanceLimit", "<init>", "(DJ)V"⟩ : MethodName) (head1 (Jvm.Cond.code (⟨"com/example/murmuration/murmuration/cluster/DistanceLimit", "<init>", "(DJ)V"⟩ : MethodName) prog_15_method_1_code 7 none :: ws) ({ frames := 2, cells := 0, slots := 0, locals := 27 } : Room)) (fun a U => a = #[(.ref a5), (.double p6), (.long f7)] ∧ Z.Warmed39 U.vm ∧ U.heap = h0) (fun _ _ _ _ _ => True) (fun _ U o U' => ∃ v L, o = .returned v ∧ QI Z a5 inn h0 n0 v U'.heap L ∧ FrameEnd U o U' L ({ frames := 2, cells := 0, slots := 0, locals := 27 } : Room).cells ({ frames := 2, cells := 0, slots := 0, locals := 27 } : Room).slots) := by
  refine MetFree.of_bodySF (plainFor_of_name pnD) hisR ?_
  intro p e s m args below meth c s₁ Bd hml0 hP hK
  obtain ⟨rfl, hZ, hh⟩ := hP
  have hx := Bd.exec
  have hby := Bd.bytes
  have hml : c.maxLocals = 7 := hml0
  have hown : s.vm.findClass "com/example/murmuration/murmuration/cluster/DistanceLimit" = some m.cls := findClass_of_methodNamed Bd.named
  have hnm := (name_of_methodNamed Bd.named Bd.method).1
  have X0 : Stand p l e ({ frames := 2, cells := 0, slots := 0, locals := 27 } : Room) s m #[(.ref a5), (.double p6), (.long f7)] below meth c s₁ [] 0 0 := Stand.of_body Bd
  have e0 : s₁.heap = h0 := by rw [← hh, Bd.state]; rfl
  have N0 := Fr.nil n0
  have pre0 : ∀ t, Steps p.tables e below (s₁.setTop (mkF m 0 #[.val (.ref a5), .val (.double p6), .second, .val (.long f7), .second, .unset, .unset] [])) t → Steps p.tables e below (s₁.setTop (entryFrame m #[(.ref a5), (.double p6), (.long f7)] 7)) t := fun t k => castTop (efI m a5 p6 f7) k
  obtain ⟨T1, X1, e1, st1⟩ := initO X0 hx hZ hown (hw _ (List.mem_of_getElem? (i := 7) rfl)) (hw _ (List.mem_of_getElem? (i := 8) rfl)) (hw _ (List.mem_of_getElem? (i := 9) rfl)) e0 (g := (mkF m 1 #[.val (.ref a5), .val (.double p6), .second, .val (.long f7), .second, .unset, .unset] [(.ref a5)])) rfl (by rw [hml]; rfl) rfl (hb hby d1_1) (by decide) (W := 0) (by show 2 * 0 + _ ≤ _; exact Nat.le_of_eq rfl) (by decide)
  obtain ⟨T2, X2, e2, st2⟩ := own_infS X1 hx hZ hw hown e1 c2 (g := (mkF m 11 #[.val (.ref a5), .val (.double p6), .second, .val (.long f7), .second, .unset, .unset] [(.double p6)])) rfl (by rw [hml]; rfl) rfl (by show 2 * 0 + _ ≤ _; exact Nat.le_of_eq rfl) (hb hby d1_11) (by decide) (by decide) (by decide) (by decide)
  obtain ⟨T3, h3, X3, e3, W3, st3⟩ := putF X2 hx hZ hown (host := "") (Or.inl (hw _ (List.mem_of_getElem? (i := 19) rfl))) Via.refl e2 Fbase0 E0 (Or.inr ⟨(hw _ (List.mem_of_getElem? (i := 20) rfl)), rfl, hnm⟩) (hw _ (List.mem_of_getElem? (i := 2) rfl)) (ty := .double) (by decide) rfl rfl (g := (mkF m 40 #[.val (.ref a5), .val (.double p6), .second, .val (.long f7), .second, .unset, .unset] [(.double p6), (.ref a5)])) rfl rfl (hb hby d1_40)
  have N3 := Fr.snoc X3 N0 g9
  have P3 : Keep h0 h3 [a5] := ((Keep.refl _ _).wr W3 (Or.inl (List.mem_of_getElem? (i := 0) rfl)))
  have E3 : Exa Z h3 a5 "com/example/murmuration/murmuration/cluster/DistanceLimit" := (E0.wr W3)
  have Ffactor3 : Fld Z h3 a5 "com/example/murmuration/murmuration/cluster/DistanceLimit" "factor" "J" (.long 0) := Ffactor0.other W3 (Or.inr (slot_ne (Or.inr (hw _ (List.mem_of_getElem? (i := 22) rfl))) (Or.inr (hw _ (List.mem_of_getElem? (i := 20) rfl))) (by decide) (t := .long) (t' := .double) (by decide) (by decide)))
  have Fsquared3 : Fld Z h3 a5 "com/example/murmuration/murmuration/cluster/DistanceLimit" "squared" "D" (.double 0) := Fsquared0.other W3 (Or.inr (slot_ne (Or.inr (hw _ (List.mem_of_getElem? (i := 24) rfl))) (Or.inr (hw _ (List.mem_of_getElem? (i := 20) rfl))) (by decide) (t := .double) (t' := .double) (by decide) (by decide)))
  have Ffast3 : Fld Z h3 a5 "com/example/murmuration/murmuration/cluster/DistanceLimit" "fast" "Z" (.int 0) := Ffast0.other W3 (Or.inr (slot_ne (Or.inr (hw _ (List.mem_of_getElem? (i := 30) rfl))) (Or.inr (hw _ (List.mem_of_getElem? (i := 20) rfl))) (by decide) (t := .boolean) (t' := .double) (by decide) (by decide)))
  have Freach3 : Fld Z h3 a5 "com/example/murmuration/murmuration/cluster/DistanceLimit" "reach" "D" (.double 0) := Freach0.other W3 (Or.inr (slot_ne (Or.inr (hw _ (List.mem_of_getElem? (i := 33) rfl))) (Or.inr (hw _ (List.mem_of_getElem? (i := 20) rfl))) (by decide) (t := .double) (t' := .double) (by decide) (by decide)))
  have Finner3 : Fld Z h3 a5 "com/example/murmuration/murmuration/cluster/DistanceLimit" "inner" "D" (.double 0) := Finner0.other W3 (Or.inr (slot_ne (Or.inr (hw _ (List.mem_of_getElem? (i := 36) rfl))) (Or.inr (hw _ (List.mem_of_getElem? (i := 20) rfl))) (by decide) (t := .double) (t' := .double) (by decide) (by decide)))
  obtain ⟨T4, h4, X4, e4, W4, st4⟩ := putF X3 hx hZ hown (host := "") (Or.inl (hw _ (List.mem_of_getElem? (i := 21) rfl))) Via.refl e3 Ffactor3 E3 (Or.inr ⟨(hw _ (List.mem_of_getElem? (i := 22) rfl)), rfl, hnm⟩) (hw _ (List.mem_of_getElem? (i := 2) rfl)) (ty := .long) (by decide) rfl rfl (g := (mkF m 45 #[.val (.ref a5), .val (.double p6), .second, .val (.long f7), .second, .unset, .unset] [(.long f7), (.ref a5)])) rfl rfl (hb hby d1_45)
  have N4 := Fr.snoc X4 N3 g9
  have P4 : Keep h0 h4 [a5] := (P3.wr W4 (Or.inl (List.mem_of_getElem? (i := 0) rfl)))
  have E4 : Exa Z h4 a5 "com/example/murmuration/murmuration/cluster/DistanceLimit" := (E3.wr W4)
  have Fsquared4 : Fld Z h4 a5 "com/example/murmuration/murmuration/cluster/DistanceLimit" "squared" "D" (.double 0) := Fsquared3.other W4 (Or.inr (slot_ne (Or.inr (hw _ (List.mem_of_getElem? (i := 24) rfl))) (Or.inr (hw _ (List.mem_of_getElem? (i := 22) rfl))) (by decide) (t := .double) (t' := .long) (by decide) (by decide)))
  have Ffast4 : Fld Z h4 a5 "com/example/murmuration/murmuration/cluster/DistanceLimit" "fast" "Z" (.int 0) := Ffast3.other W4 (Or.inr (slot_ne (Or.inr (hw _ (List.mem_of_getElem? (i := 30) rfl))) (Or.inr (hw _ (List.mem_of_getElem? (i := 22) rfl))) (by decide) (t := .boolean) (t' := .long) (by decide) (by decide)))
  have Freach4 : Fld Z h4 a5 "com/example/murmuration/murmuration/cluster/DistanceLimit" "reach" "D" (.double 0) := Freach3.other W4 (Or.inr (slot_ne (Or.inr (hw _ (List.mem_of_getElem? (i := 33) rfl))) (Or.inr (hw _ (List.mem_of_getElem? (i := 22) rfl))) (by decide) (t := .double) (t' := .long) (by decide) (by decide)))
  have Finner4 : Fld Z h4 a5 "com/example/murmuration/murmuration/cluster/DistanceLimit" "inner" "D" (.double 0) := Finner3.other W4 (Or.inr (slot_ne (Or.inr (hw _ (List.mem_of_getElem? (i := 36) rfl))) (Or.inr (hw _ (List.mem_of_getElem? (i := 22) rfl))) (by decide) (t := .double) (t' := .long) (by decide) (by decide)))
  obtain ⟨T5, h5, X5, e5, W5, st5⟩ := putF X4 hx hZ hown (host := "") (Or.inl (hw _ (List.mem_of_getElem? (i := 23) rfl))) Via.refl e4 Fsquared4 E4 (Or.inr ⟨(hw _ (List.mem_of_getElem? (i := 24) rfl)), rfl, hnm⟩) (hw _ (List.mem_of_getElem? (i := 2) rfl)) (ty := .double) (by decide) rfl rfl (g := (mkF m 60 #[.val (.ref a5), .val (.double p6), .second, .val (.long f7), .second, .val (.double lim), .second] [(.double sq), (.ref a5)])) rfl rfl (hb hby d1_60)
  have N5 := Fr.snoc X5 N4 g9
  have P5 : Keep h0 h5 [a5] := (P4.wr W5 (Or.inl (List.mem_of_getElem? (i := 0) rfl)))
  have E5 : Exa Z h5 a5 "com/example/murmuration/murmuration/cluster/DistanceLimit" := (E4.wr W5)
  have Fsquared5 : Fld Z h5 a5 "com/example/murmuration/murmuration/cluster/DistanceLimit" "squared" "D" (.double sq) := (Fsquared4.same W5)
  have Ffast5 : Fld Z h5 a5 "com/example/murmuration/murmuration/cluster/DistanceLimit" "fast" "Z" (.int 0) := Ffast4.other W5 (Or.inr (slot_ne (Or.inr (hw _ (List.mem_of_getElem? (i := 30) rfl))) (Or.inr (hw _ (List.mem_of_getElem? (i := 24) rfl))) (by decide) (t := .boolean) (t' := .double) (by decide) (by decide)))
  have Freach5 : Fld Z h5 a5 "com/example/murmuration/murmuration/cluster/DistanceLimit" "reach" "D" (.double 0) := Freach4.other W5 (Or.inr (slot_ne (Or.inr (hw _ (List.mem_of_getElem? (i := 33) rfl))) (Or.inr (hw _ (List.mem_of_getElem? (i := 24) rfl))) (by decide) (t := .double) (t' := .double) (by decide) (by decide)))
  have Finner5 : Fld Z h5 a5 "com/example/murmuration/murmuration/cluster/DistanceLimit" "inner" "D" (.double 0) := Finner4.other W5 (Or.inr (slot_ne (Or.inr (hw _ (List.mem_of_getElem? (i := 36) rfl))) (Or.inr (hw _ (List.mem_of_getElem? (i := 24) rfl))) (by decide) (t := .double) (t' := .double) (by decide) (by decide)))
  obtain ⟨T6, X6, e6, st6⟩ := getF X5 hx hZ hown (host := "") (Or.inl (hw _ (List.mem_of_getElem? (i := 23) rfl))) Via.refl e5 Fsquared5 (g := (mkF m 65 #[.val (.ref a5), .val (.double p6), .second, .val (.long f7), .second, .val (.double lim), .second] [(.ref a5), (.ref a5)])) rfl rfl (hb hby d1_65)
  obtain ⟨T7, X7, e7, st7⟩ := own_finS X6 hx hZ hw hown e6 (Or.inl ⟨r1, rfl⟩) (g := (mkF m 68 #[.val (.ref a5), .val (.double p6), .second, .val (.long f7), .second, .val (.double lim), .second] [(.double sq), (.ref a5)])) rfl (by rw [hml]; rfl) rfl (by show 2 * 0 + _ ≤ _; exact Nat.le_of_eq rfl) (hb hby d1_68) (by decide) (by decide) (by decide) (by decide)
  obtain ⟨T8, X8, e8, st8⟩ := getF X7 hx hZ hown (host := "") (Or.inl (hw _ (List.mem_of_getElem? (i := 23) rfl))) Via.refl e7 Fsquared5 (g := (mkF m 75 #[.val (.ref a5), .val (.double p6), .second, .val (.long f7), .second, .val (.double lim), .second] [(.ref a5), (.ref a5)])) rfl rfl (hb hby d1_75)
  obtain ⟨T9, h9, X9, e9, W9, st9⟩ := putF X8 hx hZ hown (host := "") (Or.inl (hw _ (List.mem_of_getElem? (i := 29) rfl))) Via.refl e8 Ffast5 E5 (Or.inr ⟨(hw _ (List.mem_of_getElem? (i := 30) rfl)), rfl, hnm⟩) (hw _ (List.mem_of_getElem? (i := 2) rfl)) (ty := .boolean) (by decide) rfl rfl (g := (mkF m 90 #[.val (.ref a5), .val (.double p6), .second, .val (.long f7), .second, .val (.double lim), .second] [(.int (1 : Int32)), (.ref a5)])) rfl rfl (hb hby d1_90)
  have N9 := Fr.snoc X9 N5 g9
  have P9 : Keep h0 h9 [a5] := (P5.wr W9 (Or.inl (List.mem_of_getElem? (i := 0) rfl)))
  have E9 : Exa Z h9 a5 "com/example/murmuration/murmuration/cluster/DistanceLimit" := (E5.wr W9)
  have Ffast9 : Fld Z h9 a5 "com/example/murmuration/murmuration/cluster/DistanceLimit" "fast" "Z" (.int (1 : Int32)) := (Ffast5.same W9)
  have Freach9 : Fld Z h9 a5 "com/example/murmuration/murmuration/cluster/DistanceLimit" "reach" "D" (.double 0) := Freach5.other W9 (Or.inr (slot_ne (Or.inr (hw _ (List.mem_of_getElem? (i := 33) rfl))) (Or.inr (hw _ (List.mem_of_getElem? (i := 30) rfl))) (by decide) (t := .double) (t' := .boolean) (by decide) (by decide)))
  have Finner9 : Fld Z h9 a5 "com/example/murmuration/murmuration/cluster/DistanceLimit" "inner" "D" (.double 0) := Finner5.other W9 (Or.inr (slot_ne (Or.inr (hw _ (List.mem_of_getElem? (i := 36) rfl))) (Or.inr (hw _ (List.mem_of_getElem? (i := 30) rfl))) (by decide) (t := .double) (t' := .boolean) (by decide) (by decide)))
  obtain ⟨T10, h10, X10, e10, W10, st10⟩ := putF X9 hx hZ hown (host := "") (Or.inl (hw _ (List.mem_of_getElem? (i := 32) rfl))) Via.refl e9 Freach9 E9 (Or.inr ⟨(hw _ (List.mem_of_getElem? (i := 33) rfl)), rfl, hnm⟩) (hw _ (List.mem_of_getElem? (i := 2) rfl)) (ty := .double) (by decide) rfl rfl (g := (mkF m 100 #[.val (.ref a5), .val (.double p6), .second, .val (.long f7), .second, .val (.double lim), .second] [(.double (FP.dmul lim 4607182418800017453)), (.ref a5)])) rfl rfl (hb hby d1_100)
  have N10 := Fr.snoc X10 N9 g9
  have P10 : Keep h0 h10 [a5] := (P9.wr W10 (Or.inl (List.mem_of_getElem? (i := 0) rfl)))
  have E10 : Exa Z h10 a5 "com/example/murmuration/murmuration/cluster/DistanceLimit" := (E9.wr W10)
  have Ffast10 : Fld Z h10 a5 "com/example/murmuration/murmuration/cluster/DistanceLimit" "fast" "Z" (.int (1 : Int32)) := Ffast9.other W10 (Or.inr (slot_ne (Or.inr (hw _ (List.mem_of_getElem? (i := 30) rfl))) (Or.inr (hw _ (List.mem_of_getElem? (i := 33) rfl))) (by decide) (t := .boolean) (t' := .double) (by decide) (by decide)))
  have Finner10 : Fld Z h10 a5 "com/example/murmuration/murmuration/cluster/DistanceLimit" "inner" "D" (.double 0) := Finner9.other W10 (Or.inr (slot_ne (Or.inr (hw _ (List.mem_of_getElem? (i := 36) rfl))) (Or.inr (hw _ (List.mem_of_getElem? (i := 33) rfl))) (by decide) (t := .double) (t' := .double) (by decide) (by decide)))
  obtain ⟨T11, X11, e11, st11⟩ := getF X10 hx hZ hown (host := "") (Or.inl (hw _ (List.mem_of_getElem? (i := 29) rfl))) Via.refl e10 Ffast10 (g := (mkF m 105 #[.val (.ref a5), .val (.double p6), .second, .val (.long f7), .second, .val (.double lim), .second] [(.ref a5), (.ref a5)])) rfl rfl (hb hby d1_105)
  obtain ⟨T12, h12, X12, e12, W12, st12⟩ := putF X11 hx hZ hown (host := "") (Or.inl (hw _ (List.mem_of_getElem? (i := 35) rfl))) Via.refl e11 Finner10 E10 (Or.inr ⟨(hw _ (List.mem_of_getElem? (i := 36) rfl)), rfl, hnm⟩) (hw _ (List.mem_of_getElem? (i := 2) rfl)) (ty := .double) (by decide) rfl rfl (g := (mkF m 123 #[.val (.ref a5), .val (.double p6), .second, .val (.long f7), .second, .val (.double lim), .second] [(.double inn), (.ref a5)])) rfl rfl (hb hby d1_123)
  have N12 := Fr.snoc X12 N10 g9
  have P12 : Keep h0 h12 [a5] := (P10.wr W12 (Or.inl (List.mem_of_getElem? (i := 0) rfl)))
  have E12 : Exa Z h12 a5 "com/example/murmuration/murmuration/cluster/DistanceLimit" := (E10.wr W12)
  have Finner12 : Fld Z h12 a5 "com/example/murmuration/murmuration/cluster/DistanceLimit" "inner" "D" (.double inn) := (Finner10.same W12)
  obtain ⟨fs, hr, hrun, hended, hW, hsame⟩ := X12.leave (v := none) (fun _ => rfl)
  refine ⟨_, _, pre0 _ ?_, hrun, hended, _, _, rfl, ?_, ⟨_, rfl⟩, hW, hsame.mono (by decide) (by decide)⟩
  · show Steps p.tables e below (s₁.setTop (mkF m 0 #[.val (.ref a5), .val (.double p6), .second, .val (.long f7), .second, .unset, .unset] [])) _
    refine XS.aloadN X0.here hx rfl (hb hby d1_0) rfl rfl ?_
    show Steps p.tables e below (s₁.setTop (mkF m 1 #[.val (.ref a5), .val (.double p6), .second, .val (.long f7), .second, .unset, .unset] [(.ref a5)])) _
    refine st1 _ ?_
    show Steps p.tables e below (T1.setTop (mkF m 4 #[.val (.ref a5), .val (.double p6), .second, .val (.long f7), .second, .unset, .unset] [])) _
    refine XS.dloadN X1.here hx rfl (hb hby d1_4) rfl ?_
    show Steps p.tables e below (T1.setTop (mkF m 5 #[.val (.ref a5), .val (.double p6), .second, .val (.long f7), .second, .unset, .unset] [(.double p6)])) _
    refine XS.dconst0 X1.here hx rfl (hb hby d1_5) rfl ?_
    show Steps p.tables e below (T1.setTop (mkF m 6 #[.val (.ref a5), .val (.double p6), .second, .val (.long f7), .second, .unset, .unset] [(.double (0 : UInt64)), (.double p6)])) _
    refine XS.dcmpS X1.here hx rfl (hb hby d1_6) rfl rfl ?_
    show Steps p.tables e below (T1.setTop (mkF m 7 #[.val (.ref a5), .val (.double p6), .second, .val (.long f7), .second, .unset, .unset] [(.int (cmpValue (FP.dcmp p6 (0 : UInt64)) .l))])) _
    refine XS.ifNo X1.here hx rfl (hb hby d1_7) rfl c1 ?_
    show Steps p.tables e below (T1.setTop (mkF m 10 #[.val (.ref a5), .val (.double p6), .second, .val (.long f7), .second, .unset, .unset] [])) _
    refine XS.dloadN X1.here hx rfl (hb hby d1_10) rfl ?_
    show Steps p.tables e below (T1.setTop (mkF m 11 #[.val (.ref a5), .val (.double p6), .second, .val (.long f7), .second, .unset, .unset] [(.double p6)])) _
    refine st2 _ ?_
    show Steps p.tables e below (T2.setTop (mkF m 14 #[.val (.ref a5), .val (.double p6), .second, .val (.long f7), .second, .unset, .unset] [(.int (0 : Int32))])) _
    refine XS.ifNo X2.here hx rfl (hb hby d1_14) rfl (by decide) ?_
    show Steps p.tables e below (T2.setTop (mkF m 17 #[.val (.ref a5), .val (.double p6), .second, .val (.long f7), .second, .unset, .unset] [])) _
    refine XS.lloadN X2.here hx rfl (hb hby d1_17) rfl ?_
    show Steps p.tables e below (T2.setTop (mkF m 18 #[.val (.ref a5), .val (.double p6), .second, .val (.long f7), .second, .unset, .unset] [(.long f7)])) _
    refine XS.lconst X2.here hx rfl (hb hby d1_18) ?_
    show Steps p.tables e below (T2.setTop (mkF m 19 #[.val (.ref a5), .val (.double p6), .second, .val (.long f7), .second, .unset, .unset] [(.long (1 : Int64)), (.long f7)])) _
    refine XS.lcmp X2.here hx rfl (hb hby d1_19) rfl ?_
    show Steps p.tables e below (T2.setTop (mkF m 20 #[.val (.ref a5), .val (.double p6), .second, .val (.long f7), .second, .unset, .unset] [(.int (lcmpW f7 (1 : Int64)))])) _
    refine XS.ifYes X2.here hx rfl (pc0 := 20) (pc' := 38) rfl (hb hby d1_20) rfl c3 (by decide) (by decide) ?_
    show Steps p.tables e below (T2.setTop (mkF m 38 #[.val (.ref a5), .val (.double p6), .second, .val (.long f7), .second, .unset, .unset] [])) _
    refine XS.aloadN X2.here hx rfl (hb hby d1_38) rfl rfl ?_
    show Steps p.tables e below (T2.setTop (mkF m 39 #[.val (.ref a5), .val (.double p6), .second, .val (.long f7), .second, .unset, .unset] [(.ref a5)])) _
    refine XS.dloadN X2.here hx rfl (hb hby d1_39) rfl ?_
    show Steps p.tables e below (T2.setTop (mkF m 40 #[.val (.ref a5), .val (.double p6), .second, .val (.long f7), .second, .unset, .unset] [(.double p6), (.ref a5)])) _
    refine st3 _ ?_
    show Steps p.tables e below (T3.setTop (mkF m 43 #[.val (.ref a5), .val (.double p6), .second, .val (.long f7), .second, .unset, .unset] [])) _
    refine XS.aloadN X3.here hx rfl (hb hby d1_43) rfl rfl ?_
    show Steps p.tables e below (T3.setTop (mkF m 44 #[.val (.ref a5), .val (.double p6), .second, .val (.long f7), .second, .unset, .unset] [(.ref a5)])) _
    refine XS.lloadN X3.here hx rfl (hb hby d1_44) rfl ?_
    show Steps p.tables e below (T3.setTop (mkF m 45 #[.val (.ref a5), .val (.double p6), .second, .val (.long f7), .second, .unset, .unset] [(.long f7), (.ref a5)])) _
    refine st4 _ ?_
    show Steps p.tables e below (T4.setTop (mkF m 48 #[.val (.ref a5), .val (.double p6), .second, .val (.long f7), .second, .unset, .unset] [])) _
    refine XS.dloadN X4.here hx rfl (hb hby d1_48) rfl ?_
    show Steps p.tables e below (T4.setTop (mkF m 49 #[.val (.ref a5), .val (.double p6), .second, .val (.long f7), .second, .unset, .unset] [(.double p6)])) _
    refine XS.lloadN X4.here hx rfl (hb hby d1_49) rfl ?_
    show Steps p.tables e below (T4.setTop (mkF m 50 #[.val (.ref a5), .val (.double p6), .second, .val (.long f7), .second, .unset, .unset] [(.long f7), (.double p6)])) _
    refine XS.l2dS X4.here hx rfl (hb hby d1_50) rfl rfl ?_
    show Steps p.tables e below (T4.setTop (mkF m 51 #[.val (.ref a5), .val (.double p6), .second, .val (.long f7), .second, .unset, .unset] [(.double (FP.l2d f7)), (.double p6)])) _
    refine XS.dmulS X4.here hx rfl (hb hby d1_51) rfl (Jvm.Free.Fl.dmul_out c2 (Jvm.Free.Fl.l2d_fin f7)) q1 ?_
    show Steps p.tables e below (T4.setTop (mkF m 52 #[.val (.ref a5), .val (.double p6), .second, .val (.long f7), .second, .unset, .unset] [(.double lim)])) _
    refine XS.dstore X4.here hx rfl (hb hby d1_52) rfl (l' := #[.val (.ref a5), .val (.double p6), .second, .val (.long f7), .second, .val (.double lim), .second]) rfl ?_
    show Steps p.tables e below (T4.setTop (mkF m 54 #[.val (.ref a5), .val (.double p6), .second, .val (.long f7), .second, .val (.double lim), .second] [])) _
    refine XS.aloadN X4.here hx rfl (hb hby d1_54) rfl rfl ?_
    show Steps p.tables e below (T4.setTop (mkF m 55 #[.val (.ref a5), .val (.double p6), .second, .val (.long f7), .second, .val (.double lim), .second] [(.ref a5)])) _
    refine XS.dload X4.here hx rfl (hb hby d1_55) rfl ?_
    show Steps p.tables e below (T4.setTop (mkF m 57 #[.val (.ref a5), .val (.double p6), .second, .val (.long f7), .second, .val (.double lim), .second] [(.double lim), (.ref a5)])) _
    refine XS.dload X4.here hx rfl (hb hby d1_57) rfl ?_
    show Steps p.tables e below (T4.setTop (mkF m 59 #[.val (.ref a5), .val (.double p6), .second, .val (.long f7), .second, .val (.double lim), .second] [(.double lim), (.double lim), (.ref a5)])) _
    refine XS.dmulS X4.here hx rfl (hb hby d1_59) rfl (Jvm.Free.Fl.dmul_out fl fl) q2 ?_
    show Steps p.tables e below (T4.setTop (mkF m 60 #[.val (.ref a5), .val (.double p6), .second, .val (.long f7), .second, .val (.double lim), .second] [(.double sq), (.ref a5)])) _
    refine st5 _ ?_
    show Steps p.tables e below (T5.setTop (mkF m 63 #[.val (.ref a5), .val (.double p6), .second, .val (.long f7), .second, .val (.double lim), .second] [])) _
    refine XS.aloadN X5.here hx rfl (hb hby d1_63) rfl rfl ?_
    show Steps p.tables e below (T5.setTop (mkF m 64 #[.val (.ref a5), .val (.double p6), .second, .val (.long f7), .second, .val (.double lim), .second] [(.ref a5)])) _
    refine XS.aloadN X5.here hx rfl (hb hby d1_64) rfl rfl ?_
    show Steps p.tables e below (T5.setTop (mkF m 65 #[.val (.ref a5), .val (.double p6), .second, .val (.long f7), .second, .val (.double lim), .second] [(.ref a5), (.ref a5)])) _
    refine st6 _ ?_
    show Steps p.tables e below (T6.setTop (mkF m 68 #[.val (.ref a5), .val (.double p6), .second, .val (.long f7), .second, .val (.double lim), .second] [(.double sq), (.ref a5)])) _
    refine st7 _ ?_
    show Steps p.tables e below (T7.setTop (mkF m 71 #[.val (.ref a5), .val (.double p6), .second, .val (.long f7), .second, .val (.double lim), .second] [(.int (1 : Int32)), (.ref a5)])) _
    refine XS.ifNo X7.here hx rfl (hb hby d1_71) rfl (by decide) ?_
    show Steps p.tables e below (T7.setTop (mkF m 74 #[.val (.ref a5), .val (.double p6), .second, .val (.long f7), .second, .val (.double lim), .second] [(.ref a5)])) _
    refine XS.aloadN X7.here hx rfl (hb hby d1_74) rfl rfl ?_
    show Steps p.tables e below (T7.setTop (mkF m 75 #[.val (.ref a5), .val (.double p6), .second, .val (.long f7), .second, .val (.double lim), .second] [(.ref a5), (.ref a5)])) _
    refine st8 _ ?_
    show Steps p.tables e below (T8.setTop (mkF m 78 #[.val (.ref a5), .val (.double p6), .second, .val (.long f7), .second, .val (.double lim), .second] [(.double sq), (.ref a5)])) _
    refine X8.ldc2DoubleC hx hown (mvT hZ (hw _ (List.mem_of_getElem? (i := 28) rfl))) (g := (mkF m 78 #[.val (.ref a5), .val (.double p6), .second, .val (.long f7), .second, .val (.double lim), .second] [(.double sq), (.ref a5)])) rfl (hb hby d1_78) _ ?_
    show Steps p.tables e below (T8.setTop (mkF m 81 #[.val (.ref a5), .val (.double p6), .second, .val (.long f7), .second, .val (.double lim), .second] [(.double 553942754166571008), (.double sq), (.ref a5)])) _
    refine XS.dcmpS X8.here hx rfl (hb hby d1_81) rfl rfl ?_
    show Steps p.tables e below (T8.setTop (mkF m 82 #[.val (.ref a5), .val (.double p6), .second, .val (.long f7), .second, .val (.double lim), .second] [(.int (cmpValue (FP.dcmp sq 553942754166571008) .l)), (.ref a5)])) _
    refine XS.ifNo X8.here hx rfl (hb hby d1_82) rfl r2 ?_
    show Steps p.tables e below (T8.setTop (mkF m 85 #[.val (.ref a5), .val (.double p6), .second, .val (.long f7), .second, .val (.double lim), .second] [(.ref a5)])) _
    refine XS.iconst X8.here hx rfl (hb hby d1_85) ?_
    show Steps p.tables e below (T8.setTop (mkF m 86 #[.val (.ref a5), .val (.double p6), .second, .val (.long f7), .second, .val (.double lim), .second] [(.int (1 : Int32)), (.ref a5)])) _
    refine XS.goto X8.here hx rfl (pc0 := 86) (pc' := 90) rfl (hb hby d1_86) (by decide) (by decide) ?_
    show Steps p.tables e below (T8.setTop (mkF m 90 #[.val (.ref a5), .val (.double p6), .second, .val (.long f7), .second, .val (.double lim), .second] [(.int (1 : Int32)), (.ref a5)])) _
    refine st9 _ ?_
    show Steps p.tables e below (T9.setTop (mkF m 93 #[.val (.ref a5), .val (.double p6), .second, .val (.long f7), .second, .val (.double lim), .second] [])) _
    refine XS.aloadN X9.here hx rfl (hb hby d1_93) rfl rfl ?_
    show Steps p.tables e below (T9.setTop (mkF m 94 #[.val (.ref a5), .val (.double p6), .second, .val (.long f7), .second, .val (.double lim), .second] [(.ref a5)])) _
    refine XS.dload X9.here hx rfl (hb hby d1_94) rfl ?_
    show Steps p.tables e below (T9.setTop (mkF m 96 #[.val (.ref a5), .val (.double p6), .second, .val (.long f7), .second, .val (.double lim), .second] [(.double lim), (.ref a5)])) _
    refine X9.ldc2DoubleC hx hown (mvT hZ (hw _ (List.mem_of_getElem? (i := 31) rfl))) (g := (mkF m 96 #[.val (.ref a5), .val (.double p6), .second, .val (.long f7), .second, .val (.double lim), .second] [(.double lim), (.ref a5)])) rfl (hb hby d1_96) _ ?_
    show Steps p.tables e below (T9.setTop (mkF m 99 #[.val (.ref a5), .val (.double p6), .second, .val (.long f7), .second, .val (.double lim), .second] [(.double 4607182418800017453), (.double lim), (.ref a5)])) _
    refine XS.dmulS X9.here hx rfl (hb hby d1_99) rfl (Jvm.Free.Fl.dmul_out fl own_fC2) rfl ?_
    show Steps p.tables e below (T9.setTop (mkF m 100 #[.val (.ref a5), .val (.double p6), .second, .val (.long f7), .second, .val (.double lim), .second] [(.double (FP.dmul lim 4607182418800017453)), (.ref a5)])) _
    refine st10 _ ?_
    show Steps p.tables e below (T10.setTop (mkF m 103 #[.val (.ref a5), .val (.double p6), .second, .val (.long f7), .second, .val (.double lim), .second] [])) _
    refine XS.aloadN X10.here hx rfl (hb hby d1_103) rfl rfl ?_
    show Steps p.tables e below (T10.setTop (mkF m 104 #[.val (.ref a5), .val (.double p6), .second, .val (.long f7), .second, .val (.double lim), .second] [(.ref a5)])) _
    refine XS.aloadN X10.here hx rfl (hb hby d1_104) rfl rfl ?_
    show Steps p.tables e below (T10.setTop (mkF m 105 #[.val (.ref a5), .val (.double p6), .second, .val (.long f7), .second, .val (.double lim), .second] [(.ref a5), (.ref a5)])) _
    refine st11 _ ?_
    show Steps p.tables e below (T11.setTop (mkF m 108 #[.val (.ref a5), .val (.double p6), .second, .val (.long f7), .second, .val (.double lim), .second] [(.int (1 : Int32)), (.ref a5)])) _
    refine XS.ifNo X11.here hx rfl (hb hby d1_108) rfl (by decide) ?_
    show Steps p.tables e below (T11.setTop (mkF m 111 #[.val (.ref a5), .val (.double p6), .second, .val (.long f7), .second, .val (.double lim), .second] [(.ref a5)])) _
    refine XS.dload X11.here hx rfl (hb hby d1_111) rfl ?_
    show Steps p.tables e below (T11.setTop (mkF m 113 #[.val (.ref a5), .val (.double p6), .second, .val (.long f7), .second, .val (.double lim), .second] [(.double lim), (.ref a5)])) _
    refine X11.ldc2DoubleC hx hown (mvT hZ (hw _ (List.mem_of_getElem? (i := 34) rfl))) (g := (mkF m 113 #[.val (.ref a5), .val (.double p6), .second, .val (.long f7), .second, .val (.double lim), .second] [(.double lim), (.ref a5)])) rfl (hb hby d1_113) _ ?_
    show Steps p.tables e below (T11.setTop (mkF m 116 #[.val (.ref a5), .val (.double p6), .second, .val (.long f7), .second, .val (.double lim), .second] [(.double 4607182418800017318), (.double lim), (.ref a5)])) _
    refine XS.dmulS X11.here hx rfl (hb hby d1_116) rfl (Jvm.Free.Fl.dmul_out fl own_fC64) r3 ?_
    show Steps p.tables e below (T11.setTop (mkF m 117 #[.val (.ref a5), .val (.double p6), .second, .val (.long f7), .second, .val (.double lim), .second] [(.double inn), (.ref a5)])) _
    refine XS.goto X11.here hx rfl (pc0 := 117) (pc' := 123) rfl (hb hby d1_117) (by decide) (by decide) ?_
    show Steps p.tables e below (T11.setTop (mkF m 123 #[.val (.ref a5), .val (.double p6), .second, .val (.long f7), .second, .val (.double lim), .second] [(.double inn), (.ref a5)])) _
    refine st12 _ ?_
    show Steps p.tables e below (T12.setTop (mkF m 126 #[.val (.ref a5), .val (.double p6), .second, .val (.long f7), .second, .val (.double lim), .second] [])) _
    exact X12.returnOut hx Bd.returns (hb hby d1_126) hr
  · show QI Z a5 _ h0 n0 _ T12.heap _
    rw [e12]
    exact ⟨rfl, N12, P12, E12, Finner12⟩
set_option maxRecDepth 65536 in
set_option maxHeartbeats 40000000 in
theorem rmIL (l : Launch) (Z : State) (a0 : Array Value) (hw : ∀ d ∈ tables_1, d.before a0 Z = true) (ws : List Jvm.Cond) (a5 : Addr) (p6 : UInt64) (f7 : Int64) (lim sq inn : UInt64) (h0 : Heap) (n0 : Nat) (Z0 : n0 ≤ h0.size) (Fbase0 : Fld Z h0 a5 "com/example/murmuration/murmuration/cluster/DistanceLimit" "base" "D" (.double 0)) (Ffactor0 : Fld Z h0 a5 "com/example/murmuration/murmuration/cluster/DistanceLimit" "factor" "J" (.long 0)) (Fsquared0 : Fld Z h0 a5 "com/example/murmuration/murmuration/cluster/DistanceLimit" "squared" "D" (.double 0)) (Ffast0 : Fld Z h0 a5 "com/example/murmuration/murmuration/cluster/DistanceLimit" "fast" "Z" (.int 0)) (Freach0 : Fld Z h0 a5 "com/example/murmuration/murmuration/cluster/DistanceLimit" "reach" "D" (.double 0)) (Finner0 : Fld Z h0 a5 "com/example/murmuration/murmuration/cluster/DistanceLimit" "inner" "D" (.double 0)) (E0 : Exa Z h0 a5 "com/example/murmuration/murmuration/cluster/DistanceLimit") (g9 : n0 ≤ a5)
    (c1 : ifCond.holds .le (cmpValue (FP.dcmp p6 0) .l) = false) (c2 : Jvm.Free.Fl.Fin64 p6) (c3 : ifCond.holds .ge (lcmpW f7 1) = true) (q1 : FP.dmul p6 (FP.l2d f7) = lim) (fl : Jvm.Free.Fl.Fin64 lim) (q2 : FP.dmul lim lim = sq) (r1 : Jvm.Free.Fl.Fin64 sq) (r2 : ifCond.holds .lt (cmpValue (FP.dcmp sq 553942754166571008) .l) = true) (r3 : inn = 18442240474082181120) :
    MetFree l (⟨"com/example/murmuration/murmuration/cluster/DistanceLimit", "<init>", "(DJ)V"⟩ : MethodName) (head1 (Jvm.Cond.code (⟨"com/example/murmuration/murmuration/cluster/DistanceLimit", "<init>", "(DJ)V"⟩ : MethodName) prog_15_method_1_code 7 none :: ws) ({ frames := 2, cells := 0, slots := 0, locals := 27 } : Room)) (fun a U => a = #[(.ref a5), (.double p6), (.long f7)] ∧ Z.Warmed39 U.vm ∧ U.heap = h0) (fun _ _ _ _ _ => True) (fun _ U o U' => ∃ v L, o = .returned v ∧ QI Z a5 inn h0 n0 v U'.heap L ∧ FrameEnd U o U' L ({ frames := 2, cells := 0, slots := 0, locals := 27 } : Room).cells ({ frames := 2, cells := 0, slots := 0, locals := 27 } : Room).slots) := by
  refine MetFree.of_bodySF (plainFor_of_name pnD) hisR ?_
  intro p e s m args below meth c s₁ Bd hml0 hP hK
  obtain ⟨rfl, hZ, hh⟩ := hP
  have hx := Bd.exec
  have hby := Bd.bytes
  have hml : c.maxLocals = 7 := hml0
  have hown : s.vm.findClass "com/example/murmuration/murmuration/cluster/DistanceLimit" = some m.cls := findClass_of_methodNamed Bd.named
  have hnm := (name_of_methodNamed Bd.named Bd.method).1
  have X0 : Stand p l e ({ frames := 2, cells := 0, slots := 0, locals := 27 } : Room) s m #[(.ref a5), (.double p6), (.long f7)] below meth c s₁ [] 0 0 := Stand.of_body Bd
  have e0 : s₁.heap = h0 := by rw [← hh, Bd.state]; rfl
  have N0 := Fr.nil n0
  have pre0 : ∀ t, Steps p.tables e below (s₁.setTop (mkF m 0 #[.val (.ref a5), .val (.double p6), .second, .val (.long f7), .second, .unset, .unset] [])) t → Steps p.tables e below (s₁.setTop (entryFrame m #[(.ref a5), (.double p6), (.long f7)] 7)) t := fun t k => castTop (efI m a5 p6 f7) k
  subst r3
  obtain ⟨T1, X1, e1, st1⟩ := initO X0 hx hZ hown (hw _ (List.mem_of_getElem? (i := 7) rfl)) (hw _ (List.mem_of_getElem? (i := 8) rfl)) (hw _ (List.mem_of_getElem? (i := 9) rfl)) e0 (g := (mkF m 1 #[.val (.ref a5), .val (.double p6), .second, .val (.long f7), .second, .unset, .unset] [(.ref a5)])) rfl (by rw [hml]; rfl) rfl (hb hby d1_1) (by decide) (W := 0) (by show 2 * 0 + _ ≤ _; exact Nat.le_of_eq rfl) (by decide)
  obtain ⟨T2, X2, e2, st2⟩ := own_infS X1 hx hZ hw hown e1 c2 (g := (mkF m 11 #[.val (.ref a5), .val (.double p6), .second, .val (.long f7), .second, .unset, .unset] [(.double p6)])) rfl (by rw [hml]; rfl) rfl (by show 2 * 0 + _ ≤ _; exact Nat.le_of_eq rfl) (hb hby d1_11) (by decide) (by decide) (by decide) (by decide)
  obtain ⟨T3, h3, X3, e3, W3, st3⟩ := putF X2 hx hZ hown (host := "") (Or.inl (hw _ (List.mem_of_getElem? (i := 19) rfl))) Via.refl e2 Fbase0 E0 (Or.inr ⟨(hw _ (List.mem_of_getElem? (i := 20) rfl)), rfl, hnm⟩) (hw _ (List.mem_of_getElem? (i := 2) rfl)) (ty := .double) (by decide) rfl rfl (g := (mkF m 40 #[.val (.ref a5), .val (.double p6), .second, .val (.long f7), .second, .unset, .unset] [(.double p6), (.ref a5)])) rfl rfl (hb hby d1_40)
  have N3 := Fr.snoc X3 N0 g9
  have P3 : Keep h0 h3 [a5] := ((Keep.refl _ _).wr W3 (Or.inl (List.mem_of_getElem? (i := 0) rfl)))
  have E3 : Exa Z h3 a5 "com/example/murmuration/murmuration/cluster/DistanceLimit" := (E0.wr W3)
  have Ffactor3 : Fld Z h3 a5 "com/example/murmuration/murmuration/cluster/DistanceLimit" "factor" "J" (.long 0) := Ffactor0.other W3 (Or.inr (slot_ne (Or.inr (hw _ (List.mem_of_getElem? (i := 22) rfl))) (Or.inr (hw _ (List.mem_of_getElem? (i := 20) rfl))) (by decide) (t := .long) (t' := .double) (by decide) (by decide)))
  have Fsquared3 : Fld Z h3 a5 "com/example/murmuration/murmuration/cluster/DistanceLimit" "squared" "D" (.double 0) := Fsquared0.other W3 (Or.inr (slot_ne (Or.inr (hw _ (List.mem_of_getElem? (i := 24) rfl))) (Or.inr (hw _ (List.mem_of_getElem? (i := 20) rfl))) (by decide) (t := .double) (t' := .double) (by decide) (by decide)))
  have Ffast3 : Fld Z h3 a5 "com/example/murmuration/murmuration/cluster/DistanceLimit" "fast" "Z" (.int 0) := Ffast0.other W3 (Or.inr (slot_ne (Or.inr (hw _ (List.mem_of_getElem? (i := 30) rfl))) (Or.inr (hw _ (List.mem_of_getElem? (i := 20) rfl))) (by decide) (t := .boolean) (t' := .double) (by decide) (by decide)))
  have Freach3 : Fld Z h3 a5 "com/example/murmuration/murmuration/cluster/DistanceLimit" "reach" "D" (.double 0) := Freach0.other W3 (Or.inr (slot_ne (Or.inr (hw _ (List.mem_of_getElem? (i := 33) rfl))) (Or.inr (hw _ (List.mem_of_getElem? (i := 20) rfl))) (by decide) (t := .double) (t' := .double) (by decide) (by decide)))
  have Finner3 : Fld Z h3 a5 "com/example/murmuration/murmuration/cluster/DistanceLimit" "inner" "D" (.double 0) := Finner0.other W3 (Or.inr (slot_ne (Or.inr (hw _ (List.mem_of_getElem? (i := 36) rfl))) (Or.inr (hw _ (List.mem_of_getElem? (i := 20) rfl))) (by decide) (t := .double) (t' := .double) (by decide) (by decide)))
  obtain ⟨T4, h4, X4, e4, W4, st4⟩ := putF X3 hx hZ hown (host := "") (Or.inl (hw _ (List.mem_of_getElem? (i := 21) rfl))) Via.refl e3 Ffactor3 E3 (Or.inr ⟨(hw _ (List.mem_of_getElem? (i := 22) rfl)), rfl, hnm⟩) (hw _ (List.mem_of_getElem? (i := 2) rfl)) (ty := .long) (by decide) rfl rfl (g := (mkF m 45 #[.val (.ref a5), .val (.double p6), .second, .val (.long f7), .second, .unset, .unset] [(.long f7), (.ref a5)])) rfl rfl (hb hby d1_45)
  have N4 := Fr.snoc X4 N3 g9
  have P4 : Keep h0 h4 [a5] := (P3.wr W4 (Or.inl (List.mem_of_getElem? (i := 0) rfl)))
  have E4 : Exa Z h4 a5 "com/example/murmuration/murmuration/cluster/DistanceLimit" := (E3.wr W4)
  have Fsquared4 : Fld Z h4 a5 "com/example/murmuration/murmuration/cluster/DistanceLimit" "squared" "D" (.double 0) := Fsquared3.other W4 (Or.inr (slot_ne (Or.inr (hw _ (List.mem_of_getElem? (i := 24) rfl))) (Or.inr (hw _ (List.mem_of_getElem? (i := 22) rfl))) (by decide) (t := .double) (t' := .long) (by decide) (by decide)))
  have Ffast4 : Fld Z h4 a5 "com/example/murmuration/murmuration/cluster/DistanceLimit" "fast" "Z" (.int 0) := Ffast3.other W4 (Or.inr (slot_ne (Or.inr (hw _ (List.mem_of_getElem? (i := 30) rfl))) (Or.inr (hw _ (List.mem_of_getElem? (i := 22) rfl))) (by decide) (t := .boolean) (t' := .long) (by decide) (by decide)))
  have Freach4 : Fld Z h4 a5 "com/example/murmuration/murmuration/cluster/DistanceLimit" "reach" "D" (.double 0) := Freach3.other W4 (Or.inr (slot_ne (Or.inr (hw _ (List.mem_of_getElem? (i := 33) rfl))) (Or.inr (hw _ (List.mem_of_getElem? (i := 22) rfl))) (by decide) (t := .double) (t' := .long) (by decide) (by decide)))
  have Finner4 : Fld Z h4 a5 "com/example/murmuration/murmuration/cluster/DistanceLimit" "inner" "D" (.double 0) := Finner3.other W4 (Or.inr (slot_ne (Or.inr (hw _ (List.mem_of_getElem? (i := 36) rfl))) (Or.inr (hw _ (List.mem_of_getElem? (i := 22) rfl))) (by decide) (t := .double) (t' := .long) (by decide) (by decide)))
  obtain ⟨T5, h5, X5, e5, W5, st5⟩ := putF X4 hx hZ hown (host := "") (Or.inl (hw _ (List.mem_of_getElem? (i := 23) rfl))) Via.refl e4 Fsquared4 E4 (Or.inr ⟨(hw _ (List.mem_of_getElem? (i := 24) rfl)), rfl, hnm⟩) (hw _ (List.mem_of_getElem? (i := 2) rfl)) (ty := .double) (by decide) rfl rfl (g := (mkF m 60 #[.val (.ref a5), .val (.double p6), .second, .val (.long f7), .second, .val (.double lim), .second] [(.double sq), (.ref a5)])) rfl rfl (hb hby d1_60)
  have N5 := Fr.snoc X5 N4 g9
  have P5 : Keep h0 h5 [a5] := (P4.wr W5 (Or.inl (List.mem_of_getElem? (i := 0) rfl)))
  have E5 : Exa Z h5 a5 "com/example/murmuration/murmuration/cluster/DistanceLimit" := (E4.wr W5)
  have Fsquared5 : Fld Z h5 a5 "com/example/murmuration/murmuration/cluster/DistanceLimit" "squared" "D" (.double sq) := (Fsquared4.same W5)
  have Ffast5 : Fld Z h5 a5 "com/example/murmuration/murmuration/cluster/DistanceLimit" "fast" "Z" (.int 0) := Ffast4.other W5 (Or.inr (slot_ne (Or.inr (hw _ (List.mem_of_getElem? (i := 30) rfl))) (Or.inr (hw _ (List.mem_of_getElem? (i := 24) rfl))) (by decide) (t := .boolean) (t' := .double) (by decide) (by decide)))
  have Freach5 : Fld Z h5 a5 "com/example/murmuration/murmuration/cluster/DistanceLimit" "reach" "D" (.double 0) := Freach4.other W5 (Or.inr (slot_ne (Or.inr (hw _ (List.mem_of_getElem? (i := 33) rfl))) (Or.inr (hw _ (List.mem_of_getElem? (i := 24) rfl))) (by decide) (t := .double) (t' := .double) (by decide) (by decide)))
  have Finner5 : Fld Z h5 a5 "com/example/murmuration/murmuration/cluster/DistanceLimit" "inner" "D" (.double 0) := Finner4.other W5 (Or.inr (slot_ne (Or.inr (hw _ (List.mem_of_getElem? (i := 36) rfl))) (Or.inr (hw _ (List.mem_of_getElem? (i := 24) rfl))) (by decide) (t := .double) (t' := .double) (by decide) (by decide)))
  obtain ⟨T6, X6, e6, st6⟩ := getF X5 hx hZ hown (host := "") (Or.inl (hw _ (List.mem_of_getElem? (i := 23) rfl))) Via.refl e5 Fsquared5 (g := (mkF m 65 #[.val (.ref a5), .val (.double p6), .second, .val (.long f7), .second, .val (.double lim), .second] [(.ref a5), (.ref a5)])) rfl rfl (hb hby d1_65)
  obtain ⟨T7, X7, e7, st7⟩ := own_finS X6 hx hZ hw hown e6 (Or.inl ⟨r1, rfl⟩) (g := (mkF m 68 #[.val (.ref a5), .val (.double p6), .second, .val (.long f7), .second, .val (.double lim), .second] [(.double sq), (.ref a5)])) rfl (by rw [hml]; rfl) rfl (by show 2 * 0 + _ ≤ _; exact Nat.le_of_eq rfl) (hb hby d1_68) (by decide) (by decide) (by decide) (by decide)
  obtain ⟨T8, X8, e8, st8⟩ := getF X7 hx hZ hown (host := "") (Or.inl (hw _ (List.mem_of_getElem? (i := 23) rfl))) Via.refl e7 Fsquared5 (g := (mkF m 75 #[.val (.ref a5), .val (.double p6), .second, .val (.long f7), .second, .val (.double lim), .second] [(.ref a5), (.ref a5)])) rfl rfl (hb hby d1_75)
  obtain ⟨T9, h9, X9, e9, W9, st9⟩ := putF X8 hx hZ hown (host := "") (Or.inl (hw _ (List.mem_of_getElem? (i := 29) rfl))) Via.refl e8 Ffast5 E5 (Or.inr ⟨(hw _ (List.mem_of_getElem? (i := 30) rfl)), rfl, hnm⟩) (hw _ (List.mem_of_getElem? (i := 2) rfl)) (ty := .boolean) (by decide) rfl rfl (g := (mkF m 90 #[.val (.ref a5), .val (.double p6), .second, .val (.long f7), .second, .val (.double lim), .second] [(.int (0 : Int32)), (.ref a5)])) rfl rfl (hb hby d1_90)
  have N9 := Fr.snoc X9 N5 g9
  have P9 : Keep h0 h9 [a5] := (P5.wr W9 (Or.inl (List.mem_of_getElem? (i := 0) rfl)))
  have E9 : Exa Z h9 a5 "com/example/murmuration/murmuration/cluster/DistanceLimit" := (E5.wr W9)
  have Ffast9 : Fld Z h9 a5 "com/example/murmuration/murmuration/cluster/DistanceLimit" "fast" "Z" (.int (0 : Int32)) := (Ffast5.same W9)
  have Freach9 : Fld Z h9 a5 "com/example/murmuration/murmuration/cluster/DistanceLimit" "reach" "D" (.double 0) := Freach5.other W9 (Or.inr (slot_ne (Or.inr (hw _ (List.mem_of_getElem? (i := 33) rfl))) (Or.inr (hw _ (List.mem_of_getElem? (i := 30) rfl))) (by decide) (t := .double) (t' := .boolean) (by decide) (by decide)))
  have Finner9 : Fld Z h9 a5 "com/example/murmuration/murmuration/cluster/DistanceLimit" "inner" "D" (.double 0) := Finner5.other W9 (Or.inr (slot_ne (Or.inr (hw _ (List.mem_of_getElem? (i := 36) rfl))) (Or.inr (hw _ (List.mem_of_getElem? (i := 30) rfl))) (by decide) (t := .double) (t' := .boolean) (by decide) (by decide)))
  obtain ⟨T10, h10, X10, e10, W10, st10⟩ := putF X9 hx hZ hown (host := "") (Or.inl (hw _ (List.mem_of_getElem? (i := 32) rfl))) Via.refl e9 Freach9 E9 (Or.inr ⟨(hw _ (List.mem_of_getElem? (i := 33) rfl)), rfl, hnm⟩) (hw _ (List.mem_of_getElem? (i := 2) rfl)) (ty := .double) (by decide) rfl rfl (g := (mkF m 100 #[.val (.ref a5), .val (.double p6), .second, .val (.long f7), .second, .val (.double lim), .second] [(.double (FP.dmul lim 4607182418800017453)), (.ref a5)])) rfl rfl (hb hby d1_100)
  have N10 := Fr.snoc X10 N9 g9
  have P10 : Keep h0 h10 [a5] := (P9.wr W10 (Or.inl (List.mem_of_getElem? (i := 0) rfl)))
  have E10 : Exa Z h10 a5 "com/example/murmuration/murmuration/cluster/DistanceLimit" := (E9.wr W10)
  have Ffast10 : Fld Z h10 a5 "com/example/murmuration/murmuration/cluster/DistanceLimit" "fast" "Z" (.int (0 : Int32)) := Ffast9.other W10 (Or.inr (slot_ne (Or.inr (hw _ (List.mem_of_getElem? (i := 30) rfl))) (Or.inr (hw _ (List.mem_of_getElem? (i := 33) rfl))) (by decide) (t := .boolean) (t' := .double) (by decide) (by decide)))
  have Finner10 : Fld Z h10 a5 "com/example/murmuration/murmuration/cluster/DistanceLimit" "inner" "D" (.double 0) := Finner9.other W10 (Or.inr (slot_ne (Or.inr (hw _ (List.mem_of_getElem? (i := 36) rfl))) (Or.inr (hw _ (List.mem_of_getElem? (i := 33) rfl))) (by decide) (t := .double) (t' := .double) (by decide) (by decide)))
  obtain ⟨T11, X11, e11, st11⟩ := getF X10 hx hZ hown (host := "") (Or.inl (hw _ (List.mem_of_getElem? (i := 29) rfl))) Via.refl e10 Ffast10 (g := (mkF m 105 #[.val (.ref a5), .val (.double p6), .second, .val (.long f7), .second, .val (.double lim), .second] [(.ref a5), (.ref a5)])) rfl rfl (hb hby d1_105)
  obtain ⟨T12, h12, X12, e12, W12, st12⟩ := putF X11 hx hZ hown (host := "") (Or.inl (hw _ (List.mem_of_getElem? (i := 35) rfl))) Via.refl e11 Finner10 E10 (Or.inr ⟨(hw _ (List.mem_of_getElem? (i := 36) rfl)), rfl, hnm⟩) (hw _ (List.mem_of_getElem? (i := 2) rfl)) (ty := .double) (by decide) rfl rfl (g := (mkF m 123 #[.val (.ref a5), .val (.double p6), .second, .val (.long f7), .second, .val (.double lim), .second] [(.double 18442240474082181120), (.ref a5)])) rfl rfl (hb hby d1_123)
  have N12 := Fr.snoc X12 N10 g9
  have P12 : Keep h0 h12 [a5] := (P10.wr W12 (Or.inl (List.mem_of_getElem? (i := 0) rfl)))
  have E12 : Exa Z h12 a5 "com/example/murmuration/murmuration/cluster/DistanceLimit" := (E10.wr W12)
  have Finner12 : Fld Z h12 a5 "com/example/murmuration/murmuration/cluster/DistanceLimit" "inner" "D" (.double 18442240474082181120) := (Finner10.same W12)
  obtain ⟨fs, hr, hrun, hended, hW, hsame⟩ := X12.leave (v := none) (fun _ => rfl)
  refine ⟨_, _, pre0 _ ?_, hrun, hended, _, _, rfl, ?_, ⟨_, rfl⟩, hW, hsame.mono (by decide) (by decide)⟩
  · show Steps p.tables e below (s₁.setTop (mkF m 0 #[.val (.ref a5), .val (.double p6), .second, .val (.long f7), .second, .unset, .unset] [])) _
    refine XS.aloadN X0.here hx rfl (hb hby d1_0) rfl rfl ?_
    show Steps p.tables e below (s₁.setTop (mkF m 1 #[.val (.ref a5), .val (.double p6), .second, .val (.long f7), .second, .unset, .unset] [(.ref a5)])) _
    refine st1 _ ?_
    show Steps p.tables e below (T1.setTop (mkF m 4 #[.val (.ref a5), .val (.double p6), .second, .val (.long f7), .second, .unset, .unset] [])) _
    refine XS.dloadN X1.here hx rfl (hb hby d1_4) rfl ?_
    show Steps p.tables e below (T1.setTop (mkF m 5 #[.val (.ref a5), .val (.double p6), .second, .val (.long f7), .second, .unset, .unset] [(.double p6)])) _
    refine XS.dconst0 X1.here hx rfl (hb hby d1_5) rfl ?_
    show Steps p.tables e below (T1.setTop (mkF m 6 #[.val (.ref a5), .val (.double p6), .second, .val (.long f7), .second, .unset, .unset] [(.double (0 : UInt64)), (.double p6)])) _
    refine XS.dcmpS X1.here hx rfl (hb hby d1_6) rfl rfl ?_
    show Steps p.tables e below (T1.setTop (mkF m 7 #[.val (.ref a5), .val (.double p6), .second, .val (.long f7), .second, .unset, .unset] [(.int (cmpValue (FP.dcmp p6 (0 : UInt64)) .l))])) _
    refine XS.ifNo X1.here hx rfl (hb hby d1_7) rfl c1 ?_
    show Steps p.tables e below (T1.setTop (mkF m 10 #[.val (.ref a5), .val (.double p6), .second, .val (.long f7), .second, .unset, .unset] [])) _
    refine XS.dloadN X1.here hx rfl (hb hby d1_10) rfl ?_
    show Steps p.tables e below (T1.setTop (mkF m 11 #[.val (.ref a5), .val (.double p6), .second, .val (.long f7), .second, .unset, .unset] [(.double p6)])) _
    refine st2 _ ?_
    show Steps p.tables e below (T2.setTop (mkF m 14 #[.val (.ref a5), .val (.double p6), .second, .val (.long f7), .second, .unset, .unset] [(.int (0 : Int32))])) _
    refine XS.ifNo X2.here hx rfl (hb hby d1_14) rfl (by decide) ?_
    show Steps p.tables e below (T2.setTop (mkF m 17 #[.val (.ref a5), .val (.double p6), .second, .val (.long f7), .second, .unset, .unset] [])) _
    refine XS.lloadN X2.here hx rfl (hb hby d1_17) rfl ?_
    show Steps p.tables e below (T2.setTop (mkF m 18 #[.val (.ref a5), .val (.double p6), .second, .val (.long f7), .second, .unset, .unset] [(.long f7)])) _
    refine XS.lconst X2.here hx rfl (hb hby d1_18) ?_
    show Steps p.tables e below (T2.setTop (mkF m 19 #[.val (.ref a5), .val (.double p6), .second, .val (.long f7), .second, .unset, .unset] [(.long (1 : Int64)), (.long f7)])) _
    refine XS.lcmp X2.here hx rfl (hb hby d1_19) rfl ?_
    show Steps p.tables e below (T2.setTop (mkF m 20 #[.val (.ref a5), .val (.double p6), .second, .val (.long f7), .second, .unset, .unset] [(.int (lcmpW f7 (1 : Int64)))])) _
    refine XS.ifYes X2.here hx rfl (pc0 := 20) (pc' := 38) rfl (hb hby d1_20) rfl c3 (by decide) (by decide) ?_
    show Steps p.tables e below (T2.setTop (mkF m 38 #[.val (.ref a5), .val (.double p6), .second, .val (.long f7), .second, .unset, .unset] [])) _
    refine XS.aloadN X2.here hx rfl (hb hby d1_38) rfl rfl ?_
    show Steps p.tables e below (T2.setTop (mkF m 39 #[.val (.ref a5), .val (.double p6), .second, .val (.long f7), .second, .unset, .unset] [(.ref a5)])) _
    refine XS.dloadN X2.here hx rfl (hb hby d1_39) rfl ?_
    show Steps p.tables e below (T2.setTop (mkF m 40 #[.val (.ref a5), .val (.double p6), .second, .val (.long f7), .second, .unset, .unset] [(.double p6), (.ref a5)])) _
    refine st3 _ ?_
    show Steps p.tables e below (T3.setTop (mkF m 43 #[.val (.ref a5), .val (.double p6), .second, .val (.long f7), .second, .unset, .unset] [])) _
    refine XS.aloadN X3.here hx rfl (hb hby d1_43) rfl rfl ?_
    show Steps p.tables e below (T3.setTop (mkF m 44 #[.val (.ref a5), .val (.double p6), .second, .val (.long f7), .second, .unset, .unset] [(.ref a5)])) _
    refine XS.lloadN X3.here hx rfl (hb hby d1_44) rfl ?_
    show Steps p.tables e below (T3.setTop (mkF m 45 #[.val (.ref a5), .val (.double p6), .second, .val (.long f7), .second, .unset, .unset] [(.long f7), (.ref a5)])) _
    refine st4 _ ?_
    show Steps p.tables e below (T4.setTop (mkF m 48 #[.val (.ref a5), .val (.double p6), .second, .val (.long f7), .second, .unset, .unset] [])) _
    refine XS.dloadN X4.here hx rfl (hb hby d1_48) rfl ?_
    show Steps p.tables e below (T4.setTop (mkF m 49 #[.val (.ref a5), .val (.double p6), .second, .val (.long f7), .second, .unset, .unset] [(.double p6)])) _
    refine XS.lloadN X4.here hx rfl (hb hby d1_49) rfl ?_
    show Steps p.tables e below (T4.setTop (mkF m 50 #[.val (.ref a5), .val (.double p6), .second, .val (.long f7), .second, .unset, .unset] [(.long f7), (.double p6)])) _
    refine XS.l2dS X4.here hx rfl (hb hby d1_50) rfl rfl ?_
    show Steps p.tables e below (T4.setTop (mkF m 51 #[.val (.ref a5), .val (.double p6), .second, .val (.long f7), .second, .unset, .unset] [(.double (FP.l2d f7)), (.double p6)])) _
    refine XS.dmulS X4.here hx rfl (hb hby d1_51) rfl (Jvm.Free.Fl.dmul_out c2 (Jvm.Free.Fl.l2d_fin f7)) q1 ?_
    show Steps p.tables e below (T4.setTop (mkF m 52 #[.val (.ref a5), .val (.double p6), .second, .val (.long f7), .second, .unset, .unset] [(.double lim)])) _
    refine XS.dstore X4.here hx rfl (hb hby d1_52) rfl (l' := #[.val (.ref a5), .val (.double p6), .second, .val (.long f7), .second, .val (.double lim), .second]) rfl ?_
    show Steps p.tables e below (T4.setTop (mkF m 54 #[.val (.ref a5), .val (.double p6), .second, .val (.long f7), .second, .val (.double lim), .second] [])) _
    refine XS.aloadN X4.here hx rfl (hb hby d1_54) rfl rfl ?_
    show Steps p.tables e below (T4.setTop (mkF m 55 #[.val (.ref a5), .val (.double p6), .second, .val (.long f7), .second, .val (.double lim), .second] [(.ref a5)])) _
    refine XS.dload X4.here hx rfl (hb hby d1_55) rfl ?_
    show Steps p.tables e below (T4.setTop (mkF m 57 #[.val (.ref a5), .val (.double p6), .second, .val (.long f7), .second, .val (.double lim), .second] [(.double lim), (.ref a5)])) _
    refine XS.dload X4.here hx rfl (hb hby d1_57) rfl ?_
    show Steps p.tables e below (T4.setTop (mkF m 59 #[.val (.ref a5), .val (.double p6), .second, .val (.long f7), .second, .val (.double lim), .second] [(.double lim), (.double lim), (.ref a5)])) _
    refine XS.dmulS X4.here hx rfl (hb hby d1_59) rfl (Jvm.Free.Fl.dmul_out fl fl) q2 ?_
    show Steps p.tables e below (T4.setTop (mkF m 60 #[.val (.ref a5), .val (.double p6), .second, .val (.long f7), .second, .val (.double lim), .second] [(.double sq), (.ref a5)])) _
    refine st5 _ ?_
    show Steps p.tables e below (T5.setTop (mkF m 63 #[.val (.ref a5), .val (.double p6), .second, .val (.long f7), .second, .val (.double lim), .second] [])) _
    refine XS.aloadN X5.here hx rfl (hb hby d1_63) rfl rfl ?_
    show Steps p.tables e below (T5.setTop (mkF m 64 #[.val (.ref a5), .val (.double p6), .second, .val (.long f7), .second, .val (.double lim), .second] [(.ref a5)])) _
    refine XS.aloadN X5.here hx rfl (hb hby d1_64) rfl rfl ?_
    show Steps p.tables e below (T5.setTop (mkF m 65 #[.val (.ref a5), .val (.double p6), .second, .val (.long f7), .second, .val (.double lim), .second] [(.ref a5), (.ref a5)])) _
    refine st6 _ ?_
    show Steps p.tables e below (T6.setTop (mkF m 68 #[.val (.ref a5), .val (.double p6), .second, .val (.long f7), .second, .val (.double lim), .second] [(.double sq), (.ref a5)])) _
    refine st7 _ ?_
    show Steps p.tables e below (T7.setTop (mkF m 71 #[.val (.ref a5), .val (.double p6), .second, .val (.long f7), .second, .val (.double lim), .second] [(.int (1 : Int32)), (.ref a5)])) _
    refine XS.ifNo X7.here hx rfl (hb hby d1_71) rfl (by decide) ?_
    show Steps p.tables e below (T7.setTop (mkF m 74 #[.val (.ref a5), .val (.double p6), .second, .val (.long f7), .second, .val (.double lim), .second] [(.ref a5)])) _
    refine XS.aloadN X7.here hx rfl (hb hby d1_74) rfl rfl ?_
    show Steps p.tables e below (T7.setTop (mkF m 75 #[.val (.ref a5), .val (.double p6), .second, .val (.long f7), .second, .val (.double lim), .second] [(.ref a5), (.ref a5)])) _
    refine st8 _ ?_
    show Steps p.tables e below (T8.setTop (mkF m 78 #[.val (.ref a5), .val (.double p6), .second, .val (.long f7), .second, .val (.double lim), .second] [(.double sq), (.ref a5)])) _
    refine X8.ldc2DoubleC hx hown (mvT hZ (hw _ (List.mem_of_getElem? (i := 28) rfl))) (g := (mkF m 78 #[.val (.ref a5), .val (.double p6), .second, .val (.long f7), .second, .val (.double lim), .second] [(.double sq), (.ref a5)])) rfl (hb hby d1_78) _ ?_
    show Steps p.tables e below (T8.setTop (mkF m 81 #[.val (.ref a5), .val (.double p6), .second, .val (.long f7), .second, .val (.double lim), .second] [(.double 553942754166571008), (.double sq), (.ref a5)])) _
    refine XS.dcmpS X8.here hx rfl (hb hby d1_81) rfl rfl ?_
    show Steps p.tables e below (T8.setTop (mkF m 82 #[.val (.ref a5), .val (.double p6), .second, .val (.long f7), .second, .val (.double lim), .second] [(.int (cmpValue (FP.dcmp sq 553942754166571008) .l)), (.ref a5)])) _
    refine XS.ifYes X8.here hx rfl (pc0 := 82) (pc' := 89) rfl (hb hby d1_82) rfl r2 (by decide) (by decide) ?_
    show Steps p.tables e below (T8.setTop (mkF m 89 #[.val (.ref a5), .val (.double p6), .second, .val (.long f7), .second, .val (.double lim), .second] [(.ref a5)])) _
    refine XS.iconst X8.here hx rfl (hb hby d1_89) ?_
    show Steps p.tables e below (T8.setTop (mkF m 90 #[.val (.ref a5), .val (.double p6), .second, .val (.long f7), .second, .val (.double lim), .second] [(.int (0 : Int32)), (.ref a5)])) _
    refine st9 _ ?_
    show Steps p.tables e below (T9.setTop (mkF m 93 #[.val (.ref a5), .val (.double p6), .second, .val (.long f7), .second, .val (.double lim), .second] [])) _
    refine XS.aloadN X9.here hx rfl (hb hby d1_93) rfl rfl ?_
    show Steps p.tables e below (T9.setTop (mkF m 94 #[.val (.ref a5), .val (.double p6), .second, .val (.long f7), .second, .val (.double lim), .second] [(.ref a5)])) _
    refine XS.dload X9.here hx rfl (hb hby d1_94) rfl ?_
    show Steps p.tables e below (T9.setTop (mkF m 96 #[.val (.ref a5), .val (.double p6), .second, .val (.long f7), .second, .val (.double lim), .second] [(.double lim), (.ref a5)])) _
    refine X9.ldc2DoubleC hx hown (mvT hZ (hw _ (List.mem_of_getElem? (i := 31) rfl))) (g := (mkF m 96 #[.val (.ref a5), .val (.double p6), .second, .val (.long f7), .second, .val (.double lim), .second] [(.double lim), (.ref a5)])) rfl (hb hby d1_96) _ ?_
    show Steps p.tables e below (T9.setTop (mkF m 99 #[.val (.ref a5), .val (.double p6), .second, .val (.long f7), .second, .val (.double lim), .second] [(.double 4607182418800017453), (.double lim), (.ref a5)])) _
    refine XS.dmulS X9.here hx rfl (hb hby d1_99) rfl (Jvm.Free.Fl.dmul_out fl own_fC2) rfl ?_
    show Steps p.tables e below (T9.setTop (mkF m 100 #[.val (.ref a5), .val (.double p6), .second, .val (.long f7), .second, .val (.double lim), .second] [(.double (FP.dmul lim 4607182418800017453)), (.ref a5)])) _
    refine st10 _ ?_
    show Steps p.tables e below (T10.setTop (mkF m 103 #[.val (.ref a5), .val (.double p6), .second, .val (.long f7), .second, .val (.double lim), .second] [])) _
    refine XS.aloadN X10.here hx rfl (hb hby d1_103) rfl rfl ?_
    show Steps p.tables e below (T10.setTop (mkF m 104 #[.val (.ref a5), .val (.double p6), .second, .val (.long f7), .second, .val (.double lim), .second] [(.ref a5)])) _
    refine XS.aloadN X10.here hx rfl (hb hby d1_104) rfl rfl ?_
    show Steps p.tables e below (T10.setTop (mkF m 105 #[.val (.ref a5), .val (.double p6), .second, .val (.long f7), .second, .val (.double lim), .second] [(.ref a5), (.ref a5)])) _
    refine st11 _ ?_
    show Steps p.tables e below (T11.setTop (mkF m 108 #[.val (.ref a5), .val (.double p6), .second, .val (.long f7), .second, .val (.double lim), .second] [(.int (0 : Int32)), (.ref a5)])) _
    refine XS.ifYes X11.here hx rfl (pc0 := 108) (pc' := 120) rfl (hb hby d1_108) rfl (by decide) (by decide) (by decide) ?_
    show Steps p.tables e below (T11.setTop (mkF m 120 #[.val (.ref a5), .val (.double p6), .second, .val (.long f7), .second, .val (.double lim), .second] [(.ref a5)])) _
    refine X11.ldc2DoubleC hx hown (mvT hZ (hw _ (List.mem_of_getElem? (i := 44) rfl))) (g := (mkF m 120 #[.val (.ref a5), .val (.double p6), .second, .val (.long f7), .second, .val (.double lim), .second] [(.ref a5)])) rfl (hb hby d1_120) _ ?_
    show Steps p.tables e below (T11.setTop (mkF m 123 #[.val (.ref a5), .val (.double p6), .second, .val (.long f7), .second, .val (.double lim), .second] [(.double 18442240474082181120), (.ref a5)])) _
    refine st12 _ ?_
    show Steps p.tables e below (T12.setTop (mkF m 126 #[.val (.ref a5), .val (.double p6), .second, .val (.long f7), .second, .val (.double lim), .second] [])) _
    exact X12.returnOut hx Bd.returns (hb hby d1_126) hr
  · show QI Z a5 _ h0 n0 _ T12.heap _
    rw [e12]
    exact ⟨rfl, N12, P12, E12, Finner12⟩
set_option maxRecDepth 65536 in
set_option maxHeartbeats 40000000 in
theorem rmIN (l : Launch) (Z : State) (a0 : Array Value) (hw : ∀ d ∈ tables_1, d.before a0 Z = true) (ws : List Jvm.Cond) (a5 : Addr) (p6 : UInt64) (f7 : Int64) (lim sq inn : UInt64) (h0 : Heap) (n0 : Nat) (Z0 : n0 ≤ h0.size) (Fbase0 : Fld Z h0 a5 "com/example/murmuration/murmuration/cluster/DistanceLimit" "base" "D" (.double 0)) (Ffactor0 : Fld Z h0 a5 "com/example/murmuration/murmuration/cluster/DistanceLimit" "factor" "J" (.long 0)) (Fsquared0 : Fld Z h0 a5 "com/example/murmuration/murmuration/cluster/DistanceLimit" "squared" "D" (.double 0)) (Ffast0 : Fld Z h0 a5 "com/example/murmuration/murmuration/cluster/DistanceLimit" "fast" "Z" (.int 0)) (Freach0 : Fld Z h0 a5 "com/example/murmuration/murmuration/cluster/DistanceLimit" "reach" "D" (.double 0)) (Finner0 : Fld Z h0 a5 "com/example/murmuration/murmuration/cluster/DistanceLimit" "inner" "D" (.double 0)) (E0 : Exa Z h0 a5 "com/example/murmuration/murmuration/cluster/DistanceLimit") (g9 : n0 ≤ a5)
    (c1 : ifCond.holds .le (cmpValue (FP.dcmp p6 0) .l) = false) (c2 : Jvm.Free.Fl.Fin64 p6) (c3 : ifCond.holds .ge (lcmpW f7 1) = true) (q1 : FP.dmul p6 (FP.l2d f7) = lim) (fl : Jvm.Free.Fl.Fin64 lim) (q2 : FP.dmul lim lim = sq) (r1 : ¬ Jvm.Free.Fl.Fin64 sq) (r3 : inn = 18442240474082181120) :
    MetFree l (⟨"com/example/murmuration/murmuration/cluster/DistanceLimit", "<init>", "(DJ)V"⟩ : MethodName) (head1 (Jvm.Cond.code (⟨"com/example/murmuration/murmuration/cluster/DistanceLimit", "<init>", "(DJ)V"⟩ : MethodName) prog_15_method_1_code 7 none :: ws) ({ frames := 2, cells := 0, slots := 0, locals := 27 } : Room)) (fun a U => a = #[(.ref a5), (.double p6), (.long f7)] ∧ Z.Warmed39 U.vm ∧ U.heap = h0) (fun _ _ _ _ _ => True) (fun _ U o U' => ∃ v L, o = .returned v ∧ QI Z a5 inn h0 n0 v U'.heap L ∧ FrameEnd U o U' L ({ frames := 2, cells := 0, slots := 0, locals := 27 } : Room).cells ({ frames := 2, cells := 0, slots := 0, locals := 27 } : Room).slots) := by
  refine MetFree.of_bodySF (plainFor_of_name pnD) hisR ?_
  intro p e s m args below meth c s₁ Bd hml0 hP hK
  obtain ⟨rfl, hZ, hh⟩ := hP
  have hx := Bd.exec
  have hby := Bd.bytes
  have hml : c.maxLocals = 7 := hml0
  have hown : s.vm.findClass "com/example/murmuration/murmuration/cluster/DistanceLimit" = some m.cls := findClass_of_methodNamed Bd.named
  have hnm := (name_of_methodNamed Bd.named Bd.method).1
  have X0 : Stand p l e ({ frames := 2, cells := 0, slots := 0, locals := 27 } : Room) s m #[(.ref a5), (.double p6), (.long f7)] below meth c s₁ [] 0 0 := Stand.of_body Bd
  have e0 : s₁.heap = h0 := by rw [← hh, Bd.state]; rfl
  have N0 := Fr.nil n0
  have pre0 : ∀ t, Steps p.tables e below (s₁.setTop (mkF m 0 #[.val (.ref a5), .val (.double p6), .second, .val (.long f7), .second, .unset, .unset] [])) t → Steps p.tables e below (s₁.setTop (entryFrame m #[(.ref a5), (.double p6), (.long f7)] 7)) t := fun t k => castTop (efI m a5 p6 f7) k
  subst r3
  obtain ⟨T1, X1, e1, st1⟩ := initO X0 hx hZ hown (hw _ (List.mem_of_getElem? (i := 7) rfl)) (hw _ (List.mem_of_getElem? (i := 8) rfl)) (hw _ (List.mem_of_getElem? (i := 9) rfl)) e0 (g := (mkF m 1 #[.val (.ref a5), .val (.double p6), .second, .val (.long f7), .second, .unset, .unset] [(.ref a5)])) rfl (by rw [hml]; rfl) rfl (hb hby d1_1) (by decide) (W := 0) (by show 2 * 0 + _ ≤ _; exact Nat.le_of_eq rfl) (by decide)
  obtain ⟨T2, X2, e2, st2⟩ := own_infS X1 hx hZ hw hown e1 c2 (g := (mkF m 11 #[.val (.ref a5), .val (.double p6), .second, .val (.long f7), .second, .unset, .unset] [(.double p6)])) rfl (by rw [hml]; rfl) rfl (by show 2 * 0 + _ ≤ _; exact Nat.le_of_eq rfl) (hb hby d1_11) (by decide) (by decide) (by decide) (by decide)
  obtain ⟨T3, h3, X3, e3, W3, st3⟩ := putF X2 hx hZ hown (host := "") (Or.inl (hw _ (List.mem_of_getElem? (i := 19) rfl))) Via.refl e2 Fbase0 E0 (Or.inr ⟨(hw _ (List.mem_of_getElem? (i := 20) rfl)), rfl, hnm⟩) (hw _ (List.mem_of_getElem? (i := 2) rfl)) (ty := .double) (by decide) rfl rfl (g := (mkF m 40 #[.val (.ref a5), .val (.double p6), .second, .val (.long f7), .second, .unset, .unset] [(.double p6), (.ref a5)])) rfl rfl (hb hby d1_40)
  have N3 := Fr.snoc X3 N0 g9
  have P3 : Keep h0 h3 [a5] := ((Keep.refl _ _).wr W3 (Or.inl (List.mem_of_getElem? (i := 0) rfl)))
  have E3 : Exa Z h3 a5 "com/example/murmuration/murmuration/cluster/DistanceLimit" := (E0.wr W3)
  have Ffactor3 : Fld Z h3 a5 "com/example/murmuration/murmuration/cluster/DistanceLimit" "factor" "J" (.long 0) := Ffactor0.other W3 (Or.inr (slot_ne (Or.inr (hw _ (List.mem_of_getElem? (i := 22) rfl))) (Or.inr (hw _ (List.mem_of_getElem? (i := 20) rfl))) (by decide) (t := .long) (t' := .double) (by decide) (by decide)))
  have Fsquared3 : Fld Z h3 a5 "com/example/murmuration/murmuration/cluster/DistanceLimit" "squared" "D" (.double 0) := Fsquared0.other W3 (Or.inr (slot_ne (Or.inr (hw _ (List.mem_of_getElem? (i := 24) rfl))) (Or.inr (hw _ (List.mem_of_getElem? (i := 20) rfl))) (by decide) (t := .double) (t' := .double) (by decide) (by decide)))
  have Ffast3 : Fld Z h3 a5 "com/example/murmuration/murmuration/cluster/DistanceLimit" "fast" "Z" (.int 0) := Ffast0.other W3 (Or.inr (slot_ne (Or.inr (hw _ (List.mem_of_getElem? (i := 30) rfl))) (Or.inr (hw _ (List.mem_of_getElem? (i := 20) rfl))) (by decide) (t := .boolean) (t' := .double) (by decide) (by decide)))
  have Freach3 : Fld Z h3 a5 "com/example/murmuration/murmuration/cluster/DistanceLimit" "reach" "D" (.double 0) := Freach0.other W3 (Or.inr (slot_ne (Or.inr (hw _ (List.mem_of_getElem? (i := 33) rfl))) (Or.inr (hw _ (List.mem_of_getElem? (i := 20) rfl))) (by decide) (t := .double) (t' := .double) (by decide) (by decide)))
  have Finner3 : Fld Z h3 a5 "com/example/murmuration/murmuration/cluster/DistanceLimit" "inner" "D" (.double 0) := Finner0.other W3 (Or.inr (slot_ne (Or.inr (hw _ (List.mem_of_getElem? (i := 36) rfl))) (Or.inr (hw _ (List.mem_of_getElem? (i := 20) rfl))) (by decide) (t := .double) (t' := .double) (by decide) (by decide)))
  obtain ⟨T4, h4, X4, e4, W4, st4⟩ := putF X3 hx hZ hown (host := "") (Or.inl (hw _ (List.mem_of_getElem? (i := 21) rfl))) Via.refl e3 Ffactor3 E3 (Or.inr ⟨(hw _ (List.mem_of_getElem? (i := 22) rfl)), rfl, hnm⟩) (hw _ (List.mem_of_getElem? (i := 2) rfl)) (ty := .long) (by decide) rfl rfl (g := (mkF m 45 #[.val (.ref a5), .val (.double p6), .second, .val (.long f7), .second, .unset, .unset] [(.long f7), (.ref a5)])) rfl rfl (hb hby d1_45)
  have N4 := Fr.snoc X4 N3 g9
  have P4 : Keep h0 h4 [a5] := (P3.wr W4 (Or.inl (List.mem_of_getElem? (i := 0) rfl)))
  have E4 : Exa Z h4 a5 "com/example/murmuration/murmuration/cluster/DistanceLimit" := (E3.wr W4)
  have Fsquared4 : Fld Z h4 a5 "com/example/murmuration/murmuration/cluster/DistanceLimit" "squared" "D" (.double 0) := Fsquared3.other W4 (Or.inr (slot_ne (Or.inr (hw _ (List.mem_of_getElem? (i := 24) rfl))) (Or.inr (hw _ (List.mem_of_getElem? (i := 22) rfl))) (by decide) (t := .double) (t' := .long) (by decide) (by decide)))
  have Ffast4 : Fld Z h4 a5 "com/example/murmuration/murmuration/cluster/DistanceLimit" "fast" "Z" (.int 0) := Ffast3.other W4 (Or.inr (slot_ne (Or.inr (hw _ (List.mem_of_getElem? (i := 30) rfl))) (Or.inr (hw _ (List.mem_of_getElem? (i := 22) rfl))) (by decide) (t := .boolean) (t' := .long) (by decide) (by decide)))
  have Freach4 : Fld Z h4 a5 "com/example/murmuration/murmuration/cluster/DistanceLimit" "reach" "D" (.double 0) := Freach3.other W4 (Or.inr (slot_ne (Or.inr (hw _ (List.mem_of_getElem? (i := 33) rfl))) (Or.inr (hw _ (List.mem_of_getElem? (i := 22) rfl))) (by decide) (t := .double) (t' := .long) (by decide) (by decide)))
  have Finner4 : Fld Z h4 a5 "com/example/murmuration/murmuration/cluster/DistanceLimit" "inner" "D" (.double 0) := Finner3.other W4 (Or.inr (slot_ne (Or.inr (hw _ (List.mem_of_getElem? (i := 36) rfl))) (Or.inr (hw _ (List.mem_of_getElem? (i := 22) rfl))) (by decide) (t := .double) (t' := .long) (by decide) (by decide)))
  obtain ⟨T5, h5, X5, e5, W5, st5⟩ := putF X4 hx hZ hown (host := "") (Or.inl (hw _ (List.mem_of_getElem? (i := 23) rfl))) Via.refl e4 Fsquared4 E4 (Or.inr ⟨(hw _ (List.mem_of_getElem? (i := 24) rfl)), rfl, hnm⟩) (hw _ (List.mem_of_getElem? (i := 2) rfl)) (ty := .double) (by decide) rfl rfl (g := (mkF m 60 #[.val (.ref a5), .val (.double p6), .second, .val (.long f7), .second, .val (.double lim), .second] [(.double sq), (.ref a5)])) rfl rfl (hb hby d1_60)
  have N5 := Fr.snoc X5 N4 g9
  have P5 : Keep h0 h5 [a5] := (P4.wr W5 (Or.inl (List.mem_of_getElem? (i := 0) rfl)))
  have E5 : Exa Z h5 a5 "com/example/murmuration/murmuration/cluster/DistanceLimit" := (E4.wr W5)
  have Fsquared5 : Fld Z h5 a5 "com/example/murmuration/murmuration/cluster/DistanceLimit" "squared" "D" (.double sq) := (Fsquared4.same W5)
  have Ffast5 : Fld Z h5 a5 "com/example/murmuration/murmuration/cluster/DistanceLimit" "fast" "Z" (.int 0) := Ffast4.other W5 (Or.inr (slot_ne (Or.inr (hw _ (List.mem_of_getElem? (i := 30) rfl))) (Or.inr (hw _ (List.mem_of_getElem? (i := 24) rfl))) (by decide) (t := .boolean) (t' := .double) (by decide) (by decide)))
  have Freach5 : Fld Z h5 a5 "com/example/murmuration/murmuration/cluster/DistanceLimit" "reach" "D" (.double 0) := Freach4.other W5 (Or.inr (slot_ne (Or.inr (hw _ (List.mem_of_getElem? (i := 33) rfl))) (Or.inr (hw _ (List.mem_of_getElem? (i := 24) rfl))) (by decide) (t := .double) (t' := .double) (by decide) (by decide)))
  have Finner5 : Fld Z h5 a5 "com/example/murmuration/murmuration/cluster/DistanceLimit" "inner" "D" (.double 0) := Finner4.other W5 (Or.inr (slot_ne (Or.inr (hw _ (List.mem_of_getElem? (i := 36) rfl))) (Or.inr (hw _ (List.mem_of_getElem? (i := 24) rfl))) (by decide) (t := .double) (t' := .double) (by decide) (by decide)))
  obtain ⟨T6, X6, e6, st6⟩ := getF X5 hx hZ hown (host := "") (Or.inl (hw _ (List.mem_of_getElem? (i := 23) rfl))) Via.refl e5 Fsquared5 (g := (mkF m 65 #[.val (.ref a5), .val (.double p6), .second, .val (.long f7), .second, .val (.double lim), .second] [(.ref a5), (.ref a5)])) rfl rfl (hb hby d1_65)
  obtain ⟨T7, X7, e7, st7⟩ := own_finS X6 hx hZ hw hown e6 (Or.inr ⟨q2 ▸ (Jvm.Free.Fl.dmul_out fl fl), r1, rfl⟩) (g := (mkF m 68 #[.val (.ref a5), .val (.double p6), .second, .val (.long f7), .second, .val (.double lim), .second] [(.double sq), (.ref a5)])) rfl (by rw [hml]; rfl) rfl (by show 2 * 0 + _ ≤ _; exact Nat.le_of_eq rfl) (hb hby d1_68) (by decide) (by decide) (by decide) (by decide)
  obtain ⟨T8, h8, X8, e8, W8, st8⟩ := putF X7 hx hZ hown (host := "") (Or.inl (hw _ (List.mem_of_getElem? (i := 29) rfl))) Via.refl e7 Ffast5 E5 (Or.inr ⟨(hw _ (List.mem_of_getElem? (i := 30) rfl)), rfl, hnm⟩) (hw _ (List.mem_of_getElem? (i := 2) rfl)) (ty := .boolean) (by decide) rfl rfl (g := (mkF m 90 #[.val (.ref a5), .val (.double p6), .second, .val (.long f7), .second, .val (.double lim), .second] [(.int (0 : Int32)), (.ref a5)])) rfl rfl (hb hby d1_90)
  have N8 := Fr.snoc X8 N5 g9
  have P8 : Keep h0 h8 [a5] := (P5.wr W8 (Or.inl (List.mem_of_getElem? (i := 0) rfl)))
  have E8 : Exa Z h8 a5 "com/example/murmuration/murmuration/cluster/DistanceLimit" := (E5.wr W8)
  have Ffast8 : Fld Z h8 a5 "com/example/murmuration/murmuration/cluster/DistanceLimit" "fast" "Z" (.int (0 : Int32)) := (Ffast5.same W8)
  have Freach8 : Fld Z h8 a5 "com/example/murmuration/murmuration/cluster/DistanceLimit" "reach" "D" (.double 0) := Freach5.other W8 (Or.inr (slot_ne (Or.inr (hw _ (List.mem_of_getElem? (i := 33) rfl))) (Or.inr (hw _ (List.mem_of_getElem? (i := 30) rfl))) (by decide) (t := .double) (t' := .boolean) (by decide) (by decide)))
  have Finner8 : Fld Z h8 a5 "com/example/murmuration/murmuration/cluster/DistanceLimit" "inner" "D" (.double 0) := Finner5.other W8 (Or.inr (slot_ne (Or.inr (hw _ (List.mem_of_getElem? (i := 36) rfl))) (Or.inr (hw _ (List.mem_of_getElem? (i := 30) rfl))) (by decide) (t := .double) (t' := .boolean) (by decide) (by decide)))
  obtain ⟨T9, h9, X9, e9, W9, st9⟩ := putF X8 hx hZ hown (host := "") (Or.inl (hw _ (List.mem_of_getElem? (i := 32) rfl))) Via.refl e8 Freach8 E8 (Or.inr ⟨(hw _ (List.mem_of_getElem? (i := 33) rfl)), rfl, hnm⟩) (hw _ (List.mem_of_getElem? (i := 2) rfl)) (ty := .double) (by decide) rfl rfl (g := (mkF m 100 #[.val (.ref a5), .val (.double p6), .second, .val (.long f7), .second, .val (.double lim), .second] [(.double (FP.dmul lim 4607182418800017453)), (.ref a5)])) rfl rfl (hb hby d1_100)
  have N9 := Fr.snoc X9 N8 g9
  have P9 : Keep h0 h9 [a5] := (P8.wr W9 (Or.inl (List.mem_of_getElem? (i := 0) rfl)))
  have E9 : Exa Z h9 a5 "com/example/murmuration/murmuration/cluster/DistanceLimit" := (E8.wr W9)
  have Ffast9 : Fld Z h9 a5 "com/example/murmuration/murmuration/cluster/DistanceLimit" "fast" "Z" (.int (0 : Int32)) := Ffast8.other W9 (Or.inr (slot_ne (Or.inr (hw _ (List.mem_of_getElem? (i := 30) rfl))) (Or.inr (hw _ (List.mem_of_getElem? (i := 33) rfl))) (by decide) (t := .boolean) (t' := .double) (by decide) (by decide)))
  have Finner9 : Fld Z h9 a5 "com/example/murmuration/murmuration/cluster/DistanceLimit" "inner" "D" (.double 0) := Finner8.other W9 (Or.inr (slot_ne (Or.inr (hw _ (List.mem_of_getElem? (i := 36) rfl))) (Or.inr (hw _ (List.mem_of_getElem? (i := 33) rfl))) (by decide) (t := .double) (t' := .double) (by decide) (by decide)))
  obtain ⟨T10, X10, e10, st10⟩ := getF X9 hx hZ hown (host := "") (Or.inl (hw _ (List.mem_of_getElem? (i := 29) rfl))) Via.refl e9 Ffast9 (g := (mkF m 105 #[.val (.ref a5), .val (.double p6), .second, .val (.long f7), .second, .val (.double lim), .second] [(.ref a5), (.ref a5)])) rfl rfl (hb hby d1_105)
  obtain ⟨T11, h11, X11, e11, W11, st11⟩ := putF X10 hx hZ hown (host := "") (Or.inl (hw _ (List.mem_of_getElem? (i := 35) rfl))) Via.refl e10 Finner9 E9 (Or.inr ⟨(hw _ (List.mem_of_getElem? (i := 36) rfl)), rfl, hnm⟩) (hw _ (List.mem_of_getElem? (i := 2) rfl)) (ty := .double) (by decide) rfl rfl (g := (mkF m 123 #[.val (.ref a5), .val (.double p6), .second, .val (.long f7), .second, .val (.double lim), .second] [(.double 18442240474082181120), (.ref a5)])) rfl rfl (hb hby d1_123)
  have N11 := Fr.snoc X11 N9 g9
  have P11 : Keep h0 h11 [a5] := (P9.wr W11 (Or.inl (List.mem_of_getElem? (i := 0) rfl)))
  have E11 : Exa Z h11 a5 "com/example/murmuration/murmuration/cluster/DistanceLimit" := (E9.wr W11)
  have Finner11 : Fld Z h11 a5 "com/example/murmuration/murmuration/cluster/DistanceLimit" "inner" "D" (.double 18442240474082181120) := (Finner9.same W11)
  obtain ⟨fs, hr, hrun, hended, hW, hsame⟩ := X11.leave (v := none) (fun _ => rfl)
  refine ⟨_, _, pre0 _ ?_, hrun, hended, _, _, rfl, ?_, ⟨_, rfl⟩, hW, hsame.mono (by decide) (by decide)⟩
  · show Steps p.tables e below (s₁.setTop (mkF m 0 #[.val (.ref a5), .val (.double p6), .second, .val (.long f7), .second, .unset, .unset] [])) _
    refine XS.aloadN X0.here hx rfl (hb hby d1_0) rfl rfl ?_
    show Steps p.tables e below (s₁.setTop (mkF m 1 #[.val (.ref a5), .val (.double p6), .second, .val (.long f7), .second, .unset, .unset] [(.ref a5)])) _
    refine st1 _ ?_
    show Steps p.tables e below (T1.setTop (mkF m 4 #[.val (.ref a5), .val (.double p6), .second, .val (.long f7), .second, .unset, .unset] [])) _
    refine XS.dloadN X1.here hx rfl (hb hby d1_4) rfl ?_
    show Steps p.tables e below (T1.setTop (mkF m 5 #[.val (.ref a5), .val (.double p6), .second, .val (.long f7), .second, .unset, .unset] [(.double p6)])) _
    refine XS.dconst0 X1.here hx rfl (hb hby d1_5) rfl ?_
    show Steps p.tables e below (T1.setTop (mkF m 6 #[.val (.ref a5), .val (.double p6), .second, .val (.long f7), .second, .unset, .unset] [(.double (0 : UInt64)), (.double p6)])) _
    refine XS.dcmpS X1.here hx rfl (hb hby d1_6) rfl rfl ?_
    show Steps p.tables e below (T1.setTop (mkF m 7 #[.val (.ref a5), .val (.double p6), .second, .val (.long f7), .second, .unset, .unset] [(.int (cmpValue (FP.dcmp p6 (0 : UInt64)) .l))])) _
    refine XS.ifNo X1.here hx rfl (hb hby d1_7) rfl c1 ?_
    show Steps p.tables e below (T1.setTop (mkF m 10 #[.val (.ref a5), .val (.double p6), .second, .val (.long f7), .second, .unset, .unset] [])) _
    refine XS.dloadN X1.here hx rfl (hb hby d1_10) rfl ?_
    show Steps p.tables e below (T1.setTop (mkF m 11 #[.val (.ref a5), .val (.double p6), .second, .val (.long f7), .second, .unset, .unset] [(.double p6)])) _
    refine st2 _ ?_
    show Steps p.tables e below (T2.setTop (mkF m 14 #[.val (.ref a5), .val (.double p6), .second, .val (.long f7), .second, .unset, .unset] [(.int (0 : Int32))])) _
    refine XS.ifNo X2.here hx rfl (hb hby d1_14) rfl (by decide) ?_
    show Steps p.tables e below (T2.setTop (mkF m 17 #[.val (.ref a5), .val (.double p6), .second, .val (.long f7), .second, .unset, .unset] [])) _
    refine XS.lloadN X2.here hx rfl (hb hby d1_17) rfl ?_
    show Steps p.tables e below (T2.setTop (mkF m 18 #[.val (.ref a5), .val (.double p6), .second, .val (.long f7), .second, .unset, .unset] [(.long f7)])) _
    refine XS.lconst X2.here hx rfl (hb hby d1_18) ?_
    show Steps p.tables e below (T2.setTop (mkF m 19 #[.val (.ref a5), .val (.double p6), .second, .val (.long f7), .second, .unset, .unset] [(.long (1 : Int64)), (.long f7)])) _
    refine XS.lcmp X2.here hx rfl (hb hby d1_19) rfl ?_
    show Steps p.tables e below (T2.setTop (mkF m 20 #[.val (.ref a5), .val (.double p6), .second, .val (.long f7), .second, .unset, .unset] [(.int (lcmpW f7 (1 : Int64)))])) _
    refine XS.ifYes X2.here hx rfl (pc0 := 20) (pc' := 38) rfl (hb hby d1_20) rfl c3 (by decide) (by decide) ?_
    show Steps p.tables e below (T2.setTop (mkF m 38 #[.val (.ref a5), .val (.double p6), .second, .val (.long f7), .second, .unset, .unset] [])) _
    refine XS.aloadN X2.here hx rfl (hb hby d1_38) rfl rfl ?_
    show Steps p.tables e below (T2.setTop (mkF m 39 #[.val (.ref a5), .val (.double p6), .second, .val (.long f7), .second, .unset, .unset] [(.ref a5)])) _
    refine XS.dloadN X2.here hx rfl (hb hby d1_39) rfl ?_
    show Steps p.tables e below (T2.setTop (mkF m 40 #[.val (.ref a5), .val (.double p6), .second, .val (.long f7), .second, .unset, .unset] [(.double p6), (.ref a5)])) _
    refine st3 _ ?_
    show Steps p.tables e below (T3.setTop (mkF m 43 #[.val (.ref a5), .val (.double p6), .second, .val (.long f7), .second, .unset, .unset] [])) _
    refine XS.aloadN X3.here hx rfl (hb hby d1_43) rfl rfl ?_
    show Steps p.tables e below (T3.setTop (mkF m 44 #[.val (.ref a5), .val (.double p6), .second, .val (.long f7), .second, .unset, .unset] [(.ref a5)])) _
    refine XS.lloadN X3.here hx rfl (hb hby d1_44) rfl ?_
    show Steps p.tables e below (T3.setTop (mkF m 45 #[.val (.ref a5), .val (.double p6), .second, .val (.long f7), .second, .unset, .unset] [(.long f7), (.ref a5)])) _
    refine st4 _ ?_
    show Steps p.tables e below (T4.setTop (mkF m 48 #[.val (.ref a5), .val (.double p6), .second, .val (.long f7), .second, .unset, .unset] [])) _
    refine XS.dloadN X4.here hx rfl (hb hby d1_48) rfl ?_
    show Steps p.tables e below (T4.setTop (mkF m 49 #[.val (.ref a5), .val (.double p6), .second, .val (.long f7), .second, .unset, .unset] [(.double p6)])) _
    refine XS.lloadN X4.here hx rfl (hb hby d1_49) rfl ?_
    show Steps p.tables e below (T4.setTop (mkF m 50 #[.val (.ref a5), .val (.double p6), .second, .val (.long f7), .second, .unset, .unset] [(.long f7), (.double p6)])) _
    refine XS.l2dS X4.here hx rfl (hb hby d1_50) rfl rfl ?_
    show Steps p.tables e below (T4.setTop (mkF m 51 #[.val (.ref a5), .val (.double p6), .second, .val (.long f7), .second, .unset, .unset] [(.double (FP.l2d f7)), (.double p6)])) _
    refine XS.dmulS X4.here hx rfl (hb hby d1_51) rfl (Jvm.Free.Fl.dmul_out c2 (Jvm.Free.Fl.l2d_fin f7)) q1 ?_
    show Steps p.tables e below (T4.setTop (mkF m 52 #[.val (.ref a5), .val (.double p6), .second, .val (.long f7), .second, .unset, .unset] [(.double lim)])) _
    refine XS.dstore X4.here hx rfl (hb hby d1_52) rfl (l' := #[.val (.ref a5), .val (.double p6), .second, .val (.long f7), .second, .val (.double lim), .second]) rfl ?_
    show Steps p.tables e below (T4.setTop (mkF m 54 #[.val (.ref a5), .val (.double p6), .second, .val (.long f7), .second, .val (.double lim), .second] [])) _
    refine XS.aloadN X4.here hx rfl (hb hby d1_54) rfl rfl ?_
    show Steps p.tables e below (T4.setTop (mkF m 55 #[.val (.ref a5), .val (.double p6), .second, .val (.long f7), .second, .val (.double lim), .second] [(.ref a5)])) _
    refine XS.dload X4.here hx rfl (hb hby d1_55) rfl ?_
    show Steps p.tables e below (T4.setTop (mkF m 57 #[.val (.ref a5), .val (.double p6), .second, .val (.long f7), .second, .val (.double lim), .second] [(.double lim), (.ref a5)])) _
    refine XS.dload X4.here hx rfl (hb hby d1_57) rfl ?_
    show Steps p.tables e below (T4.setTop (mkF m 59 #[.val (.ref a5), .val (.double p6), .second, .val (.long f7), .second, .val (.double lim), .second] [(.double lim), (.double lim), (.ref a5)])) _
    refine XS.dmulS X4.here hx rfl (hb hby d1_59) rfl (Jvm.Free.Fl.dmul_out fl fl) q2 ?_
    show Steps p.tables e below (T4.setTop (mkF m 60 #[.val (.ref a5), .val (.double p6), .second, .val (.long f7), .second, .val (.double lim), .second] [(.double sq), (.ref a5)])) _
    refine st5 _ ?_
    show Steps p.tables e below (T5.setTop (mkF m 63 #[.val (.ref a5), .val (.double p6), .second, .val (.long f7), .second, .val (.double lim), .second] [])) _
    refine XS.aloadN X5.here hx rfl (hb hby d1_63) rfl rfl ?_
    show Steps p.tables e below (T5.setTop (mkF m 64 #[.val (.ref a5), .val (.double p6), .second, .val (.long f7), .second, .val (.double lim), .second] [(.ref a5)])) _
    refine XS.aloadN X5.here hx rfl (hb hby d1_64) rfl rfl ?_
    show Steps p.tables e below (T5.setTop (mkF m 65 #[.val (.ref a5), .val (.double p6), .second, .val (.long f7), .second, .val (.double lim), .second] [(.ref a5), (.ref a5)])) _
    refine st6 _ ?_
    show Steps p.tables e below (T6.setTop (mkF m 68 #[.val (.ref a5), .val (.double p6), .second, .val (.long f7), .second, .val (.double lim), .second] [(.double sq), (.ref a5)])) _
    refine st7 _ ?_
    show Steps p.tables e below (T7.setTop (mkF m 71 #[.val (.ref a5), .val (.double p6), .second, .val (.long f7), .second, .val (.double lim), .second] [(.int (0 : Int32)), (.ref a5)])) _
    refine XS.ifYes X7.here hx rfl (pc0 := 71) (pc' := 89) rfl (hb hby d1_71) rfl (by decide) (by decide) (by decide) ?_
    show Steps p.tables e below (T7.setTop (mkF m 89 #[.val (.ref a5), .val (.double p6), .second, .val (.long f7), .second, .val (.double lim), .second] [(.ref a5)])) _
    refine XS.iconst X7.here hx rfl (hb hby d1_89) ?_
    show Steps p.tables e below (T7.setTop (mkF m 90 #[.val (.ref a5), .val (.double p6), .second, .val (.long f7), .second, .val (.double lim), .second] [(.int (0 : Int32)), (.ref a5)])) _
    refine st8 _ ?_
    show Steps p.tables e below (T8.setTop (mkF m 93 #[.val (.ref a5), .val (.double p6), .second, .val (.long f7), .second, .val (.double lim), .second] [])) _
    refine XS.aloadN X8.here hx rfl (hb hby d1_93) rfl rfl ?_
    show Steps p.tables e below (T8.setTop (mkF m 94 #[.val (.ref a5), .val (.double p6), .second, .val (.long f7), .second, .val (.double lim), .second] [(.ref a5)])) _
    refine XS.dload X8.here hx rfl (hb hby d1_94) rfl ?_
    show Steps p.tables e below (T8.setTop (mkF m 96 #[.val (.ref a5), .val (.double p6), .second, .val (.long f7), .second, .val (.double lim), .second] [(.double lim), (.ref a5)])) _
    refine X8.ldc2DoubleC hx hown (mvT hZ (hw _ (List.mem_of_getElem? (i := 31) rfl))) (g := (mkF m 96 #[.val (.ref a5), .val (.double p6), .second, .val (.long f7), .second, .val (.double lim), .second] [(.double lim), (.ref a5)])) rfl (hb hby d1_96) _ ?_
    show Steps p.tables e below (T8.setTop (mkF m 99 #[.val (.ref a5), .val (.double p6), .second, .val (.long f7), .second, .val (.double lim), .second] [(.double 4607182418800017453), (.double lim), (.ref a5)])) _
    refine XS.dmulS X8.here hx rfl (hb hby d1_99) rfl (Jvm.Free.Fl.dmul_out fl own_fC2) rfl ?_
    show Steps p.tables e below (T8.setTop (mkF m 100 #[.val (.ref a5), .val (.double p6), .second, .val (.long f7), .second, .val (.double lim), .second] [(.double (FP.dmul lim 4607182418800017453)), (.ref a5)])) _
    refine st9 _ ?_
    show Steps p.tables e below (T9.setTop (mkF m 103 #[.val (.ref a5), .val (.double p6), .second, .val (.long f7), .second, .val (.double lim), .second] [])) _
    refine XS.aloadN X9.here hx rfl (hb hby d1_103) rfl rfl ?_
    show Steps p.tables e below (T9.setTop (mkF m 104 #[.val (.ref a5), .val (.double p6), .second, .val (.long f7), .second, .val (.double lim), .second] [(.ref a5)])) _
    refine XS.aloadN X9.here hx rfl (hb hby d1_104) rfl rfl ?_
    show Steps p.tables e below (T9.setTop (mkF m 105 #[.val (.ref a5), .val (.double p6), .second, .val (.long f7), .second, .val (.double lim), .second] [(.ref a5), (.ref a5)])) _
    refine st10 _ ?_
    show Steps p.tables e below (T10.setTop (mkF m 108 #[.val (.ref a5), .val (.double p6), .second, .val (.long f7), .second, .val (.double lim), .second] [(.int (0 : Int32)), (.ref a5)])) _
    refine XS.ifYes X10.here hx rfl (pc0 := 108) (pc' := 120) rfl (hb hby d1_108) rfl (by decide) (by decide) (by decide) ?_
    show Steps p.tables e below (T10.setTop (mkF m 120 #[.val (.ref a5), .val (.double p6), .second, .val (.long f7), .second, .val (.double lim), .second] [(.ref a5)])) _
    refine X10.ldc2DoubleC hx hown (mvT hZ (hw _ (List.mem_of_getElem? (i := 44) rfl))) (g := (mkF m 120 #[.val (.ref a5), .val (.double p6), .second, .val (.long f7), .second, .val (.double lim), .second] [(.ref a5)])) rfl (hb hby d1_120) _ ?_
    show Steps p.tables e below (T10.setTop (mkF m 123 #[.val (.ref a5), .val (.double p6), .second, .val (.long f7), .second, .val (.double lim), .second] [(.double 18442240474082181120), (.ref a5)])) _
    refine st11 _ ?_
    show Steps p.tables e below (T11.setTop (mkF m 126 #[.val (.ref a5), .val (.double p6), .second, .val (.long f7), .second, .val (.double lim), .second] [])) _
    exact X11.returnOut hx Bd.returns (hb hby d1_126) hr
  · show QI Z a5 _ h0 n0 _ T11.heap _
    rw [e11]
    exact ⟨rfl, N11, P11, E11, Finner11⟩
theorem efS (m : MethodId) (a5 : Addr) (x6 : UInt64) : entryFrame m #[(.ref a5), (.double x6)] 3 = mkF m 0 #[.val (.ref a5), .val (.double x6), .second] [] := by first | (simp [entryFrame, mkF, argsToLocals, Value.category]; done) | rfl
def QS (r : Int32) (h0 : Heap) (n0 : Nat) (v : Option Value) (h : Heap) (L : List Loc) : Prop := (v = some (.int r) ∧ Fr n0 L ∧ (h = h0))
set_option maxRecDepth 65536 in
set_option maxHeartbeats 40000000 in
theorem rmS (l : Launch) (Z : State) (a0 : Array Value) (hw : ∀ d ∈ tables_1, d.before a0 Z = true) (ws : List Jvm.Cond) (a5 : Addr) (x6 inn : UInt64) (r : Int32) (h0 : Heap) (n0 : Nat) (Z0 : n0 ≤ h0.size) (F0 : Fld Z h0 a5 "com/example/murmuration/murmuration/cluster/DistanceLimit" "inner" "D" (.double inn))
    (hR : (ifCond.holds .gt (cmpValue (FP.dcmp x6 inn) .g) = false ∧ r = 1) ∨ (ifCond.holds .gt (cmpValue (FP.dcmp x6 inn) .g) = true ∧ r = 0)) :
    MetFree l (⟨"com/example/murmuration/murmuration/cluster/DistanceLimit", "surelyAllows", "(D)Z"⟩ : MethodName) (head1 (Jvm.Cond.code (⟨"com/example/murmuration/murmuration/cluster/DistanceLimit", "surelyAllows", "(D)Z"⟩ : MethodName) prog_15_method_5_code 3 (some .boolean) :: ws) ({ frames := 0, cells := 0, slots := 0, locals := 0 } : Room)) (fun a U => a = #[(.ref a5), (.double x6)] ∧ Z.Warmed39 U.vm ∧ U.heap = h0) (fun _ _ _ _ _ => True) (fun _ U o U' => ∃ v L, o = .returned v ∧ QS r h0 n0 v U'.heap L ∧ FrameEnd U o U' L ({ frames := 0, cells := 0, slots := 0, locals := 0 } : Room).cells ({ frames := 0, cells := 0, slots := 0, locals := 0 } : Room).slots) := by
  refine MetFree.of_bodySF (plainFor_of_name pnD) hisR ?_
  intro p e s m args below meth c s₁ Bd hml0 hP hK
  obtain ⟨rfl, hZ, hh⟩ := hP
  have hx := Bd.exec
  have hby := Bd.bytes
  have hml : c.maxLocals = 3 := hml0
  have hown : s.vm.findClass "com/example/murmuration/murmuration/cluster/DistanceLimit" = some m.cls := findClass_of_methodNamed Bd.named
  have hnm := (name_of_methodNamed Bd.named Bd.method).1
  have X0 : Stand p l e ({ frames := 0, cells := 0, slots := 0, locals := 0 } : Room) s m #[(.ref a5), (.double x6)] below meth c s₁ [] 0 0 := Stand.of_body Bd
  have e0 : s₁.heap = h0 := by rw [← hh, Bd.state]; rfl
  have N0 := Fr.nil n0
  have pre0 : ∀ t, Steps p.tables e below (s₁.setTop (mkF m 0 #[.val (.ref a5), .val (.double x6), .second] [])) t → Steps p.tables e below (s₁.setTop (entryFrame m #[(.ref a5), (.double x6)] 3)) t := fun t k => castTop (efS m a5 x6) k
  rcases hR with ⟨hR, rfl⟩ | ⟨hR, rfl⟩
  · obtain ⟨T1, X1, e1, st1⟩ := getF X0 hx hZ hown (host := "") (Or.inl (hw _ (List.mem_of_getElem? (i := 35) rfl))) Via.refl e0 F0 (g := (mkF m 2 #[.val (.ref a5), .val (.double x6), .second] [(.ref a5), (.double x6)])) rfl rfl (hb hby d6_2)
    obtain ⟨fs, hr, hrun, hended, hW, hsame⟩ := X1.leave (v := some (.int (1 : Int32))) (fun h => by rw [Bd.returns] at h; cases h)
    refine ⟨_, _, pre0 _ ?_, hrun, hended, _, _, rfl, ?_, ⟨_, rfl⟩, hW, hsame.mono (by decide) (by decide)⟩
    · show Steps p.tables e below (s₁.setTop (mkF m 0 #[.val (.ref a5), .val (.double x6), .second] [])) _
      refine XS.dloadN X0.here hx rfl (hb hby d6_0) rfl ?_
      show Steps p.tables e below (s₁.setTop (mkF m 1 #[.val (.ref a5), .val (.double x6), .second] [(.double x6)])) _
      refine XS.aloadN X0.here hx rfl (hb hby d6_1) rfl rfl ?_
      show Steps p.tables e below (s₁.setTop (mkF m 2 #[.val (.ref a5), .val (.double x6), .second] [(.ref a5), (.double x6)])) _
      refine st1 _ ?_
      show Steps p.tables e below (T1.setTop (mkF m 5 #[.val (.ref a5), .val (.double x6), .second] [(.double inn), (.double x6)])) _
      refine XS.dcmpS X1.here hx rfl (hb hby d6_5) rfl rfl ?_
      show Steps p.tables e below (T1.setTop (mkF m 6 #[.val (.ref a5), .val (.double x6), .second] [(.int (cmpValue (FP.dcmp x6 inn) .g))])) _
      refine XS.ifNo X1.here hx rfl (hb hby d6_6) rfl hR ?_
      show Steps p.tables e below (T1.setTop (mkF m 9 #[.val (.ref a5), .val (.double x6), .second] [])) _
      refine XS.iconst X1.here hx rfl (hb hby d6_9) ?_
      show Steps p.tables e below (T1.setTop (mkF m 10 #[.val (.ref a5), .val (.double x6), .second] [(.int (1 : Int32))])) _
      refine XS.goto X1.here hx rfl (pc0 := 10) (pc' := 14) rfl (hb hby d6_10) (by decide) (by decide) ?_
      show Steps p.tables e below (T1.setTop (mkF m 14 #[.val (.ref a5), .val (.double x6), .second] [(.int (1 : Int32))])) _
      exact retN X1 hx (t := .boolean) Bd.returns (by simp) (hb hby d6_14) hr
    · show QS _ h0 n0 _ T1.heap _
      rw [e1]
      exact ⟨rfl, N0, rfl⟩
  · obtain ⟨T1, X1, e1, st1⟩ := getF X0 hx hZ hown (host := "") (Or.inl (hw _ (List.mem_of_getElem? (i := 35) rfl))) Via.refl e0 F0 (g := (mkF m 2 #[.val (.ref a5), .val (.double x6), .second] [(.ref a5), (.double x6)])) rfl rfl (hb hby d6_2)
    obtain ⟨fs, hr, hrun, hended, hW, hsame⟩ := X1.leave (v := some (.int (0 : Int32))) (fun h => by rw [Bd.returns] at h; cases h)
    refine ⟨_, _, pre0 _ ?_, hrun, hended, _, _, rfl, ?_, ⟨_, rfl⟩, hW, hsame.mono (by decide) (by decide)⟩
    · show Steps p.tables e below (s₁.setTop (mkF m 0 #[.val (.ref a5), .val (.double x6), .second] [])) _
      refine XS.dloadN X0.here hx rfl (hb hby d6_0) rfl ?_
      show Steps p.tables e below (s₁.setTop (mkF m 1 #[.val (.ref a5), .val (.double x6), .second] [(.double x6)])) _
      refine XS.aloadN X0.here hx rfl (hb hby d6_1) rfl rfl ?_
      show Steps p.tables e below (s₁.setTop (mkF m 2 #[.val (.ref a5), .val (.double x6), .second] [(.ref a5), (.double x6)])) _
      refine st1 _ ?_
      show Steps p.tables e below (T1.setTop (mkF m 5 #[.val (.ref a5), .val (.double x6), .second] [(.double inn), (.double x6)])) _
      refine XS.dcmpS X1.here hx rfl (hb hby d6_5) rfl rfl ?_
      show Steps p.tables e below (T1.setTop (mkF m 6 #[.val (.ref a5), .val (.double x6), .second] [(.int (cmpValue (FP.dcmp x6 inn) .g))])) _
      refine XS.ifYes X1.here hx rfl (pc0 := 6) (pc' := 13) rfl (hb hby d6_6) rfl hR (by decide) (by decide) ?_
      show Steps p.tables e below (T1.setTop (mkF m 13 #[.val (.ref a5), .val (.double x6), .second] [])) _
      refine XS.iconst X1.here hx rfl (hb hby d6_13) ?_
      show Steps p.tables e below (T1.setTop (mkF m 14 #[.val (.ref a5), .val (.double x6), .second] [(.int (0 : Int32))])) _
      exact retN X1 hx (t := .boolean) Bd.returns (by simp) (hb hby d6_14) hr
    · show QS _ h0 n0 _ T1.heap _
      rw [e1]
      exact ⟨rfl, N0, rfl⟩
theorem efL (m : MethodId) (b0 : Int32) (f1 : Int64) (l2 m3 : Int32) : entryFrame m #[(.int b0), (.long f1), (.int l2), (.int m3)] maxLocals = (mkF m 0 #[.val (.int b0), .val (.long f1), .second, .val (.int l2), .val (.int m3), .unset, .unset, .unset, .unset, .unset, .unset, .unset, .unset] []) := by first | (simp [entryFrame, mkF, argsToLocals, Value.category, maxLocals]; done) | rfl
def Q1 (n0 : Nat) (v : Option Value) (h : Heap) (L : List Loc) : Prop := v = some (.int 1) ∧ Fr n0 L
section OwnSegs
variable {p : Program} {l : Launch} {e : Env} {R : Room} {s : State} {m : MethodId} {args : Array Value} {below : List Frame} {meth : Method} {c : Code} {T : State} {locs : List Loc} {cells slots : Nat} {Z : State} {h : Heap} {a0 : Array Value}
set_option maxRecDepth 65536 in
set_option maxHeartbeats 40000000 in
theorem own_segA (X : Stand p l e R s m args below meth c T locs cells slots) (hx : p.tables.exec = Jvm.exec) (hZ : Z.Warmed39 s.vm) (hw : ∀ d ∈ tables_1, d.before a0 Z = true) (hown : s.vm.findClass "com/example/murmuration/murmuration/cluster/DistanceLimitSurelyAllowsPinLaw" = some m.cls) (hby : c.code = code) (b0 : Int32) (f1 : Int64) (l2 m3 : Int32) {U : UInt64} (hU : (m3 &&& (4 : Int32) = 0 ∧ U = FP.i2d l2) ∨ (¬ m3 &&& (4 : Int32) = 0 ∧ U = FP.ddiv (FP.i2d l2) 4652218415073722368)) :
    ∀ t, Steps p.tables e below (T.setTop (mkF m 25 #[.val (.int b0), .val (.long f1), .second, .val (.int l2), .val (.int m3), .val (.int (m3 &&& (3 : Int32))), .val (.double U), .second, .unset, .unset, .unset, .unset, .unset] [])) t → Steps p.tables e below (T.setTop (mkF m 0 #[.val (.int b0), .val (.long f1), .second, .val (.int l2), .val (.int m3), .unset, .unset, .unset, .unset, .unset, .unset, .unset, .unset] [])) t := by
  intro t hk
  rcases hU with ⟨hU, rfl⟩ | ⟨hU, rfl⟩
  · show Steps p.tables e below (T.setTop (mkF m 0 #[.val (.int b0), .val (.long f1), .second, .val (.int l2), .val (.int m3), .unset, .unset, .unset, .unset, .unset, .unset, .unset, .unset] [])) _
    refine XS.iload X.here hx rfl (hb hby at_0) rfl ?_
    show Steps p.tables e below (T.setTop (mkF m 2 #[.val (.int b0), .val (.long f1), .second, .val (.int l2), .val (.int m3), .unset, .unset, .unset, .unset, .unset, .unset, .unset, .unset] [(.int m3)])) _
    refine XS.iconst X.here hx rfl (hb hby at_2) ?_
    show Steps p.tables e below (T.setTop (mkF m 3 #[.val (.int b0), .val (.long f1), .second, .val (.int l2), .val (.int m3), .unset, .unset, .unset, .unset, .unset, .unset, .unset, .unset] [(.int (3 : Int32)), (.int m3)])) _
    refine XS.iand X.here hx rfl (hb hby at_3) rfl ?_
    show Steps p.tables e below (T.setTop (mkF m 4 #[.val (.int b0), .val (.long f1), .second, .val (.int l2), .val (.int m3), .unset, .unset, .unset, .unset, .unset, .unset, .unset, .unset] [(.int (m3 &&& (3 : Int32)))])) _
    refine XS.istore X.here hx rfl (hb hby at_4) rfl (l' := #[.val (.int b0), .val (.long f1), .second, .val (.int l2), .val (.int m3), .val (.int (m3 &&& (3 : Int32))), .unset, .unset, .unset, .unset, .unset, .unset, .unset]) rfl ?_
    show Steps p.tables e below (T.setTop (mkF m 6 #[.val (.int b0), .val (.long f1), .second, .val (.int l2), .val (.int m3), .val (.int (m3 &&& (3 : Int32))), .unset, .unset, .unset, .unset, .unset, .unset, .unset] [])) _
    refine XS.iloadN X.here hx rfl (hb hby at_6) rfl ?_
    show Steps p.tables e below (T.setTop (mkF m 7 #[.val (.int b0), .val (.long f1), .second, .val (.int l2), .val (.int m3), .val (.int (m3 &&& (3 : Int32))), .unset, .unset, .unset, .unset, .unset, .unset, .unset] [(.int l2)])) _
    refine XS.i2dS X.here hx rfl (hb hby at_7) rfl rfl ?_
    show Steps p.tables e below (T.setTop (mkF m 8 #[.val (.int b0), .val (.long f1), .second, .val (.int l2), .val (.int m3), .val (.int (m3 &&& (3 : Int32))), .unset, .unset, .unset, .unset, .unset, .unset, .unset] [(.double (FP.i2d l2))])) _
    refine XS.dstore X.here hx rfl (hb hby at_8) rfl (l' := #[.val (.int b0), .val (.long f1), .second, .val (.int l2), .val (.int m3), .val (.int (m3 &&& (3 : Int32))), .val (.double (FP.i2d l2)), .second, .unset, .unset, .unset, .unset, .unset]) rfl ?_
    show Steps p.tables e below (T.setTop (mkF m 10 #[.val (.int b0), .val (.long f1), .second, .val (.int l2), .val (.int m3), .val (.int (m3 &&& (3 : Int32))), .val (.double (FP.i2d l2)), .second, .unset, .unset, .unset, .unset, .unset] [])) _
    refine XS.iload X.here hx rfl (hb hby at_10) rfl ?_
    show Steps p.tables e below (T.setTop (mkF m 12 #[.val (.int b0), .val (.long f1), .second, .val (.int l2), .val (.int m3), .val (.int (m3 &&& (3 : Int32))), .val (.double (FP.i2d l2)), .second, .unset, .unset, .unset, .unset, .unset] [(.int m3)])) _
    refine XS.iconst X.here hx rfl (hb hby at_12) ?_
    show Steps p.tables e below (T.setTop (mkF m 13 #[.val (.int b0), .val (.long f1), .second, .val (.int l2), .val (.int m3), .val (.int (m3 &&& (3 : Int32))), .val (.double (FP.i2d l2)), .second, .unset, .unset, .unset, .unset, .unset] [(.int (4 : Int32)), (.int m3)])) _
    refine XS.iand X.here hx rfl (hb hby at_13) rfl ?_
    show Steps p.tables e below (T.setTop (mkF m 14 #[.val (.int b0), .val (.long f1), .second, .val (.int l2), .val (.int m3), .val (.int (m3 &&& (3 : Int32))), .val (.double (FP.i2d l2)), .second, .unset, .unset, .unset, .unset, .unset] [(.int (m3 &&& (4 : Int32)))])) _
    refine XS.ifYes X.here hx rfl (pc0 := 14) (pc' := 25) rfl (hb hby at_14) rfl (own_ifEq.mpr hU) (by decide) (by decide) ?_
    show Steps p.tables e below (T.setTop (mkF m 25 #[.val (.int b0), .val (.long f1), .second, .val (.int l2), .val (.int m3), .val (.int (m3 &&& (3 : Int32))), .val (.double (FP.i2d l2)), .second, .unset, .unset, .unset, .unset, .unset] [])) _
    exact hk
  · show Steps p.tables e below (T.setTop (mkF m 0 #[.val (.int b0), .val (.long f1), .second, .val (.int l2), .val (.int m3), .unset, .unset, .unset, .unset, .unset, .unset, .unset, .unset] [])) _
    refine XS.iload X.here hx rfl (hb hby at_0) rfl ?_
    show Steps p.tables e below (T.setTop (mkF m 2 #[.val (.int b0), .val (.long f1), .second, .val (.int l2), .val (.int m3), .unset, .unset, .unset, .unset, .unset, .unset, .unset, .unset] [(.int m3)])) _
    refine XS.iconst X.here hx rfl (hb hby at_2) ?_
    show Steps p.tables e below (T.setTop (mkF m 3 #[.val (.int b0), .val (.long f1), .second, .val (.int l2), .val (.int m3), .unset, .unset, .unset, .unset, .unset, .unset, .unset, .unset] [(.int (3 : Int32)), (.int m3)])) _
    refine XS.iand X.here hx rfl (hb hby at_3) rfl ?_
    show Steps p.tables e below (T.setTop (mkF m 4 #[.val (.int b0), .val (.long f1), .second, .val (.int l2), .val (.int m3), .unset, .unset, .unset, .unset, .unset, .unset, .unset, .unset] [(.int (m3 &&& (3 : Int32)))])) _
    refine XS.istore X.here hx rfl (hb hby at_4) rfl (l' := #[.val (.int b0), .val (.long f1), .second, .val (.int l2), .val (.int m3), .val (.int (m3 &&& (3 : Int32))), .unset, .unset, .unset, .unset, .unset, .unset, .unset]) rfl ?_
    show Steps p.tables e below (T.setTop (mkF m 6 #[.val (.int b0), .val (.long f1), .second, .val (.int l2), .val (.int m3), .val (.int (m3 &&& (3 : Int32))), .unset, .unset, .unset, .unset, .unset, .unset, .unset] [])) _
    refine XS.iloadN X.here hx rfl (hb hby at_6) rfl ?_
    show Steps p.tables e below (T.setTop (mkF m 7 #[.val (.int b0), .val (.long f1), .second, .val (.int l2), .val (.int m3), .val (.int (m3 &&& (3 : Int32))), .unset, .unset, .unset, .unset, .unset, .unset, .unset] [(.int l2)])) _
    refine XS.i2dS X.here hx rfl (hb hby at_7) rfl rfl ?_
    show Steps p.tables e below (T.setTop (mkF m 8 #[.val (.int b0), .val (.long f1), .second, .val (.int l2), .val (.int m3), .val (.int (m3 &&& (3 : Int32))), .unset, .unset, .unset, .unset, .unset, .unset, .unset] [(.double (FP.i2d l2))])) _
    refine XS.dstore X.here hx rfl (hb hby at_8) rfl (l' := #[.val (.int b0), .val (.long f1), .second, .val (.int l2), .val (.int m3), .val (.int (m3 &&& (3 : Int32))), .val (.double (FP.i2d l2)), .second, .unset, .unset, .unset, .unset, .unset]) rfl ?_
    show Steps p.tables e below (T.setTop (mkF m 10 #[.val (.int b0), .val (.long f1), .second, .val (.int l2), .val (.int m3), .val (.int (m3 &&& (3 : Int32))), .val (.double (FP.i2d l2)), .second, .unset, .unset, .unset, .unset, .unset] [])) _
    refine XS.iload X.here hx rfl (hb hby at_10) rfl ?_
    show Steps p.tables e below (T.setTop (mkF m 12 #[.val (.int b0), .val (.long f1), .second, .val (.int l2), .val (.int m3), .val (.int (m3 &&& (3 : Int32))), .val (.double (FP.i2d l2)), .second, .unset, .unset, .unset, .unset, .unset] [(.int m3)])) _
    refine XS.iconst X.here hx rfl (hb hby at_12) ?_
    show Steps p.tables e below (T.setTop (mkF m 13 #[.val (.int b0), .val (.long f1), .second, .val (.int l2), .val (.int m3), .val (.int (m3 &&& (3 : Int32))), .val (.double (FP.i2d l2)), .second, .unset, .unset, .unset, .unset, .unset] [(.int (4 : Int32)), (.int m3)])) _
    refine XS.iand X.here hx rfl (hb hby at_13) rfl ?_
    show Steps p.tables e below (T.setTop (mkF m 14 #[.val (.int b0), .val (.long f1), .second, .val (.int l2), .val (.int m3), .val (.int (m3 &&& (3 : Int32))), .val (.double (FP.i2d l2)), .second, .unset, .unset, .unset, .unset, .unset] [(.int (m3 &&& (4 : Int32)))])) _
    refine XS.ifNo X.here hx rfl (hb hby at_14) rfl (own_ifEqN.mpr hU) ?_
    show Steps p.tables e below (T.setTop (mkF m 17 #[.val (.int b0), .val (.long f1), .second, .val (.int l2), .val (.int m3), .val (.int (m3 &&& (3 : Int32))), .val (.double (FP.i2d l2)), .second, .unset, .unset, .unset, .unset, .unset] [])) _
    refine XS.dload X.here hx rfl (hb hby at_17) rfl ?_
    show Steps p.tables e below (T.setTop (mkF m 19 #[.val (.int b0), .val (.long f1), .second, .val (.int l2), .val (.int m3), .val (.int (m3 &&& (3 : Int32))), .val (.double (FP.i2d l2)), .second, .unset, .unset, .unset, .unset, .unset] [(.double (FP.i2d l2))])) _
    refine X.ldc2DoubleC hx hown (mvT hZ (hw _ (List.mem_of_getElem? (i := 42) rfl))) (g := (mkF m 19 #[.val (.int b0), .val (.long f1), .second, .val (.int l2), .val (.int m3), .val (.int (m3 &&& (3 : Int32))), .val (.double (FP.i2d l2)), .second, .unset, .unset, .unset, .unset, .unset] [(.double (FP.i2d l2))])) rfl (hb hby at_19) _ ?_
    show Steps p.tables e below (T.setTop (mkF m 22 #[.val (.int b0), .val (.long f1), .second, .val (.int l2), .val (.int m3), .val (.int (m3 &&& (3 : Int32))), .val (.double (FP.i2d l2)), .second, .unset, .unset, .unset, .unset, .unset] [(.double 4652218415073722368), (.double (FP.i2d l2))])) _
    refine XS.ddivS X.here hx rfl (hb hby at_22) rfl (own_div_nn l2) rfl ?_
    show Steps p.tables e below (T.setTop (mkF m 23 #[.val (.int b0), .val (.long f1), .second, .val (.int l2), .val (.int m3), .val (.int (m3 &&& (3 : Int32))), .val (.double (FP.i2d l2)), .second, .unset, .unset, .unset, .unset, .unset] [(.double (FP.ddiv (FP.i2d l2) 4652218415073722368))])) _
    refine XS.dstore X.here hx rfl (hb hby at_23) rfl (l' := #[.val (.int b0), .val (.long f1), .second, .val (.int l2), .val (.int m3), .val (.int (m3 &&& (3 : Int32))), .val (.double (FP.ddiv (FP.i2d l2) 4652218415073722368)), .second, .unset, .unset, .unset, .unset, .unset]) rfl ?_
    show Steps p.tables e below (T.setTop (mkF m 25 #[.val (.int b0), .val (.long f1), .second, .val (.int l2), .val (.int m3), .val (.int (m3 &&& (3 : Int32))), .val (.double (FP.ddiv (FP.i2d l2) 4652218415073722368)), .second, .unset, .unset, .unset, .unset, .unset] [])) _
    exact hk
set_option maxRecDepth 65536 in
set_option maxHeartbeats 40000000 in
theorem own_seg1 (X : Stand p l e R s m args below meth c T locs cells slots) (hx : p.tables.exec = Jvm.exec) (hZ : Z.Warmed39 s.vm) (hw : ∀ d ∈ tables_1, d.before a0 Z = true) (hown : s.vm.findClass "com/example/murmuration/murmuration/cluster/DistanceLimitSurelyAllowsPinLaw" = some m.cls) (hby : c.code = code) (b0 : Int32) (f1 : Int64) (l2 m3 : Int32) {U : UInt64} {F : Int64} (hF : (f1 &&& (9223372036854775807 : Int64) = 0 ∧ F = 1) ∨ (¬ f1 &&& (9223372036854775807 : Int64) = 0 ∧ F = f1 &&& (9223372036854775807 : Int64))) :
    ∀ t, Steps p.tables e below (T.setTop (mkF m 119 #[.val (.int b0), .val (.long f1), .second, .val (.int l2), .val (.int m3), .val (.int (m3 &&& (3 : Int32))), .val (.double U), .second, .val (.long F), .second, .unset, .unset, .unset] [])) t → Steps p.tables e below (T.setTop (mkF m 102 #[.val (.int b0), .val (.long f1), .second, .val (.int l2), .val (.int m3), .val (.int (m3 &&& (3 : Int32))), .val (.double U), .second, .unset, .unset, .unset, .unset, .unset] [])) t := by
  intro t hk
  rcases hF with ⟨hF, rfl⟩ | ⟨hF, rfl⟩
  · show Steps p.tables e below (T.setTop (mkF m 102 #[.val (.int b0), .val (.long f1), .second, .val (.int l2), .val (.int m3), .val (.int (m3 &&& (3 : Int32))), .val (.double U), .second, .unset, .unset, .unset, .unset, .unset] [])) _
    refine XS.lloadN X.here hx rfl (hb hby at_102) rfl ?_
    show Steps p.tables e below (T.setTop (mkF m 103 #[.val (.int b0), .val (.long f1), .second, .val (.int l2), .val (.int m3), .val (.int (m3 &&& (3 : Int32))), .val (.double U), .second, .unset, .unset, .unset, .unset, .unset] [(.long f1)])) _
    refine X.ldc2Long hx hown (mvT hZ (hw _ (List.mem_of_getElem? (i := 46) rfl))) (g := (mkF m 103 #[.val (.int b0), .val (.long f1), .second, .val (.int l2), .val (.int m3), .val (.int (m3 &&& (3 : Int32))), .val (.double U), .second, .unset, .unset, .unset, .unset, .unset] [(.long f1)])) rfl (hb hby at_103) _ ?_
    show Steps p.tables e below (T.setTop (mkF m 106 #[.val (.int b0), .val (.long f1), .second, .val (.int l2), .val (.int m3), .val (.int (m3 &&& (3 : Int32))), .val (.double U), .second, .unset, .unset, .unset, .unset, .unset] [(.long (9223372036854775807 : Int64)), (.long f1)])) _
    refine XS.land X.here hx rfl (hb hby at_106) rfl ?_
    show Steps p.tables e below (T.setTop (mkF m 107 #[.val (.int b0), .val (.long f1), .second, .val (.int l2), .val (.int m3), .val (.int (m3 &&& (3 : Int32))), .val (.double U), .second, .unset, .unset, .unset, .unset, .unset] [(.long (f1 &&& (9223372036854775807 : Int64)))])) _
    refine XS.lstore X.here hx rfl (hb hby at_107) rfl (l' := #[.val (.int b0), .val (.long f1), .second, .val (.int l2), .val (.int m3), .val (.int (m3 &&& (3 : Int32))), .val (.double U), .second, .val (.long (f1 &&& (9223372036854775807 : Int64))), .second, .unset, .unset, .unset]) rfl ?_
    show Steps p.tables e below (T.setTop (mkF m 109 #[.val (.int b0), .val (.long f1), .second, .val (.int l2), .val (.int m3), .val (.int (m3 &&& (3 : Int32))), .val (.double U), .second, .val (.long (f1 &&& (9223372036854775807 : Int64))), .second, .unset, .unset, .unset] [])) _
    refine XS.lload X.here hx rfl (hb hby at_109) rfl ?_
    show Steps p.tables e below (T.setTop (mkF m 111 #[.val (.int b0), .val (.long f1), .second, .val (.int l2), .val (.int m3), .val (.int (m3 &&& (3 : Int32))), .val (.double U), .second, .val (.long (f1 &&& (9223372036854775807 : Int64))), .second, .unset, .unset, .unset] [(.long (f1 &&& (9223372036854775807 : Int64)))])) _
    refine XS.lconst X.here hx rfl (hb hby at_111) ?_
    show Steps p.tables e below (T.setTop (mkF m 112 #[.val (.int b0), .val (.long f1), .second, .val (.int l2), .val (.int m3), .val (.int (m3 &&& (3 : Int32))), .val (.double U), .second, .val (.long (f1 &&& (9223372036854775807 : Int64))), .second, .unset, .unset, .unset] [(.long (0 : Int64)), (.long (f1 &&& (9223372036854775807 : Int64)))])) _
    refine XS.lcmp X.here hx rfl (hb hby at_112) rfl ?_
    show Steps p.tables e below (T.setTop (mkF m 113 #[.val (.int b0), .val (.long f1), .second, .val (.int l2), .val (.int m3), .val (.int (m3 &&& (3 : Int32))), .val (.double U), .second, .val (.long (f1 &&& (9223372036854775807 : Int64))), .second, .unset, .unset, .unset] [(.int (lcmpW (f1 &&& (9223372036854775807 : Int64)) (0 : Int64)))])) _
    refine XS.ifNo X.here hx rfl (hb hby at_113) rfl (own_lcNeN.mpr hF) ?_
    show Steps p.tables e below (T.setTop (mkF m 116 #[.val (.int b0), .val (.long f1), .second, .val (.int l2), .val (.int m3), .val (.int (m3 &&& (3 : Int32))), .val (.double U), .second, .val (.long (f1 &&& (9223372036854775807 : Int64))), .second, .unset, .unset, .unset] [])) _
    refine XS.lconst X.here hx rfl (hb hby at_116) ?_
    show Steps p.tables e below (T.setTop (mkF m 117 #[.val (.int b0), .val (.long f1), .second, .val (.int l2), .val (.int m3), .val (.int (m3 &&& (3 : Int32))), .val (.double U), .second, .val (.long (f1 &&& (9223372036854775807 : Int64))), .second, .unset, .unset, .unset] [(.long (1 : Int64))])) _
    refine XS.lstore X.here hx rfl (hb hby at_117) rfl (l' := #[.val (.int b0), .val (.long f1), .second, .val (.int l2), .val (.int m3), .val (.int (m3 &&& (3 : Int32))), .val (.double U), .second, .val (.long (1 : Int64)), .second, .unset, .unset, .unset]) rfl ?_
    show Steps p.tables e below (T.setTop (mkF m 119 #[.val (.int b0), .val (.long f1), .second, .val (.int l2), .val (.int m3), .val (.int (m3 &&& (3 : Int32))), .val (.double U), .second, .val (.long (1 : Int64)), .second, .unset, .unset, .unset] [])) _
    exact hk
  · show Steps p.tables e below (T.setTop (mkF m 102 #[.val (.int b0), .val (.long f1), .second, .val (.int l2), .val (.int m3), .val (.int (m3 &&& (3 : Int32))), .val (.double U), .second, .unset, .unset, .unset, .unset, .unset] [])) _
    refine XS.lloadN X.here hx rfl (hb hby at_102) rfl ?_
    show Steps p.tables e below (T.setTop (mkF m 103 #[.val (.int b0), .val (.long f1), .second, .val (.int l2), .val (.int m3), .val (.int (m3 &&& (3 : Int32))), .val (.double U), .second, .unset, .unset, .unset, .unset, .unset] [(.long f1)])) _
    refine X.ldc2Long hx hown (mvT hZ (hw _ (List.mem_of_getElem? (i := 46) rfl))) (g := (mkF m 103 #[.val (.int b0), .val (.long f1), .second, .val (.int l2), .val (.int m3), .val (.int (m3 &&& (3 : Int32))), .val (.double U), .second, .unset, .unset, .unset, .unset, .unset] [(.long f1)])) rfl (hb hby at_103) _ ?_
    show Steps p.tables e below (T.setTop (mkF m 106 #[.val (.int b0), .val (.long f1), .second, .val (.int l2), .val (.int m3), .val (.int (m3 &&& (3 : Int32))), .val (.double U), .second, .unset, .unset, .unset, .unset, .unset] [(.long (9223372036854775807 : Int64)), (.long f1)])) _
    refine XS.land X.here hx rfl (hb hby at_106) rfl ?_
    show Steps p.tables e below (T.setTop (mkF m 107 #[.val (.int b0), .val (.long f1), .second, .val (.int l2), .val (.int m3), .val (.int (m3 &&& (3 : Int32))), .val (.double U), .second, .unset, .unset, .unset, .unset, .unset] [(.long (f1 &&& (9223372036854775807 : Int64)))])) _
    refine XS.lstore X.here hx rfl (hb hby at_107) rfl (l' := #[.val (.int b0), .val (.long f1), .second, .val (.int l2), .val (.int m3), .val (.int (m3 &&& (3 : Int32))), .val (.double U), .second, .val (.long (f1 &&& (9223372036854775807 : Int64))), .second, .unset, .unset, .unset]) rfl ?_
    show Steps p.tables e below (T.setTop (mkF m 109 #[.val (.int b0), .val (.long f1), .second, .val (.int l2), .val (.int m3), .val (.int (m3 &&& (3 : Int32))), .val (.double U), .second, .val (.long (f1 &&& (9223372036854775807 : Int64))), .second, .unset, .unset, .unset] [])) _
    refine XS.lload X.here hx rfl (hb hby at_109) rfl ?_
    show Steps p.tables e below (T.setTop (mkF m 111 #[.val (.int b0), .val (.long f1), .second, .val (.int l2), .val (.int m3), .val (.int (m3 &&& (3 : Int32))), .val (.double U), .second, .val (.long (f1 &&& (9223372036854775807 : Int64))), .second, .unset, .unset, .unset] [(.long (f1 &&& (9223372036854775807 : Int64)))])) _
    refine XS.lconst X.here hx rfl (hb hby at_111) ?_
    show Steps p.tables e below (T.setTop (mkF m 112 #[.val (.int b0), .val (.long f1), .second, .val (.int l2), .val (.int m3), .val (.int (m3 &&& (3 : Int32))), .val (.double U), .second, .val (.long (f1 &&& (9223372036854775807 : Int64))), .second, .unset, .unset, .unset] [(.long (0 : Int64)), (.long (f1 &&& (9223372036854775807 : Int64)))])) _
    refine XS.lcmp X.here hx rfl (hb hby at_112) rfl ?_
    show Steps p.tables e below (T.setTop (mkF m 113 #[.val (.int b0), .val (.long f1), .second, .val (.int l2), .val (.int m3), .val (.int (m3 &&& (3 : Int32))), .val (.double U), .second, .val (.long (f1 &&& (9223372036854775807 : Int64))), .second, .unset, .unset, .unset] [(.int (lcmpW (f1 &&& (9223372036854775807 : Int64)) (0 : Int64)))])) _
    refine XS.ifYes X.here hx rfl (pc0 := 113) (pc' := 119) rfl (hb hby at_113) rfl (own_lcNe.mpr hF) (by decide) (by decide) ?_
    show Steps p.tables e below (T.setTop (mkF m 119 #[.val (.int b0), .val (.long f1), .second, .val (.int l2), .val (.int m3), .val (.int (m3 &&& (3 : Int32))), .val (.double U), .second, .val (.long (f1 &&& (9223372036854775807 : Int64))), .second, .unset, .unset, .unset] [])) _
    exact hk
set_option maxRecDepth 65536 in
set_option maxHeartbeats 40000000 in
theorem own_seg2 (X : Stand p l e R s m args below meth c T locs cells slots) (hx : p.tables.exec = Jvm.exec) (hZ : Z.Warmed39 s.vm) (hw : ∀ d ∈ tables_1, d.before a0 Z = true) (hown : s.vm.findClass "com/example/murmuration/murmuration/cluster/DistanceLimitSurelyAllowsPinLaw" = some m.cls) (hby : c.code = code) (b0 : Int32) (f1 : Int64) (l2 m3 : Int32) {U S : UInt64} (hS : (m3 &&& (3 : Int32) = 2 ∧ S = 2355382605114769408) ∨ (¬ m3 &&& (3 : Int32) = 2 ∧ S = 7309342195222315008)) :
    ∀ t, Steps p.tables e below (T.setTop (mkF m 187 #[.val (.int b0), .val (.long f1), .second, .val (.int l2), .val (.int m3), .val (.int (m3 &&& (3 : Int32))), .val (.double U), .second, .val (.long ((1 : Int64) + (f1 &&& (1048575 : Int64)))), .second, .val (.double S), .second, .unset] [])) t → Steps p.tables e below (T.setTop (mkF m 161 #[.val (.int b0), .val (.long f1), .second, .val (.int l2), .val (.int m3), .val (.int (m3 &&& (3 : Int32))), .val (.double U), .second, .unset, .unset, .unset, .unset, .unset] [])) t := by
  intro t hk
  rcases hS with ⟨hS, rfl⟩ | ⟨hS, rfl⟩
  · show Steps p.tables e below (T.setTop (mkF m 161 #[.val (.int b0), .val (.long f1), .second, .val (.int l2), .val (.int m3), .val (.int (m3 &&& (3 : Int32))), .val (.double U), .second, .unset, .unset, .unset, .unset, .unset] [])) _
    refine XS.lconst X.here hx rfl (hb hby at_161) ?_
    show Steps p.tables e below (T.setTop (mkF m 162 #[.val (.int b0), .val (.long f1), .second, .val (.int l2), .val (.int m3), .val (.int (m3 &&& (3 : Int32))), .val (.double U), .second, .unset, .unset, .unset, .unset, .unset] [(.long (1 : Int64))])) _
    refine XS.lloadN X.here hx rfl (hb hby at_162) rfl ?_
    show Steps p.tables e below (T.setTop (mkF m 163 #[.val (.int b0), .val (.long f1), .second, .val (.int l2), .val (.int m3), .val (.int (m3 &&& (3 : Int32))), .val (.double U), .second, .unset, .unset, .unset, .unset, .unset] [(.long f1), (.long (1 : Int64))])) _
    refine X.ldc2Long hx hown (mvT hZ (hw _ (List.mem_of_getElem? (i := 0) rfl))) (g := (mkF m 163 #[.val (.int b0), .val (.long f1), .second, .val (.int l2), .val (.int m3), .val (.int (m3 &&& (3 : Int32))), .val (.double U), .second, .unset, .unset, .unset, .unset, .unset] [(.long f1), (.long (1 : Int64))])) rfl (hb hby at_163) _ ?_
    show Steps p.tables e below (T.setTop (mkF m 166 #[.val (.int b0), .val (.long f1), .second, .val (.int l2), .val (.int m3), .val (.int (m3 &&& (3 : Int32))), .val (.double U), .second, .unset, .unset, .unset, .unset, .unset] [(.long (1048575 : Int64)), (.long f1), (.long (1 : Int64))])) _
    refine XS.land X.here hx rfl (hb hby at_166) rfl ?_
    show Steps p.tables e below (T.setTop (mkF m 167 #[.val (.int b0), .val (.long f1), .second, .val (.int l2), .val (.int m3), .val (.int (m3 &&& (3 : Int32))), .val (.double U), .second, .unset, .unset, .unset, .unset, .unset] [(.long (f1 &&& (1048575 : Int64))), (.long (1 : Int64))])) _
    refine XS.ladd X.here hx rfl (hb hby at_167) rfl ?_
    show Steps p.tables e below (T.setTop (mkF m 168 #[.val (.int b0), .val (.long f1), .second, .val (.int l2), .val (.int m3), .val (.int (m3 &&& (3 : Int32))), .val (.double U), .second, .unset, .unset, .unset, .unset, .unset] [(.long ((1 : Int64) + (f1 &&& (1048575 : Int64))))])) _
    refine XS.lstore X.here hx rfl (hb hby at_168) rfl (l' := #[.val (.int b0), .val (.long f1), .second, .val (.int l2), .val (.int m3), .val (.int (m3 &&& (3 : Int32))), .val (.double U), .second, .val (.long ((1 : Int64) + (f1 &&& (1048575 : Int64)))), .second, .unset, .unset, .unset]) rfl ?_
    show Steps p.tables e below (T.setTop (mkF m 170 #[.val (.int b0), .val (.long f1), .second, .val (.int l2), .val (.int m3), .val (.int (m3 &&& (3 : Int32))), .val (.double U), .second, .val (.long ((1 : Int64) + (f1 &&& (1048575 : Int64)))), .second, .unset, .unset, .unset] [])) _
    refine XS.iload X.here hx rfl (hb hby at_170) rfl ?_
    show Steps p.tables e below (T.setTop (mkF m 172 #[.val (.int b0), .val (.long f1), .second, .val (.int l2), .val (.int m3), .val (.int (m3 &&& (3 : Int32))), .val (.double U), .second, .val (.long ((1 : Int64) + (f1 &&& (1048575 : Int64)))), .second, .unset, .unset, .unset] [(.int (m3 &&& (3 : Int32)))])) _
    refine XS.iconst X.here hx rfl (hb hby at_172) ?_
    show Steps p.tables e below (T.setTop (mkF m 173 #[.val (.int b0), .val (.long f1), .second, .val (.int l2), .val (.int m3), .val (.int (m3 &&& (3 : Int32))), .val (.double U), .second, .val (.long ((1 : Int64) + (f1 &&& (1048575 : Int64)))), .second, .unset, .unset, .unset] [(.int (2 : Int32)), (.int (m3 &&& (3 : Int32)))])) _
    refine XS.icmpNo X.here hx rfl (hb hby at_173) rfl (teq hS).2 ?_
    show Steps p.tables e below (T.setTop (mkF m 176 #[.val (.int b0), .val (.long f1), .second, .val (.int l2), .val (.int m3), .val (.int (m3 &&& (3 : Int32))), .val (.double U), .second, .val (.long ((1 : Int64) + (f1 &&& (1048575 : Int64)))), .second, .unset, .unset, .unset] [])) _
    refine X.ldc2DoubleC hx hown (mvT hZ (hw _ (List.mem_of_getElem? (i := 45) rfl))) (g := (mkF m 176 #[.val (.int b0), .val (.long f1), .second, .val (.int l2), .val (.int m3), .val (.int (m3 &&& (3 : Int32))), .val (.double U), .second, .val (.long ((1 : Int64) + (f1 &&& (1048575 : Int64)))), .second, .unset, .unset, .unset] [])) rfl (hb hby at_176) _ ?_
    show Steps p.tables e below (T.setTop (mkF m 179 #[.val (.int b0), .val (.long f1), .second, .val (.int l2), .val (.int m3), .val (.int (m3 &&& (3 : Int32))), .val (.double U), .second, .val (.long ((1 : Int64) + (f1 &&& (1048575 : Int64)))), .second, .unset, .unset, .unset] [(.double 2355382605114769408)])) _
    refine XS.goto X.here hx rfl (pc0 := 179) (pc' := 185) rfl (hb hby at_179) (by decide) (by decide) ?_
    show Steps p.tables e below (T.setTop (mkF m 185 #[.val (.int b0), .val (.long f1), .second, .val (.int l2), .val (.int m3), .val (.int (m3 &&& (3 : Int32))), .val (.double U), .second, .val (.long ((1 : Int64) + (f1 &&& (1048575 : Int64)))), .second, .unset, .unset, .unset] [(.double 2355382605114769408)])) _
    refine XS.dstore X.here hx rfl (hb hby at_185) rfl (l' := #[.val (.int b0), .val (.long f1), .second, .val (.int l2), .val (.int m3), .val (.int (m3 &&& (3 : Int32))), .val (.double U), .second, .val (.long ((1 : Int64) + (f1 &&& (1048575 : Int64)))), .second, .val (.double 2355382605114769408), .second, .unset]) rfl ?_
    show Steps p.tables e below (T.setTop (mkF m 187 #[.val (.int b0), .val (.long f1), .second, .val (.int l2), .val (.int m3), .val (.int (m3 &&& (3 : Int32))), .val (.double U), .second, .val (.long ((1 : Int64) + (f1 &&& (1048575 : Int64)))), .second, .val (.double 2355382605114769408), .second, .unset] [])) _
    exact hk
  · show Steps p.tables e below (T.setTop (mkF m 161 #[.val (.int b0), .val (.long f1), .second, .val (.int l2), .val (.int m3), .val (.int (m3 &&& (3 : Int32))), .val (.double U), .second, .unset, .unset, .unset, .unset, .unset] [])) _
    refine XS.lconst X.here hx rfl (hb hby at_161) ?_
    show Steps p.tables e below (T.setTop (mkF m 162 #[.val (.int b0), .val (.long f1), .second, .val (.int l2), .val (.int m3), .val (.int (m3 &&& (3 : Int32))), .val (.double U), .second, .unset, .unset, .unset, .unset, .unset] [(.long (1 : Int64))])) _
    refine XS.lloadN X.here hx rfl (hb hby at_162) rfl ?_
    show Steps p.tables e below (T.setTop (mkF m 163 #[.val (.int b0), .val (.long f1), .second, .val (.int l2), .val (.int m3), .val (.int (m3 &&& (3 : Int32))), .val (.double U), .second, .unset, .unset, .unset, .unset, .unset] [(.long f1), (.long (1 : Int64))])) _
    refine X.ldc2Long hx hown (mvT hZ (hw _ (List.mem_of_getElem? (i := 0) rfl))) (g := (mkF m 163 #[.val (.int b0), .val (.long f1), .second, .val (.int l2), .val (.int m3), .val (.int (m3 &&& (3 : Int32))), .val (.double U), .second, .unset, .unset, .unset, .unset, .unset] [(.long f1), (.long (1 : Int64))])) rfl (hb hby at_163) _ ?_
    show Steps p.tables e below (T.setTop (mkF m 166 #[.val (.int b0), .val (.long f1), .second, .val (.int l2), .val (.int m3), .val (.int (m3 &&& (3 : Int32))), .val (.double U), .second, .unset, .unset, .unset, .unset, .unset] [(.long (1048575 : Int64)), (.long f1), (.long (1 : Int64))])) _
    refine XS.land X.here hx rfl (hb hby at_166) rfl ?_
    show Steps p.tables e below (T.setTop (mkF m 167 #[.val (.int b0), .val (.long f1), .second, .val (.int l2), .val (.int m3), .val (.int (m3 &&& (3 : Int32))), .val (.double U), .second, .unset, .unset, .unset, .unset, .unset] [(.long (f1 &&& (1048575 : Int64))), (.long (1 : Int64))])) _
    refine XS.ladd X.here hx rfl (hb hby at_167) rfl ?_
    show Steps p.tables e below (T.setTop (mkF m 168 #[.val (.int b0), .val (.long f1), .second, .val (.int l2), .val (.int m3), .val (.int (m3 &&& (3 : Int32))), .val (.double U), .second, .unset, .unset, .unset, .unset, .unset] [(.long ((1 : Int64) + (f1 &&& (1048575 : Int64))))])) _
    refine XS.lstore X.here hx rfl (hb hby at_168) rfl (l' := #[.val (.int b0), .val (.long f1), .second, .val (.int l2), .val (.int m3), .val (.int (m3 &&& (3 : Int32))), .val (.double U), .second, .val (.long ((1 : Int64) + (f1 &&& (1048575 : Int64)))), .second, .unset, .unset, .unset]) rfl ?_
    show Steps p.tables e below (T.setTop (mkF m 170 #[.val (.int b0), .val (.long f1), .second, .val (.int l2), .val (.int m3), .val (.int (m3 &&& (3 : Int32))), .val (.double U), .second, .val (.long ((1 : Int64) + (f1 &&& (1048575 : Int64)))), .second, .unset, .unset, .unset] [])) _
    refine XS.iload X.here hx rfl (hb hby at_170) rfl ?_
    show Steps p.tables e below (T.setTop (mkF m 172 #[.val (.int b0), .val (.long f1), .second, .val (.int l2), .val (.int m3), .val (.int (m3 &&& (3 : Int32))), .val (.double U), .second, .val (.long ((1 : Int64) + (f1 &&& (1048575 : Int64)))), .second, .unset, .unset, .unset] [(.int (m3 &&& (3 : Int32)))])) _
    refine XS.iconst X.here hx rfl (hb hby at_172) ?_
    show Steps p.tables e below (T.setTop (mkF m 173 #[.val (.int b0), .val (.long f1), .second, .val (.int l2), .val (.int m3), .val (.int (m3 &&& (3 : Int32))), .val (.double U), .second, .val (.long ((1 : Int64) + (f1 &&& (1048575 : Int64)))), .second, .unset, .unset, .unset] [(.int (2 : Int32)), (.int (m3 &&& (3 : Int32)))])) _
    refine XS.icmpYes X.here hx rfl (pc0 := 173) (pc' := 182) rfl (hb hby at_173) rfl (feq hS).2 (by decide) (by decide) ?_
    show Steps p.tables e below (T.setTop (mkF m 182 #[.val (.int b0), .val (.long f1), .second, .val (.int l2), .val (.int m3), .val (.int (m3 &&& (3 : Int32))), .val (.double U), .second, .val (.long ((1 : Int64) + (f1 &&& (1048575 : Int64)))), .second, .unset, .unset, .unset] [])) _
    refine X.ldc2DoubleC hx hown (mvT hZ (hw _ (List.mem_of_getElem? (i := 43) rfl))) (g := (mkF m 182 #[.val (.int b0), .val (.long f1), .second, .val (.int l2), .val (.int m3), .val (.int (m3 &&& (3 : Int32))), .val (.double U), .second, .val (.long ((1 : Int64) + (f1 &&& (1048575 : Int64)))), .second, .unset, .unset, .unset] [])) rfl (hb hby at_182) _ ?_
    show Steps p.tables e below (T.setTop (mkF m 185 #[.val (.int b0), .val (.long f1), .second, .val (.int l2), .val (.int m3), .val (.int (m3 &&& (3 : Int32))), .val (.double U), .second, .val (.long ((1 : Int64) + (f1 &&& (1048575 : Int64)))), .second, .unset, .unset, .unset] [(.double 7309342195222315008)])) _
    refine XS.dstore X.here hx rfl (hb hby at_185) rfl (l' := #[.val (.int b0), .val (.long f1), .second, .val (.int l2), .val (.int m3), .val (.int (m3 &&& (3 : Int32))), .val (.double U), .second, .val (.long ((1 : Int64) + (f1 &&& (1048575 : Int64)))), .second, .val (.double 7309342195222315008), .second, .unset]) rfl ?_
    show Steps p.tables e below (T.setTop (mkF m 187 #[.val (.int b0), .val (.long f1), .second, .val (.int l2), .val (.int m3), .val (.int (m3 &&& (3 : Int32))), .val (.double U), .second, .val (.long ((1 : Int64) + (f1 &&& (1048575 : Int64)))), .second, .val (.double 7309342195222315008), .second, .unset] [])) _
    exact hk
end OwnSegs
set_option maxRecDepth 65536 in
set_option maxHeartbeats 40000000 in
theorem rmK0 (l : Launch) (Z : State) (a0 : Array Value) (hw : ∀ d ∈ tables_1, d.before a0 Z = true) (ws : List Jvm.Cond) (b0 : Int32) (f1 : Int64) (l2 m3 : Int32) (U inn : UInt64) (h0 : Heap) (n0 : Nat) (Z0 : n0 ≤ h0.size) (hU : (m3 &&& (4 : Int32) = 0 ∧ U = FP.i2d l2) ∨ (¬ m3 &&& (4 : Int32) = 0 ∧ U = FP.ddiv (FP.i2d l2) 4652218415073722368)) (hk : m3 &&& (3 : Int32) = 0) (c1 : ifCond.holds .le (cmpValue (FP.dcmp (FP.l2d ((1 : Int32) + (b0 &&& (1023 : Int32))).toInt64) 0) .l) = false) (c2 : Jvm.Free.Fl.Fin64 (FP.l2d ((1 : Int32) + (b0 &&& (1023 : Int32))).toInt64)) (c3 : ifCond.holds .ge (lcmpW ((1 : Int64) + (f1 &&& (1048575 : Int64))) 1) = true) (q1 : FP.dmul (FP.l2d ((1 : Int32) + (b0 &&& (1023 : Int32))).toInt64) (FP.l2d ((1 : Int64) + (f1 &&& (1048575 : Int64)))) = (FP.l2d (((1 : Int32) + (b0 &&& (1023 : Int32))).toInt64 * ((1 : Int64) + (f1 &&& (1048575 : Int64)))))) (fl : Jvm.Free.Fl.Fin64 (FP.l2d (((1 : Int32) + (b0 &&& (1023 : Int32))).toInt64 * ((1 : Int64) + (f1 &&& (1048575 : Int64)))))) (r1 : Jvm.Free.Fl.Fin64 (FP.dmul (FP.l2d (((1 : Int32) + (b0 &&& (1023 : Int32))).toInt64 * ((1 : Int64) + (f1 &&& (1048575 : Int64))))) (FP.l2d (((1 : Int32) + (b0 &&& (1023 : Int32))).toInt64 * ((1 : Int64) + (f1 &&& (1048575 : Int64))))))) (r2 : ifCond.holds .lt (cmpValue (FP.dcmp (FP.dmul (FP.l2d (((1 : Int32) + (b0 &&& (1023 : Int32))).toInt64 * ((1 : Int64) + (f1 &&& (1048575 : Int64))))) (FP.l2d (((1 : Int32) + (b0 &&& (1023 : Int32))).toInt64 * ((1 : Int64) + (f1 &&& (1048575 : Int64)))))) 553942754166571008) .l) = false) (r3 : FP.dmul (FP.l2d (((1 : Int32) + (b0 &&& (1023 : Int32))).toInt64 * ((1 : Int64) + (f1 &&& (1048575 : Int64))))) 4607182418800017318 = inn) (hR : (ifCond.holds .gt (cmpValue (FP.dcmp U inn) .g) = false ∧ ifCond.holds .ge (cmpValue (FP.dcmp U (FP.l2d (((1 : Int32) + (b0 &&& (1023 : Int32))).toInt64 * ((1 : Int64) + (f1 &&& (1048575 : Int64)))))) .g) = false) ∨ (ifCond.holds .gt (cmpValue (FP.dcmp U inn) .g) = true ∧ ifCond.holds .ge (cmpValue (FP.dcmp U (FP.l2d (((1 : Int32) + (b0 &&& (1023 : Int32))).toInt64 * ((1 : Int64) + (f1 &&& (1048575 : Int64)))))) .g) = true)) :
    MetFree l x (head1 (Jvm.Cond.code x code maxLocals ret :: ws) room_1) (fun a U => a = #[(.int b0), (.long f1), (.int l2), (.int m3)] ∧ Z.Warmed39 U.vm ∧ U.heap = h0) (fun _ _ _ _ _ => True) (fun _ U o U' => ∃ v L, o = .returned v ∧ Q1 n0 v U'.heap L ∧ FrameEnd U o U' L 1 7) := by
  refine MetFree.of_bodySF (plainFor_of_name pnL) hisR ?_
  intro p e s m args below meth c s₁ Bd hml0 hP hK
  obtain ⟨rfl, hZ, hh⟩ := hP
  have hx := Bd.exec
  have hby := Bd.bytes
  have hml : c.maxLocals = 13 := hml0
  have hown : s.vm.findClass "com/example/murmuration/murmuration/cluster/DistanceLimitSurelyAllowsPinLaw" = some m.cls := findClass_of_methodNamed Bd.named
  have hnm := (name_of_methodNamed Bd.named Bd.method).1
  have X0 : Stand p l e room_1 s m #[(.int b0), (.long f1), (.int l2), (.int m3)] below meth c s₁ [] 0 0 := Stand.of_body Bd
  have e0 : s₁.heap = h0 := by rw [← hh, Bd.state]; rfl
  have N0 := Fr.nil n0
  have pre0 : ∀ t, Steps p.tables e below (s₁.setTop (mkF m 0 #[.val (.int b0), .val (.long f1), .second, .val (.int l2), .val (.int m3), .unset, .unset, .unset, .unset, .unset, .unset, .unset, .unset] [])) t → Steps p.tables e below (s₁.setTop (entryFrame m #[(.int b0), (.long f1), (.int l2), (.int m3)] maxLocals)) t := fun t k => castTop (efL m b0 f1 l2 m3) k
  obtain ⟨T1, h1, X1, e1, E1, A1, D1, -, st1⟩ := newO X0 hx hZ hown (hw _ (List.mem_of_getElem? (i := 1) rfl)) (hw _ (List.mem_of_getElem? (i := 2) rfl)) (hw _ (List.mem_of_getElem? (i := 3) rfl)) e0 (g := (mkF m 49 #[.val (.int b0), .val (.long f1), .second, .val (.int l2), .val (.int m3), .val (.int (m3 &&& (3 : Int32))), .val (.double U), .second, .val (.long ((1 : Int32) + (b0 &&& (1023 : Int32))).toInt64), .second, .val (.long ((1 : Int64) + (f1 &&& (1048575 : Int64)))), .second, .unset] [])) rfl (hb hby at_49) (by decide) (by decide)
  obtain ⟨a3, g1⟩ : ∃ z, z = h0.size := ⟨_, rfl⟩
  rw [← g1] at A1 D1 st1
  have Fbase : Fld Z h1 a3 "com/example/murmuration/murmuration/cluster/DistanceLimit" "base" "D" (.double 0) := (D1 (Or.inr (hw _ (List.mem_of_getElem? (i := 20) rfl))) (ty := .double) (by decide))
  have Ffactor : Fld Z h1 a3 "com/example/murmuration/murmuration/cluster/DistanceLimit" "factor" "J" (.long 0) := (D1 (Or.inr (hw _ (List.mem_of_getElem? (i := 22) rfl))) (ty := .long) (by decide))
  have Fsquared : Fld Z h1 a3 "com/example/murmuration/murmuration/cluster/DistanceLimit" "squared" "D" (.double 0) := (D1 (Or.inr (hw _ (List.mem_of_getElem? (i := 24) rfl))) (ty := .double) (by decide))
  have Ffast : Fld Z h1 a3 "com/example/murmuration/murmuration/cluster/DistanceLimit" "fast" "Z" (.int 0) := (D1 (Or.inr (hw _ (List.mem_of_getElem? (i := 30) rfl))) (ty := .boolean) (by decide))
  have Freach : Fld Z h1 a3 "com/example/murmuration/murmuration/cluster/DistanceLimit" "reach" "D" (.double 0) := (D1 (Or.inr (hw _ (List.mem_of_getElem? (i := 33) rfl))) (ty := .double) (by decide))
  have Finner : Fld Z h1 a3 "com/example/murmuration/murmuration/cluster/DistanceLimit" "inner" "D" (.double 0) := (D1 (Or.inr (hw _ (List.mem_of_getElem? (i := 36) rfl))) (ty := .double) (by decide))
  have Z1 : n0 ≤ h1.size := (Nat.le_trans Z0 E1.1)
  obtain ⟨_, _, ⟨T2, L2, k2, n2⟩, -, X2, ⟨Lc2, hQ2, l2', y2, z2⟩, st2⟩ := X1.specialBack hx (y := (⟨"com/example/murmuration/murmuration/cluster/DistanceLimit", "<init>", "(DJ)V"⟩ : MethodName)) rfl hown (mvT hZ (hw _ (List.mem_of_getElem? (i := 4) rfl))) (mvT hZ (hw _ (List.mem_of_getElem? (i := 5) rfl))) (mvT hZ (hw _ (List.mem_of_getElem? (i := 6) rfl))) (by decide) (backOf (W := 1) (rmIG l Z a0 hw [] a3 (FP.l2d ((1 : Int32) + (b0 &&& (1023 : Int32))).toInt64) ((1 : Int64) + (f1 &&& (1048575 : Int64))) (FP.l2d (((1 : Int32) + (b0 &&& (1023 : Int32))).toInt64 * ((1 : Int64) + (f1 &&& (1048575 : Int64))))) (FP.dmul (FP.l2d (((1 : Int32) + (b0 &&& (1023 : Int32))).toInt64 * ((1 : Int64) + (f1 &&& (1048575 : Int64))))) (FP.l2d (((1 : Int32) + (b0 &&& (1023 : Int32))).toInt64 * ((1 : Int64) + (f1 &&& (1048575 : Int64)))))) inn h1 n0 Z1 Fbase Ffactor Fsquared Ffast Freach Finner A1 (Nat.le_trans Z0 (Nat.le_of_eq g1.symm)) c1 c2 c3 q1 fl rfl r1 r2 r3) hZ (hw _ (List.mem_of_getElem? (i := 6) rfl)) (hw _ (List.mem_of_getElem? (i := 3) rfl)) (by decide) (by decide)) (g := (mkF m 58 #[.val (.int b0), .val (.long f1), .second, .val (.int l2), .val (.int m3), .val (.int (m3 &&& (3 : Int32))), .val (.double U), .second, .val (.long ((1 : Int32) + (b0 &&& (1023 : Int32))).toInt64), .second, .val (.long ((1 : Int64) + (f1 &&& (1048575 : Int64)))), .second, .unset] [(.long ((1 : Int64) + (f1 &&& (1048575 : Int64)))), (.double (FP.l2d ((1 : Int32) + (b0 &&& (1023 : Int32))).toInt64)), (.ref a3), (.ref a3)])) rfl (by rw [hml]; rfl) (Steps.refl _) (a := a3) (argsL := [(.double (FP.l2d ((1 : Int32) + (b0 &&& (1023 : Int32))).toInt64)), (.long ((1 : Int64) + (f1 &&& (1048575 : Int64))))]) (rest := [(.ref a3)]) (lenOf pdI rfl) rfl (by show 2 * 0 + _ ≤ _; exact Nat.le_of_eq rfl) (hb hby at_58) (fun _ _ => ⟨rfl, e1, (by decide : 1 + 0 ≤ _), (by decide : 7 + 0 ≤ _)⟩)
  dsimp only [Pt.U, Pt.locs, Pt.cells, Pt.slots] at X2 l2' y2 z2 st2 hQ2
  subst l2' y2 z2
  obtain ⟨rfl, N2, K2, g22, g23⟩ := hQ2
  have N3 := Fr.app N0 N2
  have Z2 : n0 ≤ T2.heap.size := (Nat.le_trans Z1 K2.1)
  have E2 : Exa Z T2.heap a3 "com/example/murmuration/murmuration/cluster/DistanceLimit" := (A1.keep K2)
  obtain ⟨cq, kq, qa, qb, qc⟩ := isOf hZ rfl E2
  rcases hR with ⟨hRa, hRb⟩ | ⟨hRa, hRb⟩
  · obtain ⟨_, _, ⟨T4, L4, k4, n4⟩, -, X4, ⟨Lc4, hQ4, l4', y4, z4⟩, st4⟩ := X2.virtualBack hx (y := (⟨"com/example/murmuration/murmuration/cluster/DistanceLimit", "surelyAllows", "(D)Z"⟩ : MethodName)) (z := (⟨"com/example/murmuration/murmuration/cluster/DistanceLimit", "surelyAllows", "(D)Z"⟩ : MethodName)) hown (mvT hZ (hw _ (List.mem_of_getElem? (i := 37) rfl))) (mvT hZ (hw _ (List.mem_of_getElem? (i := 38) rfl))) (notFace_of_selects (args := #[]) (mvT hZ (hw _ (List.mem_of_getElem? (i := 40) rfl)))) (mvT hZ (hw _ (List.mem_of_getElem? (i := 40) rfl))) (mvT hZ (hw _ (List.mem_of_getElem? (i := 39) rfl))) (by decide) (backOf (W := 0) (rmS l Z a0 hw [] a3 U inn (1 : Int32) T2.heap n0 Z2 g23 (Or.inl ⟨hRa, rfl⟩)) hZ (hw _ (List.mem_of_getElem? (i := 41) rfl)) (hw _ (List.mem_of_getElem? (i := 3) rfl)) (by decide) (by decide)) qa qc (g := (mkF m 67 #[.val (.int b0), .val (.long f1), .second, .val (.int l2), .val (.int m3), .val (.int (m3 &&& (3 : Int32))), .val (.double U), .second, .val (.long ((1 : Int32) + (b0 &&& (1023 : Int32))).toInt64), .second, .val (.long ((1 : Int64) + (f1 &&& (1048575 : Int64)))), .second, .val (.ref a3)] [(.double U), (.ref a3)])) rfl (by rw [hml]; rfl) (Steps.refl _) (argsL := [(.double U)]) (rest := []) (lenOf pdZ rfl) rfl (by show 2 * 0 + _ ≤ _; exact Nat.le_of_eq rfl) (hb hby at_67) (fun _ _ => ⟨rfl, rfl, (by decide : 1 + 0 ≤ _), (by decide : 7 + 0 ≤ _)⟩)
    dsimp only [Pt.U, Pt.locs, Pt.cells, Pt.slots] at X4 l4' y4 z4 st4 hQ4
    subst l4' y4 z4
    obtain ⟨rfl, N4, e4⟩ := hQ4
    have N5 := Fr.app N3 N4
    obtain ⟨fs, hr, hrun, hended, hW, hsame⟩ := X4.leave (v := some (.int (1 : Int32))) (fun h => by rw [Bd.returns] at h; cases h)
    refine ⟨_, _, pre0 _ ?_, hrun, hended, _, _, rfl, ?_, ⟨_, rfl⟩, hW, hsame.mono (by decide) (by decide)⟩
    · show Steps p.tables e below (s₁.setTop (mkF m 0 #[.val (.int b0), .val (.long f1), .second, .val (.int l2), .val (.int m3), .unset, .unset, .unset, .unset, .unset, .unset, .unset, .unset] [])) _
      refine own_segA X0 hx hZ hw hown hby b0 f1 l2 m3 hU _ ?_
      show Steps p.tables e below (s₁.setTop (mkF m 25 #[.val (.int b0), .val (.long f1), .second, .val (.int l2), .val (.int m3), .val (.int (m3 &&& (3 : Int32))), .val (.double U), .second, .unset, .unset, .unset, .unset, .unset] [])) _
      refine XS.iload X0.here hx rfl (hb hby at_25) rfl ?_
      show Steps p.tables e below (s₁.setTop (mkF m 27 #[.val (.int b0), .val (.long f1), .second, .val (.int l2), .val (.int m3), .val (.int (m3 &&& (3 : Int32))), .val (.double U), .second, .unset, .unset, .unset, .unset, .unset] [(.int (m3 &&& (3 : Int32)))])) _
      refine XS.ifNo X0.here hx rfl (hb hby at_27) rfl (own_ifNeN.mpr hk) ?_
      show Steps p.tables e below (s₁.setTop (mkF m 30 #[.val (.int b0), .val (.long f1), .second, .val (.int l2), .val (.int m3), .val (.int (m3 &&& (3 : Int32))), .val (.double U), .second, .unset, .unset, .unset, .unset, .unset] [])) _
      refine XS.iconst X0.here hx rfl (hb hby at_30) ?_
      show Steps p.tables e below (s₁.setTop (mkF m 31 #[.val (.int b0), .val (.long f1), .second, .val (.int l2), .val (.int m3), .val (.int (m3 &&& (3 : Int32))), .val (.double U), .second, .unset, .unset, .unset, .unset, .unset] [(.int (1 : Int32))])) _
      refine XS.iloadN X0.here hx rfl (hb hby at_31) rfl ?_
      show Steps p.tables e below (s₁.setTop (mkF m 32 #[.val (.int b0), .val (.long f1), .second, .val (.int l2), .val (.int m3), .val (.int (m3 &&& (3 : Int32))), .val (.double U), .second, .unset, .unset, .unset, .unset, .unset] [(.int b0), (.int (1 : Int32))])) _
      refine XS.sipush X0.here hx rfl (hb hby at_32) ?_
      show Steps p.tables e below (s₁.setTop (mkF m 35 #[.val (.int b0), .val (.long f1), .second, .val (.int l2), .val (.int m3), .val (.int (m3 &&& (3 : Int32))), .val (.double U), .second, .unset, .unset, .unset, .unset, .unset] [(.int (1023 : Int32)), (.int b0), (.int (1 : Int32))])) _
      refine XS.iand X0.here hx rfl (hb hby at_35) rfl ?_
      show Steps p.tables e below (s₁.setTop (mkF m 36 #[.val (.int b0), .val (.long f1), .second, .val (.int l2), .val (.int m3), .val (.int (m3 &&& (3 : Int32))), .val (.double U), .second, .unset, .unset, .unset, .unset, .unset] [(.int (b0 &&& (1023 : Int32))), (.int (1 : Int32))])) _
      refine XS.iadd X0.here hx rfl (hb hby at_36) rfl ?_
      show Steps p.tables e below (s₁.setTop (mkF m 37 #[.val (.int b0), .val (.long f1), .second, .val (.int l2), .val (.int m3), .val (.int (m3 &&& (3 : Int32))), .val (.double U), .second, .unset, .unset, .unset, .unset, .unset] [(.int ((1 : Int32) + (b0 &&& (1023 : Int32))))])) _
      refine XS.i2l X0.here hx rfl (hb hby at_37) rfl ?_
      show Steps p.tables e below (s₁.setTop (mkF m 38 #[.val (.int b0), .val (.long f1), .second, .val (.int l2), .val (.int m3), .val (.int (m3 &&& (3 : Int32))), .val (.double U), .second, .unset, .unset, .unset, .unset, .unset] [(.long ((1 : Int32) + (b0 &&& (1023 : Int32))).toInt64)])) _
      refine XS.lstore X0.here hx rfl (hb hby at_38) rfl (l' := #[.val (.int b0), .val (.long f1), .second, .val (.int l2), .val (.int m3), .val (.int (m3 &&& (3 : Int32))), .val (.double U), .second, .val (.long ((1 : Int32) + (b0 &&& (1023 : Int32))).toInt64), .second, .unset, .unset, .unset]) rfl ?_
      show Steps p.tables e below (s₁.setTop (mkF m 40 #[.val (.int b0), .val (.long f1), .second, .val (.int l2), .val (.int m3), .val (.int (m3 &&& (3 : Int32))), .val (.double U), .second, .val (.long ((1 : Int32) + (b0 &&& (1023 : Int32))).toInt64), .second, .unset, .unset, .unset] [])) _
      refine XS.lconst X0.here hx rfl (hb hby at_40) ?_
      show Steps p.tables e below (s₁.setTop (mkF m 41 #[.val (.int b0), .val (.long f1), .second, .val (.int l2), .val (.int m3), .val (.int (m3 &&& (3 : Int32))), .val (.double U), .second, .val (.long ((1 : Int32) + (b0 &&& (1023 : Int32))).toInt64), .second, .unset, .unset, .unset] [(.long (1 : Int64))])) _
      refine XS.lloadN X0.here hx rfl (hb hby at_41) rfl ?_
      show Steps p.tables e below (s₁.setTop (mkF m 42 #[.val (.int b0), .val (.long f1), .second, .val (.int l2), .val (.int m3), .val (.int (m3 &&& (3 : Int32))), .val (.double U), .second, .val (.long ((1 : Int32) + (b0 &&& (1023 : Int32))).toInt64), .second, .unset, .unset, .unset] [(.long f1), (.long (1 : Int64))])) _
      refine X0.ldc2Long hx hown (mvT hZ (hw _ (List.mem_of_getElem? (i := 0) rfl))) (g := (mkF m 42 #[.val (.int b0), .val (.long f1), .second, .val (.int l2), .val (.int m3), .val (.int (m3 &&& (3 : Int32))), .val (.double U), .second, .val (.long ((1 : Int32) + (b0 &&& (1023 : Int32))).toInt64), .second, .unset, .unset, .unset] [(.long f1), (.long (1 : Int64))])) rfl (hb hby at_42) _ ?_
      show Steps p.tables e below (s₁.setTop (mkF m 45 #[.val (.int b0), .val (.long f1), .second, .val (.int l2), .val (.int m3), .val (.int (m3 &&& (3 : Int32))), .val (.double U), .second, .val (.long ((1 : Int32) + (b0 &&& (1023 : Int32))).toInt64), .second, .unset, .unset, .unset] [(.long (1048575 : Int64)), (.long f1), (.long (1 : Int64))])) _
      refine XS.land X0.here hx rfl (hb hby at_45) rfl ?_
      show Steps p.tables e below (s₁.setTop (mkF m 46 #[.val (.int b0), .val (.long f1), .second, .val (.int l2), .val (.int m3), .val (.int (m3 &&& (3 : Int32))), .val (.double U), .second, .val (.long ((1 : Int32) + (b0 &&& (1023 : Int32))).toInt64), .second, .unset, .unset, .unset] [(.long (f1 &&& (1048575 : Int64))), (.long (1 : Int64))])) _
      refine XS.ladd X0.here hx rfl (hb hby at_46) rfl ?_
      show Steps p.tables e below (s₁.setTop (mkF m 47 #[.val (.int b0), .val (.long f1), .second, .val (.int l2), .val (.int m3), .val (.int (m3 &&& (3 : Int32))), .val (.double U), .second, .val (.long ((1 : Int32) + (b0 &&& (1023 : Int32))).toInt64), .second, .unset, .unset, .unset] [(.long ((1 : Int64) + (f1 &&& (1048575 : Int64))))])) _
      refine XS.lstore X0.here hx rfl (hb hby at_47) rfl (l' := #[.val (.int b0), .val (.long f1), .second, .val (.int l2), .val (.int m3), .val (.int (m3 &&& (3 : Int32))), .val (.double U), .second, .val (.long ((1 : Int32) + (b0 &&& (1023 : Int32))).toInt64), .second, .val (.long ((1 : Int64) + (f1 &&& (1048575 : Int64)))), .second, .unset]) rfl ?_
      show Steps p.tables e below (s₁.setTop (mkF m 49 #[.val (.int b0), .val (.long f1), .second, .val (.int l2), .val (.int m3), .val (.int (m3 &&& (3 : Int32))), .val (.double U), .second, .val (.long ((1 : Int32) + (b0 &&& (1023 : Int32))).toInt64), .second, .val (.long ((1 : Int64) + (f1 &&& (1048575 : Int64)))), .second, .unset] [])) _
      refine st1 _ ?_
      show Steps p.tables e below (T1.setTop (mkF m 52 #[.val (.int b0), .val (.long f1), .second, .val (.int l2), .val (.int m3), .val (.int (m3 &&& (3 : Int32))), .val (.double U), .second, .val (.long ((1 : Int32) + (b0 &&& (1023 : Int32))).toInt64), .second, .val (.long ((1 : Int64) + (f1 &&& (1048575 : Int64)))), .second, .unset] [(.ref a3)])) _
      refine XS.dup X1.here hx rfl (hb hby at_52) rfl rfl ?_
      show Steps p.tables e below (T1.setTop (mkF m 53 #[.val (.int b0), .val (.long f1), .second, .val (.int l2), .val (.int m3), .val (.int (m3 &&& (3 : Int32))), .val (.double U), .second, .val (.long ((1 : Int32) + (b0 &&& (1023 : Int32))).toInt64), .second, .val (.long ((1 : Int64) + (f1 &&& (1048575 : Int64)))), .second, .unset] [(.ref a3), (.ref a3)])) _
      refine XS.lload X1.here hx rfl (hb hby at_53) rfl ?_
      show Steps p.tables e below (T1.setTop (mkF m 55 #[.val (.int b0), .val (.long f1), .second, .val (.int l2), .val (.int m3), .val (.int (m3 &&& (3 : Int32))), .val (.double U), .second, .val (.long ((1 : Int32) + (b0 &&& (1023 : Int32))).toInt64), .second, .val (.long ((1 : Int64) + (f1 &&& (1048575 : Int64)))), .second, .unset] [(.long ((1 : Int32) + (b0 &&& (1023 : Int32))).toInt64), (.ref a3), (.ref a3)])) _
      refine XS.l2dS X1.here hx rfl (hb hby at_55) rfl rfl ?_
      show Steps p.tables e below (T1.setTop (mkF m 56 #[.val (.int b0), .val (.long f1), .second, .val (.int l2), .val (.int m3), .val (.int (m3 &&& (3 : Int32))), .val (.double U), .second, .val (.long ((1 : Int32) + (b0 &&& (1023 : Int32))).toInt64), .second, .val (.long ((1 : Int64) + (f1 &&& (1048575 : Int64)))), .second, .unset] [(.double (FP.l2d ((1 : Int32) + (b0 &&& (1023 : Int32))).toInt64)), (.ref a3), (.ref a3)])) _
      refine XS.lload X1.here hx rfl (hb hby at_56) rfl ?_
      show Steps p.tables e below (T1.setTop (mkF m 58 #[.val (.int b0), .val (.long f1), .second, .val (.int l2), .val (.int m3), .val (.int (m3 &&& (3 : Int32))), .val (.double U), .second, .val (.long ((1 : Int32) + (b0 &&& (1023 : Int32))).toInt64), .second, .val (.long ((1 : Int64) + (f1 &&& (1048575 : Int64)))), .second, .unset] [(.long ((1 : Int64) + (f1 &&& (1048575 : Int64)))), (.double (FP.l2d ((1 : Int32) + (b0 &&& (1023 : Int32))).toInt64)), (.ref a3), (.ref a3)])) _
      refine st2.trans ?_
      show Steps p.tables e below (T2.setTop (mkF m 61 #[.val (.int b0), .val (.long f1), .second, .val (.int l2), .val (.int m3), .val (.int (m3 &&& (3 : Int32))), .val (.double U), .second, .val (.long ((1 : Int32) + (b0 &&& (1023 : Int32))).toInt64), .second, .val (.long ((1 : Int64) + (f1 &&& (1048575 : Int64)))), .second, .unset] [(.ref a3)])) _
      refine XS.astore X2.here hx rfl (hb hby at_61) rfl rfl (l' := #[.val (.int b0), .val (.long f1), .second, .val (.int l2), .val (.int m3), .val (.int (m3 &&& (3 : Int32))), .val (.double U), .second, .val (.long ((1 : Int32) + (b0 &&& (1023 : Int32))).toInt64), .second, .val (.long ((1 : Int64) + (f1 &&& (1048575 : Int64)))), .second, .val (.ref a3)]) rfl ?_
      show Steps p.tables e below (T2.setTop (mkF m 63 #[.val (.int b0), .val (.long f1), .second, .val (.int l2), .val (.int m3), .val (.int (m3 &&& (3 : Int32))), .val (.double U), .second, .val (.long ((1 : Int32) + (b0 &&& (1023 : Int32))).toInt64), .second, .val (.long ((1 : Int64) + (f1 &&& (1048575 : Int64)))), .second, .val (.ref a3)] [])) _
      refine XS.aload X2.here hx rfl (hb hby at_63) rfl rfl ?_
      show Steps p.tables e below (T2.setTop (mkF m 65 #[.val (.int b0), .val (.long f1), .second, .val (.int l2), .val (.int m3), .val (.int (m3 &&& (3 : Int32))), .val (.double U), .second, .val (.long ((1 : Int32) + (b0 &&& (1023 : Int32))).toInt64), .second, .val (.long ((1 : Int64) + (f1 &&& (1048575 : Int64)))), .second, .val (.ref a3)] [(.ref a3)])) _
      refine XS.dload X2.here hx rfl (hb hby at_65) rfl ?_
      show Steps p.tables e below (T2.setTop (mkF m 67 #[.val (.int b0), .val (.long f1), .second, .val (.int l2), .val (.int m3), .val (.int (m3 &&& (3 : Int32))), .val (.double U), .second, .val (.long ((1 : Int32) + (b0 &&& (1023 : Int32))).toInt64), .second, .val (.long ((1 : Int64) + (f1 &&& (1048575 : Int64)))), .second, .val (.ref a3)] [(.double U), (.ref a3)])) _
      refine st4.trans ?_
      show Steps p.tables e below (T4.setTop (mkF m 70 #[.val (.int b0), .val (.long f1), .second, .val (.int l2), .val (.int m3), .val (.int (m3 &&& (3 : Int32))), .val (.double U), .second, .val (.long ((1 : Int32) + (b0 &&& (1023 : Int32))).toInt64), .second, .val (.long ((1 : Int64) + (f1 &&& (1048575 : Int64)))), .second, .val (.ref a3)] [(.int (1 : Int32))])) _
      refine XS.dload X4.here hx rfl (hb hby at_70) rfl ?_
      show Steps p.tables e below (T4.setTop (mkF m 72 #[.val (.int b0), .val (.long f1), .second, .val (.int l2), .val (.int m3), .val (.int (m3 &&& (3 : Int32))), .val (.double U), .second, .val (.long ((1 : Int32) + (b0 &&& (1023 : Int32))).toInt64), .second, .val (.long ((1 : Int64) + (f1 &&& (1048575 : Int64)))), .second, .val (.ref a3)] [(.double U), (.int (1 : Int32))])) _
      refine XS.lload X4.here hx rfl (hb hby at_72) rfl ?_
      show Steps p.tables e below (T4.setTop (mkF m 74 #[.val (.int b0), .val (.long f1), .second, .val (.int l2), .val (.int m3), .val (.int (m3 &&& (3 : Int32))), .val (.double U), .second, .val (.long ((1 : Int32) + (b0 &&& (1023 : Int32))).toInt64), .second, .val (.long ((1 : Int64) + (f1 &&& (1048575 : Int64)))), .second, .val (.ref a3)] [(.long ((1 : Int32) + (b0 &&& (1023 : Int32))).toInt64), (.double U), (.int (1 : Int32))])) _
      refine XS.lload X4.here hx rfl (hb hby at_74) rfl ?_
      show Steps p.tables e below (T4.setTop (mkF m 76 #[.val (.int b0), .val (.long f1), .second, .val (.int l2), .val (.int m3), .val (.int (m3 &&& (3 : Int32))), .val (.double U), .second, .val (.long ((1 : Int32) + (b0 &&& (1023 : Int32))).toInt64), .second, .val (.long ((1 : Int64) + (f1 &&& (1048575 : Int64)))), .second, .val (.ref a3)] [(.long ((1 : Int64) + (f1 &&& (1048575 : Int64)))), (.long ((1 : Int32) + (b0 &&& (1023 : Int32))).toInt64), (.double U), (.int (1 : Int32))])) _
      refine XS.lmul X4.here hx rfl (hb hby at_76) rfl ?_
      show Steps p.tables e below (T4.setTop (mkF m 77 #[.val (.int b0), .val (.long f1), .second, .val (.int l2), .val (.int m3), .val (.int (m3 &&& (3 : Int32))), .val (.double U), .second, .val (.long ((1 : Int32) + (b0 &&& (1023 : Int32))).toInt64), .second, .val (.long ((1 : Int64) + (f1 &&& (1048575 : Int64)))), .second, .val (.ref a3)] [(.long (((1 : Int32) + (b0 &&& (1023 : Int32))).toInt64 * ((1 : Int64) + (f1 &&& (1048575 : Int64))))), (.double U), (.int (1 : Int32))])) _
      refine XS.l2dS X4.here hx rfl (hb hby at_77) rfl rfl ?_
      show Steps p.tables e below (T4.setTop (mkF m 78 #[.val (.int b0), .val (.long f1), .second, .val (.int l2), .val (.int m3), .val (.int (m3 &&& (3 : Int32))), .val (.double U), .second, .val (.long ((1 : Int32) + (b0 &&& (1023 : Int32))).toInt64), .second, .val (.long ((1 : Int64) + (f1 &&& (1048575 : Int64)))), .second, .val (.ref a3)] [(.double (FP.l2d (((1 : Int32) + (b0 &&& (1023 : Int32))).toInt64 * ((1 : Int64) + (f1 &&& (1048575 : Int64)))))), (.double U), (.int (1 : Int32))])) _
      refine XS.dcmpS X4.here hx rfl (hb hby at_78) rfl rfl ?_
      show Steps p.tables e below (T4.setTop (mkF m 79 #[.val (.int b0), .val (.long f1), .second, .val (.int l2), .val (.int m3), .val (.int (m3 &&& (3 : Int32))), .val (.double U), .second, .val (.long ((1 : Int32) + (b0 &&& (1023 : Int32))).toInt64), .second, .val (.long ((1 : Int64) + (f1 &&& (1048575 : Int64)))), .second, .val (.ref a3)] [(.int (cmpValue (FP.dcmp U (FP.l2d (((1 : Int32) + (b0 &&& (1023 : Int32))).toInt64 * ((1 : Int64) + (f1 &&& (1048575 : Int64)))))) .g)), (.int (1 : Int32))])) _
      refine XS.ifNo X4.here hx rfl (hb hby at_79) rfl hRb ?_
      show Steps p.tables e below (T4.setTop (mkF m 82 #[.val (.int b0), .val (.long f1), .second, .val (.int l2), .val (.int m3), .val (.int (m3 &&& (3 : Int32))), .val (.double U), .second, .val (.long ((1 : Int32) + (b0 &&& (1023 : Int32))).toInt64), .second, .val (.long ((1 : Int64) + (f1 &&& (1048575 : Int64)))), .second, .val (.ref a3)] [(.int (1 : Int32))])) _
      refine XS.iconst X4.here hx rfl (hb hby at_82) ?_
      show Steps p.tables e below (T4.setTop (mkF m 83 #[.val (.int b0), .val (.long f1), .second, .val (.int l2), .val (.int m3), .val (.int (m3 &&& (3 : Int32))), .val (.double U), .second, .val (.long ((1 : Int32) + (b0 &&& (1023 : Int32))).toInt64), .second, .val (.long ((1 : Int64) + (f1 &&& (1048575 : Int64)))), .second, .val (.ref a3)] [(.int (1 : Int32)), (.int (1 : Int32))])) _
      refine XS.goto X4.here hx rfl (pc0 := 83) (pc' := 87) rfl (hb hby at_83) (by decide) (by decide) ?_
      show Steps p.tables e below (T4.setTop (mkF m 87 #[.val (.int b0), .val (.long f1), .second, .val (.int l2), .val (.int m3), .val (.int (m3 &&& (3 : Int32))), .val (.double U), .second, .val (.long ((1 : Int32) + (b0 &&& (1023 : Int32))).toInt64), .second, .val (.long ((1 : Int64) + (f1 &&& (1048575 : Int64)))), .second, .val (.ref a3)] [(.int (1 : Int32)), (.int (1 : Int32))])) _
      refine XS.icmpNo X4.here hx rfl (hb hby at_87) rfl (by decide) ?_
      show Steps p.tables e below (T4.setTop (mkF m 90 #[.val (.int b0), .val (.long f1), .second, .val (.int l2), .val (.int m3), .val (.int (m3 &&& (3 : Int32))), .val (.double U), .second, .val (.long ((1 : Int32) + (b0 &&& (1023 : Int32))).toInt64), .second, .val (.long ((1 : Int64) + (f1 &&& (1048575 : Int64)))), .second, .val (.ref a3)] [])) _
      refine XS.iconst X4.here hx rfl (hb hby at_90) ?_
      show Steps p.tables e below (T4.setTop (mkF m 91 #[.val (.int b0), .val (.long f1), .second, .val (.int l2), .val (.int m3), .val (.int (m3 &&& (3 : Int32))), .val (.double U), .second, .val (.long ((1 : Int32) + (b0 &&& (1023 : Int32))).toInt64), .second, .val (.long ((1 : Int64) + (f1 &&& (1048575 : Int64)))), .second, .val (.ref a3)] [(.int (1 : Int32))])) _
      refine XS.goto X4.here hx rfl (pc0 := 91) (pc' := 95) rfl (hb hby at_91) (by decide) (by decide) ?_
      show Steps p.tables e below (T4.setTop (mkF m 95 #[.val (.int b0), .val (.long f1), .second, .val (.int l2), .val (.int m3), .val (.int (m3 &&& (3 : Int32))), .val (.double U), .second, .val (.long ((1 : Int32) + (b0 &&& (1023 : Int32))).toInt64), .second, .val (.long ((1 : Int64) + (f1 &&& (1048575 : Int64)))), .second, .val (.ref a3)] [(.int (1 : Int32))])) _
      exact retN X4 hx (t := .boolean) Bd.returns (by simp) (hb hby at_95) hr
    · show Q1 n0 _ T4.heap _
      exact ⟨rfl, N5⟩
  · obtain ⟨_, _, ⟨T4, L4, k4, n4⟩, -, X4, ⟨Lc4, hQ4, l4', y4, z4⟩, st4⟩ := X2.virtualBack hx (y := (⟨"com/example/murmuration/murmuration/cluster/DistanceLimit", "surelyAllows", "(D)Z"⟩ : MethodName)) (z := (⟨"com/example/murmuration/murmuration/cluster/DistanceLimit", "surelyAllows", "(D)Z"⟩ : MethodName)) hown (mvT hZ (hw _ (List.mem_of_getElem? (i := 37) rfl))) (mvT hZ (hw _ (List.mem_of_getElem? (i := 38) rfl))) (notFace_of_selects (args := #[]) (mvT hZ (hw _ (List.mem_of_getElem? (i := 40) rfl)))) (mvT hZ (hw _ (List.mem_of_getElem? (i := 40) rfl))) (mvT hZ (hw _ (List.mem_of_getElem? (i := 39) rfl))) (by decide) (backOf (W := 0) (rmS l Z a0 hw [] a3 U inn (0 : Int32) T2.heap n0 Z2 g23 (Or.inr ⟨hRa, rfl⟩)) hZ (hw _ (List.mem_of_getElem? (i := 41) rfl)) (hw _ (List.mem_of_getElem? (i := 3) rfl)) (by decide) (by decide)) qa qc (g := (mkF m 67 #[.val (.int b0), .val (.long f1), .second, .val (.int l2), .val (.int m3), .val (.int (m3 &&& (3 : Int32))), .val (.double U), .second, .val (.long ((1 : Int32) + (b0 &&& (1023 : Int32))).toInt64), .second, .val (.long ((1 : Int64) + (f1 &&& (1048575 : Int64)))), .second, .val (.ref a3)] [(.double U), (.ref a3)])) rfl (by rw [hml]; rfl) (Steps.refl _) (argsL := [(.double U)]) (rest := []) (lenOf pdZ rfl) rfl (by show 2 * 0 + _ ≤ _; exact Nat.le_of_eq rfl) (hb hby at_67) (fun _ _ => ⟨rfl, rfl, (by decide : 1 + 0 ≤ _), (by decide : 7 + 0 ≤ _)⟩)
    dsimp only [Pt.U, Pt.locs, Pt.cells, Pt.slots] at X4 l4' y4 z4 st4 hQ4
    subst l4' y4 z4
    obtain ⟨rfl, N4, e4⟩ := hQ4
    have N5 := Fr.app N3 N4
    obtain ⟨fs, hr, hrun, hended, hW, hsame⟩ := X4.leave (v := some (.int (1 : Int32))) (fun h => by rw [Bd.returns] at h; cases h)
    refine ⟨_, _, pre0 _ ?_, hrun, hended, _, _, rfl, ?_, ⟨_, rfl⟩, hW, hsame.mono (by decide) (by decide)⟩
    · show Steps p.tables e below (s₁.setTop (mkF m 0 #[.val (.int b0), .val (.long f1), .second, .val (.int l2), .val (.int m3), .unset, .unset, .unset, .unset, .unset, .unset, .unset, .unset] [])) _
      refine own_segA X0 hx hZ hw hown hby b0 f1 l2 m3 hU _ ?_
      show Steps p.tables e below (s₁.setTop (mkF m 25 #[.val (.int b0), .val (.long f1), .second, .val (.int l2), .val (.int m3), .val (.int (m3 &&& (3 : Int32))), .val (.double U), .second, .unset, .unset, .unset, .unset, .unset] [])) _
      refine XS.iload X0.here hx rfl (hb hby at_25) rfl ?_
      show Steps p.tables e below (s₁.setTop (mkF m 27 #[.val (.int b0), .val (.long f1), .second, .val (.int l2), .val (.int m3), .val (.int (m3 &&& (3 : Int32))), .val (.double U), .second, .unset, .unset, .unset, .unset, .unset] [(.int (m3 &&& (3 : Int32)))])) _
      refine XS.ifNo X0.here hx rfl (hb hby at_27) rfl (own_ifNeN.mpr hk) ?_
      show Steps p.tables e below (s₁.setTop (mkF m 30 #[.val (.int b0), .val (.long f1), .second, .val (.int l2), .val (.int m3), .val (.int (m3 &&& (3 : Int32))), .val (.double U), .second, .unset, .unset, .unset, .unset, .unset] [])) _
      refine XS.iconst X0.here hx rfl (hb hby at_30) ?_
      show Steps p.tables e below (s₁.setTop (mkF m 31 #[.val (.int b0), .val (.long f1), .second, .val (.int l2), .val (.int m3), .val (.int (m3 &&& (3 : Int32))), .val (.double U), .second, .unset, .unset, .unset, .unset, .unset] [(.int (1 : Int32))])) _
      refine XS.iloadN X0.here hx rfl (hb hby at_31) rfl ?_
      show Steps p.tables e below (s₁.setTop (mkF m 32 #[.val (.int b0), .val (.long f1), .second, .val (.int l2), .val (.int m3), .val (.int (m3 &&& (3 : Int32))), .val (.double U), .second, .unset, .unset, .unset, .unset, .unset] [(.int b0), (.int (1 : Int32))])) _
      refine XS.sipush X0.here hx rfl (hb hby at_32) ?_
      show Steps p.tables e below (s₁.setTop (mkF m 35 #[.val (.int b0), .val (.long f1), .second, .val (.int l2), .val (.int m3), .val (.int (m3 &&& (3 : Int32))), .val (.double U), .second, .unset, .unset, .unset, .unset, .unset] [(.int (1023 : Int32)), (.int b0), (.int (1 : Int32))])) _
      refine XS.iand X0.here hx rfl (hb hby at_35) rfl ?_
      show Steps p.tables e below (s₁.setTop (mkF m 36 #[.val (.int b0), .val (.long f1), .second, .val (.int l2), .val (.int m3), .val (.int (m3 &&& (3 : Int32))), .val (.double U), .second, .unset, .unset, .unset, .unset, .unset] [(.int (b0 &&& (1023 : Int32))), (.int (1 : Int32))])) _
      refine XS.iadd X0.here hx rfl (hb hby at_36) rfl ?_
      show Steps p.tables e below (s₁.setTop (mkF m 37 #[.val (.int b0), .val (.long f1), .second, .val (.int l2), .val (.int m3), .val (.int (m3 &&& (3 : Int32))), .val (.double U), .second, .unset, .unset, .unset, .unset, .unset] [(.int ((1 : Int32) + (b0 &&& (1023 : Int32))))])) _
      refine XS.i2l X0.here hx rfl (hb hby at_37) rfl ?_
      show Steps p.tables e below (s₁.setTop (mkF m 38 #[.val (.int b0), .val (.long f1), .second, .val (.int l2), .val (.int m3), .val (.int (m3 &&& (3 : Int32))), .val (.double U), .second, .unset, .unset, .unset, .unset, .unset] [(.long ((1 : Int32) + (b0 &&& (1023 : Int32))).toInt64)])) _
      refine XS.lstore X0.here hx rfl (hb hby at_38) rfl (l' := #[.val (.int b0), .val (.long f1), .second, .val (.int l2), .val (.int m3), .val (.int (m3 &&& (3 : Int32))), .val (.double U), .second, .val (.long ((1 : Int32) + (b0 &&& (1023 : Int32))).toInt64), .second, .unset, .unset, .unset]) rfl ?_
      show Steps p.tables e below (s₁.setTop (mkF m 40 #[.val (.int b0), .val (.long f1), .second, .val (.int l2), .val (.int m3), .val (.int (m3 &&& (3 : Int32))), .val (.double U), .second, .val (.long ((1 : Int32) + (b0 &&& (1023 : Int32))).toInt64), .second, .unset, .unset, .unset] [])) _
      refine XS.lconst X0.here hx rfl (hb hby at_40) ?_
      show Steps p.tables e below (s₁.setTop (mkF m 41 #[.val (.int b0), .val (.long f1), .second, .val (.int l2), .val (.int m3), .val (.int (m3 &&& (3 : Int32))), .val (.double U), .second, .val (.long ((1 : Int32) + (b0 &&& (1023 : Int32))).toInt64), .second, .unset, .unset, .unset] [(.long (1 : Int64))])) _
      refine XS.lloadN X0.here hx rfl (hb hby at_41) rfl ?_
      show Steps p.tables e below (s₁.setTop (mkF m 42 #[.val (.int b0), .val (.long f1), .second, .val (.int l2), .val (.int m3), .val (.int (m3 &&& (3 : Int32))), .val (.double U), .second, .val (.long ((1 : Int32) + (b0 &&& (1023 : Int32))).toInt64), .second, .unset, .unset, .unset] [(.long f1), (.long (1 : Int64))])) _
      refine X0.ldc2Long hx hown (mvT hZ (hw _ (List.mem_of_getElem? (i := 0) rfl))) (g := (mkF m 42 #[.val (.int b0), .val (.long f1), .second, .val (.int l2), .val (.int m3), .val (.int (m3 &&& (3 : Int32))), .val (.double U), .second, .val (.long ((1 : Int32) + (b0 &&& (1023 : Int32))).toInt64), .second, .unset, .unset, .unset] [(.long f1), (.long (1 : Int64))])) rfl (hb hby at_42) _ ?_
      show Steps p.tables e below (s₁.setTop (mkF m 45 #[.val (.int b0), .val (.long f1), .second, .val (.int l2), .val (.int m3), .val (.int (m3 &&& (3 : Int32))), .val (.double U), .second, .val (.long ((1 : Int32) + (b0 &&& (1023 : Int32))).toInt64), .second, .unset, .unset, .unset] [(.long (1048575 : Int64)), (.long f1), (.long (1 : Int64))])) _
      refine XS.land X0.here hx rfl (hb hby at_45) rfl ?_
      show Steps p.tables e below (s₁.setTop (mkF m 46 #[.val (.int b0), .val (.long f1), .second, .val (.int l2), .val (.int m3), .val (.int (m3 &&& (3 : Int32))), .val (.double U), .second, .val (.long ((1 : Int32) + (b0 &&& (1023 : Int32))).toInt64), .second, .unset, .unset, .unset] [(.long (f1 &&& (1048575 : Int64))), (.long (1 : Int64))])) _
      refine XS.ladd X0.here hx rfl (hb hby at_46) rfl ?_
      show Steps p.tables e below (s₁.setTop (mkF m 47 #[.val (.int b0), .val (.long f1), .second, .val (.int l2), .val (.int m3), .val (.int (m3 &&& (3 : Int32))), .val (.double U), .second, .val (.long ((1 : Int32) + (b0 &&& (1023 : Int32))).toInt64), .second, .unset, .unset, .unset] [(.long ((1 : Int64) + (f1 &&& (1048575 : Int64))))])) _
      refine XS.lstore X0.here hx rfl (hb hby at_47) rfl (l' := #[.val (.int b0), .val (.long f1), .second, .val (.int l2), .val (.int m3), .val (.int (m3 &&& (3 : Int32))), .val (.double U), .second, .val (.long ((1 : Int32) + (b0 &&& (1023 : Int32))).toInt64), .second, .val (.long ((1 : Int64) + (f1 &&& (1048575 : Int64)))), .second, .unset]) rfl ?_
      show Steps p.tables e below (s₁.setTop (mkF m 49 #[.val (.int b0), .val (.long f1), .second, .val (.int l2), .val (.int m3), .val (.int (m3 &&& (3 : Int32))), .val (.double U), .second, .val (.long ((1 : Int32) + (b0 &&& (1023 : Int32))).toInt64), .second, .val (.long ((1 : Int64) + (f1 &&& (1048575 : Int64)))), .second, .unset] [])) _
      refine st1 _ ?_
      show Steps p.tables e below (T1.setTop (mkF m 52 #[.val (.int b0), .val (.long f1), .second, .val (.int l2), .val (.int m3), .val (.int (m3 &&& (3 : Int32))), .val (.double U), .second, .val (.long ((1 : Int32) + (b0 &&& (1023 : Int32))).toInt64), .second, .val (.long ((1 : Int64) + (f1 &&& (1048575 : Int64)))), .second, .unset] [(.ref a3)])) _
      refine XS.dup X1.here hx rfl (hb hby at_52) rfl rfl ?_
      show Steps p.tables e below (T1.setTop (mkF m 53 #[.val (.int b0), .val (.long f1), .second, .val (.int l2), .val (.int m3), .val (.int (m3 &&& (3 : Int32))), .val (.double U), .second, .val (.long ((1 : Int32) + (b0 &&& (1023 : Int32))).toInt64), .second, .val (.long ((1 : Int64) + (f1 &&& (1048575 : Int64)))), .second, .unset] [(.ref a3), (.ref a3)])) _
      refine XS.lload X1.here hx rfl (hb hby at_53) rfl ?_
      show Steps p.tables e below (T1.setTop (mkF m 55 #[.val (.int b0), .val (.long f1), .second, .val (.int l2), .val (.int m3), .val (.int (m3 &&& (3 : Int32))), .val (.double U), .second, .val (.long ((1 : Int32) + (b0 &&& (1023 : Int32))).toInt64), .second, .val (.long ((1 : Int64) + (f1 &&& (1048575 : Int64)))), .second, .unset] [(.long ((1 : Int32) + (b0 &&& (1023 : Int32))).toInt64), (.ref a3), (.ref a3)])) _
      refine XS.l2dS X1.here hx rfl (hb hby at_55) rfl rfl ?_
      show Steps p.tables e below (T1.setTop (mkF m 56 #[.val (.int b0), .val (.long f1), .second, .val (.int l2), .val (.int m3), .val (.int (m3 &&& (3 : Int32))), .val (.double U), .second, .val (.long ((1 : Int32) + (b0 &&& (1023 : Int32))).toInt64), .second, .val (.long ((1 : Int64) + (f1 &&& (1048575 : Int64)))), .second, .unset] [(.double (FP.l2d ((1 : Int32) + (b0 &&& (1023 : Int32))).toInt64)), (.ref a3), (.ref a3)])) _
      refine XS.lload X1.here hx rfl (hb hby at_56) rfl ?_
      show Steps p.tables e below (T1.setTop (mkF m 58 #[.val (.int b0), .val (.long f1), .second, .val (.int l2), .val (.int m3), .val (.int (m3 &&& (3 : Int32))), .val (.double U), .second, .val (.long ((1 : Int32) + (b0 &&& (1023 : Int32))).toInt64), .second, .val (.long ((1 : Int64) + (f1 &&& (1048575 : Int64)))), .second, .unset] [(.long ((1 : Int64) + (f1 &&& (1048575 : Int64)))), (.double (FP.l2d ((1 : Int32) + (b0 &&& (1023 : Int32))).toInt64)), (.ref a3), (.ref a3)])) _
      refine st2.trans ?_
      show Steps p.tables e below (T2.setTop (mkF m 61 #[.val (.int b0), .val (.long f1), .second, .val (.int l2), .val (.int m3), .val (.int (m3 &&& (3 : Int32))), .val (.double U), .second, .val (.long ((1 : Int32) + (b0 &&& (1023 : Int32))).toInt64), .second, .val (.long ((1 : Int64) + (f1 &&& (1048575 : Int64)))), .second, .unset] [(.ref a3)])) _
      refine XS.astore X2.here hx rfl (hb hby at_61) rfl rfl (l' := #[.val (.int b0), .val (.long f1), .second, .val (.int l2), .val (.int m3), .val (.int (m3 &&& (3 : Int32))), .val (.double U), .second, .val (.long ((1 : Int32) + (b0 &&& (1023 : Int32))).toInt64), .second, .val (.long ((1 : Int64) + (f1 &&& (1048575 : Int64)))), .second, .val (.ref a3)]) rfl ?_
      show Steps p.tables e below (T2.setTop (mkF m 63 #[.val (.int b0), .val (.long f1), .second, .val (.int l2), .val (.int m3), .val (.int (m3 &&& (3 : Int32))), .val (.double U), .second, .val (.long ((1 : Int32) + (b0 &&& (1023 : Int32))).toInt64), .second, .val (.long ((1 : Int64) + (f1 &&& (1048575 : Int64)))), .second, .val (.ref a3)] [])) _
      refine XS.aload X2.here hx rfl (hb hby at_63) rfl rfl ?_
      show Steps p.tables e below (T2.setTop (mkF m 65 #[.val (.int b0), .val (.long f1), .second, .val (.int l2), .val (.int m3), .val (.int (m3 &&& (3 : Int32))), .val (.double U), .second, .val (.long ((1 : Int32) + (b0 &&& (1023 : Int32))).toInt64), .second, .val (.long ((1 : Int64) + (f1 &&& (1048575 : Int64)))), .second, .val (.ref a3)] [(.ref a3)])) _
      refine XS.dload X2.here hx rfl (hb hby at_65) rfl ?_
      show Steps p.tables e below (T2.setTop (mkF m 67 #[.val (.int b0), .val (.long f1), .second, .val (.int l2), .val (.int m3), .val (.int (m3 &&& (3 : Int32))), .val (.double U), .second, .val (.long ((1 : Int32) + (b0 &&& (1023 : Int32))).toInt64), .second, .val (.long ((1 : Int64) + (f1 &&& (1048575 : Int64)))), .second, .val (.ref a3)] [(.double U), (.ref a3)])) _
      refine st4.trans ?_
      show Steps p.tables e below (T4.setTop (mkF m 70 #[.val (.int b0), .val (.long f1), .second, .val (.int l2), .val (.int m3), .val (.int (m3 &&& (3 : Int32))), .val (.double U), .second, .val (.long ((1 : Int32) + (b0 &&& (1023 : Int32))).toInt64), .second, .val (.long ((1 : Int64) + (f1 &&& (1048575 : Int64)))), .second, .val (.ref a3)] [(.int (0 : Int32))])) _
      refine XS.dload X4.here hx rfl (hb hby at_70) rfl ?_
      show Steps p.tables e below (T4.setTop (mkF m 72 #[.val (.int b0), .val (.long f1), .second, .val (.int l2), .val (.int m3), .val (.int (m3 &&& (3 : Int32))), .val (.double U), .second, .val (.long ((1 : Int32) + (b0 &&& (1023 : Int32))).toInt64), .second, .val (.long ((1 : Int64) + (f1 &&& (1048575 : Int64)))), .second, .val (.ref a3)] [(.double U), (.int (0 : Int32))])) _
      refine XS.lload X4.here hx rfl (hb hby at_72) rfl ?_
      show Steps p.tables e below (T4.setTop (mkF m 74 #[.val (.int b0), .val (.long f1), .second, .val (.int l2), .val (.int m3), .val (.int (m3 &&& (3 : Int32))), .val (.double U), .second, .val (.long ((1 : Int32) + (b0 &&& (1023 : Int32))).toInt64), .second, .val (.long ((1 : Int64) + (f1 &&& (1048575 : Int64)))), .second, .val (.ref a3)] [(.long ((1 : Int32) + (b0 &&& (1023 : Int32))).toInt64), (.double U), (.int (0 : Int32))])) _
      refine XS.lload X4.here hx rfl (hb hby at_74) rfl ?_
      show Steps p.tables e below (T4.setTop (mkF m 76 #[.val (.int b0), .val (.long f1), .second, .val (.int l2), .val (.int m3), .val (.int (m3 &&& (3 : Int32))), .val (.double U), .second, .val (.long ((1 : Int32) + (b0 &&& (1023 : Int32))).toInt64), .second, .val (.long ((1 : Int64) + (f1 &&& (1048575 : Int64)))), .second, .val (.ref a3)] [(.long ((1 : Int64) + (f1 &&& (1048575 : Int64)))), (.long ((1 : Int32) + (b0 &&& (1023 : Int32))).toInt64), (.double U), (.int (0 : Int32))])) _
      refine XS.lmul X4.here hx rfl (hb hby at_76) rfl ?_
      show Steps p.tables e below (T4.setTop (mkF m 77 #[.val (.int b0), .val (.long f1), .second, .val (.int l2), .val (.int m3), .val (.int (m3 &&& (3 : Int32))), .val (.double U), .second, .val (.long ((1 : Int32) + (b0 &&& (1023 : Int32))).toInt64), .second, .val (.long ((1 : Int64) + (f1 &&& (1048575 : Int64)))), .second, .val (.ref a3)] [(.long (((1 : Int32) + (b0 &&& (1023 : Int32))).toInt64 * ((1 : Int64) + (f1 &&& (1048575 : Int64))))), (.double U), (.int (0 : Int32))])) _
      refine XS.l2dS X4.here hx rfl (hb hby at_77) rfl rfl ?_
      show Steps p.tables e below (T4.setTop (mkF m 78 #[.val (.int b0), .val (.long f1), .second, .val (.int l2), .val (.int m3), .val (.int (m3 &&& (3 : Int32))), .val (.double U), .second, .val (.long ((1 : Int32) + (b0 &&& (1023 : Int32))).toInt64), .second, .val (.long ((1 : Int64) + (f1 &&& (1048575 : Int64)))), .second, .val (.ref a3)] [(.double (FP.l2d (((1 : Int32) + (b0 &&& (1023 : Int32))).toInt64 * ((1 : Int64) + (f1 &&& (1048575 : Int64)))))), (.double U), (.int (0 : Int32))])) _
      refine XS.dcmpS X4.here hx rfl (hb hby at_78) rfl rfl ?_
      show Steps p.tables e below (T4.setTop (mkF m 79 #[.val (.int b0), .val (.long f1), .second, .val (.int l2), .val (.int m3), .val (.int (m3 &&& (3 : Int32))), .val (.double U), .second, .val (.long ((1 : Int32) + (b0 &&& (1023 : Int32))).toInt64), .second, .val (.long ((1 : Int64) + (f1 &&& (1048575 : Int64)))), .second, .val (.ref a3)] [(.int (cmpValue (FP.dcmp U (FP.l2d (((1 : Int32) + (b0 &&& (1023 : Int32))).toInt64 * ((1 : Int64) + (f1 &&& (1048575 : Int64)))))) .g)), (.int (0 : Int32))])) _
      refine XS.ifYes X4.here hx rfl (pc0 := 79) (pc' := 86) rfl (hb hby at_79) rfl hRb (by decide) (by decide) ?_
      show Steps p.tables e below (T4.setTop (mkF m 86 #[.val (.int b0), .val (.long f1), .second, .val (.int l2), .val (.int m3), .val (.int (m3 &&& (3 : Int32))), .val (.double U), .second, .val (.long ((1 : Int32) + (b0 &&& (1023 : Int32))).toInt64), .second, .val (.long ((1 : Int64) + (f1 &&& (1048575 : Int64)))), .second, .val (.ref a3)] [(.int (0 : Int32))])) _
      refine XS.iconst X4.here hx rfl (hb hby at_86) ?_
      show Steps p.tables e below (T4.setTop (mkF m 87 #[.val (.int b0), .val (.long f1), .second, .val (.int l2), .val (.int m3), .val (.int (m3 &&& (3 : Int32))), .val (.double U), .second, .val (.long ((1 : Int32) + (b0 &&& (1023 : Int32))).toInt64), .second, .val (.long ((1 : Int64) + (f1 &&& (1048575 : Int64)))), .second, .val (.ref a3)] [(.int (0 : Int32)), (.int (0 : Int32))])) _
      refine XS.icmpNo X4.here hx rfl (hb hby at_87) rfl (by decide) ?_
      show Steps p.tables e below (T4.setTop (mkF m 90 #[.val (.int b0), .val (.long f1), .second, .val (.int l2), .val (.int m3), .val (.int (m3 &&& (3 : Int32))), .val (.double U), .second, .val (.long ((1 : Int32) + (b0 &&& (1023 : Int32))).toInt64), .second, .val (.long ((1 : Int64) + (f1 &&& (1048575 : Int64)))), .second, .val (.ref a3)] [])) _
      refine XS.iconst X4.here hx rfl (hb hby at_90) ?_
      show Steps p.tables e below (T4.setTop (mkF m 91 #[.val (.int b0), .val (.long f1), .second, .val (.int l2), .val (.int m3), .val (.int (m3 &&& (3 : Int32))), .val (.double U), .second, .val (.long ((1 : Int32) + (b0 &&& (1023 : Int32))).toInt64), .second, .val (.long ((1 : Int64) + (f1 &&& (1048575 : Int64)))), .second, .val (.ref a3)] [(.int (1 : Int32))])) _
      refine XS.goto X4.here hx rfl (pc0 := 91) (pc' := 95) rfl (hb hby at_91) (by decide) (by decide) ?_
      show Steps p.tables e below (T4.setTop (mkF m 95 #[.val (.int b0), .val (.long f1), .second, .val (.int l2), .val (.int m3), .val (.int (m3 &&& (3 : Int32))), .val (.double U), .second, .val (.long ((1 : Int32) + (b0 &&& (1023 : Int32))).toInt64), .second, .val (.long ((1 : Int64) + (f1 &&& (1048575 : Int64)))), .second, .val (.ref a3)] [(.int (1 : Int32))])) _
      exact retN X4 hx (t := .boolean) Bd.returns (by simp) (hb hby at_95) hr
    · show Q1 n0 _ T4.heap _
      exact ⟨rfl, N5⟩
set_option maxRecDepth 65536 in
set_option maxHeartbeats 40000000 in
theorem rmK1 (l : Launch) (Z : State) (a0 : Array Value) (hw : ∀ d ∈ tables_1, d.before a0 Z = true) (ws : List Jvm.Cond) (b0 : Int32) (f1 : Int64) (l2 m3 : Int32) (U inn : UInt64) (F : Int64) (h0 : Heap) (n0 : Nat) (Z0 : n0 ≤ h0.size) (hU : (m3 &&& (4 : Int32) = 0 ∧ U = FP.i2d l2) ∨ (¬ m3 &&& (4 : Int32) = 0 ∧ U = FP.ddiv (FP.i2d l2) 4652218415073722368)) (hk : m3 &&& (3 : Int32) = 1) (hF : (f1 &&& (9223372036854775807 : Int64) = 0 ∧ F = 1) ∨ (¬ f1 &&& (9223372036854775807 : Int64) = 0 ∧ F = f1 &&& (9223372036854775807 : Int64))) (c1 : ifCond.holds .le (cmpValue (FP.dcmp 4607182418800017408 0) .l) = false) (c2 : Jvm.Free.Fl.Fin64 4607182418800017408) (c3 : ifCond.holds .ge (lcmpW F 1) = true) (q1 : FP.dmul 4607182418800017408 (FP.l2d F) = (FP.l2d F)) (fl : Jvm.Free.Fl.Fin64 (FP.l2d F)) (r1 : Jvm.Free.Fl.Fin64 (FP.dmul (FP.l2d F) (FP.l2d F))) (r2 : ifCond.holds .lt (cmpValue (FP.dcmp (FP.dmul (FP.l2d F) (FP.l2d F)) 553942754166571008) .l) = false) (r3 : FP.dmul (FP.l2d F) 4607182418800017318 = inn) (hR : (ifCond.holds .gt (cmpValue (FP.dcmp U inn) .g) = false ∧ ifCond.holds .ge (cmpValue (FP.dcmp U (FP.l2d F)) .g) = false) ∨ (ifCond.holds .gt (cmpValue (FP.dcmp U inn) .g) = true ∧ ifCond.holds .ge (cmpValue (FP.dcmp U (FP.l2d F)) .g) = true)) :
    MetFree l x (head1 (Jvm.Cond.code x code maxLocals ret :: ws) room_1) (fun a U => a = #[(.int b0), (.long f1), (.int l2), (.int m3)] ∧ Z.Warmed39 U.vm ∧ U.heap = h0) (fun _ _ _ _ _ => True) (fun _ U o U' => ∃ v L, o = .returned v ∧ Q1 n0 v U'.heap L ∧ FrameEnd U o U' L 1 7) := by
  refine MetFree.of_bodySF (plainFor_of_name pnL) hisR ?_
  intro p e s m args below meth c s₁ Bd hml0 hP hK
  obtain ⟨rfl, hZ, hh⟩ := hP
  have hx := Bd.exec
  have hby := Bd.bytes
  have hml : c.maxLocals = 13 := hml0
  have hown : s.vm.findClass "com/example/murmuration/murmuration/cluster/DistanceLimitSurelyAllowsPinLaw" = some m.cls := findClass_of_methodNamed Bd.named
  have hnm := (name_of_methodNamed Bd.named Bd.method).1
  have X0 : Stand p l e room_1 s m #[(.int b0), (.long f1), (.int l2), (.int m3)] below meth c s₁ [] 0 0 := Stand.of_body Bd
  have e0 : s₁.heap = h0 := by rw [← hh, Bd.state]; rfl
  have N0 := Fr.nil n0
  have pre0 : ∀ t, Steps p.tables e below (s₁.setTop (mkF m 0 #[.val (.int b0), .val (.long f1), .second, .val (.int l2), .val (.int m3), .unset, .unset, .unset, .unset, .unset, .unset, .unset, .unset] [])) t → Steps p.tables e below (s₁.setTop (entryFrame m #[(.int b0), (.long f1), (.int l2), (.int m3)] maxLocals)) t := fun t k => castTop (efL m b0 f1 l2 m3) k
  obtain ⟨T1, h1, X1, e1, E1, A1, D1, -, st1⟩ := newO X0 hx hZ hown (hw _ (List.mem_of_getElem? (i := 1) rfl)) (hw _ (List.mem_of_getElem? (i := 2) rfl)) (hw _ (List.mem_of_getElem? (i := 3) rfl)) e0 (g := (mkF m 119 #[.val (.int b0), .val (.long f1), .second, .val (.int l2), .val (.int m3), .val (.int (m3 &&& (3 : Int32))), .val (.double U), .second, .val (.long F), .second, .unset, .unset, .unset] [])) rfl (hb hby at_119) (by decide) (by decide)
  obtain ⟨a3, g1⟩ : ∃ z, z = h0.size := ⟨_, rfl⟩
  rw [← g1] at A1 D1 st1
  have Fbase : Fld Z h1 a3 "com/example/murmuration/murmuration/cluster/DistanceLimit" "base" "D" (.double 0) := (D1 (Or.inr (hw _ (List.mem_of_getElem? (i := 20) rfl))) (ty := .double) (by decide))
  have Ffactor : Fld Z h1 a3 "com/example/murmuration/murmuration/cluster/DistanceLimit" "factor" "J" (.long 0) := (D1 (Or.inr (hw _ (List.mem_of_getElem? (i := 22) rfl))) (ty := .long) (by decide))
  have Fsquared : Fld Z h1 a3 "com/example/murmuration/murmuration/cluster/DistanceLimit" "squared" "D" (.double 0) := (D1 (Or.inr (hw _ (List.mem_of_getElem? (i := 24) rfl))) (ty := .double) (by decide))
  have Ffast : Fld Z h1 a3 "com/example/murmuration/murmuration/cluster/DistanceLimit" "fast" "Z" (.int 0) := (D1 (Or.inr (hw _ (List.mem_of_getElem? (i := 30) rfl))) (ty := .boolean) (by decide))
  have Freach : Fld Z h1 a3 "com/example/murmuration/murmuration/cluster/DistanceLimit" "reach" "D" (.double 0) := (D1 (Or.inr (hw _ (List.mem_of_getElem? (i := 33) rfl))) (ty := .double) (by decide))
  have Finner : Fld Z h1 a3 "com/example/murmuration/murmuration/cluster/DistanceLimit" "inner" "D" (.double 0) := (D1 (Or.inr (hw _ (List.mem_of_getElem? (i := 36) rfl))) (ty := .double) (by decide))
  have Z1 : n0 ≤ h1.size := (Nat.le_trans Z0 E1.1)
  obtain ⟨_, _, ⟨T2, L2, k2, n2⟩, -, X2, ⟨Lc2, hQ2, l2', y2, z2⟩, st2⟩ := X1.specialBack hx (y := (⟨"com/example/murmuration/murmuration/cluster/DistanceLimit", "<init>", "(DJ)V"⟩ : MethodName)) rfl hown (mvT hZ (hw _ (List.mem_of_getElem? (i := 4) rfl))) (mvT hZ (hw _ (List.mem_of_getElem? (i := 5) rfl))) (mvT hZ (hw _ (List.mem_of_getElem? (i := 6) rfl))) (by decide) (backOf (W := 1) (rmIG l Z a0 hw [] a3 4607182418800017408 F (FP.l2d F) (FP.dmul (FP.l2d F) (FP.l2d F)) inn h1 n0 Z1 Fbase Ffactor Fsquared Ffast Freach Finner A1 (Nat.le_trans Z0 (Nat.le_of_eq g1.symm)) c1 c2 c3 q1 fl rfl r1 r2 r3) hZ (hw _ (List.mem_of_getElem? (i := 6) rfl)) (hw _ (List.mem_of_getElem? (i := 3) rfl)) (by decide) (by decide)) (g := (mkF m 126 #[.val (.int b0), .val (.long f1), .second, .val (.int l2), .val (.int m3), .val (.int (m3 &&& (3 : Int32))), .val (.double U), .second, .val (.long F), .second, .unset, .unset, .unset] [(.long F), (.double 4607182418800017408), (.ref a3), (.ref a3)])) rfl (by rw [hml]; rfl) (Steps.refl _) (a := a3) (argsL := [(.double 4607182418800017408), (.long F)]) (rest := [(.ref a3)]) (lenOf pdI rfl) rfl (by show 2 * 0 + _ ≤ _; exact Nat.le_of_eq rfl) (hb hby at_126) (fun _ _ => ⟨rfl, e1, (by decide : 1 + 0 ≤ _), (by decide : 7 + 0 ≤ _)⟩)
  dsimp only [Pt.U, Pt.locs, Pt.cells, Pt.slots] at X2 l2' y2 z2 st2 hQ2
  subst l2' y2 z2
  obtain ⟨rfl, N2, K2, g22, g23⟩ := hQ2
  have N3 := Fr.app N0 N2
  have Z2 : n0 ≤ T2.heap.size := (Nat.le_trans Z1 K2.1)
  have E2 : Exa Z T2.heap a3 "com/example/murmuration/murmuration/cluster/DistanceLimit" := (A1.keep K2)
  obtain ⟨cq, kq, qa, qb, qc⟩ := isOf hZ rfl E2
  rcases hR with ⟨hRa, hRb⟩ | ⟨hRa, hRb⟩
  · obtain ⟨_, _, ⟨T4, L4, k4, n4⟩, -, X4, ⟨Lc4, hQ4, l4', y4, z4⟩, st4⟩ := X2.virtualBack hx (y := (⟨"com/example/murmuration/murmuration/cluster/DistanceLimit", "surelyAllows", "(D)Z"⟩ : MethodName)) (z := (⟨"com/example/murmuration/murmuration/cluster/DistanceLimit", "surelyAllows", "(D)Z"⟩ : MethodName)) hown (mvT hZ (hw _ (List.mem_of_getElem? (i := 37) rfl))) (mvT hZ (hw _ (List.mem_of_getElem? (i := 38) rfl))) (notFace_of_selects (args := #[]) (mvT hZ (hw _ (List.mem_of_getElem? (i := 40) rfl)))) (mvT hZ (hw _ (List.mem_of_getElem? (i := 40) rfl))) (mvT hZ (hw _ (List.mem_of_getElem? (i := 39) rfl))) (by decide) (backOf (W := 0) (rmS l Z a0 hw [] a3 U inn (1 : Int32) T2.heap n0 Z2 g23 (Or.inl ⟨hRa, rfl⟩)) hZ (hw _ (List.mem_of_getElem? (i := 41) rfl)) (hw _ (List.mem_of_getElem? (i := 3) rfl)) (by decide) (by decide)) qa qc (g := (mkF m 135 #[.val (.int b0), .val (.long f1), .second, .val (.int l2), .val (.int m3), .val (.int (m3 &&& (3 : Int32))), .val (.double U), .second, .val (.long F), .second, .val (.ref a3), .unset, .unset] [(.double U), (.ref a3)])) rfl (by rw [hml]; rfl) (Steps.refl _) (argsL := [(.double U)]) (rest := []) (lenOf pdZ rfl) rfl (by show 2 * 0 + _ ≤ _; exact Nat.le_of_eq rfl) (hb hby at_135) (fun _ _ => ⟨rfl, rfl, (by decide : 1 + 0 ≤ _), (by decide : 7 + 0 ≤ _)⟩)
    dsimp only [Pt.U, Pt.locs, Pt.cells, Pt.slots] at X4 l4' y4 z4 st4 hQ4
    subst l4' y4 z4
    obtain ⟨rfl, N4, e4⟩ := hQ4
    have N5 := Fr.app N3 N4
    obtain ⟨fs, hr, hrun, hended, hW, hsame⟩ := X4.leave (v := some (.int (1 : Int32))) (fun h => by rw [Bd.returns] at h; cases h)
    refine ⟨_, _, pre0 _ ?_, hrun, hended, _, _, rfl, ?_, ⟨_, rfl⟩, hW, hsame.mono (by decide) (by decide)⟩
    · show Steps p.tables e below (s₁.setTop (mkF m 0 #[.val (.int b0), .val (.long f1), .second, .val (.int l2), .val (.int m3), .unset, .unset, .unset, .unset, .unset, .unset, .unset, .unset] [])) _
      refine own_segA X0 hx hZ hw hown hby b0 f1 l2 m3 hU _ ?_
      show Steps p.tables e below (s₁.setTop (mkF m 25 #[.val (.int b0), .val (.long f1), .second, .val (.int l2), .val (.int m3), .val (.int (m3 &&& (3 : Int32))), .val (.double U), .second, .unset, .unset, .unset, .unset, .unset] [])) _
      refine XS.iload X0.here hx rfl (hb hby at_25) rfl ?_
      show Steps p.tables e below (s₁.setTop (mkF m 27 #[.val (.int b0), .val (.long f1), .second, .val (.int l2), .val (.int m3), .val (.int (m3 &&& (3 : Int32))), .val (.double U), .second, .unset, .unset, .unset, .unset, .unset] [(.int (m3 &&& (3 : Int32)))])) _
      refine XS.ifYes X0.here hx rfl (pc0 := 27) (pc' := 96) rfl (hb hby at_27) rfl (own_ifNe.mpr (own_ne01 hk)) (by decide) (by decide) ?_
      show Steps p.tables e below (s₁.setTop (mkF m 96 #[.val (.int b0), .val (.long f1), .second, .val (.int l2), .val (.int m3), .val (.int (m3 &&& (3 : Int32))), .val (.double U), .second, .unset, .unset, .unset, .unset, .unset] [])) _
      refine XS.iload X0.here hx rfl (hb hby at_96) rfl ?_
      show Steps p.tables e below (s₁.setTop (mkF m 98 #[.val (.int b0), .val (.long f1), .second, .val (.int l2), .val (.int m3), .val (.int (m3 &&& (3 : Int32))), .val (.double U), .second, .unset, .unset, .unset, .unset, .unset] [(.int (m3 &&& (3 : Int32)))])) _
      refine XS.iconst X0.here hx rfl (hb hby at_98) ?_
      show Steps p.tables e below (s₁.setTop (mkF m 99 #[.val (.int b0), .val (.long f1), .second, .val (.int l2), .val (.int m3), .val (.int (m3 &&& (3 : Int32))), .val (.double U), .second, .unset, .unset, .unset, .unset, .unset] [(.int (1 : Int32)), (.int (m3 &&& (3 : Int32)))])) _
      refine XS.icmpNo X0.here hx rfl (hb hby at_99) rfl (teq hk).2 ?_
      show Steps p.tables e below (s₁.setTop (mkF m 102 #[.val (.int b0), .val (.long f1), .second, .val (.int l2), .val (.int m3), .val (.int (m3 &&& (3 : Int32))), .val (.double U), .second, .unset, .unset, .unset, .unset, .unset] [])) _
      refine own_seg1 X0 hx hZ hw hown hby b0 f1 l2 m3 hF _ ?_
      show Steps p.tables e below (s₁.setTop (mkF m 119 #[.val (.int b0), .val (.long f1), .second, .val (.int l2), .val (.int m3), .val (.int (m3 &&& (3 : Int32))), .val (.double U), .second, .val (.long F), .second, .unset, .unset, .unset] [])) _
      refine st1 _ ?_
      show Steps p.tables e below (T1.setTop (mkF m 122 #[.val (.int b0), .val (.long f1), .second, .val (.int l2), .val (.int m3), .val (.int (m3 &&& (3 : Int32))), .val (.double U), .second, .val (.long F), .second, .unset, .unset, .unset] [(.ref a3)])) _
      refine XS.dup X1.here hx rfl (hb hby at_122) rfl rfl ?_
      show Steps p.tables e below (T1.setTop (mkF m 123 #[.val (.int b0), .val (.long f1), .second, .val (.int l2), .val (.int m3), .val (.int (m3 &&& (3 : Int32))), .val (.double U), .second, .val (.long F), .second, .unset, .unset, .unset] [(.ref a3), (.ref a3)])) _
      refine XS.dconst1 X1.here hx rfl (hb hby at_123) rfl ?_
      show Steps p.tables e below (T1.setTop (mkF m 124 #[.val (.int b0), .val (.long f1), .second, .val (.int l2), .val (.int m3), .val (.int (m3 &&& (3 : Int32))), .val (.double U), .second, .val (.long F), .second, .unset, .unset, .unset] [(.double 4607182418800017408), (.ref a3), (.ref a3)])) _
      refine XS.lload X1.here hx rfl (hb hby at_124) rfl ?_
      show Steps p.tables e below (T1.setTop (mkF m 126 #[.val (.int b0), .val (.long f1), .second, .val (.int l2), .val (.int m3), .val (.int (m3 &&& (3 : Int32))), .val (.double U), .second, .val (.long F), .second, .unset, .unset, .unset] [(.long F), (.double 4607182418800017408), (.ref a3), (.ref a3)])) _
      refine st2.trans ?_
      show Steps p.tables e below (T2.setTop (mkF m 129 #[.val (.int b0), .val (.long f1), .second, .val (.int l2), .val (.int m3), .val (.int (m3 &&& (3 : Int32))), .val (.double U), .second, .val (.long F), .second, .unset, .unset, .unset] [(.ref a3)])) _
      refine XS.astore X2.here hx rfl (hb hby at_129) rfl rfl (l' := #[.val (.int b0), .val (.long f1), .second, .val (.int l2), .val (.int m3), .val (.int (m3 &&& (3 : Int32))), .val (.double U), .second, .val (.long F), .second, .val (.ref a3), .unset, .unset]) rfl ?_
      show Steps p.tables e below (T2.setTop (mkF m 131 #[.val (.int b0), .val (.long f1), .second, .val (.int l2), .val (.int m3), .val (.int (m3 &&& (3 : Int32))), .val (.double U), .second, .val (.long F), .second, .val (.ref a3), .unset, .unset] [])) _
      refine XS.aload X2.here hx rfl (hb hby at_131) rfl rfl ?_
      show Steps p.tables e below (T2.setTop (mkF m 133 #[.val (.int b0), .val (.long f1), .second, .val (.int l2), .val (.int m3), .val (.int (m3 &&& (3 : Int32))), .val (.double U), .second, .val (.long F), .second, .val (.ref a3), .unset, .unset] [(.ref a3)])) _
      refine XS.dload X2.here hx rfl (hb hby at_133) rfl ?_
      show Steps p.tables e below (T2.setTop (mkF m 135 #[.val (.int b0), .val (.long f1), .second, .val (.int l2), .val (.int m3), .val (.int (m3 &&& (3 : Int32))), .val (.double U), .second, .val (.long F), .second, .val (.ref a3), .unset, .unset] [(.double U), (.ref a3)])) _
      refine st4.trans ?_
      show Steps p.tables e below (T4.setTop (mkF m 138 #[.val (.int b0), .val (.long f1), .second, .val (.int l2), .val (.int m3), .val (.int (m3 &&& (3 : Int32))), .val (.double U), .second, .val (.long F), .second, .val (.ref a3), .unset, .unset] [(.int (1 : Int32))])) _
      refine XS.dload X4.here hx rfl (hb hby at_138) rfl ?_
      show Steps p.tables e below (T4.setTop (mkF m 140 #[.val (.int b0), .val (.long f1), .second, .val (.int l2), .val (.int m3), .val (.int (m3 &&& (3 : Int32))), .val (.double U), .second, .val (.long F), .second, .val (.ref a3), .unset, .unset] [(.double U), (.int (1 : Int32))])) _
      refine XS.lload X4.here hx rfl (hb hby at_140) rfl ?_
      show Steps p.tables e below (T4.setTop (mkF m 142 #[.val (.int b0), .val (.long f1), .second, .val (.int l2), .val (.int m3), .val (.int (m3 &&& (3 : Int32))), .val (.double U), .second, .val (.long F), .second, .val (.ref a3), .unset, .unset] [(.long F), (.double U), (.int (1 : Int32))])) _
      refine XS.l2dS X4.here hx rfl (hb hby at_142) rfl rfl ?_
      show Steps p.tables e below (T4.setTop (mkF m 143 #[.val (.int b0), .val (.long f1), .second, .val (.int l2), .val (.int m3), .val (.int (m3 &&& (3 : Int32))), .val (.double U), .second, .val (.long F), .second, .val (.ref a3), .unset, .unset] [(.double (FP.l2d F)), (.double U), (.int (1 : Int32))])) _
      refine XS.dcmpS X4.here hx rfl (hb hby at_143) rfl rfl ?_
      show Steps p.tables e below (T4.setTop (mkF m 144 #[.val (.int b0), .val (.long f1), .second, .val (.int l2), .val (.int m3), .val (.int (m3 &&& (3 : Int32))), .val (.double U), .second, .val (.long F), .second, .val (.ref a3), .unset, .unset] [(.int (cmpValue (FP.dcmp U (FP.l2d F)) .g)), (.int (1 : Int32))])) _
      refine XS.ifNo X4.here hx rfl (hb hby at_144) rfl hRb ?_
      show Steps p.tables e below (T4.setTop (mkF m 147 #[.val (.int b0), .val (.long f1), .second, .val (.int l2), .val (.int m3), .val (.int (m3 &&& (3 : Int32))), .val (.double U), .second, .val (.long F), .second, .val (.ref a3), .unset, .unset] [(.int (1 : Int32))])) _
      refine XS.iconst X4.here hx rfl (hb hby at_147) ?_
      show Steps p.tables e below (T4.setTop (mkF m 148 #[.val (.int b0), .val (.long f1), .second, .val (.int l2), .val (.int m3), .val (.int (m3 &&& (3 : Int32))), .val (.double U), .second, .val (.long F), .second, .val (.ref a3), .unset, .unset] [(.int (1 : Int32)), (.int (1 : Int32))])) _
      refine XS.goto X4.here hx rfl (pc0 := 148) (pc' := 152) rfl (hb hby at_148) (by decide) (by decide) ?_
      show Steps p.tables e below (T4.setTop (mkF m 152 #[.val (.int b0), .val (.long f1), .second, .val (.int l2), .val (.int m3), .val (.int (m3 &&& (3 : Int32))), .val (.double U), .second, .val (.long F), .second, .val (.ref a3), .unset, .unset] [(.int (1 : Int32)), (.int (1 : Int32))])) _
      refine XS.icmpNo X4.here hx rfl (hb hby at_152) rfl (by decide) ?_
      show Steps p.tables e below (T4.setTop (mkF m 155 #[.val (.int b0), .val (.long f1), .second, .val (.int l2), .val (.int m3), .val (.int (m3 &&& (3 : Int32))), .val (.double U), .second, .val (.long F), .second, .val (.ref a3), .unset, .unset] [])) _
      refine XS.iconst X4.here hx rfl (hb hby at_155) ?_
      show Steps p.tables e below (T4.setTop (mkF m 156 #[.val (.int b0), .val (.long f1), .second, .val (.int l2), .val (.int m3), .val (.int (m3 &&& (3 : Int32))), .val (.double U), .second, .val (.long F), .second, .val (.ref a3), .unset, .unset] [(.int (1 : Int32))])) _
      refine XS.goto X4.here hx rfl (pc0 := 156) (pc' := 160) rfl (hb hby at_156) (by decide) (by decide) ?_
      show Steps p.tables e below (T4.setTop (mkF m 160 #[.val (.int b0), .val (.long f1), .second, .val (.int l2), .val (.int m3), .val (.int (m3 &&& (3 : Int32))), .val (.double U), .second, .val (.long F), .second, .val (.ref a3), .unset, .unset] [(.int (1 : Int32))])) _
      exact retN X4 hx (t := .boolean) Bd.returns (by simp) (hb hby at_160) hr
    · show Q1 n0 _ T4.heap _
      exact ⟨rfl, N5⟩
  · obtain ⟨_, _, ⟨T4, L4, k4, n4⟩, -, X4, ⟨Lc4, hQ4, l4', y4, z4⟩, st4⟩ := X2.virtualBack hx (y := (⟨"com/example/murmuration/murmuration/cluster/DistanceLimit", "surelyAllows", "(D)Z"⟩ : MethodName)) (z := (⟨"com/example/murmuration/murmuration/cluster/DistanceLimit", "surelyAllows", "(D)Z"⟩ : MethodName)) hown (mvT hZ (hw _ (List.mem_of_getElem? (i := 37) rfl))) (mvT hZ (hw _ (List.mem_of_getElem? (i := 38) rfl))) (notFace_of_selects (args := #[]) (mvT hZ (hw _ (List.mem_of_getElem? (i := 40) rfl)))) (mvT hZ (hw _ (List.mem_of_getElem? (i := 40) rfl))) (mvT hZ (hw _ (List.mem_of_getElem? (i := 39) rfl))) (by decide) (backOf (W := 0) (rmS l Z a0 hw [] a3 U inn (0 : Int32) T2.heap n0 Z2 g23 (Or.inr ⟨hRa, rfl⟩)) hZ (hw _ (List.mem_of_getElem? (i := 41) rfl)) (hw _ (List.mem_of_getElem? (i := 3) rfl)) (by decide) (by decide)) qa qc (g := (mkF m 135 #[.val (.int b0), .val (.long f1), .second, .val (.int l2), .val (.int m3), .val (.int (m3 &&& (3 : Int32))), .val (.double U), .second, .val (.long F), .second, .val (.ref a3), .unset, .unset] [(.double U), (.ref a3)])) rfl (by rw [hml]; rfl) (Steps.refl _) (argsL := [(.double U)]) (rest := []) (lenOf pdZ rfl) rfl (by show 2 * 0 + _ ≤ _; exact Nat.le_of_eq rfl) (hb hby at_135) (fun _ _ => ⟨rfl, rfl, (by decide : 1 + 0 ≤ _), (by decide : 7 + 0 ≤ _)⟩)
    dsimp only [Pt.U, Pt.locs, Pt.cells, Pt.slots] at X4 l4' y4 z4 st4 hQ4
    subst l4' y4 z4
    obtain ⟨rfl, N4, e4⟩ := hQ4
    have N5 := Fr.app N3 N4
    obtain ⟨fs, hr, hrun, hended, hW, hsame⟩ := X4.leave (v := some (.int (1 : Int32))) (fun h => by rw [Bd.returns] at h; cases h)
    refine ⟨_, _, pre0 _ ?_, hrun, hended, _, _, rfl, ?_, ⟨_, rfl⟩, hW, hsame.mono (by decide) (by decide)⟩
    · show Steps p.tables e below (s₁.setTop (mkF m 0 #[.val (.int b0), .val (.long f1), .second, .val (.int l2), .val (.int m3), .unset, .unset, .unset, .unset, .unset, .unset, .unset, .unset] [])) _
      refine own_segA X0 hx hZ hw hown hby b0 f1 l2 m3 hU _ ?_
      show Steps p.tables e below (s₁.setTop (mkF m 25 #[.val (.int b0), .val (.long f1), .second, .val (.int l2), .val (.int m3), .val (.int (m3 &&& (3 : Int32))), .val (.double U), .second, .unset, .unset, .unset, .unset, .unset] [])) _
      refine XS.iload X0.here hx rfl (hb hby at_25) rfl ?_
      show Steps p.tables e below (s₁.setTop (mkF m 27 #[.val (.int b0), .val (.long f1), .second, .val (.int l2), .val (.int m3), .val (.int (m3 &&& (3 : Int32))), .val (.double U), .second, .unset, .unset, .unset, .unset, .unset] [(.int (m3 &&& (3 : Int32)))])) _
      refine XS.ifYes X0.here hx rfl (pc0 := 27) (pc' := 96) rfl (hb hby at_27) rfl (own_ifNe.mpr (own_ne01 hk)) (by decide) (by decide) ?_
      show Steps p.tables e below (s₁.setTop (mkF m 96 #[.val (.int b0), .val (.long f1), .second, .val (.int l2), .val (.int m3), .val (.int (m3 &&& (3 : Int32))), .val (.double U), .second, .unset, .unset, .unset, .unset, .unset] [])) _
      refine XS.iload X0.here hx rfl (hb hby at_96) rfl ?_
      show Steps p.tables e below (s₁.setTop (mkF m 98 #[.val (.int b0), .val (.long f1), .second, .val (.int l2), .val (.int m3), .val (.int (m3 &&& (3 : Int32))), .val (.double U), .second, .unset, .unset, .unset, .unset, .unset] [(.int (m3 &&& (3 : Int32)))])) _
      refine XS.iconst X0.here hx rfl (hb hby at_98) ?_
      show Steps p.tables e below (s₁.setTop (mkF m 99 #[.val (.int b0), .val (.long f1), .second, .val (.int l2), .val (.int m3), .val (.int (m3 &&& (3 : Int32))), .val (.double U), .second, .unset, .unset, .unset, .unset, .unset] [(.int (1 : Int32)), (.int (m3 &&& (3 : Int32)))])) _
      refine XS.icmpNo X0.here hx rfl (hb hby at_99) rfl (teq hk).2 ?_
      show Steps p.tables e below (s₁.setTop (mkF m 102 #[.val (.int b0), .val (.long f1), .second, .val (.int l2), .val (.int m3), .val (.int (m3 &&& (3 : Int32))), .val (.double U), .second, .unset, .unset, .unset, .unset, .unset] [])) _
      refine own_seg1 X0 hx hZ hw hown hby b0 f1 l2 m3 hF _ ?_
      show Steps p.tables e below (s₁.setTop (mkF m 119 #[.val (.int b0), .val (.long f1), .second, .val (.int l2), .val (.int m3), .val (.int (m3 &&& (3 : Int32))), .val (.double U), .second, .val (.long F), .second, .unset, .unset, .unset] [])) _
      refine st1 _ ?_
      show Steps p.tables e below (T1.setTop (mkF m 122 #[.val (.int b0), .val (.long f1), .second, .val (.int l2), .val (.int m3), .val (.int (m3 &&& (3 : Int32))), .val (.double U), .second, .val (.long F), .second, .unset, .unset, .unset] [(.ref a3)])) _
      refine XS.dup X1.here hx rfl (hb hby at_122) rfl rfl ?_
      show Steps p.tables e below (T1.setTop (mkF m 123 #[.val (.int b0), .val (.long f1), .second, .val (.int l2), .val (.int m3), .val (.int (m3 &&& (3 : Int32))), .val (.double U), .second, .val (.long F), .second, .unset, .unset, .unset] [(.ref a3), (.ref a3)])) _
      refine XS.dconst1 X1.here hx rfl (hb hby at_123) rfl ?_
      show Steps p.tables e below (T1.setTop (mkF m 124 #[.val (.int b0), .val (.long f1), .second, .val (.int l2), .val (.int m3), .val (.int (m3 &&& (3 : Int32))), .val (.double U), .second, .val (.long F), .second, .unset, .unset, .unset] [(.double 4607182418800017408), (.ref a3), (.ref a3)])) _
      refine XS.lload X1.here hx rfl (hb hby at_124) rfl ?_
      show Steps p.tables e below (T1.setTop (mkF m 126 #[.val (.int b0), .val (.long f1), .second, .val (.int l2), .val (.int m3), .val (.int (m3 &&& (3 : Int32))), .val (.double U), .second, .val (.long F), .second, .unset, .unset, .unset] [(.long F), (.double 4607182418800017408), (.ref a3), (.ref a3)])) _
      refine st2.trans ?_
      show Steps p.tables e below (T2.setTop (mkF m 129 #[.val (.int b0), .val (.long f1), .second, .val (.int l2), .val (.int m3), .val (.int (m3 &&& (3 : Int32))), .val (.double U), .second, .val (.long F), .second, .unset, .unset, .unset] [(.ref a3)])) _
      refine XS.astore X2.here hx rfl (hb hby at_129) rfl rfl (l' := #[.val (.int b0), .val (.long f1), .second, .val (.int l2), .val (.int m3), .val (.int (m3 &&& (3 : Int32))), .val (.double U), .second, .val (.long F), .second, .val (.ref a3), .unset, .unset]) rfl ?_
      show Steps p.tables e below (T2.setTop (mkF m 131 #[.val (.int b0), .val (.long f1), .second, .val (.int l2), .val (.int m3), .val (.int (m3 &&& (3 : Int32))), .val (.double U), .second, .val (.long F), .second, .val (.ref a3), .unset, .unset] [])) _
      refine XS.aload X2.here hx rfl (hb hby at_131) rfl rfl ?_
      show Steps p.tables e below (T2.setTop (mkF m 133 #[.val (.int b0), .val (.long f1), .second, .val (.int l2), .val (.int m3), .val (.int (m3 &&& (3 : Int32))), .val (.double U), .second, .val (.long F), .second, .val (.ref a3), .unset, .unset] [(.ref a3)])) _
      refine XS.dload X2.here hx rfl (hb hby at_133) rfl ?_
      show Steps p.tables e below (T2.setTop (mkF m 135 #[.val (.int b0), .val (.long f1), .second, .val (.int l2), .val (.int m3), .val (.int (m3 &&& (3 : Int32))), .val (.double U), .second, .val (.long F), .second, .val (.ref a3), .unset, .unset] [(.double U), (.ref a3)])) _
      refine st4.trans ?_
      show Steps p.tables e below (T4.setTop (mkF m 138 #[.val (.int b0), .val (.long f1), .second, .val (.int l2), .val (.int m3), .val (.int (m3 &&& (3 : Int32))), .val (.double U), .second, .val (.long F), .second, .val (.ref a3), .unset, .unset] [(.int (0 : Int32))])) _
      refine XS.dload X4.here hx rfl (hb hby at_138) rfl ?_
      show Steps p.tables e below (T4.setTop (mkF m 140 #[.val (.int b0), .val (.long f1), .second, .val (.int l2), .val (.int m3), .val (.int (m3 &&& (3 : Int32))), .val (.double U), .second, .val (.long F), .second, .val (.ref a3), .unset, .unset] [(.double U), (.int (0 : Int32))])) _
      refine XS.lload X4.here hx rfl (hb hby at_140) rfl ?_
      show Steps p.tables e below (T4.setTop (mkF m 142 #[.val (.int b0), .val (.long f1), .second, .val (.int l2), .val (.int m3), .val (.int (m3 &&& (3 : Int32))), .val (.double U), .second, .val (.long F), .second, .val (.ref a3), .unset, .unset] [(.long F), (.double U), (.int (0 : Int32))])) _
      refine XS.l2dS X4.here hx rfl (hb hby at_142) rfl rfl ?_
      show Steps p.tables e below (T4.setTop (mkF m 143 #[.val (.int b0), .val (.long f1), .second, .val (.int l2), .val (.int m3), .val (.int (m3 &&& (3 : Int32))), .val (.double U), .second, .val (.long F), .second, .val (.ref a3), .unset, .unset] [(.double (FP.l2d F)), (.double U), (.int (0 : Int32))])) _
      refine XS.dcmpS X4.here hx rfl (hb hby at_143) rfl rfl ?_
      show Steps p.tables e below (T4.setTop (mkF m 144 #[.val (.int b0), .val (.long f1), .second, .val (.int l2), .val (.int m3), .val (.int (m3 &&& (3 : Int32))), .val (.double U), .second, .val (.long F), .second, .val (.ref a3), .unset, .unset] [(.int (cmpValue (FP.dcmp U (FP.l2d F)) .g)), (.int (0 : Int32))])) _
      refine XS.ifYes X4.here hx rfl (pc0 := 144) (pc' := 151) rfl (hb hby at_144) rfl hRb (by decide) (by decide) ?_
      show Steps p.tables e below (T4.setTop (mkF m 151 #[.val (.int b0), .val (.long f1), .second, .val (.int l2), .val (.int m3), .val (.int (m3 &&& (3 : Int32))), .val (.double U), .second, .val (.long F), .second, .val (.ref a3), .unset, .unset] [(.int (0 : Int32))])) _
      refine XS.iconst X4.here hx rfl (hb hby at_151) ?_
      show Steps p.tables e below (T4.setTop (mkF m 152 #[.val (.int b0), .val (.long f1), .second, .val (.int l2), .val (.int m3), .val (.int (m3 &&& (3 : Int32))), .val (.double U), .second, .val (.long F), .second, .val (.ref a3), .unset, .unset] [(.int (0 : Int32)), (.int (0 : Int32))])) _
      refine XS.icmpNo X4.here hx rfl (hb hby at_152) rfl (by decide) ?_
      show Steps p.tables e below (T4.setTop (mkF m 155 #[.val (.int b0), .val (.long f1), .second, .val (.int l2), .val (.int m3), .val (.int (m3 &&& (3 : Int32))), .val (.double U), .second, .val (.long F), .second, .val (.ref a3), .unset, .unset] [])) _
      refine XS.iconst X4.here hx rfl (hb hby at_155) ?_
      show Steps p.tables e below (T4.setTop (mkF m 156 #[.val (.int b0), .val (.long f1), .second, .val (.int l2), .val (.int m3), .val (.int (m3 &&& (3 : Int32))), .val (.double U), .second, .val (.long F), .second, .val (.ref a3), .unset, .unset] [(.int (1 : Int32))])) _
      refine XS.goto X4.here hx rfl (pc0 := 156) (pc' := 160) rfl (hb hby at_156) (by decide) (by decide) ?_
      show Steps p.tables e below (T4.setTop (mkF m 160 #[.val (.int b0), .val (.long f1), .second, .val (.int l2), .val (.int m3), .val (.int (m3 &&& (3 : Int32))), .val (.double U), .second, .val (.long F), .second, .val (.ref a3), .unset, .unset] [(.int (1 : Int32))])) _
      exact retN X4 hx (t := .boolean) Bd.returns (by simp) (hb hby at_160) hr
    · show Q1 n0 _ T4.heap _
      exact ⟨rfl, N5⟩
set_option maxRecDepth 65536 in
set_option maxHeartbeats 40000000 in
theorem rmK2 (l : Launch) (Z : State) (a0 : Array Value) (hw : ∀ d ∈ tables_1, d.before a0 Z = true) (ws : List Jvm.Cond) (b0 : Int32) (f1 : Int64) (l2 m3 : Int32) (U S lim : UInt64) (h0 : Heap) (n0 : Nat) (Z0 : n0 ≤ h0.size) (hU : (m3 &&& (4 : Int32) = 0 ∧ U = FP.i2d l2) ∨ (¬ m3 &&& (4 : Int32) = 0 ∧ U = FP.ddiv (FP.i2d l2) 4652218415073722368)) (hk0 : ¬ m3 &&& (3 : Int32) = 0) (hk1 : ¬ m3 &&& (3 : Int32) = 1) (hS : (m3 &&& (3 : Int32) = 2 ∧ S = 2355382605114769408) ∨ (¬ m3 &&& (3 : Int32) = 2 ∧ S = 7309342195222315008)) (c1 : ifCond.holds .le (cmpValue (FP.dcmp S 0) .l) = false) (c2 : Jvm.Free.Fl.Fin64 S) (c3 : ifCond.holds .ge (lcmpW ((1 : Int64) + (f1 &&& (1048575 : Int64))) 1) = true) (q1 : FP.dmul S (FP.l2d ((1 : Int64) + (f1 &&& (1048575 : Int64)))) = lim) (fl : Jvm.Free.Fl.Fin64 lim) (hI : (Jvm.Free.Fl.Fin64 (FP.dmul lim lim) ∧ ifCond.holds .lt (cmpValue (FP.dcmp (FP.dmul lim lim) 553942754166571008) .l) = true) ∨ ¬ Jvm.Free.Fl.Fin64 (FP.dmul lim lim)) (nx : Jvm.Free.Fl.NoNaN64 (FP.dmul U S)) (hR : ifCond.holds .gt (cmpValue (FP.dcmp (FP.dmul U S) 18442240474082181120) .g) = true) :
    MetFree l x (head1 (Jvm.Cond.code x code maxLocals ret :: ws) room_1) (fun a U => a = #[(.int b0), (.long f1), (.int l2), (.int m3)] ∧ Z.Warmed39 U.vm ∧ U.heap = h0) (fun _ _ _ _ _ => True) (fun _ U o U' => ∃ v L, o = .returned v ∧ Q1 n0 v U'.heap L ∧ FrameEnd U o U' L 1 7) := by
  refine MetFree.of_bodySF (plainFor_of_name pnL) hisR ?_
  intro p e s m args below meth c s₁ Bd hml0 hP hK
  obtain ⟨rfl, hZ, hh⟩ := hP
  have hx := Bd.exec
  have hby := Bd.bytes
  have hml : c.maxLocals = 13 := hml0
  have hown : s.vm.findClass "com/example/murmuration/murmuration/cluster/DistanceLimitSurelyAllowsPinLaw" = some m.cls := findClass_of_methodNamed Bd.named
  have hnm := (name_of_methodNamed Bd.named Bd.method).1
  have X0 : Stand p l e room_1 s m #[(.int b0), (.long f1), (.int l2), (.int m3)] below meth c s₁ [] 0 0 := Stand.of_body Bd
  have e0 : s₁.heap = h0 := by rw [← hh, Bd.state]; rfl
  have N0 := Fr.nil n0
  have pre0 : ∀ t, Steps p.tables e below (s₁.setTop (mkF m 0 #[.val (.int b0), .val (.long f1), .second, .val (.int l2), .val (.int m3), .unset, .unset, .unset, .unset, .unset, .unset, .unset, .unset] [])) t → Steps p.tables e below (s₁.setTop (entryFrame m #[(.int b0), (.long f1), (.int l2), (.int m3)] maxLocals)) t := fun t k => castTop (efL m b0 f1 l2 m3) k
  obtain ⟨T1, h1, X1, e1, E1, A1, D1, -, st1⟩ := newO X0 hx hZ hown (hw _ (List.mem_of_getElem? (i := 1) rfl)) (hw _ (List.mem_of_getElem? (i := 2) rfl)) (hw _ (List.mem_of_getElem? (i := 3) rfl)) e0 (g := (mkF m 187 #[.val (.int b0), .val (.long f1), .second, .val (.int l2), .val (.int m3), .val (.int (m3 &&& (3 : Int32))), .val (.double U), .second, .val (.long ((1 : Int64) + (f1 &&& (1048575 : Int64)))), .second, .val (.double S), .second, .unset] [])) rfl (hb hby at_187) (by decide) (by decide)
  obtain ⟨a3, g1⟩ : ∃ z, z = h0.size := ⟨_, rfl⟩
  rw [← g1] at A1 D1 st1
  have Fbase : Fld Z h1 a3 "com/example/murmuration/murmuration/cluster/DistanceLimit" "base" "D" (.double 0) := (D1 (Or.inr (hw _ (List.mem_of_getElem? (i := 20) rfl))) (ty := .double) (by decide))
  have Ffactor : Fld Z h1 a3 "com/example/murmuration/murmuration/cluster/DistanceLimit" "factor" "J" (.long 0) := (D1 (Or.inr (hw _ (List.mem_of_getElem? (i := 22) rfl))) (ty := .long) (by decide))
  have Fsquared : Fld Z h1 a3 "com/example/murmuration/murmuration/cluster/DistanceLimit" "squared" "D" (.double 0) := (D1 (Or.inr (hw _ (List.mem_of_getElem? (i := 24) rfl))) (ty := .double) (by decide))
  have Ffast : Fld Z h1 a3 "com/example/murmuration/murmuration/cluster/DistanceLimit" "fast" "Z" (.int 0) := (D1 (Or.inr (hw _ (List.mem_of_getElem? (i := 30) rfl))) (ty := .boolean) (by decide))
  have Freach : Fld Z h1 a3 "com/example/murmuration/murmuration/cluster/DistanceLimit" "reach" "D" (.double 0) := (D1 (Or.inr (hw _ (List.mem_of_getElem? (i := 33) rfl))) (ty := .double) (by decide))
  have Finner : Fld Z h1 a3 "com/example/murmuration/murmuration/cluster/DistanceLimit" "inner" "D" (.double 0) := (D1 (Or.inr (hw _ (List.mem_of_getElem? (i := 36) rfl))) (ty := .double) (by decide))
  have Z1 : n0 ≤ h1.size := (Nat.le_trans Z0 E1.1)
  have con : MetFree l (⟨"com/example/murmuration/murmuration/cluster/DistanceLimit", "<init>", "(DJ)V"⟩ : MethodName) (head1 [Jvm.Cond.code (⟨"com/example/murmuration/murmuration/cluster/DistanceLimit", "<init>", "(DJ)V"⟩ : MethodName) prog_15_method_1_code 7 none] ({ frames := 2, cells := 0, slots := 0, locals := 27 } : Room)) (fun a U => a = #[(.ref a3), (.double S), (.long ((1 : Int64) + (f1 &&& (1048575 : Int64))))] ∧ Z.Warmed39 U.vm ∧ U.heap = h1) (fun _ _ _ _ _ => True) (fun _ U o U' => ∃ v L, o = .returned v ∧ QI Z a3 18442240474082181120 h1 n0 v U'.heap L ∧ FrameEnd U o U' L ({ frames := 2, cells := 0, slots := 0, locals := 27 } : Room).cells ({ frames := 2, cells := 0, slots := 0, locals := 27 } : Room).slots) := hI.elim (fun q => rmIL l Z a0 hw [] a3 S ((1 : Int64) + (f1 &&& (1048575 : Int64))) lim (FP.dmul lim lim) 18442240474082181120 h1 n0 Z1 Fbase Ffactor Fsquared Ffast Freach Finner A1 (Nat.le_trans Z0 (Nat.le_of_eq g1.symm)) c1 c2 c3 q1 fl rfl q.1 q.2 rfl) (fun q => rmIN l Z a0 hw [] a3 S ((1 : Int64) + (f1 &&& (1048575 : Int64))) lim (FP.dmul lim lim) 18442240474082181120 h1 n0 Z1 Fbase Ffactor Fsquared Ffast Freach Finner A1 (Nat.le_trans Z0 (Nat.le_of_eq g1.symm)) c1 c2 c3 q1 fl rfl q rfl)
  obtain ⟨_, _, ⟨T2, L2, k2, n2⟩, -, X2, ⟨Lc2, hQ2, l2', y2, z2⟩, st2⟩ := X1.specialBack hx (y := (⟨"com/example/murmuration/murmuration/cluster/DistanceLimit", "<init>", "(DJ)V"⟩ : MethodName)) rfl hown (mvT hZ (hw _ (List.mem_of_getElem? (i := 4) rfl))) (mvT hZ (hw _ (List.mem_of_getElem? (i := 5) rfl))) (mvT hZ (hw _ (List.mem_of_getElem? (i := 6) rfl))) (by decide) (backOf (W := 1) (con) hZ (hw _ (List.mem_of_getElem? (i := 6) rfl)) (hw _ (List.mem_of_getElem? (i := 3) rfl)) (by decide) (by decide)) (g := (mkF m 195 #[.val (.int b0), .val (.long f1), .second, .val (.int l2), .val (.int m3), .val (.int (m3 &&& (3 : Int32))), .val (.double U), .second, .val (.long ((1 : Int64) + (f1 &&& (1048575 : Int64)))), .second, .val (.double S), .second, .unset] [(.long ((1 : Int64) + (f1 &&& (1048575 : Int64)))), (.double S), (.ref a3), (.ref a3)])) rfl (by rw [hml]; rfl) (Steps.refl _) (a := a3) (argsL := [(.double S), (.long ((1 : Int64) + (f1 &&& (1048575 : Int64))))]) (rest := [(.ref a3)]) (lenOf pdI rfl) rfl (by show 2 * 0 + _ ≤ _; exact Nat.le_of_eq rfl) (hb hby at_195) (fun _ _ => ⟨rfl, e1, (by decide : 1 + 0 ≤ _), (by decide : 7 + 0 ≤ _)⟩)
  dsimp only [Pt.U, Pt.locs, Pt.cells, Pt.slots] at X2 l2' y2 z2 st2 hQ2
  subst l2' y2 z2
  obtain ⟨rfl, N2, K2, g22, g23⟩ := hQ2
  have N3 := Fr.app N0 N2
  have Z2 : n0 ≤ T2.heap.size := (Nat.le_trans Z1 K2.1)
  have E2 : Exa Z T2.heap a3 "com/example/murmuration/murmuration/cluster/DistanceLimit" := (A1.keep K2)
  obtain ⟨cq, kq, qa, qb, qc⟩ := isOf hZ rfl E2
  obtain ⟨_, _, ⟨T4, L4, k4, n4⟩, -, X4, ⟨Lc4, hQ4, l4', y4, z4⟩, st4⟩ := X2.virtualBack hx (y := (⟨"com/example/murmuration/murmuration/cluster/DistanceLimit", "surelyAllows", "(D)Z"⟩ : MethodName)) (z := (⟨"com/example/murmuration/murmuration/cluster/DistanceLimit", "surelyAllows", "(D)Z"⟩ : MethodName)) hown (mvT hZ (hw _ (List.mem_of_getElem? (i := 37) rfl))) (mvT hZ (hw _ (List.mem_of_getElem? (i := 38) rfl))) (notFace_of_selects (args := #[]) (mvT hZ (hw _ (List.mem_of_getElem? (i := 40) rfl)))) (mvT hZ (hw _ (List.mem_of_getElem? (i := 40) rfl))) (mvT hZ (hw _ (List.mem_of_getElem? (i := 39) rfl))) (by decide) (backOf (W := 0) (rmS l Z a0 hw [] a3 (FP.dmul U S) 18442240474082181120 (0 : Int32) T2.heap n0 Z2 g23 (Or.inr ⟨hR, rfl⟩)) hZ (hw _ (List.mem_of_getElem? (i := 41) rfl)) (hw _ (List.mem_of_getElem? (i := 3) rfl)) (by decide) (by decide)) qa qc (g := (mkF m 207 #[.val (.int b0), .val (.long f1), .second, .val (.int l2), .val (.int m3), .val (.int (m3 &&& (3 : Int32))), .val (.double U), .second, .val (.long ((1 : Int64) + (f1 &&& (1048575 : Int64)))), .second, .val (.double S), .second, .val (.ref a3)] [(.double (FP.dmul U S)), (.ref a3)])) rfl (by rw [hml]; rfl) (Steps.refl _) (argsL := [(.double (FP.dmul U S))]) (rest := []) (lenOf pdZ rfl) rfl (by show 2 * 0 + _ ≤ _; exact Nat.le_of_eq rfl) (hb hby at_207) (fun _ _ => ⟨rfl, rfl, (by decide : 1 + 0 ≤ _), (by decide : 7 + 0 ≤ _)⟩)
  dsimp only [Pt.U, Pt.locs, Pt.cells, Pt.slots] at X4 l4' y4 z4 st4 hQ4
  subst l4' y4 z4
  obtain ⟨rfl, N4, e4⟩ := hQ4
  have N5 := Fr.app N3 N4
  obtain ⟨fs, hr, hrun, hended, hW, hsame⟩ := X4.leave (v := some (.int (1 : Int32))) (fun h => by rw [Bd.returns] at h; cases h)
  refine ⟨_, _, pre0 _ ?_, hrun, hended, _, _, rfl, ?_, ⟨_, rfl⟩, hW, hsame.mono (by decide) (by decide)⟩
  · show Steps p.tables e below (s₁.setTop (mkF m 0 #[.val (.int b0), .val (.long f1), .second, .val (.int l2), .val (.int m3), .unset, .unset, .unset, .unset, .unset, .unset, .unset, .unset] [])) _
    refine own_segA X0 hx hZ hw hown hby b0 f1 l2 m3 hU _ ?_
    show Steps p.tables e below (s₁.setTop (mkF m 25 #[.val (.int b0), .val (.long f1), .second, .val (.int l2), .val (.int m3), .val (.int (m3 &&& (3 : Int32))), .val (.double U), .second, .unset, .unset, .unset, .unset, .unset] [])) _
    refine XS.iload X0.here hx rfl (hb hby at_25) rfl ?_
    show Steps p.tables e below (s₁.setTop (mkF m 27 #[.val (.int b0), .val (.long f1), .second, .val (.int l2), .val (.int m3), .val (.int (m3 &&& (3 : Int32))), .val (.double U), .second, .unset, .unset, .unset, .unset, .unset] [(.int (m3 &&& (3 : Int32)))])) _
    refine XS.ifYes X0.here hx rfl (pc0 := 27) (pc' := 96) rfl (hb hby at_27) rfl (own_ifNe.mpr hk0) (by decide) (by decide) ?_
    show Steps p.tables e below (s₁.setTop (mkF m 96 #[.val (.int b0), .val (.long f1), .second, .val (.int l2), .val (.int m3), .val (.int (m3 &&& (3 : Int32))), .val (.double U), .second, .unset, .unset, .unset, .unset, .unset] [])) _
    refine XS.iload X0.here hx rfl (hb hby at_96) rfl ?_
    show Steps p.tables e below (s₁.setTop (mkF m 98 #[.val (.int b0), .val (.long f1), .second, .val (.int l2), .val (.int m3), .val (.int (m3 &&& (3 : Int32))), .val (.double U), .second, .unset, .unset, .unset, .unset, .unset] [(.int (m3 &&& (3 : Int32)))])) _
    refine XS.iconst X0.here hx rfl (hb hby at_98) ?_
    show Steps p.tables e below (s₁.setTop (mkF m 99 #[.val (.int b0), .val (.long f1), .second, .val (.int l2), .val (.int m3), .val (.int (m3 &&& (3 : Int32))), .val (.double U), .second, .unset, .unset, .unset, .unset, .unset] [(.int (1 : Int32)), (.int (m3 &&& (3 : Int32)))])) _
    refine XS.icmpYes X0.here hx rfl (pc0 := 99) (pc' := 161) rfl (hb hby at_99) rfl (feq hk1).2 (by decide) (by decide) ?_
    show Steps p.tables e below (s₁.setTop (mkF m 161 #[.val (.int b0), .val (.long f1), .second, .val (.int l2), .val (.int m3), .val (.int (m3 &&& (3 : Int32))), .val (.double U), .second, .unset, .unset, .unset, .unset, .unset] [])) _
    refine own_seg2 X0 hx hZ hw hown hby b0 f1 l2 m3 hS _ ?_
    show Steps p.tables e below (s₁.setTop (mkF m 187 #[.val (.int b0), .val (.long f1), .second, .val (.int l2), .val (.int m3), .val (.int (m3 &&& (3 : Int32))), .val (.double U), .second, .val (.long ((1 : Int64) + (f1 &&& (1048575 : Int64)))), .second, .val (.double S), .second, .unset] [])) _
    refine st1 _ ?_
    show Steps p.tables e below (T1.setTop (mkF m 190 #[.val (.int b0), .val (.long f1), .second, .val (.int l2), .val (.int m3), .val (.int (m3 &&& (3 : Int32))), .val (.double U), .second, .val (.long ((1 : Int64) + (f1 &&& (1048575 : Int64)))), .second, .val (.double S), .second, .unset] [(.ref a3)])) _
    refine XS.dup X1.here hx rfl (hb hby at_190) rfl rfl ?_
    show Steps p.tables e below (T1.setTop (mkF m 191 #[.val (.int b0), .val (.long f1), .second, .val (.int l2), .val (.int m3), .val (.int (m3 &&& (3 : Int32))), .val (.double U), .second, .val (.long ((1 : Int64) + (f1 &&& (1048575 : Int64)))), .second, .val (.double S), .second, .unset] [(.ref a3), (.ref a3)])) _
    refine XS.dload X1.here hx rfl (hb hby at_191) rfl ?_
    show Steps p.tables e below (T1.setTop (mkF m 193 #[.val (.int b0), .val (.long f1), .second, .val (.int l2), .val (.int m3), .val (.int (m3 &&& (3 : Int32))), .val (.double U), .second, .val (.long ((1 : Int64) + (f1 &&& (1048575 : Int64)))), .second, .val (.double S), .second, .unset] [(.double S), (.ref a3), (.ref a3)])) _
    refine XS.lload X1.here hx rfl (hb hby at_193) rfl ?_
    show Steps p.tables e below (T1.setTop (mkF m 195 #[.val (.int b0), .val (.long f1), .second, .val (.int l2), .val (.int m3), .val (.int (m3 &&& (3 : Int32))), .val (.double U), .second, .val (.long ((1 : Int64) + (f1 &&& (1048575 : Int64)))), .second, .val (.double S), .second, .unset] [(.long ((1 : Int64) + (f1 &&& (1048575 : Int64)))), (.double S), (.ref a3), (.ref a3)])) _
    refine st2.trans ?_
    show Steps p.tables e below (T2.setTop (mkF m 198 #[.val (.int b0), .val (.long f1), .second, .val (.int l2), .val (.int m3), .val (.int (m3 &&& (3 : Int32))), .val (.double U), .second, .val (.long ((1 : Int64) + (f1 &&& (1048575 : Int64)))), .second, .val (.double S), .second, .unset] [(.ref a3)])) _
    refine XS.astore X2.here hx rfl (hb hby at_198) rfl rfl (l' := #[.val (.int b0), .val (.long f1), .second, .val (.int l2), .val (.int m3), .val (.int (m3 &&& (3 : Int32))), .val (.double U), .second, .val (.long ((1 : Int64) + (f1 &&& (1048575 : Int64)))), .second, .val (.double S), .second, .val (.ref a3)]) rfl ?_
    show Steps p.tables e below (T2.setTop (mkF m 200 #[.val (.int b0), .val (.long f1), .second, .val (.int l2), .val (.int m3), .val (.int (m3 &&& (3 : Int32))), .val (.double U), .second, .val (.long ((1 : Int64) + (f1 &&& (1048575 : Int64)))), .second, .val (.double S), .second, .val (.ref a3)] [])) _
    refine XS.aload X2.here hx rfl (hb hby at_200) rfl rfl ?_
    show Steps p.tables e below (T2.setTop (mkF m 202 #[.val (.int b0), .val (.long f1), .second, .val (.int l2), .val (.int m3), .val (.int (m3 &&& (3 : Int32))), .val (.double U), .second, .val (.long ((1 : Int64) + (f1 &&& (1048575 : Int64)))), .second, .val (.double S), .second, .val (.ref a3)] [(.ref a3)])) _
    refine XS.dload X2.here hx rfl (hb hby at_202) rfl ?_
    show Steps p.tables e below (T2.setTop (mkF m 204 #[.val (.int b0), .val (.long f1), .second, .val (.int l2), .val (.int m3), .val (.int (m3 &&& (3 : Int32))), .val (.double U), .second, .val (.long ((1 : Int64) + (f1 &&& (1048575 : Int64)))), .second, .val (.double S), .second, .val (.ref a3)] [(.double U), (.ref a3)])) _
    refine XS.dload X2.here hx rfl (hb hby at_204) rfl ?_
    show Steps p.tables e below (T2.setTop (mkF m 206 #[.val (.int b0), .val (.long f1), .second, .val (.int l2), .val (.int m3), .val (.int (m3 &&& (3 : Int32))), .val (.double U), .second, .val (.long ((1 : Int64) + (f1 &&& (1048575 : Int64)))), .second, .val (.double S), .second, .val (.ref a3)] [(.double S), (.double U), (.ref a3)])) _
    refine XS.dmulS X2.here hx rfl (hb hby at_206) rfl nx rfl ?_
    show Steps p.tables e below (T2.setTop (mkF m 207 #[.val (.int b0), .val (.long f1), .second, .val (.int l2), .val (.int m3), .val (.int (m3 &&& (3 : Int32))), .val (.double U), .second, .val (.long ((1 : Int64) + (f1 &&& (1048575 : Int64)))), .second, .val (.double S), .second, .val (.ref a3)] [(.double (FP.dmul U S)), (.ref a3)])) _
    refine st4.trans ?_
    show Steps p.tables e below (T4.setTop (mkF m 210 #[.val (.int b0), .val (.long f1), .second, .val (.int l2), .val (.int m3), .val (.int (m3 &&& (3 : Int32))), .val (.double U), .second, .val (.long ((1 : Int64) + (f1 &&& (1048575 : Int64)))), .second, .val (.double S), .second, .val (.ref a3)] [(.int (0 : Int32))])) _
    refine XS.ifYes X4.here hx rfl (pc0 := 210) (pc' := 222) rfl (hb hby at_210) rfl (by decide) (by decide) (by decide) ?_
    show Steps p.tables e below (T4.setTop (mkF m 222 #[.val (.int b0), .val (.long f1), .second, .val (.int l2), .val (.int m3), .val (.int (m3 &&& (3 : Int32))), .val (.double U), .second, .val (.long ((1 : Int64) + (f1 &&& (1048575 : Int64)))), .second, .val (.double S), .second, .val (.ref a3)] [])) _
    refine XS.iconst X4.here hx rfl (hb hby at_222) ?_
    show Steps p.tables e below (T4.setTop (mkF m 223 #[.val (.int b0), .val (.long f1), .second, .val (.int l2), .val (.int m3), .val (.int (m3 &&& (3 : Int32))), .val (.double U), .second, .val (.long ((1 : Int64) + (f1 &&& (1048575 : Int64)))), .second, .val (.double S), .second, .val (.ref a3)] [(.int (1 : Int32))])) _
    refine XS.goto X4.here hx rfl (pc0 := 223) (pc' := 227) rfl (hb hby at_223) (by decide) (by decide) ?_
    show Steps p.tables e below (T4.setTop (mkF m 227 #[.val (.int b0), .val (.long f1), .second, .val (.int l2), .val (.int m3), .val (.int (m3 &&& (3 : Int32))), .val (.double U), .second, .val (.long ((1 : Int64) + (f1 &&& (1048575 : Int64)))), .second, .val (.double S), .second, .val (.ref a3)] [(.int (1 : Int32))])) _
    exact retN X4 hx (t := .boolean) Bd.returns (by simp) (hb hby at_227) hr
  · show Q1 n0 _ T4.heap _
    exact ⟨rfl, N5⟩
set_option maxRecDepth 65536 in
set_option maxHeartbeats 40000000 in
theorem own_all (l : Launch) (Z : State) (a0 : Array Value) (hw : ∀ d ∈ tables_1, d.before a0 Z = true) (ws : List Jvm.Cond) (b0 : Int32) (f1 : Int64) (l2 m3 : Int32) (h0 : Heap) (n0 : Nat) (Z0 : n0 ≤ h0.size) :
    MetFree l x (head1 (Jvm.Cond.code x code maxLocals ret :: ws) room_1) (fun a U => a = #[(.int b0), (.long f1), (.int l2), (.int m3)] ∧ Z.Warmed39 U.vm ∧ U.heap = h0) (fun _ _ _ _ _ => True) (fun _ U o U' => ∃ v L, o = .returned v ∧ Q1 n0 v U'.heap L ∧ FrameEnd U o U' L 1 7) := by
  obtain ⟨U, hU⟩ : ∃ U : UInt64, (m3 &&& (4 : Int32) = 0 ∧ U = FP.i2d l2) ∨ (¬ m3 &&& (4 : Int32) = 0 ∧ U = FP.ddiv (FP.i2d l2) 4652218415073722368) := by
    by_cases h : m3 &&& (4 : Int32) = 0
    · exact ⟨_, Or.inl ⟨h, rfl⟩⟩
    · exact ⟨_, Or.inr ⟨h, rfl⟩⟩
  have hU' : U = FP.i2d l2 ∨ U = FP.ddiv (FP.i2d l2) 4652218415073722368 := hU.elim (fun q => Or.inl q.2) (fun q => Or.inr q.2)
  obtain ⟨u, hu, u1, u2⟩ := own_units l2 hU'
  obtain ⟨fU, v1, v2⟩ := own_units_fin l2 hU'
  have nU := own_nn_fin fU
  obtain ⟨g1, g2⟩ := own_factor f1
  by_cases k0 : m3 &&& (3 : Int32) = 0
  · obtain ⟨q1, hL⟩ := own_prod0 b0 f1
    have hsq := own_sq hL
    exact rmK0 l Z a0 hw ws b0 f1 l2 m3 U _ h0 n0 Z0 hU k0 (own_pos (own_base b0).1) (Jvm.Free.Fl.l2d_fin _) (own_lcGe g1) q1 (Jvm.Free.Fl.l2d_fin _) hsq.1 hsq.2 rfl (own_lim hL nU hu u2)
  · by_cases k1 : m3 &&& (3 : Int32) = 1
    · obtain ⟨F, hF⟩ : ∃ F : Int64, (f1 &&& (9223372036854775807 : Int64) = 0 ∧ F = 1) ∨ (¬ f1 &&& (9223372036854775807 : Int64) = 0 ∧ F = f1 &&& (9223372036854775807 : Int64)) := by
        by_cases h : f1 &&& (9223372036854775807 : Int64) = 0
        · exact ⟨_, Or.inl ⟨h, rfl⟩⟩
        · exact ⟨_, Or.inr ⟨h, rfl⟩⟩
      have hL : 1 ≤ F.toInt := by
        rcases hF with ⟨_, rfl⟩ | ⟨q, rfl⟩
        · decide
        · exact own_factor1 f1 q
      have hsq := own_sq hL
      exact rmK1 l Z a0 hw ws b0 f1 l2 m3 U _ F h0 n0 Z0 hU k1 hF (by decide +kernel) (Jvm.Free.Fl.fin64_core.mpr own_f1) (own_lcGe hL) (Jvm.FP.Core.one_dmul (Jvm.FP.Core.l2d_notNaN F)) (Jvm.Free.Fl.l2d_fin F) hsq.1 hsq.2 rfl (own_lim hL nU hu u2)
    · by_cases k2 : m3 &&& (3 : Int32) = 2
      · obtain ⟨s1, s2, s3⟩ := own_small g1 g2
        have hp := own_prod2 fU v1 v2
        exact rmK2 l Z a0 hw ws b0 f1 l2 m3 U 2355382605114769408 _ h0 n0 Z0 hU k0 k1 (Or.inl ⟨k2, rfl⟩) (by decide +kernel) (Jvm.Free.Fl.fin64_core.mpr own_f500) (own_lcGe g1) rfl s1 (Or.inl ⟨s2, s3⟩) hp.noNaN (by rw [dcmp_ninf hp]; rfl)
      · obtain ⟨s1, s2⟩ := own_large g1 g2
        have hp := own_prod3 fU v1 v2
        exact rmK2 l Z a0 hw ws b0 f1 l2 m3 U 7309342195222315008 _ h0 n0 Z0 hU k0 k1 (Or.inr ⟨k2, rfl⟩) (by decide +kernel) (Jvm.Free.Fl.fin64_core.mpr own_f600) (own_lcGe g1) rfl s1 (Or.inr s2) hp.noNaN (by rw [dcmp_ninf hp]; rfl)
set_option maxRecDepth 65536 in
set_option maxHeartbeats 40000000 in
theorem comes_1 {Post : Tables → Env → Array Value → State → Outcome → State → Prop} (hpost : ∀ tb e args s v u, (limb_1_1.after args s (.returned v) u = true ∧ limb_1_2.after args s (.returned v) u = true ∧ True) → FrameEnd s (.returned v) u (Jvm.fieldLocs frame_1_writes args s ++ Jvm.arrayLocs frame_1_arrays args s ++ Jvm.staticLocs frame_1_statics s) 16 128 → Post tb e args s (.returned v) u) :
    ArmFor flags0 classFile x code maxLocals ret World_1 tables_1 room_1 Calls_1 rest_1 Pre_1 Post := by
  intro l hfl _ _ p e ha hc hk s m args below hf hA hF happ hP
  obtain ⟨hcalls, hrest, hpre⟩ := hP
  obtain ⟨-, -, -, hnamed, -, -, -, hat⟩ := (Spec.applies_iff hf).mp happ
  obtain ⟨hg, hn⟩ := and_e (Cond.before_iff.mp (show (Jvm.Cond.and given_1 narrow_1).before args s = true from hpre))
  obtain ⟨h1, h2⟩ := and_e hg
  obtain ⟨h3, h4⟩ := and_e h2
  obtain ⟨h5, h6⟩ := and_e h4
  obtain ⟨h7, h8⟩ := and_e h6
  obtain ⟨w0, w1, w2, w3, rfl⟩ : ∃ w0 w1 w2 w3 : Value, args = #[w0, w1, w2, w3] := by
    have hs : args.size = 4 := by simpa [Cond.value, given_1] using h1
    obtain ⟨L⟩ := args
    match L, hs with
    | [w0, w1, w2, w3], _ => exact ⟨w0, w1, w2, w3, rfl⟩
  have hw := fun d (hd : d ∈ tables_1) => atoms_spec (ws := Jvm.Cond.code x code maxLocals ret :: tables_1) hat d (List.mem_cons_of_mem _ hd)
  obtain ⟨i0, e0⟩ := is_v h3
  obtain rfl : w0 = (.int i0) := Option.some.inj e0
  obtain ⟨i1, e1⟩ := isL_v h5
  obtain rfl : w1 = (.long i1) := Option.some.inj e1
  obtain ⟨i2, e2⟩ := is_v h7
  obtain rfl : w2 = (.int i2) := Option.some.inj e2
  obtain ⟨i3, e3⟩ := is_v h8
  obtain rfl : w3 = (.int i3) := Option.some.inj e3
  obtain ⟨n, o, h1, h2, h3, _, L, rfl, ⟨rfl, N⟩, hq⟩ := own_all l s _ hw tables_1 i0 i1 i2 i3 s.heap s.heap.size (Nat.le_refl _) p e ha hc hk s m _ below hf ((Spec.applies_iff_loose hf).mp happ).1 ⟨rfl, State.Warmed39.refl s, rfl⟩ trivial
  refine ⟨n, _, h1, h2, h3, hpost _ _ _ _ _ _ ⟨Cond.after_iff.mpr rfl, Cond.after_iff.mpr (eq_i res_at (Term.int_eval (1)) rfl), trivial⟩ ⟨hq.1, hq.2.1, (hq.2.2.sift fun y hy => Or.inr (N y hy)).mono (by decide) (by decide)⟩⟩
theorem main_1_1 : Claimed_1_1 := comes_1 fun _ _ _ _ _ _ h hF => ⟨h.1, hF⟩
theorem main_1_2 : Claimed_1_2 := comes_1 fun _ _ _ _ _ _ h hF => ⟨h.2.1, hF⟩
end Jvm.Pilot.@@N@@
namespace Jvm.Pilot.@@N@@
open Jvm Jvm.ClassFile Sem Op Lib Jvm.Free Jvm.Stand Jvm.Pilot.@@N@@.Jvm.D
/-! MADE BY PROGRAM (witnessworld.py) out of the Statement's table words and the real class files: 15 classes; the members and pool entries that the words name. The judged class is class 1, her method 1. -/
namespace start1
open Jvm.ClassFile
def u (s : String) : CpInfo := .utf8 (stringToUtf16 s)
/-- a pool by its gaps: so many unusable entries, then the entry; so many at the end -/
def gap : Nat → List CpInfo → List CpInfo
  | 0, r => r
  | n + 1, r => .unusable :: gap n r
def poolList (es : List (Nat × CpInfo)) (last : Nat) : List CpInfo := es.foldr (fun e r => gap e.1 (e.2 :: r)) (gap last [])
def pool (es : List (Nat × CpInfo)) (last : Nat) : Array CpInfo := ⟨poolList es last⟩
def fileOf (pool : Array CpInfo) (this : Nat) (attrs : Array Attribute := #[]) (ms : Array MethodInfo := #[]) (fl : Nat := 33) (sup : Nat := 0) (ifs : Array Nat := #[]) (fds : Array FieldInfo := #[]) : ClassFile where
  minorVersion := 0
  majorVersion := 65
  constantPool := pool
  accessFlags := fl
  thisClass := this
  superClass := sup
  interfaces := ifs
  fields := fds
  methods := ms
  attributes := attrs
def plain (name : String) (sup : Option ClassId) : Class where
  name := name
  kind := .ordinary
  loader := none
  accessFlags := 33
  super := sup
  interfaces := #[]
  cf := none
  fields := #[]
  methods := #[]
  instanceTypes := #[]
  staticTypes := #[]
  resolved := #[]
  callSites := []
  init := .initialized
  statics := none
  mirror := none

def pool0 : Array CpInfo := pool [(5, u "<init>"), (0, u "()V"), (1, .class_ 10), (1, u "java/lang/Object")] 113

def k0c0 : Code := { maxStack := 0, maxLocals := 1, code := object_method_1_code, exceptionTable := #[], attributes := #[] }
def k0m0 : Method := { name := "<init>", desc := "()V", sig := { parameters := [], returnType := none }, accessFlags := 1, code := some k0c0 }
/-- java/lang/Object -/
def k0 : Class := { plain "java/lang/Object" none with
  accessFlags := 33
  interfaces := #[]
  cf := some (fileOf pool0 8 #[] #[{ accessFlags := 1, nameIndex := 5, descriptorIndex := 6, attributes := #[] }] 33 0 #[] #[])
  fields := #[]
  methods := #[k0m0]
  instanceTypes := #[]
  staticTypes := #[]
  resolved := Array.replicate 124 none
  statics := none }

def pool1 : Array CpInfo := pool [(2, .class_ 4), (1, u "java/lang/Object"), (0, u "<init>"), (0, u "()V"), (0, .double 4652218415073722368), (1, .long 1048575), (1, .class_ 12), (0, u "com/example/murmuration/murmuration/cluster/DistanceLimit"), (0, .methodref 11 14), (0, .nameAndType 5 15), (0, u "(DJ)V"), (0, .methodref 11 17), (0, .nameAndType 18 19), (0, u "surelyAllows"), (0, u "(D)Z"), (2, .long 9223372036854775807), (1, .double 2355382605114769408), (1, .double 7309342195222315008), (1, .class_ 29), (0, u "com/example/murmuration/murmuration/cluster/DistanceLimitSurelyAllowsPinLaw"), (2, u "law"), (0, u "(IJII)Z")] 3

def k1m0 : Method := { name := "<init>", desc := "()V", sig := { parameters := [], returnType := none }, accessFlags := 1, code := none }
def k1c1 : Code := { maxStack := 7, maxLocals := 13, code := code, exceptionTable := #[], attributes := #[] }
def k1m1 : Method := { name := "law", desc := "(IJII)Z", sig := { parameters := [.int, .long, .int, .int], returnType := some .boolean }, accessFlags := 9, code := some k1c1 }
/-- com/example/murmuration/murmuration/cluster/DistanceLimitSurelyAllowsPinLaw -/
def k1 : Class := { plain "com/example/murmuration/murmuration/cluster/DistanceLimitSurelyAllowsPinLaw" (some 0) with
  accessFlags := 49
  interfaces := #[]
  cf := some (fileOf pool1 28 #[] #[{ accessFlags := 1, nameIndex := 5, descriptorIndex := 6, attributes := #[] }, { accessFlags := 9, nameIndex := 32, descriptorIndex := 33, attributes := #[] }] 49 2 #[] #[])
  fields := #[]
  methods := #[k1m0, k1m1]
  instanceTypes := #[]
  staticTypes := #[]
  resolved := Array.replicate 37 none
  statics := none }

def pool2 : Array CpInfo := pool [(1, .methodref 2 3), (0, .class_ 4), (0, .nameAndType 5 6), (0, u "java/lang/Object"), (0, u "<init>"), (0, u "()V"), (0, .methodref 8 9), (0, .class_ 10), (0, .nameAndType 11 12), (0, u "java/lang/Double"), (0, u "isInfinite"), (0, u "(D)Z"), (9, .fieldref 23 24), (0, .class_ 25), (0, .nameAndType 26 27), (0, u "com/example/murmuration/murmuration/cluster/DistanceLimit"), (0, u "base"), (0, u "D"), (0, .fieldref 23 29), (0, .nameAndType 30 31), (0, u "factor"), (0, u "J"), (0, .fieldref 23 33), (0, .nameAndType 34 27), (0, u "squared"), (0, .methodref 8 36), (0, .nameAndType 37 12), (0, u "isFinite"), (0, .double 553942754166571008), (1, .fieldref 23 41), (0, .nameAndType 42 43), (0, u "fast"), (0, u "Z"), (0, .double 4607182418800017453), (1, .fieldref 23 47), (0, .nameAndType 48 27), (0, u "reach"), (0, .double 4607182418800017318), (1, .double 18442240474082181120), (1, .fieldref 23 54), (0, .nameAndType 55 27), (0, u "inner"), (16, u "exactSquared"), (0, u "Ljava/math/BigDecimal;"), (23, u "MARGIN"), (3, u "SMALLEST_FAST"), (0, u "(DJ)V"), (6, u "surelyAllows")] 18

def k2c0 : Code := { maxStack := 6, maxLocals := 7, code := prog_15_method_1_code, exceptionTable := #[], attributes := #[] }
def k2m0 : Method := { name := "<init>", desc := "(DJ)V", sig := { parameters := [.double, .long], returnType := none }, accessFlags := 1, code := some k2c0 }
def k2c1 : Code := { maxStack := 4, maxLocals := 3, code := prog_15_method_5_code, exceptionTable := #[], attributes := #[] }
def k2m1 : Method := { name := "surelyAllows", desc := "(D)Z", sig := { parameters := [.double], returnType := some .boolean }, accessFlags := 1, code := some k2c1 }
/-- com/example/murmuration/murmuration/cluster/DistanceLimit -/
def k2 : Class := { plain "com/example/murmuration/murmuration/cluster/DistanceLimit" (some 0) with
  accessFlags := 49
  interfaces := #[]
  cf := some (fileOf pool2 23 #[] #[{ accessFlags := 1, nameIndex := 5, descriptorIndex := 102, attributes := #[] }, { accessFlags := 1, nameIndex := 109, descriptorIndex := 12, attributes := #[] }] 49 2 #[] #[{ accessFlags := 26, nameIndex := 97, descriptorIndex := 27, attributes := #[] }, { accessFlags := 26, nameIndex := 101, descriptorIndex := 27, attributes := #[] }, { accessFlags := 18, nameIndex := 26, descriptorIndex := 27, attributes := #[] }, { accessFlags := 18, nameIndex := 30, descriptorIndex := 31, attributes := #[] }, { accessFlags := 18, nameIndex := 34, descriptorIndex := 27, attributes := #[] }, { accessFlags := 18, nameIndex := 42, descriptorIndex := 43, attributes := #[] }, { accessFlags := 18, nameIndex := 48, descriptorIndex := 27, attributes := #[] }, { accessFlags := 18, nameIndex := 55, descriptorIndex := 27, attributes := #[] }, { accessFlags := 2, nameIndex := 72, descriptorIndex := 73, attributes := #[] }])
  fields := #[{ name := "MARGIN", type := .double, accessFlags := 26, slot := 0, constantValue := 0 }, { name := "SMALLEST_FAST", type := .double, accessFlags := 26, slot := 1, constantValue := 0 }, { name := "base", type := .double, accessFlags := 18, slot := 0, constantValue := 0 }, { name := "factor", type := .long, accessFlags := 18, slot := 1, constantValue := 0 }, { name := "squared", type := .double, accessFlags := 18, slot := 2, constantValue := 0 }, { name := "fast", type := .boolean, accessFlags := 18, slot := 3, constantValue := 0 }, { name := "reach", type := .double, accessFlags := 18, slot := 4, constantValue := 0 }, { name := "inner", type := .double, accessFlags := 18, slot := 5, constantValue := 0 }, { name := "exactSquared", type := (.object "java/math/BigDecimal"), accessFlags := 2, slot := 6, constantValue := 0 }]
  methods := #[k2m0, k2m1]
  instanceTypes := #[.double, .long, .double, .boolean, .double, .double, (.object "java/math/BigDecimal")]
  staticTypes := #[.double, .double]
  resolved := Array.replicate 128 none
  statics := none }

def pool3 : Array CpInfo := pool [(1, .class_ 2), (0, u "java/io/Serializable"), (0, .class_ 4), (0, u "java/lang/Object")] 2

/-- java/io/Serializable -/
def k3 : Class := { plain "java/io/Serializable" (some 0) with
  accessFlags := 1537
  interfaces := #[]
  cf := some (fileOf pool3 1 #[] #[] 1537 3 #[] #[])
  fields := #[]
  methods := #[]
  instanceTypes := #[]
  staticTypes := #[]
  resolved := Array.replicate 7 none
  statics := none }

def pool4 : Array CpInfo := pool [(2, .class_ 4), (1, u "java/lang/Object"), (0, u "<init>"), (0, u "()V"), (1, .class_ 10), (1, u "java/lang/Number"), (2, .class_ 14), (0, u "java/io/Serializable"), (0, u "serialVersionUID"), (0, u "J")] 20

def k4m0 : Method := { name := "<init>", desc := "()V", sig := { parameters := [], returnType := none }, accessFlags := 1, code := none }
/-- java/lang/Number -/
def k4 : Class := { plain "java/lang/Number" (some 0) with
  accessFlags := 1057
  interfaces := #[3]
  cf := some (fileOf pool4 8 #[] #[{ accessFlags := 1, nameIndex := 5, descriptorIndex := 6, attributes := #[] }] 1057 2 #[13] #[{ accessFlags := 26, nameIndex := 15, descriptorIndex := 16, attributes := #[] }])
  fields := #[{ name := "serialVersionUID", type := .long, accessFlags := 26, slot := 0, constantValue := 0 }]
  methods := #[k4m0]
  instanceTypes := #[]
  staticTypes := #[.long]
  resolved := Array.replicate 37 none
  statics := none }

def pool5 : Array CpInfo := pool [(1, .class_ 2), (0, u "java/lang/Comparable"), (0, .class_ 4), (0, u "java/lang/Object")] 7

/-- java/lang/Comparable -/
def k5 : Class := { plain "java/lang/Comparable" (some 0) with
  accessFlags := 1537
  interfaces := #[]
  cf := some (fileOf pool5 1 #[] #[] 1537 3 #[] #[])
  fields := #[]
  methods := #[]
  instanceTypes := #[]
  staticTypes := #[]
  resolved := Array.replicate 12 none
  statics := none }

def pool6 : Array CpInfo := pool [(1, .class_ 2), (0, u "java/lang/constant/Constable"), (0, .class_ 4), (0, u "java/lang/Object")] 6

/-- java/lang/constant/Constable -/
def k6 : Class := { plain "java/lang/constant/Constable" (some 0) with
  accessFlags := 1537
  interfaces := #[]
  cf := some (fileOf pool6 1 #[] #[] 1537 3 #[] #[])
  fields := #[]
  methods := #[]
  instanceTypes := #[]
  staticTypes := #[]
  resolved := Array.replicate 11 none
  statics := none }

def pool7 : Array CpInfo := pool [(1, .class_ 2), (0, u "java/lang/constant/ConstantDesc"), (0, .class_ 4), (0, u "java/lang/Object")] 32

/-- java/lang/constant/ConstantDesc -/
def k7 : Class := { plain "java/lang/constant/ConstantDesc" (some 0) with
  accessFlags := 1537
  interfaces := #[]
  cf := some (fileOf pool7 1 #[] #[] 1537 3 #[] #[])
  fields := #[]
  methods := #[]
  instanceTypes := #[]
  staticTypes := #[]
  resolved := Array.replicate 37 none
  statics := none }

def pool8 : Array CpInfo := pool [(1, .class_ 2), (0, u "java/lang/Double"), (10, u "isFinite"), (0, u "(D)Z"), (8, .class_ 25), (1, u "java/lang/Math"), (12, .methodref 23 39), (0, .nameAndType 40 41), (0, u "abs"), (0, u "(D)D"), (69, .double 9218868437227405311), (2, .class_ 116), (1, u "java/lang/Number"), (3, u "value"), (0, u "D"), (5, u "isInfinite"), (45, u "TYPE"), (0, u "Ljava/lang/Class;"), (0, .class_ 176), (0, u "java/lang/Comparable"), (0, .class_ 178), (0, u "java/lang/constant/Constable"), (0, .class_ 180), (0, u "java/lang/constant/ConstantDesc"), (0, u "POSITIVE_INFINITY"), (3, u "NEGATIVE_INFINITY"), (2, u "NaN"), (2, u "MAX_VALUE"), (0, u "MIN_NORMAL"), (0, u "MIN_VALUE"), (2, u "SIZE"), (0, u "I"), (1, u "PRECISION"), (1, u "MAX_EXPONENT"), (1, u "MIN_EXPONENT"), (1, u "BYTES"), (3, u "serialVersionUID"), (0, u "J")] 79

def k8c0 : Code := { maxStack := 4, maxLocals := 2, code := jdk_117_method_7_code, exceptionTable := #[], attributes := #[] }
def k8m0 : Method := { name := "isInfinite", desc := "(D)Z", sig := { parameters := [.double], returnType := some .boolean }, accessFlags := 9, code := some k8c0 }
def k8c1 : Code := { maxStack := 4, maxLocals := 2, code := jdk_117_method_8_code, exceptionTable := #[], attributes := #[] }
def k8m1 : Method := { name := "isFinite", desc := "(D)Z", sig := { parameters := [.double], returnType := some .boolean }, accessFlags := 9, code := some k8c1 }
/-- java/lang/Double -/
def k8 : Class := { plain "java/lang/Double" (some 4) with
  accessFlags := 49
  interfaces := #[5, 6, 7]
  cf := some (fileOf pool8 1 #[] #[{ accessFlags := 9, nameIndex := 127, descriptorIndex := 14, attributes := #[] }, { accessFlags := 9, nameIndex := 13, descriptorIndex := 14, attributes := #[] }] 49 114 #[175, 177, 179] #[{ accessFlags := 25, nameIndex := 181, descriptorIndex := 121, attributes := #[] }, { accessFlags := 25, nameIndex := 185, descriptorIndex := 121, attributes := #[] }, { accessFlags := 25, nameIndex := 188, descriptorIndex := 121, attributes := #[] }, { accessFlags := 25, nameIndex := 191, descriptorIndex := 121, attributes := #[] }, { accessFlags := 25, nameIndex := 192, descriptorIndex := 121, attributes := #[] }, { accessFlags := 25, nameIndex := 193, descriptorIndex := 121, attributes := #[] }, { accessFlags := 25, nameIndex := 196, descriptorIndex := 197, attributes := #[] }, { accessFlags := 25, nameIndex := 199, descriptorIndex := 197, attributes := #[] }, { accessFlags := 25, nameIndex := 201, descriptorIndex := 197, attributes := #[] }, { accessFlags := 25, nameIndex := 203, descriptorIndex := 197, attributes := #[] }, { accessFlags := 25, nameIndex := 205, descriptorIndex := 197, attributes := #[] }, { accessFlags := 25, nameIndex := 173, descriptorIndex := 174, attributes := #[] }, { accessFlags := 18, nameIndex := 120, descriptorIndex := 121, attributes := #[] }, { accessFlags := 26, nameIndex := 209, descriptorIndex := 210, attributes := #[] }])
  fields := #[{ name := "POSITIVE_INFINITY", type := .double, accessFlags := 25, slot := 0, constantValue := 0 }, { name := "NEGATIVE_INFINITY", type := .double, accessFlags := 25, slot := 1, constantValue := 0 }, { name := "NaN", type := .double, accessFlags := 25, slot := 2, constantValue := 0 }, { name := "MAX_VALUE", type := .double, accessFlags := 25, slot := 3, constantValue := 0 }, { name := "MIN_NORMAL", type := .double, accessFlags := 25, slot := 4, constantValue := 0 }, { name := "MIN_VALUE", type := .double, accessFlags := 25, slot := 5, constantValue := 0 }, { name := "SIZE", type := .int, accessFlags := 25, slot := 6, constantValue := 0 }, { name := "PRECISION", type := .int, accessFlags := 25, slot := 7, constantValue := 0 }, { name := "MAX_EXPONENT", type := .int, accessFlags := 25, slot := 8, constantValue := 0 }, { name := "MIN_EXPONENT", type := .int, accessFlags := 25, slot := 9, constantValue := 0 }, { name := "BYTES", type := .int, accessFlags := 25, slot := 10, constantValue := 0 }, { name := "TYPE", type := (.object "java/lang/Class"), accessFlags := 25, slot := 11, constantValue := 0 }, { name := "value", type := .double, accessFlags := 18, slot := 0, constantValue := 0 }, { name := "serialVersionUID", type := .long, accessFlags := 26, slot := 12, constantValue := 0 }]
  methods := #[k8m0, k8m1]
  instanceTypes := #[.double]
  staticTypes := #[.double, .double, .double, .double, .double, .double, .int, .int, .int, .int, .int, (.object "java/lang/Class"), .long]
  resolved := Array.replicate 290 none
  statics := none }

def pool9 : Array CpInfo := pool [(1, .class_ 2), (0, u "java/lang/Math"), (1, .class_ 6), (1, u "java/lang/Object"), (0, u "<init>"), (0, u "()V"), (5, u "(D)D"), (83, .class_ 100), (1, u "java/lang/Math$RandomNumberGeneratorHolder"), (23, u "abs"), (47, u "negativeZeroFloatBits"), (0, u "J"), (2, u "negativeZeroDoubleBits"), (68, u "$assertionsDisabled"), (0, u "Z"), (91, u "twoToTheDoubleScaleDown"), (0, u "D"), (4, u "twoToTheDoubleScaleUp"), (9, u "E"), (3, u "PI"), (2, u "TAU"), (2, u "DEGREES_TO_RADIANS"), (0, u "RADIANS_TO_DEGREES")] 94

def k9m0 : Method := { name := "<init>", desc := "()V", sig := { parameters := [], returnType := none }, accessFlags := 2, code := none }
def k9c1 : Code := { maxStack := 4, maxLocals := 2, code := jdk_29_method_64_code, exceptionTable := #[], attributes := #[] }
def k9m1 : Method := { name := "abs", desc := "(D)D", sig := { parameters := [.double], returnType := some .double }, accessFlags := 9, code := some k9c1 }
/-- java/lang/Math -/
def k9 : Class := { plain "java/lang/Math" (some 0) with
  accessFlags := 49
  interfaces := #[]
  cf := some (fileOf pool9 1 #[.nestMembers #[98]] #[{ accessFlags := 2, nameIndex := 7, descriptorIndex := 8, attributes := #[] }, { accessFlags := 9, nameIndex := 124, descriptorIndex := 14, attributes := #[] }] 49 4 #[] #[{ accessFlags := 25, nameIndex := 354, descriptorIndex := 339, attributes := #[] }, { accessFlags := 25, nameIndex := 358, descriptorIndex := 339, attributes := #[] }, { accessFlags := 25, nameIndex := 361, descriptorIndex := 339, attributes := #[] }, { accessFlags := 26, nameIndex := 364, descriptorIndex := 339, attributes := #[] }, { accessFlags := 26, nameIndex := 365, descriptorIndex := 339, attributes := #[] }, { accessFlags := 26, nameIndex := 172, descriptorIndex := 173, attributes := #[] }, { accessFlags := 26, nameIndex := 176, descriptorIndex := 173, attributes := #[] }, { accessFlags := 8, nameIndex := 344, descriptorIndex := 339, attributes := #[] }, { accessFlags := 8, nameIndex := 338, descriptorIndex := 339, attributes := #[] }, { accessFlags := 4120, nameIndex := 245, descriptorIndex := 246, attributes := #[] }])
  fields := #[{ name := "E", type := .double, accessFlags := 25, slot := 0, constantValue := 0 }, { name := "PI", type := .double, accessFlags := 25, slot := 1, constantValue := 0 }, { name := "TAU", type := .double, accessFlags := 25, slot := 2, constantValue := 0 }, { name := "DEGREES_TO_RADIANS", type := .double, accessFlags := 26, slot := 3, constantValue := 0 }, { name := "RADIANS_TO_DEGREES", type := .double, accessFlags := 26, slot := 4, constantValue := 0 }, { name := "negativeZeroFloatBits", type := .long, accessFlags := 26, slot := 5, constantValue := 0 }, { name := "negativeZeroDoubleBits", type := .long, accessFlags := 26, slot := 6, constantValue := 0 }, { name := "twoToTheDoubleScaleUp", type := .double, accessFlags := 8, slot := 7, constantValue := 0 }, { name := "twoToTheDoubleScaleDown", type := .double, accessFlags := 8, slot := 8, constantValue := 0 }, { name := "$assertionsDisabled", type := .boolean, accessFlags := 4120, slot := 9, constantValue := 0 }]
  methods := #[k9m0, k9m1]
  instanceTypes := #[]
  staticTypes := #[.double, .double, .double, .double, .double, .long, .long, .double, .double, .boolean]
  resolved := Array.replicate 460 none
  statics := none }

def pool10 : Array CpInfo := pool [(1, u "java/lang/Cloneable"), (0, .class_ 1), (0, u "java/lang/Object"), (0, .class_ 3)] 3

/-- java/lang/Cloneable -/
def k10 : Class := { plain "java/lang/Cloneable" (some 0) with
  accessFlags := 1537
  interfaces := #[]
  cf := some (fileOf pool10 2 #[] #[] 1537 4 #[] #[])
  fields := #[]
  methods := #[]
  instanceTypes := #[]
  staticTypes := #[]
  resolved := Array.replicate 8 none
  statics := none }

/-- the primitive byte -/
def k11 : Class := { plain "byte" none with kind := .primitive 'B', accessFlags := 0x411 }
/-- [B -/
def k12 : Class := { plain "[B" (some 0) with kind := .array 11 .byte, interfaces := #[10, 3], accessFlags := 1041 }

/-- the primitive int -/
def k13 : Class := { plain "int" none with kind := .primitive 'I', accessFlags := 0x411 }
/-- [I -/
def k14 : Class := { plain "[I" (some 0) with kind := .array 13 .int, interfaces := #[10, 3], accessFlags := 1041 }

def heap : Heap := #[]
def classes : Array Class := #[k0, k1, k2, k3, k4, k5, k6, k7, k8, k9, k10, k11, k12, k13, k14]
def interned : List (Array UInt16 × Addr) := []
def slotsUsed : Nat := 0
def theMethod : MethodId := ⟨1, 1⟩
def args0 : Array Value := #[.int 0, .long 2, .int 1, .int 0]
def aboutOver (below : List Frame) : State where
  vm := { classes := classes, interned := interned.toArray }
  heap := heap
  slotsUsed := slotsUsed
  threads := #[{ frames := .invoking theMethod args0 :: below }]
def below0 : List Frame := [.native { method := ⟨0, 0⟩, args := #[] }]
def about1 : State := aboutOver below0
def p0 : Program := .bare "" "" ""
def e0 : Env := launch0.env 0 0 0
theorem w_frames : about1.frames = Frame.invoking theMethod args0 :: below0 := rfl
set_option maxRecDepth 65536 in
theorem w_args : argsFit about1.vm theMethod args0 = true := by decide +kernel
set_option maxRecDepth 65536 in
theorem w_heap : heapFits about1 = true := by decide +kernel
set_option maxRecDepth 65536 in
theorem w_runnable : about1.curStatus? = some .runnable := by decide +kernel
set_option maxRecDepth 65536 in
theorem w_alone : about1.alone = true := by decide +kernel
set_option maxRecDepth 65536 in
theorem w_named : about1.methodNamed? x = some theMethod := by decide +kernel
set_option maxRecDepth 65536 in
theorem w_hears : about1.hears theMethod below0 = true := by decide +kernel
set_option maxRecDepth 65536 in
theorem w_ripe : about1.ripe theMethod args0 below0 = true := by decide +kernel
theorem w_running : about1.status = .running := rfl
set_option maxRecDepth 65536 in
theorem w_room : about1.hasRoom e0.platform room_1 = true :=
  launch0.hasRoom_least _ room_1 (by decide +kernel) (by decide +kernel) (by decide +kernel) (by decide +kernel) (by decide +kernel) (by decide +kernel)
theorem allAtoms_all (ts : List Jvm.Cond) (a : Array Jvm.Value) (st : Jvm.State) : (allAtoms ts).before a st = ts.all (fun c => c.before a st) := by
  induction ts with
  | nil => rfl
  | cons c t ih =>
    show (Jvm.Cond.and c (allAtoms t)).before a st = _
    rw [Jvm.Cond.before_and, ih, List.all_cons]
def words1 : List Jvm.Cond := Jvm.Cond.code x code maxLocals ret :: tables_1
/-- a 'code' word, met by the world's own term for the bytes: nothing is compared byte by byte -/
theorem code_word {y : MethodName} {bytes : ByteArray} {mx : Nat} {rt : Option FieldType} {a : Array Value} {s : State} {m : MethodId} {meth : Method} {c : Code} (h1 : s.methodNamed? y = some m) (h2 : s.vm.method? m = some meth) (h3 : meth.code = some c) (h4 : c.code = bytes)
    (h5 : (c.maxLocals == mx && c.exceptionTable.isEmpty && decide (c.maxStack ≤ mostOperands) && decide (meth.sig.returnType = rt) && !meth.locks && decide (parseMethodDescriptor y.desc = some meth.sig)) = true) : (Jvm.Cond.code y bytes mx rt).before a s = true := by
  simp only [Bool.and_eq_true, beq_iff_eq, Bool.not_eq_true', decide_eq_true_eq] at h5
  obtain ⟨⟨⟨⟨⟨g1, g2⟩, g3⟩, g4⟩, g5⟩, g6⟩ := h5
  simp [Cond.before, Cond.holds, Cond.value, h1, h2, h3, h4, g1, g2, g3, g4, g5, g6]
def isCode : Jvm.Cond → Bool
  | .code _ _ _ _ => true
  | _ => false
theorem all_split {L : List Jvm.Cond} {P : Jvm.Cond → Bool} (h1 : L.all (fun c => isCode c || P c) = true) (h2 : ∀ c ∈ L.filter isCode, P c = true) : L.all P = true := by
  refine List.all_eq_true.mpr fun c hc => ?_
  have h := List.all_eq_true.mp h1 c hc
  rcases Bool.eq_false_or_eq_true (isCode c) with hi | hi
  · exact h2 c (List.mem_filter.mpr ⟨hc, hi⟩)
  · simpa [hi] using h
set_option maxRecDepth 65536 in
theorem w_c0 : (Jvm.Cond.code x code maxLocals ret).before args0 about1 = true := code_word (m := ⟨1, 1⟩) (meth := k1m1) (c := k1c1) (by decide +kernel) rfl rfl rfl (by decide +kernel)
set_option maxRecDepth 65536 in
theorem w_c1 : (Jvm.Cond.code ({ cls := "com/example/murmuration/murmuration/cluster/DistanceLimit", name := "<init>", desc := "(DJ)V" } : Jvm.MethodName) prog_15_method_1_code (7 : Nat) (Option.none : Option Jvm.ClassFile.FieldType)).before args0 about1 = true := code_word (m := ⟨2, 0⟩) (meth := k2m0) (c := k2c0) (by decide +kernel) rfl rfl rfl (by decide +kernel)
set_option maxRecDepth 65536 in
theorem w_c2 : (Jvm.Cond.code ({ cls := "java/lang/Object", name := "<init>", desc := "()V" } : Jvm.MethodName) object_method_1_code (1 : Nat) (Option.none : Option Jvm.ClassFile.FieldType)).before args0 about1 = true := code_word (m := ⟨0, 0⟩) (meth := k0m0) (c := k0c0) (by decide +kernel) rfl rfl rfl (by decide +kernel)
set_option maxRecDepth 65536 in
theorem w_c3 : (Jvm.Cond.code ({ cls := "java/lang/Double", name := "isInfinite", desc := "(D)Z" } : Jvm.MethodName) jdk_117_method_7_code (2 : Nat) (Option.some Jvm.ClassFile.FieldType.boolean)).before args0 about1 = true := code_word (m := ⟨8, 0⟩) (meth := k8m0) (c := k8c0) (by decide +kernel) rfl rfl rfl (by decide +kernel)
set_option maxRecDepth 65536 in
theorem w_c4 : (Jvm.Cond.code ({ cls := "java/lang/Math", name := "abs", desc := "(D)D" } : Jvm.MethodName) jdk_29_method_64_code (2 : Nat) (Option.some Jvm.ClassFile.FieldType.double)).before args0 about1 = true := code_word (m := ⟨9, 1⟩) (meth := k9m1) (c := k9c1) (by decide +kernel) rfl rfl rfl (by decide +kernel)
set_option maxRecDepth 65536 in
theorem w_c5 : (Jvm.Cond.code ({ cls := "java/lang/Double", name := "isFinite", desc := "(D)Z" } : Jvm.MethodName) jdk_117_method_8_code (2 : Nat) (Option.some Jvm.ClassFile.FieldType.boolean)).before args0 about1 = true := code_word (m := ⟨8, 1⟩) (meth := k8m1) (c := k8c1) (by decide +kernel) rfl rfl rfl (by decide +kernel)
set_option maxRecDepth 65536 in
theorem w_c6 : (Jvm.Cond.code ({ cls := "com/example/murmuration/murmuration/cluster/DistanceLimit", name := "surelyAllows", desc := "(D)Z" } : Jvm.MethodName) prog_15_method_5_code (3 : Nat) (Option.some Jvm.ClassFile.FieldType.boolean)).before args0 about1 = true := code_word (m := ⟨2, 1⟩) (meth := k2m1) (c := k2c1) (by decide +kernel) rfl rfl rfl (by decide +kernel)
def codes1 : List Jvm.Cond := [Jvm.Cond.code x code maxLocals ret, Jvm.Cond.code ({ cls := "com/example/murmuration/murmuration/cluster/DistanceLimit", name := "<init>", desc := "(DJ)V" } : Jvm.MethodName) prog_15_method_1_code (7 : Nat) (Option.none : Option Jvm.ClassFile.FieldType), Jvm.Cond.code ({ cls := "java/lang/Object", name := "<init>", desc := "()V" } : Jvm.MethodName) object_method_1_code (1 : Nat) (Option.none : Option Jvm.ClassFile.FieldType), Jvm.Cond.code ({ cls := "java/lang/Double", name := "isInfinite", desc := "(D)Z" } : Jvm.MethodName) jdk_117_method_7_code (2 : Nat) (Option.some Jvm.ClassFile.FieldType.boolean), Jvm.Cond.code ({ cls := "java/lang/Math", name := "abs", desc := "(D)D" } : Jvm.MethodName) jdk_29_method_64_code (2 : Nat) (Option.some Jvm.ClassFile.FieldType.double), Jvm.Cond.code ({ cls := "java/lang/Double", name := "isFinite", desc := "(D)Z" } : Jvm.MethodName) jdk_117_method_8_code (2 : Nat) (Option.some Jvm.ClassFile.FieldType.boolean), Jvm.Cond.code ({ cls := "com/example/murmuration/murmuration/cluster/DistanceLimit", name := "surelyAllows", desc := "(D)Z" } : Jvm.MethodName) prog_15_method_5_code (3 : Nat) (Option.some Jvm.ClassFile.FieldType.boolean)]
set_option maxRecDepth 65536 in
theorem codes_eq : words1.filter isCode = codes1 := rfl
theorem w_codes : ∀ c ∈ words1.filter isCode, c.before args0 about1 = true := by
  rw [codes_eq]
  intro c hc
  simp only [codes1, List.mem_cons, List.not_mem_nil, or_false] at hc
  rcases hc with rfl | rfl | rfl | rfl | rfl | rfl | rfl
  · exact w_c0
  · exact w_c1
  · exact w_c2
  · exact w_c3
  · exact w_c4
  · exact w_c5
  · exact w_c6
set_option maxRecDepth 65536 in
theorem w_t1 : (words1.take 24).all (fun c => isCode c || c.before args0 about1) = true := by decide +kernel
set_option maxRecDepth 65536 in
theorem w_t2 : (words1.drop 24).all (fun c => isCode c || c.before args0 about1) = true := by decide +kernel
theorem w_tables : (allAtoms (Jvm.Cond.code x code maxLocals ret :: tables_1)).before args0 about1 = true := by
  rw [allAtoms_all]
  show words1.all (fun c => c.before args0 about1) = true
  refine all_split ?_ w_codes
  rw [← List.take_append_drop 24 words1, List.all_append, w_t1, w_t2]
  rfl
set_option maxRecDepth 65536 in
theorem w_case : (Jvm.Cond.and given_1 narrow_1).before args0 about1 = true := by decide +kernel
theorem w_applies : (headSpec (Jvm.Cond.code x code maxLocals ret :: tables_1) room_1).applies x e0.platform about1 = true :=
  (Spec.applies_iff w_frames).mpr ⟨w_running, w_runnable, w_alone, w_named, w_hears, w_ripe, w_room, w_tables⟩
theorem atStart : AtStart classFile x code maxLocals ret World_1 tables_1 room_1 Calls_1 rest_1 Pre_1 launch0 p0 e0 about1 theMethod args0 below0 :=
  ⟨lists_1, trivial, launch0.admits_env _ _ _, launch0.least_env, fairChoices_fair.cas, fairChoices_fair.clock, w_frames, w_args, w_heap, w_applies, trivial, trivial, w_case⟩
end start1
theorem witness_1 : WitnessClaimed_1 := ⟨start1.p0, start1.e0, start1.about1, start1.theMethod, start1.args0, start1.below0, start1.atStart⟩
end Jvm.Pilot.@@N@@
