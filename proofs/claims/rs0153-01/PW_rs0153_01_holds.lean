import PyProof.Rows.All
import Wide.All
import OpenK.AllK
import Wide.FinOn
import PySem.Challenge.RW_rs0153_01
set_option Elab.async false

section
namespace Mine
theorem dTT (x y z k j l m : Nat) (h1 : x + k ≤ y + j) (h2 : y + l ≤ z + m) : x + (k + l) ≤ z + (j + m) := by omega
theorem dFF (x y k j l m : Nat) (h : x + k ≤ y + j) (d : l + j ≤ k + m) : x + l ≤ y + m := by omega
theorem dRR (x k j : Nat) (d : k ≤ j) : x + k ≤ x + j := by omega
theorem ar1 {a1 : Nat} (h1 : ¬ ((((63 : Nat) : Nat) : Int) < ((a1 : Nat) : Int))) : a1 ≤ (1000 : Nat) := by
  lia
theorem ar2 {a1 : Nat} {a2 : Nat} (h1 : (a1 < a2) ∨ (a2 < a1)) : ¬ (a1 = a2) := by
  lia
theorem ar3  : (0 : Nat) ≤ (16777216 : Nat) := (dRR 0 0 16777216 (Nat.le_of_ble_eq_true rfl))
theorem ar4 {a1 : Nat} {a2 : Nat} (h1 : a2 = (a1 + (2 : Nat))) : a1 ≤ a2 := (dFF a1 a2 2 0 0 0 (Nat.le_of_eq (Eq.symm h1)) (Nat.le_of_ble_eq_true rfl))
theorem ar5 {a1 : Nat} {a2 : Nat} {a3 : Nat} (h1 : a2 < a3) (h2 : a3 = a1) : ((a1 + (1 : Nat)) < a2) ∨ (a2 < (a1 + (1 : Nat))) := (Or.inr (dFF a2 a1 1 0 1 1 (dTT a2 a3 a1 1 0 0 0 h1 (Nat.le_of_eq h2)) (Nat.le_of_ble_eq_true rfl)))
theorem ar6 {a1 : Nat} {a2 : Nat} {a3 : Nat} (h1 : a2 < a3) (h2 : a3 = a1) : (a1 < a2) ∨ (a2 < a1) := (Or.inr (dTT a2 a3 a1 1 0 0 0 h1 (Nat.le_of_eq h2)))
theorem ar7 {a1 : Nat}  : (a1 < (a1 + (1 : Nat))) ∨ ((a1 + (1 : Nat)) < a1) := (Or.inl (dRR a1 1 1 (Nat.le_of_ble_eq_true rfl)))
theorem ar8 {a1 : Nat} {a2 : Nat} (h1 : a1 = a2) : a1 ≤ (a2 + (1 : Nat)) := (dFF a1 a2 0 0 0 1 (Nat.le_of_eq h1) (Nat.le_of_ble_eq_true rfl))
theorem ar9 {a1 : Nat} {a2 : Nat} {a3 : Nat} (h1 : a1 < a3) (h2 : a3 = a2) : (a1 < (a2 + (1 : Nat))) ∨ ((a2 + (1 : Nat)) < a1) := (Or.inl (dFF a1 a2 1 0 1 1 (dTT a1 a3 a2 1 0 0 0 h1 (Nat.le_of_eq h2)) (Nat.le_of_ble_eq_true rfl)))
theorem ar10 {a1 : Nat}  : ((a1 + (1 : Nat)) < a1) ∨ (a1 < (a1 + (1 : Nat))) := (Or.inr (dRR a1 1 1 (Nat.le_of_ble_eq_true rfl)))
theorem ar11 {a1 : Nat} {a2 : Nat} {a3 : Nat} (h1 : a1 < a3) (h2 : a3 = a2) : (a1 < a2) ∨ (a2 < a1) := (Or.inl (dTT a1 a3 a2 1 0 0 0 h1 (Nat.le_of_eq h2)))
theorem ar12 {a1 : Nat} {a2 : Nat} {a3 : Nat} {a4 : Nat} (h1 : a1 ≤ a2) (h2 : a2 ≤ a3) (h3 : a3 < a4) (h4 : a4 < ((2 : Nat) ^ 20)) : a1 < ((2 : Nat) ^ 20) := (dFF a1 0 2 1048576 1 1048576 (dTT a1 a4 0 1 0 1 1048576 (dTT a1 a3 a4 0 0 1 0 (dTT a1 a2 a3 0 0 0 0 h1 h2) h3) h4) (Nat.le_of_ble_eq_true rfl))
theorem ar13 {a1 : Nat} {a2 : Nat} (h1 : a1 = a2) : a1 ≤ a2 := (Nat.le_of_eq h1)
theorem ar14 {a1 : Nat}  : ((a1 + (2 : Nat)) < (a1 + (4 : Nat))) ∨ ((a1 + (4 : Nat)) < (a1 + (2 : Nat))) := (Or.inl (dRR a1 3 4 (Nat.le_of_ble_eq_true rfl)))
theorem ar15 {a1 : Nat}  : ((a1 + (3 : Nat)) < (a1 + (4 : Nat))) ∨ ((a1 + (4 : Nat)) < (a1 + (3 : Nat))) := (Or.inl (dRR a1 4 4 (Nat.le_of_ble_eq_true rfl)))
theorem ar16 {a1 : Nat}  : (a1 < (a1 + (4 : Nat))) ∨ ((a1 + (4 : Nat)) < a1) := (Or.inl (dRR a1 1 4 (Nat.le_of_ble_eq_true rfl)))
theorem ar17 {a1 : Nat}  : ((a1 + (1 : Nat)) < (a1 + (4 : Nat))) ∨ ((a1 + (4 : Nat)) < (a1 + (1 : Nat))) := (Or.inl (dRR a1 2 4 (Nat.le_of_ble_eq_true rfl)))
theorem ar18 {a1 : Nat}  : ((a1 + (2 : Nat)) < (a1 + (3 : Nat))) ∨ ((a1 + (3 : Nat)) < (a1 + (2 : Nat))) := (Or.inl (dRR a1 3 3 (Nat.le_of_ble_eq_true rfl)))
theorem ar19 {a1 : Nat}  : ((a1 + (2 : Nat)) < a1) ∨ (a1 < (a1 + (2 : Nat))) := (Or.inr (dRR a1 1 2 (Nat.le_of_ble_eq_true rfl)))
theorem ar20 {a1 : Nat}  : ((a1 + (2 : Nat)) < (a1 + (1 : Nat))) ∨ ((a1 + (1 : Nat)) < (a1 + (2 : Nat))) := (Or.inr (dRR a1 2 2 (Nat.le_of_ble_eq_true rfl)))
theorem ar21 {a1 : Nat}  : ((a1 + (3 : Nat)) < a1) ∨ (a1 < (a1 + (3 : Nat))) := (Or.inr (dRR a1 1 3 (Nat.le_of_ble_eq_true rfl)))
theorem ar22 {a1 : Nat}  : ((a1 + (3 : Nat)) < (a1 + (1 : Nat))) ∨ ((a1 + (1 : Nat)) < (a1 + (3 : Nat))) := (Or.inr (dRR a1 2 3 (Nat.le_of_ble_eq_true rfl)))
theorem ar23 {a1 : Nat} {a2 : Nat} {a3 : Nat} (h1 : a1 < a3) (h2 : a2 = a3) : (a1 < (a2 + (4 : Nat))) ∨ ((a2 + (4 : Nat)) < a1) := (Or.inl (dFF a1 a2 1 0 1 4 (dTT a1 a3 a2 1 0 0 0 h1 (Nat.le_of_eq (Eq.symm h2))) (Nat.le_of_ble_eq_true rfl)))
theorem ar24 {a1 : Nat} {a2 : Nat} {a3 : Nat} (h1 : a1 < a3) (h2 : a2 = a3) : (a1 < (a2 + (3 : Nat))) ∨ ((a2 + (3 : Nat)) < a1) := (Or.inl (dFF a1 a2 1 0 1 3 (dTT a1 a3 a2 1 0 0 0 h1 (Nat.le_of_eq (Eq.symm h2))) (Nat.le_of_ble_eq_true rfl)))
theorem ar25 {a1 : Nat} {a2 : Nat} {a3 : Nat} (h1 : a1 < a3) (h2 : a2 = a3) : (a1 < a2) ∨ (a2 < a1) := (Or.inl (dTT a1 a3 a2 1 0 0 0 h1 (Nat.le_of_eq (Eq.symm h2))))
theorem ar26 {a1 : Nat} {a2 : Nat} {a3 : Nat} (h1 : a1 < a3) (h2 : a2 = a3) : (a1 < (a2 + (1 : Nat))) ∨ ((a2 + (1 : Nat)) < a1) := (Or.inl (dFF a1 a2 1 0 1 1 (dTT a1 a3 a2 1 0 0 0 h1 (Nat.le_of_eq (Eq.symm h2))) (Nat.le_of_ble_eq_true rfl)))
theorem ar27 {a1 : Nat} {a2 : Nat} {a3 : Nat} (h1 : a1 < (min a2 a3)) : a1 < a2 := by
  grind -ring -ac
theorem ar28 {a1 : Nat} {a2 : Nat} {a3 : Nat} (h1 : a1 < (min a3 a2)) : a1 < a2 := by
  grind -ring -ac
theorem ar29 {a1 : Nat} {a2 : Nat} {a3 : Nat} (h1 : a2 = (a3 + (5 : Nat))) (h2 : a3 = a1) : a1 ≤ a2 := (dFF a1 a2 5 0 0 0 (dTT a1 a3 a2 0 0 5 0 (Nat.le_of_eq (Eq.symm h2)) (Nat.le_of_eq (Eq.symm h1))) (Nat.le_of_ble_eq_true rfl))
theorem ar30 {a1 : Nat} {a2 : Nat} {a3 : Nat} (h1 : a1 < a2) (h2 : a1 < a3) : (min a1 a2) = (min a1 a3) := by
  lia
theorem ar31 {a1 : Nat} {a2 : Nat} (h1 : (a1 + a2) < ((2 : Nat) ^ 20)) : (a1 + a2) ≤ (16777216 : Nat) := (dFF (a1 + a2) 0 1 1048576 0 16777216 h1 (Nat.le_of_ble_eq_true rfl))
theorem ar32 {a1 : Nat}  : (0 : Int) ≤ ((a1 : Nat) : Int) := by
  lia
theorem ar33 {a1 : Nat} (h1 : (0 : Nat) < a1) : (-((a1 : Nat) : Int)) ≤ (-(1 : Int)) := by
  lia
theorem ar34 {a1 : Nat}  : (Int.toNat ((-(1 : Int)) + ((a1 : Nat) : Int))) = (a1 - (1 : Nat)) := by
  lia
theorem ar35 {a1 : Nat}  : a1 ≤ (a1 + (1 : Nat)) := (dRR a1 0 1 (Nat.le_of_ble_eq_true rfl))
theorem ar36 {a1 : Nat} {a2 : Nat} (h1 : (a1 + (a2 + (1 : Nat))) < (600 : Nat)) : ((a1 + (1 : Nat)) + a2) < (600 : Nat) := by
  lia
theorem ar37 {a1 : Nat} {a2 : Nat} (h1 : (a1 + ((8 : Nat) * (a2 + (1 : Nat)))) < (6000 : Nat)) : ((a1 + (3 : Nat)) + ((8 : Nat) * a2)) < (6000 : Nat) := by
  lia
theorem ar38 {a1 : Nat} {a2 : Nat} {a3 : Nat} (h1 : (a1 + a3) < (600 : Nat)) (h2 : a2 ≤ a3) : (a1 + a2) < (600 : Nat) := by
  lia
theorem ar39 {a1 : Nat} {a2 : Nat} {a3 : Nat} (h1 : (a1 + ((8 : Nat) * a3)) < (6000 : Nat)) (h2 : a2 ≤ a3) : (a1 + ((8 : Nat) * a2)) < (6000 : Nat) := by
  lia
theorem ar40 {a1 : Nat} {a2 : Nat} (h1 : (a1 + a2) < (600 : Nat)) : a1 < (1000 : Nat) := by
  lia
theorem ar41 {a1 : Int} (h1 : (((Int.toNat a1) : Nat) : Int) < ((2 : Int) ^ 62)) : a1 < ((2 : Int) ^ 63) := by
  lia
theorem ar42 {a1 : Nat} (h1 : a1 < ((2 : Nat) ^ 62)) : ((a1 : Nat) : Int) < ((2 : Int) ^ 63) := by
  lia
theorem ar43 {a1 : Nat} (h1 : a1 < ((2 : Nat) ^ 20)) : a1 ≤ ((2 : Nat) ^ 24) := (dFF a1 0 1 1048576 0 16777216 h1 (Nat.le_of_ble_eq_true rfl))
theorem ar44 {a1 : Int} {a2 : Nat} (h1 : (Int.toNat a1) ≤ a2) (h2 : a2 < ((2 : Nat) ^ 20)) : a1 < ((2 : Int) ^ 63) := by
  lia
theorem ar45 {a1 : Nat} {a2 : Nat} (h1 : a1 = a2) (h2 : a2 < ((2 : Nat) ^ 20)) : a1 < ((2 : Nat) ^ 20) := (dTT a1 a2 0 0 0 1 1048576 (Nat.le_of_eq h1) h2)
theorem ar46 {a1 : Int} {a2 : Nat} {a3 : Nat} (h1 : (Int.toNat a1) ≤ a3) (h2 : a2 = a3) : (min (Int.toNat a1) a2) = (Int.toNat a1) := by
  lia
theorem ar47 {a1 : Int} (h1 : (0 : Int) ≤ a1) : ¬ (a1 < (0 : Int)) := by
  lia
theorem ar48 {a1 : Int} (h1 : (0 : Int) ≤ a1) : (0 : Int) ≤ a1 := by
  omega
theorem ar49 {a1 : Int} {a2 : Nat} (h1 : (Int.toNat a1) < a2) (h2 : a2 < ((2 : Nat) ^ 62)) : a1 < ((2 : Int) ^ 63) := by
  lia
theorem ar50 {a1 : Nat} {a2 : Nat} {a3 : Nat} (h1 : a1 < a3) (h2 : a2 = a3) : a1 < a2 := (dTT a1 a3 a2 1 0 0 0 h1 (Nat.le_of_eq (Eq.symm h2)))
theorem ar51 {a1 : Int} (h1 : (0 : Int) ≤ a1) (h2 : a1 < ((2 : Int) ^ 20)) : ((-(9223372036854775808 : Int)) ≤ a1) ∧ (a1 < (9223372036854775808 : Int)) := by
  lia
theorem ar52 {a1 : Int} (h1 : a1 < ((2 : Int) ^ 20)) : a1 ≤ (1152921504606846975 : Int) := by
  lia
theorem ar53 {a1 : Int} (h1 : a1 < ((2 : Int) ^ 20)) : a1 ≤ (16777216 : Int) := by
  lia
theorem ar54 {a1 : Nat} (h1 : a1 < (9000 : Nat)) : (a1 + (1 : Nat)) < (9900 : Nat) := (dFF a1 0 1 9000 2 9900 h1 (Nat.le_of_ble_eq_true rfl))
theorem ar55 {a1 : Nat} {a2 : Nat} (h1 : a2 < a1) : ((a1 - (1 : Nat)) - a2) < a1 := by
  omega
theorem ar56 {a1 : Nat} {a2 : Nat} (h1 : (a1 + (1 : Nat)) < (a2 + (1 : Nat))) : a1 < a2 := (dFF a1 a2 2 1 1 0 h1 (Nat.le_of_ble_eq_true rfl))
theorem ar57 {a1 : Nat}  : (((2 : Nat) * a1) / (2 : Nat)) = a1 := by
  lia
theorem ar58 {a1 : Nat} (h1 : (a1 ≤ (4000 : Nat)) ∨ (((a1 % (2 : Nat)) = (0 : Nat)) ∧ (a1 ≤ (7000 : Nat)))) : a1 < (9000 : Nat) := by
  grind -ring -ac
theorem ar59 {a1 : Nat} {a2 : Nat} {a3 : Nat} (h1 : (a1 ≤ (4000 : Nat)) ∨ (((a1 % (2 : Nat)) = (0 : Nat)) ∧ (a1 ≤ (7000 : Nat)))) (h2 : a2 ≤ (a1 + a3)) (h3 : ¬ (a2 ≤ (a3 + (4000 : Nat)))) : ((a1 % (2 : Nat)) = (0 : Nat)) ∧ (a1 ≤ (7000 : Nat)) := by
  grind -ring -ac
theorem ar60 {a1 : Nat} (h1 : (a1 % (2 : Nat)) = (0 : Nat)) : a1 = ((2 : Nat) * (a1 / (2 : Nat))) := by
  lia
theorem ar61 {a1 : Nat} {a2 : Nat} (h1 : ¬ (a1 ≤ (a2 + (4000 : Nat)))) : ¬ ((((a1 : Nat) : Int) - ((a2 : Nat) : Int)) ≤ (4000 : Int)) := by
  lia
theorem ar62 {a1 : Nat} {a2 : Nat} {a3 : Nat} (h1 : a1 = (a2 + (1 : Nat))) (h2 : a2 = ((2 : Nat) * a3)) : (((a1 : Nat) : Int) % (2 : Int)) = (1 : Int) := by
  lia
theorem ar63 {a1 : Nat} {a2 : Nat} {a3 : Nat} (h1 : a1 ≤ (a2 + a3)) (h2 : a2 ≤ (7000 : Nat)) (h3 : a3 = (a2 + (1 : Nat))) : (((a1 : Nat) : Int) + (1 : Int)) ≤ ((2 : Int) ^ 27) := by
  lia
theorem ar64 {a1 : Nat} {a2 : Nat} (h1 : a1 ≤ (a2 + (1 : Nat))) (h2 : a2 ≤ (7000 : Nat)) : (((a1 : Nat) : Int) + (1 : Int)) ≤ ((2 : Int) ^ 27) := by
  lia
theorem ar65 {a1 : Nat}  : (((a1 : Nat) : Int) * ((2 : Int) ^ 1)) = ((((2 : Nat) * a1) : Nat) : Int) := by
  lia
theorem ar66 {a1 : Nat}  : (((a1 : Nat) : Int) * ((2 : Int) ^ 1)) = (((a1 * (2 : Nat)) : Nat) : Int) := by
  lia
theorem ar67 {a1 : Nat} {a2 : Nat} {a3 : Nat} (h1 : a1 = (a3 + (1 : Nat))) (h2 : a3 = ((2 : Nat) * a2)) : (((a1 : Nat) : Int) + (1 : Int)) = ((((2 : Nat) * (a2 + (1 : Nat))) : Nat) : Int) := by
  lia
theorem ar68 {a1 : Nat}  : (((2 : Nat) * a1) + (2 : Nat)) = ((a1 + (a1 + (1 : Nat))) + (1 : Nat)) := by
  lia
theorem ar69 {a1 : Nat} {a2 : Nat} {a3 : Nat} (h1 : a1 < a3) (h2 : a2 = ((2 : Nat) * a3)) : ((2 : Nat) * a1) < a2 := by
  lia
theorem ar70 {a1 : Nat} {a2 : Nat} {a3 : Nat} {a4 : Nat} (h1 : (a3 + (1 : Nat)) = a2) (h2 : a1 ≤ (1 : Nat)) (h3 : a4 = ((2 : Nat) * a3)) (h4 : a4 ≤ (7000 : Nat)) : (((a1 : Nat) : Int) + ((a2 : Nat) : Int)) ≤ ((2 : Int) ^ 27) := by
  lia
theorem ar71 {a1 : Nat} {a2 : Nat} {a3 : Nat} (h1 : (a3 + (1 : Nat)) = a1) (h2 : a2 = ((2 : Nat) * a3)) : a1 ≤ (a2 + (1 : Nat)) := by
  lia
theorem ar72 {a1 : Nat} {a2 : Nat} {a3 : Nat} (h1 : (a3 + (1 : Nat)) = a2) (h2 : a1 = ((2 : Nat) * a3)) : ((a1 + (1 : Nat)) - a2) = a3 := by
  lia
theorem ar73 {a1 : Nat} {a2 : Nat} {a3 : Nat} (h1 : (a2 + (1 : Nat)) = a3) (h2 : a1 = ((2 : Nat) * a2)) : (a1 + (1 : Nat)) = (a2 + a3) := by
  lia
theorem ar74 {a1 : Nat} {a2 : Nat} {a3 : Nat} (h1 : (a3 + (1 : Nat)) = a2) (h2 : a1 = ((2 : Nat) * a3)) : (((2 : Nat) * a1) + (2 : Nat)) ≤ (((2 : Nat) * a2) + (a3 + a2)) := by
  lia
theorem ar75 {a1 : Nat}  : (0 : Int) ≤ ((((2 : Nat) * a1) : Nat) : Int) := by
  lia
theorem ar76 {a1 : Nat} {a2 : Nat} (h1 : a2 = ((2 : Nat) * a1)) (h2 : a2 ≤ (7000 : Nat)) : a1 ≤ (4000 : Nat) := by
  lia
theorem ar77 {a1 : Nat} {a2 : Nat} {a3 : Nat} (h1 : (a2 + (1 : Nat)) = a1) (h2 : a3 = ((2 : Nat) * a2)) (h3 : a3 ≤ (7000 : Nat)) : a1 ≤ (4000 : Nat) := by
  lia
theorem ar78 {a1 : Nat} {a2 : Nat} {a3 : Nat} {a4 : Nat} (h1 : ((a1 * a2) + ((1 : Nat) * a2)) ≤ (a4 * a2)) (h2 : a3 < a2) : ((a1 * a2) + a3) < (a4 * a2) := by
  lia
theorem ar79 {a1 : Nat} {a2 : Nat} {a3 : Nat} {a4 : Nat} {a5 : Nat} (h1 : (a3 + (1 : Nat)) = a2) (h2 : a1 ≤ (a4 + a5)) (h3 : a4 = ((2 : Nat) * a3)) (h4 : a4 ≤ (7000 : Nat)) (h5 : a5 = (a4 + (1 : Nat))) : (((a1 : Nat) : Int) + ((a2 : Nat) : Int)) ≤ ((2 : Int) ^ 27) := by
  lia
theorem ar80 {a1 : Nat} {a2 : Nat} {a3 : Nat}  : (((((a1 * a2) : Nat) : Int) + ((a3 : Nat) : Int)) - (((0 : Nat) : Nat) : Int)) = ((((a1 * a2) + a3) : Nat) : Int) := by
  lia
theorem ar81 {a1 : Nat} {a2 : Nat} (h1 : a1 ≤ (a2 + (1 : Nat))) (h2 : a2 < a1) : a1 = (a2 + (1 : Nat)) := (Nat.le_antisymm h1 h2)
theorem ar82 {a1 : Nat} {a2 : Nat} {a3 : Nat} {a4 : Nat} (h1 : (a1 = a3) ∨ (a1 = a4)) (h2 : (a3 < a2) ∨ (a2 < a3)) (h3 : (a4 < a2) ∨ (a2 < a4)) : ¬ (a1 = a2) := by
  grind -ring -ac
theorem ar83 {a1 : Nat}  : (a1 + (1 : Nat)) ≤ (a1 + (4 : Nat)) := (dRR a1 1 4 (Nat.le_of_ble_eq_true rfl))
theorem ar84 {a1 : Nat} {a2 : Nat} (h1 : (a2 + (1 : Nat)) = a1) : (0 : Nat) < a1 := (dTT 0 a2 a1 0 0 1 0 (Nat.zero_le a2) (Nat.le_of_eq h1))
theorem ar85 {a1 : Nat} {a2 : Nat} (h1 : (a2 + (1 : Nat)) = a1) (h2 : (a2 ≤ (4000 : Nat)) ∨ (((a2 % (2 : Nat)) = (0 : Nat)) ∧ (a2 ≤ (7000 : Nat)))) : a1 ≤ (100000 : Nat) := by
  grind -ring -ac
theorem ar86 {a1 : Nat} (h1 : (0 : Nat) < a1) : ¬ (((a1 : Nat) : Int) = (0 : Int)) := by
  lia
theorem ar87 {a1 : Nat}  : ¬ (((a1 : Nat) : Int) < (0 : Int)) := by
  lia
theorem ar88 {a1 : Nat} {a2 : Nat} (h1 : a1 < a2) (h2 : a1 = a2) : False := by
  lia
theorem ar89 {a1 : Nat} {a2 : Nat} {a3 : Nat} (h1 : a1 < a2) (h2 : a1 = a3) (h3 : a3 = (a2 + (1 : Nat))) : False := by
  lia
theorem ar90 {a1 : Nat} {a2 : Nat} (h1 : (a1 + (2 : Nat)) < a2) : (a1 + (1 : Nat)) < a2 := (dFF a1 a2 3 0 2 0 h1 (Nat.le_of_ble_eq_true rfl))
theorem ar91 {a1 : Nat} {a2 : Nat} (h1 : (a1 + (2 : Nat)) < a2) : (a1 + (2 : Nat)) < a2 := h1
theorem ar92 {a1 : Nat}  : a1 ≤ (a1 + (2 : Nat)) := (dRR a1 0 2 (Nat.le_of_ble_eq_true rfl))
theorem ar93 {a1 : Nat} {a2 : Nat} {a3 : Nat} (h1 : (a3 + (2 : Nat)) < a2) (h2 : a1 < a3) : a1 < a2 := (dFF a1 a2 4 0 1 0 (dTT a1 a3 a2 1 0 3 0 h2 h1) (Nat.le_of_ble_eq_true rfl))
theorem ar94 {a1 : Int} {a2 : Nat} (h1 : (0 : Int) ≤ a1) (h2 : a1 < ((a2 : Nat) : Int)) : (Int.toNat a1) < a2 := by
  lia
theorem ar95 {a1 : Int} {a2 : Nat} {a3 : Nat} (h1 : a2 < a3) : (a1 ≤ (a1 + (((a2 : Nat) : Int) * (1 : Int)))) ∧ ((a1 + (((a2 : Nat) : Int) * (1 : Int))) < (a1 + ((a3 : Nat) : Int))) := by
  lia
theorem ar96 {a1 : Nat} {a2 : Nat} {a3 : Nat} (h1 : a1 ≤ a3) (h2 : a3 = a2) : a1 ≤ a2 := (dTT a1 a3 a2 0 0 0 0 h1 (Nat.le_of_eq h2))
theorem ar97 {a1 : Nat} {a2 : Nat} {a3 : Nat} {a4 : Nat} {a5 : Nat} {a6 : Nat} (h1 : (a1 + (2 : Nat)) < a3) (h2 : a4 < a5) (h3 : a4 = (a3 + (1 : Nat))) (h4 : a5 ≤ a6) (h5 : a6 = a2) : a1 < a2 := (dFF a1 a2 5 0 1 0 (dTT a1 a6 a2 5 0 0 0 (dTT a1 a5 a6 5 0 0 0 (dTT a1 a4 a5 4 0 1 0 (dTT a1 a3 a4 3 0 1 0 h1 (Nat.le_of_eq (Eq.symm h3))) h2) h4) (Nat.le_of_eq h5)) (Nat.le_of_ble_eq_true rfl))
theorem ar98 {a1 : Int} {a2 : Nat} (h1 : ((0 : Int) + (((a2 : Nat) : Int) * (1 : Int))) = a1) : a1 = ((a2 : Nat) : Int) := by
  lia
theorem ar99 {a1 : Nat} {a2 : Nat} (h1 : a1 < a2) : a1 ≤ a2 := (dFF a1 a2 1 0 0 0 h1 (Nat.le_of_ble_eq_true rfl))
theorem ar100 {a1 : Nat} {a2 : Nat} {a3 : Nat} {a4 : Nat} {a5 : Nat} (h1 : a3 < a4) (h2 : a3 = (a1 + (1 : Nat))) (h3 : a4 ≤ a5) (h4 : a5 = a2) : a1 < a2 := (dFF a1 a2 2 0 1 0 (dTT a1 a5 a2 2 0 0 0 (dTT a1 a4 a5 2 0 0 0 (dTT a1 a3 a4 1 0 1 0 (Nat.le_of_eq (Eq.symm h2)) h1) h3) (Nat.le_of_eq h4)) (Nat.le_of_ble_eq_true rfl))
theorem ar101 {a1 : Nat} {a2 : Nat} {a3 : Nat} {a4 : Nat} (h1 : a1 < a3) (h2 : a3 ≤ a4) (h3 : a4 = a2) : a1 < a2 := (dTT a1 a4 a2 1 0 0 0 (dTT a1 a3 a4 1 0 0 0 h1 h2) (Nat.le_of_eq h3))
theorem ar102 {a1 : Nat} {a2 : Nat} (h1 : (a1 + (2 : Nat)) < a2) : a1 < a2 := (dFF a1 a2 3 0 1 0 h1 (Nat.le_of_ble_eq_true rfl))
theorem ar103 {a1 : Nat} {a2 : Nat} {a3 : Nat} (h1 : (a1 + (2 : Nat)) < a3) (h2 : a2 = (a3 + (1 : Nat))) : a1 < a2 := (dFF a1 a2 4 0 1 0 (dTT a1 a3 a2 3 0 1 0 h1 (Nat.le_of_eq (Eq.symm h2))) (Nat.le_of_ble_eq_true rfl))
theorem ar104 {a1 : Nat} {a2 : Nat} (h1 : (a1 + (2 : Nat)) < a2) : a1 ≤ a2 := (dFF a1 a2 3 0 0 0 h1 (Nat.le_of_ble_eq_true rfl))
theorem ar105 {a1 : Nat} {a2 : Nat} {a3 : Nat} (h1 : (a1 + (2 : Nat)) < a3) (h2 : a2 = (a3 + (1 : Nat))) : a1 ≤ a2 := (dFF a1 a2 4 0 0 0 (dTT a1 a3 a2 3 0 1 0 h1 (Nat.le_of_eq (Eq.symm h2))) (Nat.le_of_ble_eq_true rfl))
theorem ar106 {a1 : Int} {a2 : Nat} {a3 : Nat} (h1 : ((0 : Int) ≤ a1) ∧ (a1 < ((0 : Int) + ((a3 : Nat) : Int)))) (h2 : a2 = ((2 : Nat) * a3)) : ((0 : Int) ≤ a1) ∧ (a1 < ((a2 : Nat) : Int)) := by
  grind -ring -ac
theorem ar107 {a1 : Nat} {a2 : Nat} (h1 : a1 = ((2 : Nat) * a2)) (h2 : a2 ≤ (4 : Nat)) : a1 < ((2 : Nat) ^ 62) := by
  lia
theorem ar108 {a1 : Int} {a2 : Nat} (h1 : ((0 : Int) ≤ a1) ∧ (a1 < ((0 : Int) + ((a2 : Nat) : Int)))) : ((0 : Int) ≤ a1) ∧ (a1 < ((a2 : Nat) : Int)) := by
  lia
theorem ar109 {a1 : Nat} {a2 : Nat} {a3 : Nat} (h1 : a1 = a2) (h2 : a2 < a3) (h3 : a3 ≤ (4 : Nat)) : a1 < ((2 : Nat) ^ 20) := (dFF a1 0 1 4 1 1048576 (dTT a1 a3 0 1 0 0 4 (dTT a1 a2 a3 0 0 1 0 (Nat.le_of_eq h1) h2) h3) (Nat.le_of_ble_eq_true rfl))
theorem ar110 {a1 : Nat} {a2 : Nat} {a3 : Nat} (h1 : a1 < a3) (h2 : a2 = ((2 : Nat) * a3)) : ((a1 : Nat) : Int) < ((a2 : Nat) : Int) := by
  lia
theorem ar111 {a1 : Int} {a2 : Nat} {a3 : Nat} {a4 : Nat} (h1 : ((0 : Int) ≤ a1) ∧ (a1 < ((a3 : Nat) : Int))) (h2 : a2 = ((2 : Nat) * a4)) (h3 : a3 < a4) : ((0 : Int) ≤ a1) ∧ (a1 < ((a2 : Nat) : Int)) := by
  grind -ring -ac
theorem ar112 {a1 : Nat} {a2 : Nat} (h1 : a2 = (a1 + (1 : Nat))) : a1 < a2 := (Nat.le_of_eq (Eq.symm h1))
theorem ar113 {a1 : Int} {a2 : Int} {a3 : Int} {a4 : Nat} (h1 : ((0 : Int) ≤ a3) ∧ (a3 < ((a4 : Nat) : Int))) (h2 : a1 ≤ a2) : (a1 < a2) ∨ ((a1 = a2) ∧ (a3 < ((a4 : Nat) : Int))) := by
  lia
theorem ar114 {a1 : Nat} {a2 : Nat}  : (0 : Int) ≤ (((a1 : Nat) : Int) + ((a2 : Nat) : Int)) := by
  lia
theorem ar115 {a1 : Nat} {a2 : Nat} {a3 : Nat} (h1 : a2 < a1) (h2 : a3 = ((2 : Nat) * a1)) : (((a1 : Nat) : Int) + ((a2 : Nat) : Int)) < ((a3 : Nat) : Int) := by
  lia
theorem ar116 {a1 : Int} {a2 : Nat} {a3 : Nat} {a4 : Nat} (h1 : (((a3 : Nat) : Int) ≤ a1) ∧ (a1 < (((a3 : Nat) : Int) + ((a4 : Nat) : Int)))) (h2 : a2 = ((2 : Nat) * a3)) (h3 : a4 < a3) : ((0 : Int) ≤ a1) ∧ (a1 < ((a2 : Nat) : Int)) := by
  lia
theorem ar117 {a1 : Int} {a2 : Int} {a3 : Int} {a4 : Nat} {a5 : Nat} (h1 : (((a4 : Nat) : Int) ≤ a3) ∧ (a3 < (((a4 : Nat) : Int) + ((a5 : Nat) : Int)))) (h2 : a2 ≤ a1) : ((-a1) < (-a2)) ∨ (((-a1) = (-a2)) ∧ (a3 < (((a4 : Nat) : Int) + ((a5 : Nat) : Int)))) := by
  lia
theorem ar118 {a1 : Int} {a2 : Int} {a3 : Nat} {a4 : Nat} {a5 : Int} (h1 : a2 < a1) : ((-a1) < (-a2)) ∨ (((-a1) = (-a2)) ∧ ((((a3 : Nat) : Int) + ((a4 : Nat) : Int)) < a5)) := by
  omega
theorem ar119 {a1 : Nat} {a2 : Nat} {a3 : Nat} {a4 : Nat} {a5 : Nat} (h1 : (a1 + (2 : Nat)) < a3) (h2 : a4 < a5) (h3 : a4 = (a3 + (1 : Nat))) (h4 : a5 ≤ a2) : a1 ≤ a2 := (dFF a1 a2 5 0 0 0 (dTT a1 a5 a2 5 0 0 0 (dTT a1 a4 a5 4 0 1 0 (dTT a1 a3 a4 3 0 1 0 h1 (Nat.le_of_eq (Eq.symm h3))) h2) h4) (Nat.le_of_ble_eq_true rfl))
theorem ar120 {a1 : Int} {a2 : Nat} {a3 : Nat} (h1 : ((0 : Int) ≤ a1) ∧ (a1 < ((0 : Int) + ((a3 : Nat) : Int)))) (h2 : a2 = ((2 : Nat) * a3)) : a1 < ((a2 : Nat) : Int) := by
  lia
theorem ar121 {a1 : Int} {a2 : Nat} (h1 : ((0 : Int) ≤ a1) ∧ (a1 < ((0 : Int) + ((a2 : Nat) : Int)))) (h2 : a2 ≤ (4 : Nat)) : ((-(500 : Int)) < (-a1)) ∧ ((-a1) < (500 : Int)) := by
  lia
theorem ar122 {a1 : Nat} (h1 : a1 ≤ (4 : Nat)) : a1 ≤ (16 : Nat) := (dFF a1 0 0 4 0 16 h1 (Nat.le_of_ble_eq_true rfl))
theorem ar123 {a1 : Nat} (h1 : a1 ≤ (4 : Nat)) : a1 < (64 : Nat) := (dFF a1 0 0 4 1 64 h1 (Nat.le_of_ble_eq_true rfl))
theorem ar124 {a1 : Int} {a2 : Int} {a3 : Int} {a4 : Int} {a5 : Nat} (h1 : ((0 : Int) ≤ a2) ∧ (a2 < ((0 : Int) + ((a5 : Nat) : Int)))) (h2 : ((0 : Int) ≤ a4) ∧ (a4 < ((0 : Int) + ((a5 : Nat) : Int)))) (h3 : (a1 < a3) ∨ ((a1 = a3) ∧ (a4 < a2))) (h4 : a5 ≤ (4 : Nat)) : (((a1 * (1000 : Int)) + (-a2)) < ((a3 * (1000 : Int)) + (-a4))) ∨ ((((a1 * (1000 : Int)) + (-a2)) = ((a3 * (1000 : Int)) + (-a4))) ∧ (a2 < a4)) := by
  lia
theorem ar125 {a1 : Nat} (h1 : (a1 + ((8 : Nat) * (19 : Nat))) < (6000 : Nat)) : a1 < (9000 : Nat) := by
  lia
theorem ar126 {a1 : Nat}  : ((2 : Int) * ((a1 : Nat) : Int)) = ((((2 : Nat) * a1) : Nat) : Int) := by
  lia
theorem ar127 {a1 : Int} {a2 : Nat} (h1 : (((a2 : Nat) : Int) ≤ a1) ∧ (a1 < (((a2 : Nat) : Int) + ((a2 : Nat) : Int)))) : (0 : Int) ≤ a1 := by
  lia
theorem ar128 {a1 : Int} {a2 : Nat} {a3 : Nat} (h1 : (((a3 : Nat) : Int) ≤ a1) ∧ (a1 < (((a3 : Nat) : Int) + ((a3 : Nat) : Int)))) (h2 : a2 = ((2 : Nat) * a3)) : a1 < ((a2 : Nat) : Int) := by
  lia
theorem ar129 {a1 : Nat} (h1 : a1 ≤ (4 : Nat)) : ((2 : Nat) * a1) ≤ (16 : Nat) := by
  lia
theorem ar130 {a1 : Int} {a2 : Nat} (h1 : ((0 : Int) ≤ a1) ∧ (a1 < ((0 : Int) + ((((2 : Nat) * a2) : Nat) : Int)))) : (0 : Int) ≤ a1 := by
  omega
theorem ar131 {a1 : Int} {a2 : Nat} {a3 : Nat} (h1 : ((0 : Int) ≤ a1) ∧ (a1 < ((0 : Int) + ((((2 : Nat) * a3) : Nat) : Int)))) (h2 : a2 = ((2 : Nat) * a3)) : a1 < ((a2 : Nat) : Int) := by
  lia
theorem ar132 {a1 : Nat} (h1 : a1 ≤ (4 : Nat)) : ((2 : Nat) * a1) < (64 : Nat) := by
  lia
theorem ar133 {a1 : Nat} {a2 : Nat} (h1 : a1 = ((2 : Nat) * a2)) (h2 : a2 ≤ (4 : Nat)) : a1 < ((2 : Nat) ^ 20) := by
  lia
theorem ar134 {a1 : Nat} {a2 : Nat} {a3 : Nat} {a4 : Nat} (h1 : (a1 + (2 : Nat)) < a3) (h2 : a4 < a2) (h3 : a4 = (a3 + (1 : Nat))) : a1 < a2 := (dFF a1 a2 5 0 1 0 (dTT a1 a4 a2 4 0 1 0 (dTT a1 a3 a4 3 0 1 0 h1 (Nat.le_of_eq (Eq.symm h3))) h2) (Nat.le_of_ble_eq_true rfl))
theorem ar135 {a1 : Nat} {a2 : Nat} {a3 : Nat} {a4 : Nat} {a5 : Nat} {a6 : Nat} {a7 : Nat} {a8 : Nat} {a9 : Nat} (h1 : (a1 + (2 : Nat)) < a3) (h2 : a4 < a5) (h3 : a4 = (a3 + (1 : Nat))) (h4 : a5 ≤ a6) (h5 : a7 < a8) (h6 : a8 ≤ a2) (h7 : a9 = (a6 + (1 : Nat))) (h8 : a9 ≤ a7) : a1 < a2 := (dFF a1 a2 7 0 1 0 (dTT a1 a8 a2 7 0 0 0 (dTT a1 a7 a8 6 0 1 0 (dTT a1 a9 a7 6 0 0 0 (dTT a1 a6 a9 5 0 1 0 (dTT a1 a5 a6 5 0 0 0 (dTT a1 a4 a5 4 0 1 0 (dTT a1 a3 a4 3 0 1 0 h1 (Nat.le_of_eq (Eq.symm h3))) h2) h4) (Nat.le_of_eq (Eq.symm h7))) h8) h5) h6) (Nat.le_of_ble_eq_true rfl))
theorem ar136 {a1 : Nat} {a2 : Nat} (h1 : a1 ≤ (4 : Nat)) : (min a1 a2) < ((2 : Nat) ^ 20) := by
  lia
theorem ar137 {a1 : Nat} {a2 : Nat} {a3 : Nat} (h1 : a1 ≤ (min a2 a3)) (h2 : a2 ≤ (4 : Nat)) : a1 < ((2 : Nat) ^ 62) := by
  grind -ring -ac
theorem ar138 {a1 : Nat} {a2 : Nat}  : (((a1 : Nat) : Int) + ((a2 : Nat) : Int)) = (((a1 + a2) : Nat) : Int) := by
  lia
theorem ar139 {a1 : Nat} (h1 : a1 ≤ (100 : Nat)) : a1 < ((2 : Nat) ^ 62) := (dFF a1 0 0 100 1 4611686018427387904 h1 (Nat.le_of_ble_eq_true rfl))
theorem ar140 {a1 : Nat} {a2 : Nat}  : a1 ≤ (a1 + a2) := by
  lia
theorem ar141 {a1 : Nat} {a2 : Nat} {a3 : Nat} (h1 : a2 ≤ a3) : (a1 + a2) ≤ (a1 + a3) := by
  lia
theorem ar142 {a1 : Nat} {a2 : Nat} {a3 : Nat} {a4 : Nat} (h1 : a1 < (a2 + a4)) (h2 : a2 ≤ a1) (h3 : a4 ≤ a3) : (a1 - a2) < a3 := by
  lia
theorem ar143 {a1 : Nat} {a2 : Nat} (h1 : a1 ≤ a2) : (a1 + (a2 - a1)) = a2 := by
  grind -ring -ac
theorem ar144 {a1 : Nat} {a2 : Nat} {a3 : Nat} (h1 : a1 < (a2 + a3)) (h2 : a2 ≤ a1) : (a1 - a2) < a3 := by
  lia
theorem ar145 {a1 : Nat} {a2 : Nat} {a3 : Nat} {a4 : Nat} (h1 : (a2 + a4) ≤ a1) (h2 : a1 < (a2 + a3)) : (a1 - a2) < a3 := by
  lia
theorem ar146 {a1 : Nat} {a2 : Nat} {a3 : Nat} (h1 : (a1 + a3) ≤ a2) : (a1 + (a2 - a1)) = a2 := by
  lia
theorem ar147 {a1 : Nat} {a2 : Nat} {a3 : Nat} (h1 : (a2 + a3) ≤ a1) : ¬ ((a1 - a2) < a3) := by
  lia
theorem ar148 {a1 : Nat} {a2 : Nat} (h1 : a2 ≤ a1) : (((a1 : Nat) : Int) - ((a2 : Nat) : Int)) = (((a1 - a2) : Nat) : Int) := by
  grind -ring -ac
theorem ar149 {a1 : Int} {a2 : Int} {a3 : Nat} {a4 : Nat} (h1 : (a2 ≤ a1) ↔ (a3 < a4)) : ((((256 : Int) + a1) - a2) < (256 : Int)) ↔ (¬ (a3 < a4)) := by
  lia
theorem ar150 {a1 : Int} {a2 : Int} {a3 : Nat} {a4 : Nat} {a5 : Nat} (h1 : (a2 ≤ a1) ↔ (((a4 - (1 : Nat)) - a3) < a5)) (h2 : a3 < a4) : ((256 : Int) ≤ (((256 : Int) + a1) - a2)) ↔ (¬ (a3 < (a4 - a5))) := by
  omega
theorem ar151 {a1 : Nat} (h1 : a1 ≤ (100 : Nat)) : a1 < ((2 : Nat) ^ 20) := (dFF a1 0 0 100 1 1048576 h1 (Nat.le_of_ble_eq_true rfl))
theorem ar152 {a1 : Nat} {a2 : Nat} {a3 : Nat} {a4 : Nat} {a5 : Nat} (h1 : (a1 + (2 : Nat)) < a3) (h2 : a4 < a5) (h3 : a4 = (a3 + (1 : Nat))) (h4 : a5 ≤ a2) : a1 < a2 := (dFF a1 a2 5 0 1 0 (dTT a1 a5 a2 5 0 0 0 (dTT a1 a4 a5 4 0 1 0 (dTT a1 a3 a4 3 0 1 0 h1 (Nat.le_of_eq (Eq.symm h3))) h2) h4) (Nat.le_of_ble_eq_true rfl))
theorem ar153 {a1 : Nat} {a2 : Nat} (h1 : a1 = a2) (h2 : a2 ≤ (4 : Nat)) : a1 < ((2 : Nat) ^ 20) := (dFF a1 0 0 4 1 1048576 (dTT a1 a2 0 0 0 0 4 (Nat.le_of_eq h1) h2) (Nat.le_of_ble_eq_true rfl))
theorem ar154 {a1 : Int} {a2 : Nat} (h1 : ((0 : Int) ≤ a1) ∧ (a1 < ((0 : Int) + ((a2 : Nat) : Int)))) : (0 : Int) ≤ a1 := by
  lia
theorem ar155 {a1 : Nat} {a2 : Nat} {a3 : Nat} {a4 : Nat} (h1 : a3 < a4) (h2 : a3 = (a1 + (1 : Nat))) (h3 : a4 ≤ a2) : a1 < a2 := (dFF a1 a2 2 0 1 0 (dTT a1 a4 a2 2 0 0 0 (dTT a1 a3 a4 1 0 1 0 (Nat.le_of_eq (Eq.symm h2)) h1) h3) (Nat.le_of_ble_eq_true rfl))
theorem ar156 {a1 : Nat} {a2 : Nat} {a3 : Nat} (h1 : a1 < a3) (h2 : a3 ≤ a2) : a1 < a2 := (dTT a1 a3 a2 1 0 0 0 h1 h2)
theorem ar157 {a1 : Nat} {a2 : Nat} {a3 : Nat} {a4 : Nat} (h1 : a1 ≤ a3) (h2 : a4 = (a3 + (1 : Nat))) (h3 : a4 = a2) : a1 ≤ a2 := (dFF a1 a2 1 0 0 0 (dTT a1 a4 a2 1 0 0 0 (dTT a1 a3 a4 0 0 1 0 h1 (Nat.le_of_eq (Eq.symm h2))) (Nat.le_of_eq h3)) (Nat.le_of_ble_eq_true rfl))
theorem ar158 {a1 : Nat} {a2 : Nat} {a3 : Nat} {a4 : Nat} {a5 : Nat} {a6 : Nat} {a7 : Nat} {a8 : Nat} (h1 : (a1 + (2 : Nat)) < a3) (h2 : a4 < a5) (h3 : a4 = (a3 + (1 : Nat))) (h4 : a5 ≤ a6) (h5 : a6 < a7) (h6 : a8 = (a7 + (1 : Nat))) (h7 : a8 = a2) : a1 < a2 := (dFF a1 a2 7 0 1 0 (dTT a1 a8 a2 7 0 0 0 (dTT a1 a7 a8 6 0 1 0 (dTT a1 a6 a7 5 0 1 0 (dTT a1 a5 a6 5 0 0 0 (dTT a1 a4 a5 4 0 1 0 (dTT a1 a3 a4 3 0 1 0 h1 (Nat.le_of_eq (Eq.symm h3))) h2) h4) h5) (Nat.le_of_eq (Eq.symm h6))) (Nat.le_of_eq h7)) (Nat.le_of_ble_eq_true rfl))
theorem ar159 {a1 : Nat} {a2 : Nat} {a3 : Nat} {a4 : Nat} {a5 : Nat} {a6 : Nat} {a7 : Nat} (h1 : a3 < a4) (h2 : a3 = (a1 + (1 : Nat))) (h3 : a4 ≤ a5) (h4 : a5 < a6) (h5 : a7 = (a6 + (1 : Nat))) (h6 : a7 = a2) : a1 < a2 := (dFF a1 a2 4 0 1 0 (dTT a1 a7 a2 4 0 0 0 (dTT a1 a6 a7 3 0 1 0 (dTT a1 a5 a6 2 0 1 0 (dTT a1 a4 a5 2 0 0 0 (dTT a1 a3 a4 1 0 1 0 (Nat.le_of_eq (Eq.symm h2)) h1) h3) h4) (Nat.le_of_eq (Eq.symm h5))) (Nat.le_of_eq h6)) (Nat.le_of_ble_eq_true rfl))
theorem ar160 {a1 : Nat} {a2 : Nat} {a3 : Nat} {a4 : Nat} {a5 : Nat} {a6 : Nat} (h1 : a1 < a3) (h2 : a3 ≤ a4) (h3 : a4 < a5) (h4 : a6 = (a5 + (1 : Nat))) (h5 : a6 = a2) : a1 < a2 := (dFF a1 a2 3 0 1 0 (dTT a1 a6 a2 3 0 0 0 (dTT a1 a5 a6 2 0 1 0 (dTT a1 a4 a5 1 0 1 0 (dTT a1 a3 a4 1 0 0 0 h1 h2) h3) (Nat.le_of_eq (Eq.symm h4))) (Nat.le_of_eq h5)) (Nat.le_of_ble_eq_true rfl))
theorem ar161 {a1 : Nat} {a2 : Nat} {a3 : Nat} {a4 : Nat} (h1 : a1 < a3) (h2 : a4 = (a3 + (1 : Nat))) (h3 : a4 = a2) : a1 < a2 := (dFF a1 a2 2 0 1 0 (dTT a1 a4 a2 2 0 0 0 (dTT a1 a3 a4 1 0 1 0 h1 (Nat.le_of_eq (Eq.symm h2))) (Nat.le_of_eq h3)) (Nat.le_of_ble_eq_true rfl))
theorem ar162 {a1 : Nat} {a2 : Nat} (h1 : a1 = a2) (h2 : a2 ≤ (4 : Nat)) : a1 < ((2 : Nat) ^ 62) := (dFF a1 0 0 4 1 4611686018427387904 (dTT a1 a2 0 0 0 0 4 (Nat.le_of_eq h1) h2) (Nat.le_of_ble_eq_true rfl))
theorem ar163 {a1 : Int} {a2 : Int} {a3 : Nat} {a4 : Nat} (h1 : (a2 ≤ a1) ↔ (a3 < a4)) : ((256 : Int) ≤ (((256 : Int) + a1) - a2)) ↔ (((a3 : Nat) : Int) < ((a4 : Nat) : Int)) := by
  grind -ring -ac
theorem ar164 {a1 : Int} {a2 : Int} {a3 : Nat} {a4 : Nat} (h1 : (a2 ≤ a1) ↔ (a4 < a3)) : ((((256 : Int) + a1) - a2) < (256 : Int)) ↔ (((a3 : Nat) : Int) ≤ ((a4 : Nat) : Int)) := by
  grind -ring -ac
theorem ar165 {a1 : Int} {a2 : Int}  : (((((256 : Int) + a1) - a2) - (256 : Int)) = (0 : Int)) ↔ (a2 = a1) := by
  lia
theorem ar166 {a1 : Nat}  : (((((2 : Nat) * a1) : Nat) : Int) / (2 : Int)) = ((a1 : Nat) : Int) := by
  lia
theorem ar167 {a1 : Nat} {a2 : Nat} (h1 : a1 ≤ a2) : a1 ≤ ((a2 + (1 : Nat)) + (1 : Nat)) := (dFF a1 a2 0 0 0 2 h1 (Nat.le_of_ble_eq_true rfl))
theorem ar168 {a1 : Nat}  : a1 < ((a1 + (1 : Nat)) + (1 : Nat)) := (dRR a1 1 2 (Nat.le_of_ble_eq_true rfl))
theorem ar169 {a1 : Nat}  : (a1 + (1 : Nat)) < ((a1 + (1 : Nat)) + (1 : Nat)) := (dRR a1 2 2 (Nat.le_of_ble_eq_true rfl))
theorem ar170 {a1 : Nat} {a2 : Nat} (h1 : a1 < a2) : a1 < ((a2 + (1 : Nat)) + (1 : Nat)) := (dFF a1 a2 1 0 1 2 h1 (Nat.le_of_ble_eq_true rfl))
theorem ar171 {a1 : Nat} {a2 : Nat} {a3 : Nat} {a4 : Nat} (h1 : (a1 + (2 : Nat)) < a3) (h2 : a3 ≤ a4) (h3 : a4 = a2) : (a1 + (2 : Nat)) < a2 := (dTT a1 a4 a2 3 0 0 0 (dTT a1 a3 a4 3 0 0 0 h1 h2) (Nat.le_of_eq h3))
theorem ar172 {a1 : Nat}  : a1 < (a1 + (1 : Nat)) := (dRR a1 1 1 (Nat.le_of_ble_eq_true rfl))
theorem ar173 {a1 : Nat} {a2 : Nat} (h1 : a1 < a2) : a1 < a2 := h1
theorem ar174 {a1 : Nat} {a2 : Nat} {a3 : Nat} (h1 : a1 ≤ a3) (h2 : a3 ≤ a2) : a1 ≤ a2 := (dTT a1 a3 a2 0 0 0 0 h1 h2)
theorem ar175 {a1 : Nat} {a2 : Nat} {a3 : Nat} (h1 : (a3 + (2 : Nat)) < a2) (h2 : a1 ≤ a3) : a1 ≤ a2 := (dFF a1 a2 3 0 0 0 (dTT a1 a3 a2 0 0 3 0 h2 h1) (Nat.le_of_ble_eq_true rfl))
theorem ar176 {a1 : Nat} {a2 : Nat} {a3 : Nat} {a4 : Nat} (h1 : (a3 + (2 : Nat)) < a4) (h2 : a1 ≤ a3) (h3 : a2 = (a4 + (1 : Nat))) : a1 ≤ a2 := (dFF a1 a2 4 0 0 0 (dTT a1 a4 a2 3 0 1 0 (dTT a1 a3 a4 0 0 3 0 h2 h1) (Nat.le_of_eq (Eq.symm h3))) (Nat.le_of_ble_eq_true rfl))
theorem ar177 {a1 : Nat} {a2 : Nat} (h1 : a1 < a2) : ((a1 : Nat) : Int) < ((a2 : Nat) : Int) := by
  lia
theorem ar178 {a1 : Nat} {a2 : Nat} {a3 : Nat} {a4 : Nat} (h1 : a1 < a2) (h2 : a2 ≤ a4) (h3 : a4 ≤ a3) : ((a1 + a2) / (2 : Nat)) < a3 := by
  lia
theorem ar179 {a1 : Nat} {a2 : Nat}  : ((((a1 : Nat) : Int) + ((a2 : Nat) : Int)) / (2 : Int)) = ((((a1 + a2) / (2 : Nat)) : Nat) : Int) := by
  lia
theorem ar180 {a1 : Nat} {a2 : Nat}  : (0 : Int) ≤ ((((a1 + a2) / (2 : Nat)) : Nat) : Int) := by
  lia
theorem ar181 {a1 : Nat} {a2 : Nat} {a3 : Nat} (h1 : a1 ≤ a2) (h2 : a2 < a3) : a1 ≤ ((a2 + a3) / (2 : Nat)) := by
  lia
theorem ar182 {a1 : Nat} {a2 : Nat} {a3 : Nat} (h1 : a1 < a2) (h2 : a2 ≤ a3) : ((a1 + a2) / (2 : Nat)) < a3 := by
  lia
theorem ar183 {a1 : Nat} {a2 : Nat} (h1 : a1 < a2) : (((a1 + a2) / (2 : Nat)) - a1) < (a2 - a1) := by
  omega
theorem ar184 {a1 : Nat} {a2 : Nat} {a3 : Nat} (h1 : a1 < a2) (h2 : a2 ≤ a3) : ((a1 + a2) / (2 : Nat)) ≤ a3 := by
  lia
theorem ar185 {a1 : Nat} {a2 : Nat} (h1 : a2 < a1) : (a1 - (((a2 + a1) / (2 : Nat)) + (1 : Nat))) < (a1 - a2) := by
  omega
theorem ar186 {a1 : Nat} {a2 : Nat} {a3 : Nat} (h1 : a1 ≤ a2) (h2 : a2 < a3) : a1 ≤ (((a2 + a3) / (2 : Nat)) + (1 : Nat)) := by
  lia
theorem ar187 {a1 : Nat} {a2 : Nat} {a3 : Nat} (h1 : ((a1 + a2) / (2 : Nat)) < a3) : (((a1 + a2) / (2 : Nat)) + (1 : Nat)) ≤ a3 := h1
theorem ar188 {a1 : Nat} {a2 : Nat} (h1 : ¬ (a1 < a2)) : ¬ (((a1 : Nat) : Int) < ((a2 : Nat) : Int)) := by
  lia
theorem ar189 {a1 : Nat} {a2 : Nat} {a3 : Nat} (h1 : a1 ≤ a2) (h2 : a2 ≤ a3) (h3 : ¬ (a1 < a3)) : a1 = a2 := (Nat.le_antisymm h1 (dTT a2 a3 a1 0 0 0 0 h2 (Nat.le_of_not_lt h3)))
theorem ar190 {a1 : Nat}  : (a1 + (1 : Nat)) ≤ (a1 + (1 : Nat)) := (dRR a1 1 1 (Nat.le_of_ble_eq_true rfl))
theorem ar191 {a1 : Nat} (h1 : a1 < ((2 : Nat) ^ 20)) : a1 < ((2 : Nat) ^ 62) := (dFF a1 0 1 1048576 1 4611686018427387904 h1 (Nat.le_of_ble_eq_true rfl))
theorem ar192 {a1 : Nat} {a2 : Nat} (h1 : a1 ≤ a2) : (Int.toNat ((a1 : Nat) : Int)) ≤ a2 := by
  lia
theorem ar193 {a1 : Nat} {a2 : Nat} (h1 : (a1 - a2) ≤ (0 : Nat)) (h2 : a2 < a1) : False := by
  lia
theorem ar194 {a1 : Nat} {a2 : Nat} (h1 : (a1 + (1 : Nat)) ≤ a2) : a1 < a2 := h1
theorem ar195 {a1 : Nat} (h1 : a1 ≤ (1000 : Nat)) : a1 < ((2 : Nat) ^ 62) := (dFF a1 0 0 1000 1 4611686018427387904 h1 (Nat.le_of_ble_eq_true rfl))
theorem ar196 {a1 : Nat} {a2 : Nat} (h1 : ¬ ((a1 + (1 : Nat)) = a2)) : ¬ ((((a1 : Nat) : Int) + (1 : Int)) = ((a2 : Nat) : Int)) := by
  lia
theorem ar197 {a1 : Nat} {a2 : Nat} {a3 : Nat} (h1 : ((a1 + a3) / (2 : Nat)) = a2) (h2 : a1 < a3) (h3 : ¬ ((a1 + (1 : Nat)) = a3)) : a1 < a2 := by
  lia
theorem ar198 {a1 : Nat} {a2 : Nat} {a3 : Nat} (h1 : ((a3 + a2) / (2 : Nat)) = a1) (h2 : a3 < a2) : a1 < a2 := by
  lia
theorem ar199 {a1 : Nat} {a2 : Nat} (h1 : a2 < a1) : (0 : Int) ≤ (((a1 : Nat) : Int) - ((a2 : Nat) : Int)) := by
  lia
theorem ar200 {a1 : Nat} {a2 : Nat} {a3 : Nat} {a4 : Nat} (h1 : ((a2 + a3) / (2 : Nat)) = a1) (h2 : a3 ≤ a4) (h3 : a4 ≤ (1000 : Nat)) : (((a1 : Nat) : Int) - ((a2 : Nat) : Int)) < ((2 : Int) ^ 60) := by
  lia
theorem ar201 {a1 : Nat} {a2 : Nat} {a3 : Nat} {a4 : Nat} (h1 : ((a4 + a1) / (2 : Nat)) = a2) (h2 : (a1 - a4) ≤ (a3 + (1 : Nat))) (h3 : ¬ ((a4 + (1 : Nat)) = a1)) : (a1 - a2) ≤ a3 := by
  lia
theorem ar202 {a1 : Nat} {a2 : Nat} {a3 : Nat} (h1 : a1 ≤ a3) : (a1 - a2) ≤ a3 := by
  omega
theorem ar203 {a1 : Nat} {a2 : Nat} {a3 : Nat} {a4 : Nat} (h1 : ((a2 + a4) / (2 : Nat)) = a1) (h2 : a4 ≤ a3) : (a1 - a2) ≤ a3 := by
  lia
theorem ar204 {a1 : Nat} {a2 : Nat} {a3 : Nat} {a4 : Nat} {a5 : Nat} {a6 : Nat} (h1 : (a2 * (a3 - a4)) ≤ (a2 * a5)) (h2 : (a2 * (a6 - a3)) ≤ (a2 * a5)) (h3 : (a2 * a5) ≤ (100000 : Nat)) (h4 : a1 ≤ (a2 * (a6 - a3))) : (((a1 : Nat) : Int) + (((a2 * (a3 - a4)) : Nat) : Int)) ≤ ((2 : Int) ^ 27) := by
  lia
theorem ar205 {a1 : Nat} {a2 : Nat} {a3 : Nat} {a4 : Nat} (h1 : ((a2 + a4) / (2 : Nat)) = a1) (h2 : (a4 - a2) ≤ (a3 + (1 : Nat))) : (a1 - a2) ≤ a3 := by
  lia
theorem ar206 {a1 : Nat} {a2 : Nat} {a3 : Nat} (h1 : a1 < a3) (h2 : a3 ≤ a2) : a1 ≤ a2 := (dFF a1 a2 1 0 0 0 (dTT a1 a3 a2 1 0 0 0 h1 h2) (Nat.le_of_ble_eq_true rfl))
theorem ar207 {a1 : Nat} {a2 : Nat} (h1 : a1 ≤ a2) : a1 ≤ (((a2 + (1 : Nat)) + (1 : Nat)) + (1 : Nat)) := (dFF a1 a2 0 0 0 3 h1 (Nat.le_of_ble_eq_true rfl))
theorem ar208 {a1 : Nat}  : ¬ (a1 = (((a1 + (1 : Nat)) + (1 : Nat)) + (1 : Nat))) := (Nat.ne_of_lt (dRR a1 1 3 (Nat.le_of_ble_eq_true rfl)))
theorem ar209 {a1 : Nat} {a2 : Nat} (h1 : a1 ≤ a2) : a1 ≤ (a2 + (1 : Nat)) := (dFF a1 a2 0 0 0 1 h1 (Nat.le_of_ble_eq_true rfl))
theorem ar210 {a1 : Nat}  : ¬ ((a1 + (1 : Nat)) = (((a1 + (1 : Nat)) + (1 : Nat)) + (1 : Nat))) := (Nat.ne_of_lt (dRR a1 2 3 (Nat.le_of_ble_eq_true rfl)))
theorem ar211 {a1 : Nat} {a2 : Nat} (h1 : a1 ≤ a2) : a1 ≤ (a2 + (2 : Nat)) := (dFF a1 a2 0 0 0 2 h1 (Nat.le_of_ble_eq_true rfl))
theorem ar212 {a1 : Nat}  : ¬ ((a1 + (2 : Nat)) = (((a1 + (1 : Nat)) + (1 : Nat)) + (1 : Nat))) := (Nat.ne_of_lt (dRR a1 3 3 (Nat.le_of_ble_eq_true rfl)))
theorem ar213 {a1 : Nat} {a2 : Nat} (h1 : a1 ≤ a2) : a1 ≤ (a2 + (3 : Nat)) := (dFF a1 a2 0 0 0 3 h1 (Nat.le_of_ble_eq_true rfl))
theorem ar214 {a1 : Nat}  : (a1 - (0 : Nat)) ≤ a1 := by
  lia
theorem ar215 {a1 : Nat} {a2 : Nat} {a3 : Nat} {a4 : Nat} (h1 : ((a2 * a3) + a4) = a1) : ((((a1 : Nat) : Int) + (((a2 * a3) : Nat) : Int)) - ((2 : Int) * (((a2 * a3) : Nat) : Int))) = ((a4 : Nat) : Int) := by
  lia
theorem ar216 {a1 : Nat} {a2 : Nat} {a3 : Nat} {a4 : Nat} {a5 : Nat} (h1 : a1 ≤ a4) (h2 : a3 = (a4 - a1)) (h3 : a4 ≤ a5) (h4 : a5 ≤ a2) : ((min a1 a2) + a3) = a4 := by
  lia
theorem ar217 {a1 : Nat} {a2 : Nat} (h1 : a2 = a1) : a1 ≤ a2 := (Nat.le_of_eq (Eq.symm h1))
theorem ar218 {a1 : Nat} {a2 : Nat} {a3 : Nat} (h1 : a1 = a3) (h2 : a3 ≤ a2) : a1 ≤ a2 := (dTT a1 a3 a2 0 0 0 0 (Nat.le_of_eq h1) h2)
theorem ar219 {a1 : Nat} {a2 : Nat} (h1 : (a1 + (1 : Nat)) ≤ a2) : (Int.toNat ((a1 : Nat) : Int)) < a2 := by
  lia
theorem ar220 {a1 : Nat} {a2 : Nat} (h1 : a1 = a2) (h2 : a2 ≤ (1000 : Nat)) : a1 < ((2 : Nat) ^ 62) := (dFF a1 0 0 1000 1 4611686018427387904 (dTT a1 a2 0 0 0 0 1000 (Nat.le_of_eq h1) h2) (Nat.le_of_ble_eq_true rfl))
theorem ar221 {a1 : Nat}  : ((a1 + (1 : Nat)) - a1) = (1 : Nat) := by
  lia
theorem ar222 {a1 : Nat} {a2 : Nat} {a3 : Nat} {a4 : Nat} {a5 : Nat} (h1 : ((a2 + a3) / (2 : Nat)) = a1) (h2 : a3 ≤ a4) (h3 : a4 = a5) (h4 : a5 ≤ (1000 : Nat)) : (((a1 : Nat) : Int) - ((a2 : Nat) : Int)) < ((2 : Int) ^ 60) := by
  lia
theorem ar223 {a1 : Nat} {a2 : Nat} {a3 : Nat} {a4 : Nat} {a5 : Nat} (h1 : ((a2 + a4) / (2 : Nat)) = a1) (h2 : a4 ≤ a5) (h3 : a5 = a3) : (a1 - a2) ≤ a3 := by
  lia
theorem ar224 {a1 : Nat} {a2 : Nat} {a3 : Nat} (h1 : a2 < a3) (h2 : a3 < a1) : (a1 - a2) = ((a3 - a2) + (a1 - a3)) := by
  grind -ring -ac
theorem ar225 {a1 : Nat} {a2 : Nat} {a3 : Nat} {a4 : Nat} (h1 : a1 ≤ a4) (h2 : a4 = a3) : (a1 - a2) ≤ a3 := by
  omega
theorem ar226 {a1 : Nat} {a2 : Nat} (h1 : a1 ≤ (100000 : Nat)) (h2 : a2 ≤ (100000 : Nat)) : (((a1 : Nat) : Int) + ((a2 : Nat) : Int)) ≤ ((2 : Int) ^ 27) := by
  lia
theorem ar227 {a1 : Nat} {a2 : Nat} {a3 : Nat} {a4 : Nat} (h1 : a1 < a3) (h2 : a3 < a4) (h3 : a4 ≤ a2) : ((min a1 a2) + ((a3 - a1) + (a2 - a3))) = a2 := by
  grind -ring -ac
theorem ar228 {a1 : Nat} {a2 : Nat} {a3 : Nat} (h1 : a1 ≤ a3) (h2 : a2 = a3) : a1 ≤ a2 := (dTT a1 a3 a2 0 0 0 0 h1 (Nat.le_of_eq (Eq.symm h2)))
theorem ar229 {a1 : Nat} {a2 : Nat} {a3 : Nat} (h1 : a1 = a3) (h2 : a3 = a2) : a1 = a2 := (Nat.le_antisymm (dTT a1 a3 a2 0 0 0 0 (Nat.le_of_eq h1) (Nat.le_of_eq h2)) (dTT a2 a3 a1 0 0 0 0 (Nat.le_of_eq (Eq.symm h2)) (Nat.le_of_eq (Eq.symm h1))))
theorem ar230 {a1 : Nat} {a2 : Nat} {a3 : Nat} {a4 : Nat} (h1 : ((a2 * a3) + a4) = ((a1 + a2) - (1 : Nat))) (h2 : a4 < a2) : a1 ≤ (a2 * a3) := by
  omega
theorem ar231 {a1 : Nat} (h1 : (0 : Nat) < a1) : ¬ (a1 = (0 : Nat)) := (Nat.ne_of_gt h1)
theorem ar232 {a1 : Nat} {a2 : Nat} (h1 : (0 : Nat) < a2) : ((((a1 : Nat) : Int) + ((a2 : Nat) : Int)) - (1 : Int)) = ((((a1 + a2) - (1 : Nat)) : Nat) : Int) := by
  lia
theorem ar233 {a1 : Nat} (h1 : a1 ≤ (1000 : Nat)) : ((a1 : Nat) : Int) < ((2 : Int) ^ 20) := by
  lia
theorem ar234 {a1 : Nat} {a2 : Nat} {a3 : Nat} {a4 : Nat} {a5 : Nat} (h1 : (a1 + (3 : Nat)) < a3) (h2 : a3 = a4) (h3 : a5 = (a4 + (1 : Nat))) (h4 : a5 = a2) : (a1 + (3 : Nat)) < a2 := (dFF a1 a2 5 0 4 0 (dTT a1 a5 a2 5 0 0 0 (dTT a1 a4 a5 4 0 1 0 (dTT a1 a3 a4 4 0 0 0 h1 (Nat.le_of_eq h2)) (Nat.le_of_eq (Eq.symm h3))) (Nat.le_of_eq h4)) (Nat.le_of_ble_eq_true rfl))
theorem ar235 {a1 : Nat}  : ¬ (a1 = ((a1 + (1 : Nat)) + (1 : Nat))) := (Nat.ne_of_lt (dRR a1 1 2 (Nat.le_of_ble_eq_true rfl)))
theorem ar236 {a1 : Nat}  : ¬ ((a1 + (1 : Nat)) = ((a1 + (1 : Nat)) + (1 : Nat))) := (Nat.ne_of_lt (dRR a1 2 2 (Nat.le_of_ble_eq_true rfl)))
theorem ar237 {a1 : Nat}  : ¬ ((a1 + (3 : Nat)) = ((a1 + (1 : Nat)) + (1 : Nat))) := (Nat.ne_of_gt (dRR a1 3 3 (Nat.le_of_ble_eq_true rfl)))
theorem ar238 {a1 : Nat} {a2 : Nat} {a3 : Nat} {a4 : Nat} {a5 : Nat} (h1 : (a2 + (3 : Nat)) < a3) (h2 : a3 = a4) (h3 : a5 = (a4 + (1 : Nat))) (h4 : a5 = a1) : ¬ (a1 = ((a2 + (1 : Nat)) + (1 : Nat))) := (Nat.ne_of_gt (dFF a2 a1 5 0 3 0 (dTT a2 a5 a1 5 0 0 0 (dTT a2 a4 a5 4 0 1 0 (dTT a2 a3 a4 4 0 0 0 h1 (Nat.le_of_eq h2)) (Nat.le_of_eq (Eq.symm h3))) (Nat.le_of_eq h4)) (Nat.le_of_ble_eq_true rfl)))
theorem ar239 {a1 : Nat} {a2 : Nat} {a3 : Nat} {a4 : Nat} {a5 : Nat} {a6 : Nat} (h1 : (a3 + (3 : Nat)) < a4) (h2 : a1 ≤ a3) (h3 : a4 = a5) (h4 : a6 = (a5 + (1 : Nat))) (h5 : a6 = a2) : a1 ≤ a2 := (dFF a1 a2 5 0 0 0 (dTT a1 a6 a2 5 0 0 0 (dTT a1 a5 a6 4 0 1 0 (dTT a1 a4 a5 4 0 0 0 (dTT a1 a3 a4 0 0 4 0 h2 h1) (Nat.le_of_eq h3)) (Nat.le_of_eq (Eq.symm h4))) (Nat.le_of_eq h5)) (Nat.le_of_ble_eq_true rfl))
theorem ar240 {a1 : Nat}  : ¬ (((a1 + (1 : Nat)) + (1 : Nat)) = (((a1 + (1 : Nat)) + (1 : Nat)) + (1 : Nat))) := (Nat.ne_of_lt (dRR a1 3 3 (Nat.le_of_ble_eq_true rfl)))
theorem ar241 {a1 : Nat} {a2 : Nat} {a3 : Nat} {a4 : Nat} {a5 : Nat} (h1 : (a2 + (3 : Nat)) < a3) (h2 : a3 = a4) (h3 : a5 = (a4 + (1 : Nat))) (h4 : a5 = a1) : ¬ (a1 = (((a2 + (1 : Nat)) + (1 : Nat)) + (1 : Nat))) := (Nat.ne_of_gt (dFF a2 a1 5 0 4 0 (dTT a2 a5 a1 5 0 0 0 (dTT a2 a4 a5 4 0 1 0 (dTT a2 a3 a4 4 0 0 0 h1 (Nat.le_of_eq h2)) (Nat.le_of_eq (Eq.symm h3))) (Nat.le_of_eq h4)) (Nat.le_of_ble_eq_true rfl)))
theorem ar242 {a1 : Nat} (h1 : (0 : Nat) < a1) : (a1 - (1 : Nat)) < a1 := by
  omega
theorem ar243 {a1 : Nat} (h1 : ¬ (a1 = (0 : Nat))) : ¬ (a1 = (0 : Nat)) := by
  omega
theorem ar244 {a1 : Nat} (h1 : a1 ≤ (1000 : Nat)) : a1 < (4611686018427387904 : Nat) := (dFF a1 0 0 1000 1 4611686018427387904 h1 (Nat.le_of_ble_eq_true rfl))
theorem ar245 {a1 : Nat} {a2 : Nat} {a3 : Nat} {a4 : Nat} {a5 : Nat} (h1 : (a1 + (3 : Nat)) < a3) (h2 : a3 = a4) (h3 : a5 = (a4 + (1 : Nat))) (h4 : a5 = a2) : ¬ (a1 = a2) := (Nat.ne_of_lt (dFF a1 a2 5 0 1 0 (dTT a1 a5 a2 5 0 0 0 (dTT a1 a4 a5 4 0 1 0 (dTT a1 a3 a4 4 0 0 0 h1 (Nat.le_of_eq h2)) (Nat.le_of_eq (Eq.symm h3))) (Nat.le_of_eq h4)) (Nat.le_of_ble_eq_true rfl)))
theorem ar246 {a1 : Nat} {a2 : Nat} {a3 : Nat} {a4 : Nat} {a5 : Nat} {a6 : Nat} (h1 : (a1 * a2) = ((a4 * a2) + (a5 * (a6 * a2)))) : ((a1 * a2) + a3) = (((a4 * a2) + a3) + (a5 * (a6 * a2))) := by
  lia
theorem ar247 {a1 : Nat} {a2 : Nat} {a3 : Nat}  : (a1 + (a2 * a3)) = ((a2 * a3) + a1) := by
  lia
theorem ar248 {a1 : Nat} {a2 : Nat} (h1 : a1 ≤ (a2 + (4000 : Nat))) : (((a1 : Nat) : Int) - ((a2 : Nat) : Int)) ≤ (4000 : Int) := by
  lia
theorem ar249 {a1 : Nat} {a2 : Nat} (h1 : ((a1 : Nat) : Int) = ((a2 : Nat) : Int)) (h2 : a1 < a2) : False := by
  lia
theorem ar250 {a1 : Nat} {a2 : Nat} {a3 : Nat} (h1 : a1 ≤ (a3 + a2)) (h2 : a3 ≤ (4000 : Nat)) : a1 ≤ (a2 + (4000 : Nat)) := by
  lia
theorem ar251 {a1 : Nat} (h1 : a1 ≤ (4000 : Nat)) : a1 < (9000 : Nat) := (dFF a1 0 0 4000 1 9000 h1 (Nat.le_of_ble_eq_true rfl))
theorem ar252 {a1 : Nat} {a2 : Nat} {a3 : Nat} (h1 : a1 ≤ a3) (h2 : a2 ≤ (4000 : Nat)) (h3 : a3 ≤ (4000 : Nat)) : (((a1 : Nat) : Int) + ((a2 : Nat) : Int)) ≤ ((2 : Int) ^ 27) := by
  lia
theorem ar253 {a1 : Nat} {a2 : Nat} {a3 : Nat}  : ¬ (((((a1 * a2) + a3) : Nat) : Int) < (0 : Int)) := by
  omega
theorem ar254 {a1 : Nat} {a2 : Nat} {a3 : Nat} {a4 : Nat} {a5 : Nat} {a6 : Nat} {a7 : Nat} (h1 : ((a5 * a6) + a1) = ((a7 * a3) + a4)) (h2 : (a7 * a3) = ((a5 * a6) + (a2 * a3))) : a1 = ((a2 * a3) + a4) := by
  lia
theorem ar255 {a1 : Nat} {a2 : Nat} (h1 : (a1 + (5 : Nat)) < a2) : a1 ≤ a2 := (dFF a1 a2 6 0 0 0 h1 (Nat.le_of_ble_eq_true rfl))
theorem ar256 {a1 : Nat} {a2 : Nat} (h1 : (1 : Nat) ≤ a2) : a1 < (a1 + a2) := by
  lia
theorem ar257 {a1 : Nat} {a2 : Nat} (h1 : (a1 + (5 : Nat)) < a2) : a1 < a2 := (dFF a1 a2 6 0 1 0 h1 (Nat.le_of_ble_eq_true rfl))
theorem ar258 {a1 : Nat} {a2 : Nat} {a3 : Nat} (h1 : a1 ≤ a2) : a1 ≤ (a2 + a3) := by
  lia
theorem ar259 {a1 : Nat} {a2 : Nat} {a3 : Nat} (h1 : ¬ (a2 = a3)) : ((a1 + a2) < (a1 + a3)) ∨ ((a1 + a3) < (a1 + a2)) := by
  lia
theorem ar260 {a1 : Nat} {a2 : Nat} {a3 : Nat} (h1 : (a1 + (5 : Nat)) < a3) (h2 : a2 ≤ (5 : Nat)) : (a1 + a2) < a3 := by
  lia
theorem ar261 {a1 : Nat} (h1 : a1 < (8 : Nat)) : ((a1 + (1 : Nat)) * (1 : Nat)) ≤ (8 : Nat) := by
  lia
theorem ar262 {a1 : Int} (h1 : (0 : Int) ≤ a1) (h2 : a1 < (256 : Int)) : ((0 : Int) ≤ a1) ∧ (a1 ≤ (255 : Int)) := by
  lia
theorem ar263 {a1 : Nat} (h1 : (((a1 + (4 : Nat)) : Nat) : Int) < (4 : Int)) : False := by
  lia
theorem ar264 {a1 : Nat} (h1 : (1 : Nat) ≤ a1) (h2 : a1 ≤ (5 : Nat)) : (a1 = (1 : Nat)) ∨ ((a1 = (2 : Nat)) ∨ ((a1 = (3 : Nat)) ∨ ((a1 = (4 : Nat)) ∨ (a1 = (5 : Nat))))) := by
  lia
theorem ar265 {a1 : Nat} (h1 : a1 ≤ (1000 : Nat)) : a1 < ((2 : Nat) ^ 20) := (dFF a1 0 0 1000 1 1048576 h1 (Nat.le_of_ble_eq_true rfl))
theorem ar266 {a1 : Nat}  : ((min (8 : Nat) a1) + (8 : Nat)) < ((2 : Nat) ^ 20) := by
  lia
theorem ar267 {a1 : Nat} {a2 : Nat} (h1 : a1 < a2) : a1 < (a2 + (5 : Nat)) := (dFF a1 a2 1 0 1 5 h1 (Nat.le_of_ble_eq_true rfl))
theorem ar268 {a1 : Nat} (h1 : a1 ≤ (1400 : Nat)) : (a1 * (8 : Nat)) ≤ (100000 : Nat) := by
  lia
theorem ar269 {a1 : Nat} (h1 : a1 ≤ (1400 : Nat)) : a1 ≤ (100000 : Nat) := (dFF a1 0 0 1400 0 100000 h1 (Nat.le_of_ble_eq_true rfl))
theorem ar270 {a1 : Nat} (h1 : a1 < (30 : Nat)) : a1 < (9000 : Nat) := (dFF a1 0 1 30 1 9000 h1 (Nat.le_of_ble_eq_true rfl))
theorem ar271 {a1 : Nat} (h1 : (a1 = (9 : Nat)) ∨ ((a1 = (20 : Nat)) ∨ ((a1 = (1400 : Nat)) ∨ (a1 = (11 : Nat))))) : (9 : Nat) ≤ a1 := by
  lia
theorem ar272 {a1 : Nat} (h1 : (a1 = (9 : Nat)) ∨ ((a1 = (20 : Nat)) ∨ ((a1 = (1400 : Nat)) ∨ (a1 = (11 : Nat))))) : a1 ≤ (1400 : Nat) := by
  lia
theorem ar273 {a1 : Int} {a2 : Int} (h1 : (512 : Int) ≤ a2) (h2 : a1 ≤ (255 : Int)) : a1 < a2 := by
  lia
theorem ar274 {a1 : Nat} {a2 : Nat} (h1 : (a1 + (5 : Nat)) < a2) : (a1 + (1 : Nat)) < a2 := (dFF a1 a2 6 0 2 0 h1 (Nat.le_of_ble_eq_true rfl))
theorem ar275 {a1 : Nat} (h1 : (a1 = (2 : Nat)) ∨ ((a1 = (4 : Nat)) ∨ (a1 = (8 : Nat)))) : ¬ (((a1 : Nat) : Int) = (0 : Int)) := by
  lia
theorem ar276 {a1 : Nat} {a2 : Nat}  : ((a1 + (a2 + (1 : Nat))) - (1 : Nat)) = (a1 + a2) := by
  lia
theorem ar277 {a1 : Nat}  : (0 : Nat) < (a1 + (1 : Nat)) := (dFF 0 a1 0 0 1 1 (Nat.zero_le a1) (Nat.le_of_ble_eq_true rfl))
theorem ar278 {a1 : Nat} {a2 : Nat} {a3 : Nat} (h1 : a1 ≤ (a3 * (8 : Nat))) (h2 : a3 ≤ a2) : (a1 + a2) < (((8 : Nat) + 1) * (a2 + (1 : Nat))) := by
  lia
theorem ar279 {a1 : Nat} (h1 : (a1 = (1 : Nat)) ∨ ((a1 = (2 : Nat)) ∨ (a1 = (4 : Nat)))) : (min a1 (8 : Nat)) = a1 := by
  lia
theorem ar280 {a1 : Nat} {a2 : Nat} (h1 : (a1 + (5 : Nat)) < a2) : (a1 + (2 : Nat)) < a2 := (dFF a1 a2 6 0 3 0 h1 (Nat.le_of_ble_eq_true rfl))
theorem ar281 {a1 : Nat} (h1 : (a1 = (1 : Nat)) ∨ ((a1 = (2 : Nat)) ∨ (a1 = (4 : Nat)))) : ¬ (((a1 : Nat) : Int) = (0 : Int)) := by
  lia
theorem ar282 {a1 : Nat} (h1 : (a1 = (1 : Nat)) ∨ ((a1 = (2 : Nat)) ∨ (a1 = (4 : Nat)))) : a1 ≤ (4 : Nat) := by
  lia
theorem ar283 {a1 : Nat} (h1 : (a1 = (1 : Nat)) ∨ ((a1 = (2 : Nat)) ∨ (a1 = (4 : Nat)))) : (0 : Nat) < a1 := by
  lia
theorem ar284 {a1 : Nat} (h1 : a1 ≤ (1400 : Nat)) : ((a1 : Nat) : Int) < ((2 : Int) ^ 60) := by
  lia
theorem ar285 {a1 : Nat} {a2 : Nat} (h1 : a1 ≤ (64 : Nat)) (h2 : a2 ≤ ((1400 : Nat) * (4 : Nat))) : (((a1 : Nat) : Int) + ((a2 : Nat) : Int)) ≤ ((2 : Int) ^ 27) := by
  lia
theorem ar286 {a1 : Nat} (h1 : a1 ≤ (8 : Nat)) : (a1 + (6 : Nat)) ≤ (21 : Nat) := (dFF a1 0 0 8 6 21 h1 (Nat.le_of_ble_eq_true rfl))
theorem ar287 {a1 : Nat} (h1 : a1 ≤ ((1400 : Nat) * (4 : Nat))) : (a1 + (1 : Nat)) ≤ (5601 : Nat) := (dFF a1 0 0 5600 1 5601 h1 (Nat.le_of_ble_eq_true rfl))
theorem ar288 {a1 : Nat} (h1 : a1 ≤ (8 : Nat)) : a1 ≤ (1000 : Nat) := (dFF a1 0 0 8 0 1000 h1 (Nat.le_of_ble_eq_true rfl))
theorem ar289 {a1 : Nat} (h1 : a1 ≤ ((1400 : Nat) * (4 : Nat))) : a1 < (9000 : Nat) := (dFF a1 0 0 5600 1 9000 h1 (Nat.le_of_ble_eq_true rfl))
theorem ar290 {a1 : Nat} (h1 : (a1 + ((8 : Nat) * (21 : Nat))) < (6000 : Nat)) : a1 < (9000 : Nat) := by
  lia
theorem ar291 {a1 : Nat} {a2 : Nat} (h1 : ¬ (((2 : Nat) * a1) = a2)) : ¬ (((2 : Int) * ((a1 : Nat) : Int)) = ((a2 : Nat) : Int)) := by
  lia
theorem ar292 {a1 : Nat}  : (((8 : Nat) - a1) + (1 : Nat)) ≤ (21 : Nat) := by
  omega
theorem ar293 {a1 : Nat} (h1 : (9 : Nat) ≤ a1) : (0 : Nat) < a1 := (dFF 0 a1 9 0 1 0 h1 (Nat.le_of_ble_eq_true rfl))
theorem ar294 {a1 : Nat}  : ((8 : Nat) - a1) ≤ (8 : Nat) := by
  omega
theorem ar295 {a1 : Nat}  : ((8 : Nat) - a1) ≤ (1000 : Nat) := by
  omega
theorem ar296 {a1 : Int}  : ((a1 * (256 : Int)) - a1) = (a1 * (255 : Int)) := by
  lia
theorem ar297 {a1 : Int} {a2 : Int} {a3 : Int} (h1 : ((0 : Int) ≤ a1) ∧ (a1 < a3)) (h2 : ((0 : Int) ≤ a2) ∧ (a2 < a3)) : (0 : Int) ≤ (a1 + a2) := by
  lia
theorem ar298 {a1 : Int} {a2 : Int} {a3 : Int} (h1 : ((0 : Int) ≤ a1) ∧ (a1 < a3)) (h2 : ((0 : Int) ≤ a2) ∧ (a2 < a3)) : (a1 + a2) < (a3 * (2 : Int)) := by
  lia
theorem ar299 {a1 : Nat} {a2 : Nat}  : (0 : Int) ≤ (((a1 * a2) : Nat) : Int) := by
  lia
theorem ar300 {a1 : Nat} {a2 : Nat} {a3 : Nat} (h1 : (a2 * a3) ≤ ((1400 : Nat) * (4 : Nat))) (h2 : a1 ≤ ((a2 * (8 : Nat)) + (1 : Nat))) (h3 : a2 ≤ (1400 : Nat)) : (((a1 : Nat) : Int) + (((a2 * a3) : Nat) : Int)) ≤ ((2 : Int) ^ 27) := by
  lia
theorem ar301 {a1 : Nat} (h1 : (a1 = (2 : Nat)) ∨ ((a1 = (4 : Nat)) ∨ (a1 = (8 : Nat)))) : ((a1 / (2 : Nat)) = (0 : Nat)) ∨ (((a1 / (2 : Nat)) = (1 : Nat)) ∨ (((a1 / (2 : Nat)) = (2 : Nat)) ∨ ((a1 / (2 : Nat)) = (4 : Nat)))) := by
  lia
theorem ar302 {a1 : Nat}  : ((2 : Nat) * (a1 / (2 : Nat))) ≤ a1 := by
  lia
theorem ar303 {a1 : Nat} (h1 : ¬ (a1 = (0 : Nat))) : (0 : Int) < ((a1 : Nat) : Int) := by
  lia
theorem ar304 {a1 : Nat} (h1 : (a1 = (1 : Nat)) ∨ ((a1 = (2 : Nat)) ∨ (a1 = (4 : Nat)))) : (a1 / (2 : Nat)) < a1 := by
  lia
theorem ar305 {a1 : Nat} (h1 : (a1 = (1 : Nat)) ∨ ((a1 = (2 : Nat)) ∨ (a1 = (4 : Nat)))) : ((a1 / (2 : Nat)) = (0 : Nat)) ∨ (((a1 / (2 : Nat)) = (1 : Nat)) ∨ (((a1 / (2 : Nat)) = (2 : Nat)) ∨ ((a1 / (2 : Nat)) = (4 : Nat)))) := by
  lia
theorem ar306 {a1 : Nat} {a2 : Nat} (h1 : ((2 : Nat) * a1) ≤ a2) (h2 : (a1 = (1 : Nat)) ∨ ((a1 = (2 : Nat)) ∨ (a1 = (4 : Nat)))) : ¬ (((2 : Nat) * (a1 / (2 : Nat))) = a2) := by
  lia
theorem ar307 {a1 : Nat} {a2 : Nat} (h1 : ((2 : Nat) * a1) ≤ a2) : ((2 : Nat) * (a1 / (2 : Nat))) ≤ a2 := by
  lia
theorem ar308 {a1 : Int} {a2 : Nat} (h1 : ((0 : Int) ≤ a1) ∧ (a1 < (8 : Int))) (h2 : a2 = (8 : Nat)) : a1 < ((a2 : Nat) : Int) := by
  lia
theorem ar309 {a1 : Nat} (h1 : a1 = (8 : Nat)) : a1 < ((2 : Nat) ^ 62) := (dFF a1 0 0 8 1 4611686018427387904 (Nat.le_of_eq h1) (Nat.le_of_ble_eq_true rfl))
theorem ar310 {a1 : Nat} {a2 : Nat} (h1 : a1 = a2) (h2 : a2 < (8 : Nat)) : a1 < ((2 : Nat) ^ 20) := (dFF a1 0 1 8 1 1048576 (dTT a1 a2 0 0 0 1 8 (Nat.le_of_eq h1) h2) (Nat.le_of_ble_eq_true rfl))
theorem ar311 {a1 : Nat} (h1 : a1 < (8 : Nat)) : ((a1 : Nat) : Int) < (8 : Int) := by
  lia
theorem ar312 {a1 : Int} {a2 : Nat} (h1 : ((0 : Int) ≤ a1) ∧ (a1 < ((a2 : Nat) : Int))) (h2 : a2 < (8 : Nat)) : ((0 : Int) ≤ a1) ∧ (a1 < (8 : Int)) := by
  lia
theorem ar313 {a1 : Int} {a2 : Int} {a3 : Nat} {a4 : Int} (h1 : a1 < a2) : (a1 < a2) ∨ ((a1 = a2) ∧ (((a3 : Nat) : Int) < a4)) := by
  omega
theorem ar314 {a1 : Int} (h1 : ((0 : Int) ≤ a1) ∧ (a1 < ((0 : Int) + (((8 : Nat) : Nat) : Int)))) : ((0 : Int) ≤ a1) ∧ (a1 < (8 : Int)) := by
  lia
theorem ar315  : (8 : Nat) < (64 : Nat) := (dRR 0 9 64 (Nat.le_of_ble_eq_true rfl))
theorem ar316 {a1 : Nat} (h1 : a1 ≤ (8 : Nat)) : (a1 + (1 : Nat)) ≤ (21 : Nat) := (dFF a1 0 0 8 1 21 h1 (Nat.le_of_ble_eq_true rfl))
theorem ar317 {a1 : Int} {a2 : Int} {a3 : Int} (h1 : (0 : Int) ≤ (a2 * a3)) (h2 : (0 : Int) ≤ a1) : (0 : Int) ≤ (a1 + (a2 * a3)) := by
  lia
theorem ar318 {a1 : Int} {a2 : Int} (h1 : a1 < a2) : (a1 + (1 : Int)) ≤ a2 := by
  lia
theorem ar319 {a1 : Int} {a2 : Int} {a3 : Int} {a4 : Int} (h1 : ((0 : Int) ≤ a1) ∧ (a1 < a3)) (h2 : ((a2 + (1 : Int)) * a3) = ((a2 * a3) + a3)) (h3 : ((a2 + (1 : Int)) * a3) ≤ (a4 * a3)) : (a1 + (a2 * a3)) < (a4 * a3) := by
  lia
theorem ar320 {a1 : Nat} {a2 : Nat} {a3 : Nat} (h1 : a1 ≤ a3) : (min (a1 - a2) (a3 - a2)) = (a1 - a2) := by
  grind -ring -ac
theorem ar321 {a1 : Nat} {a2 : Nat} {a3 : Nat} (h1 : a2 ≤ a3) (h2 : a3 ≤ a1) : (a1 - a2) = ((a3 - a2) + (a1 - a3)) := by
  grind -ring -ac
theorem ar322 {a1 : Int} {a2 : Int} {a3 : Nat} {a4 : Nat} {a5 : Nat} (h1 : a3 < (min (1 : Nat) a4)) (h2 : a5 < a3) : a1 ≤ a2 := by
  lia
theorem ar323 {a1 : Int} {a2 : Int}  : ((255 : Int) - (min ((255 : Int) - a1) ((255 : Int) - a2))) = (max a1 a2) := by
  lia
theorem ar324 {a1 : Int} {a2 : Int}  : ((255 : Int) - (max ((255 : Int) - a1) ((255 : Int) - a2))) = (min a1 a2) := by
  lia
theorem ar325 (h1 : ((0 : Nat) % (2 : Nat)) = (1 : Nat)) : False := by
  lia
theorem ar326 (h1 : ((1 : Nat) % (2 : Nat)) = (0 : Nat)) : False := by
  lia
theorem ar327 (h1 : ((2 : Nat) % (2 : Nat)) = (1 : Nat)) : False := by
  lia
theorem ar328 (h1 : ((3 : Nat) % (2 : Nat)) = (0 : Nat)) : False := by
  lia
theorem ar329 {a1 : Nat} (h1 : (((a1 + (4 : Nat)) + (1 : Nat)) * (2 : Nat)) ≤ (8 : Nat)) : False := by
  lia
theorem ar330 {a1 : Int} {a2 : Int} {a3 : Int} {a4 : Int}  : (((255 : Int) - ((255 : Int) - a1)) = a1) ∧ ((((255 : Int) - ((255 : Int) - a2)) = a2) ∧ ((((255 : Int) - ((255 : Int) - a3)) = a3) ∧ (((255 : Int) - ((255 : Int) - a4)) = a4))) := by
  lia
theorem ar331 {a1 : Int} {a2 : Int} (h1 : a2 ≤ a1) : ((255 : Int) - a1) ≤ ((255 : Int) - a2) := by
  lia
theorem ar332 {a1 : Nat} (h1 : (((a1 + (2 : Nat)) + (1 : Nat)) * (4 : Nat)) ≤ (8 : Nat)) : False := by
  lia
theorem ar333 {a1 : Int} {a2 : Int} {a3 : Int} {a4 : Int} (h1 : ((a1 ≤ a2) ∧ ((a1 ≤ a3) ∧ (a1 ≤ a4))) ∧ (((a2 ≤ a3) ∧ (a2 ≤ a4)) ∧ (a3 ≤ a4))) : (a1 ≤ a2) ∧ ((a2 ≤ a3) ∧ (a3 ≤ a4)) := by
  omega
theorem ar334 {a1 : Int} {a2 : Int} {a3 : Int} {a4 : Int} (h1 : ((a1 ≤ a2) ∧ ((a3 ≤ a2) ∧ (a4 ≤ a2))) ∧ (((a3 ≤ a1) ∧ (a4 ≤ a1)) ∧ (a4 ≤ a3))) : (a1 ≤ a2) ∧ ((a3 ≤ a1) ∧ (a4 ≤ a3)) := by
  omega
theorem ar335 {a1 : Int} {a2 : Int} {a3 : Int} (h1 : ((1 : Int) * a1) ≤ (a3 * a1)) (h2 : (0 : Int) ≤ a2) : a1 ≤ (a2 + (a3 * a1)) := by
  lia
theorem ar336 {a1 : Nat} {a2 : Nat} {a3 : Nat} (h1 : (0 : Nat) < a2) (h2 : a1 ≤ ((a2 * a3) + a2)) : ((a1 + a2) - (1 : Nat)) < (((a2 * a3) + a2) + a2) := by
  omega
theorem ar337 {a1 : Nat} {a2 : Nat} {a3 : Nat} (h1 : (a1 * a2) < a3) : ((a1 * a2) + a1) ≤ ((a3 + a1) - (1 : Nat)) := by
  omega
theorem ar338 {a1 : Int} {a2 : Int} (h1 : ((0 : Int) ≤ a1) ∧ (a1 < (512 : Int))) (h2 : (512 : Int) ≤ a2) : ((0 : Int) ≤ a1) ∧ (a1 < a2) := by
  lia
theorem ar339 {a1 : Nat} {a2 : Nat} (h1 : ((a1 + (1 : Nat)) + a2) = (8 : Nat)) : (a1 + (1 : Nat)) = ((8 : Nat) - a2) := by
  lia
theorem ar340 {a1 : Int} {a2 : Int} (h1 : (512 : Int) ≤ a2) (h2 : a1 < (512 : Int)) : a1 < a2 := by
  lia
theorem ar341 {a1 : Int} {a2 : Int} {a3 : Int} {a4 : Int} {a5 : Int} {a6 : Int} {a7 : Int} {a8 : Int} (h1 : (((0 : Int) ≤ a3) ∧ (a3 ≤ (255 : Int))) ∧ ((((0 : Int) ≤ a4) ∧ (a4 ≤ (255 : Int))) ∧ ((((0 : Int) ≤ a5) ∧ (a5 ≤ (255 : Int))) ∧ ((((0 : Int) ≤ a6) ∧ (a6 ≤ (255 : Int))) ∧ ((((0 : Int) ≤ a7) ∧ (a7 ≤ (255 : Int))) ∧ ((((0 : Int) ≤ a8) ∧ (a8 ≤ (255 : Int))) ∧ ((((0 : Int) ≤ a2) ∧ (a2 ≤ (255 : Int))) ∧ (((0 : Int) ≤ a1) ∧ (a1 ≤ (255 : Int)))))))))) : (0 : Int) < (((256 : Int) + a1) - a2) := by
  omega
theorem ar342 {a1 : Int} {a2 : Int} {a3 : Int} {a4 : Int} {a5 : Int} {a6 : Int} {a7 : Int} {a8 : Int} (h1 : (((0 : Int) ≤ a3) ∧ (a3 ≤ (255 : Int))) ∧ ((((0 : Int) ≤ a4) ∧ (a4 ≤ (255 : Int))) ∧ ((((0 : Int) ≤ a5) ∧ (a5 ≤ (255 : Int))) ∧ ((((0 : Int) ≤ a6) ∧ (a6 ≤ (255 : Int))) ∧ ((((0 : Int) ≤ a7) ∧ (a7 ≤ (255 : Int))) ∧ ((((0 : Int) ≤ a8) ∧ (a8 ≤ (255 : Int))) ∧ ((((0 : Int) ≤ a2) ∧ (a2 ≤ (255 : Int))) ∧ (((0 : Int) ≤ a1) ∧ (a1 ≤ (255 : Int)))))))))) : (((256 : Int) + a1) - a2) < (512 : Int) := by
  omega
theorem ar343 {a1 : Int} {a2 : Int} {a3 : Int} {a4 : Int} {a5 : Int} {a6 : Int} {a7 : Int} {a8 : Int} (h1 : (((0 : Int) ≤ a2) ∧ (a2 ≤ (255 : Int))) ∧ ((((0 : Int) ≤ a1) ∧ (a1 ≤ (255 : Int))) ∧ ((((0 : Int) ≤ a4) ∧ (a4 ≤ (255 : Int))) ∧ ((((0 : Int) ≤ a3) ∧ (a3 ≤ (255 : Int))) ∧ ((((0 : Int) ≤ a6) ∧ (a6 ≤ (255 : Int))) ∧ ((((0 : Int) ≤ a5) ∧ (a5 ≤ (255 : Int))) ∧ ((((0 : Int) ≤ a7) ∧ (a7 ≤ (255 : Int))) ∧ (((0 : Int) ≤ a8) ∧ (a8 ≤ (255 : Int)))))))))) : (((0 : Int) ≤ (((256 : Int) + a1) - a2)) ∧ ((((256 : Int) + a1) - a2) < (512 : Int))) ∧ ((((0 : Int) ≤ (0 : Int)) ∧ ((0 : Int) < (512 : Int))) ∧ ((((0 : Int) ≤ (((256 : Int) + a3) - a4)) ∧ ((((256 : Int) + a3) - a4) < (512 : Int))) ∧ ((((0 : Int) ≤ (0 : Int)) ∧ ((0 : Int) < (512 : Int))) ∧ ((((0 : Int) ≤ (((256 : Int) + a5) - a6)) ∧ ((((256 : Int) + a5) - a6) < (512 : Int))) ∧ (((0 : Int) ≤ (0 : Int)) ∧ ((0 : Int) < (512 : Int))))))) := by
  omega
theorem ar344 {a1 : Int} {a2 : Int} {a3 : Int} {a4 : Int} {a5 : Int} {a6 : Int} {a7 : Int} {a8 : Int} (h1 : (((0 : Int) ≤ a3) ∧ (a3 ≤ (255 : Int))) ∧ ((((0 : Int) ≤ a4) ∧ (a4 ≤ (255 : Int))) ∧ ((((0 : Int) ≤ a5) ∧ (a5 ≤ (255 : Int))) ∧ ((((0 : Int) ≤ a6) ∧ (a6 ≤ (255 : Int))) ∧ ((((0 : Int) ≤ a7) ∧ (a7 ≤ (255 : Int))) ∧ ((((0 : Int) ≤ a2) ∧ (a2 ≤ (255 : Int))) ∧ ((((0 : Int) ≤ a8) ∧ (a8 ≤ (255 : Int))) ∧ (((0 : Int) ≤ a1) ∧ (a1 ≤ (255 : Int)))))))))) : (0 : Int) < (((256 : Int) + a1) - a2) := by
  omega
theorem ar345 {a1 : Int} {a2 : Int} {a3 : Int} {a4 : Int} {a5 : Int} {a6 : Int} {a7 : Int} {a8 : Int} (h1 : (((0 : Int) ≤ a3) ∧ (a3 ≤ (255 : Int))) ∧ ((((0 : Int) ≤ a4) ∧ (a4 ≤ (255 : Int))) ∧ ((((0 : Int) ≤ a5) ∧ (a5 ≤ (255 : Int))) ∧ ((((0 : Int) ≤ a6) ∧ (a6 ≤ (255 : Int))) ∧ ((((0 : Int) ≤ a7) ∧ (a7 ≤ (255 : Int))) ∧ ((((0 : Int) ≤ a2) ∧ (a2 ≤ (255 : Int))) ∧ ((((0 : Int) ≤ a8) ∧ (a8 ≤ (255 : Int))) ∧ (((0 : Int) ≤ a1) ∧ (a1 ≤ (255 : Int)))))))))) : (((256 : Int) + a1) - a2) < (512 : Int) := by
  omega
theorem ar346 {a1 : Int} {a2 : Int} {a3 : Int} {a4 : Int} {a5 : Int} {a6 : Int} {a7 : Int} {a8 : Int} (h1 : (((0 : Int) ≤ a2) ∧ (a2 ≤ (255 : Int))) ∧ ((((0 : Int) ≤ a4) ∧ (a4 ≤ (255 : Int))) ∧ ((((0 : Int) ≤ a1) ∧ (a1 ≤ (255 : Int))) ∧ ((((0 : Int) ≤ a3) ∧ (a3 ≤ (255 : Int))) ∧ ((((0 : Int) ≤ a6) ∧ (a6 ≤ (255 : Int))) ∧ ((((0 : Int) ≤ a7) ∧ (a7 ≤ (255 : Int))) ∧ ((((0 : Int) ≤ a5) ∧ (a5 ≤ (255 : Int))) ∧ (((0 : Int) ≤ a8) ∧ (a8 ≤ (255 : Int)))))))))) : (((0 : Int) ≤ (((256 : Int) + a1) - a2)) ∧ ((((256 : Int) + a1) - a2) < (512 : Int))) ∧ ((((0 : Int) ≤ (((256 : Int) + a3) - a4)) ∧ ((((256 : Int) + a3) - a4) < (512 : Int))) ∧ ((((0 : Int) ≤ (0 : Int)) ∧ ((0 : Int) < (512 : Int))) ∧ ((((0 : Int) ≤ (0 : Int)) ∧ ((0 : Int) < (512 : Int))) ∧ (((0 : Int) ≤ (((256 : Int) + a5) - a6)) ∧ ((((256 : Int) + a5) - a6) < (512 : Int)))))) := by
  omega
theorem ar347 {a1 : Int} {a2 : Int} {a3 : Int} {a4 : Int} {a5 : Int} {a6 : Int} {a7 : Int} {a8 : Int} (h1 : (((0 : Int) ≤ a3) ∧ (a3 ≤ (255 : Int))) ∧ ((((0 : Int) ≤ a4) ∧ (a4 ≤ (255 : Int))) ∧ ((((0 : Int) ≤ a5) ∧ (a5 ≤ (255 : Int))) ∧ ((((0 : Int) ≤ a2) ∧ (a2 ≤ (255 : Int))) ∧ ((((0 : Int) ≤ a6) ∧ (a6 ≤ (255 : Int))) ∧ ((((0 : Int) ≤ a7) ∧ (a7 ≤ (255 : Int))) ∧ ((((0 : Int) ≤ a8) ∧ (a8 ≤ (255 : Int))) ∧ (((0 : Int) ≤ a1) ∧ (a1 ≤ (255 : Int)))))))))) : (0 : Int) < (((256 : Int) + a1) - a2) := by
  omega
theorem ar348 {a1 : Int} {a2 : Int} {a3 : Int} {a4 : Int} {a5 : Int} {a6 : Int} {a7 : Int} {a8 : Int} (h1 : (((0 : Int) ≤ a3) ∧ (a3 ≤ (255 : Int))) ∧ ((((0 : Int) ≤ a4) ∧ (a4 ≤ (255 : Int))) ∧ ((((0 : Int) ≤ a5) ∧ (a5 ≤ (255 : Int))) ∧ ((((0 : Int) ≤ a2) ∧ (a2 ≤ (255 : Int))) ∧ ((((0 : Int) ≤ a6) ∧ (a6 ≤ (255 : Int))) ∧ ((((0 : Int) ≤ a7) ∧ (a7 ≤ (255 : Int))) ∧ ((((0 : Int) ≤ a8) ∧ (a8 ≤ (255 : Int))) ∧ (((0 : Int) ≤ a1) ∧ (a1 ≤ (255 : Int)))))))))) : (((256 : Int) + a1) - a2) < (512 : Int) := by
  omega
theorem ar349 {a1 : Int} {a2 : Int} {a3 : Int} {a4 : Int} {a5 : Int} {a6 : Int} {a7 : Int} {a8 : Int} (h1 : (((0 : Int) ≤ a2) ∧ (a2 ≤ (255 : Int))) ∧ ((((0 : Int) ≤ a4) ∧ (a4 ≤ (255 : Int))) ∧ ((((0 : Int) ≤ a6) ∧ (a6 ≤ (255 : Int))) ∧ ((((0 : Int) ≤ a7) ∧ (a7 ≤ (255 : Int))) ∧ ((((0 : Int) ≤ a1) ∧ (a1 ≤ (255 : Int))) ∧ ((((0 : Int) ≤ a3) ∧ (a3 ≤ (255 : Int))) ∧ ((((0 : Int) ≤ a5) ∧ (a5 ≤ (255 : Int))) ∧ (((0 : Int) ≤ a8) ∧ (a8 ≤ (255 : Int)))))))))) : (((0 : Int) ≤ (((256 : Int) + a1) - a2)) ∧ ((((256 : Int) + a1) - a2) < (512 : Int))) ∧ ((((0 : Int) ≤ (((256 : Int) + a3) - a4)) ∧ ((((256 : Int) + a3) - a4) < (512 : Int))) ∧ (((0 : Int) ≤ (((256 : Int) + a5) - a6)) ∧ ((((256 : Int) + a5) - a6) < (512 : Int)))) := by
  omega
theorem ar350 {a1 : Nat} {a2 : Nat} {a3 : Nat} (h1 : ((a3 * a1) + a1) ≤ a2) : (min a1 (a2 - (a3 * a1))) = a1 := by
  lia
theorem ar351 {a1 : Nat} (h1 : (((a1 + (4 : Nat)) + (1 : Nat)) * ((2 : Nat) * (1 : Nat))) ≤ (8 : Nat)) : False := by
  lia
theorem ar352 {a1 : Nat} (h1 : (((a1 + (2 : Nat)) + (1 : Nat)) * ((2 : Nat) * (2 : Nat))) ≤ (8 : Nat)) : False := by
  lia
theorem ar353 {a1 : Nat} (h1 : (((a1 + (1 : Nat)) + (1 : Nat)) * ((2 : Nat) * (4 : Nat))) ≤ (8 : Nat)) : False := by
  lia
theorem ar354 {a1 : Int}  : ((a1 + (255 : Int)) - ((2 : Int) * a1)) = ((255 : Int) - a1) := by
  lia
theorem ar355 {a1 : Int}  : ((a1 + (0 : Int)) - ((2 : Int) * (0 : Int))) = a1 := by
  lia
theorem ar356 {a1 : Nat}  : ((2 : Nat) * a1) = (a1 + a1) := by
  lia
theorem ar357 {a1 : Nat} {a2 : Nat} {a3 : Nat} (h1 : (a1 + (a3 + (1 : Nat))) ≤ a2) : a1 < a2 := by
  lia
theorem ar358 {a1 : Nat} {a2 : Nat} {a3 : Nat} (h1 : (a1 + (a2 + (1 : Nat))) ≤ a3) : ((a1 + (1 : Nat)) + a2) ≤ a3 := by
  lia
theorem ar359 {a1 : Nat} {a2 : Nat} (h1 : ((a1 * ((2 : Nat) * a2)) + ((2 : Nat) * a2)) ≤ (8 : Nat)) : ((a1 * ((2 : Nat) * a2)) + a2) ≤ (8 : Nat) := by
  lia
theorem ar360 {a1 : Nat} {a2 : Nat} (h1 : ((a1 * ((2 : Nat) * a2)) + ((2 : Nat) * a2)) ≤ (8 : Nat)) : (((a1 * ((2 : Nat) * a2)) + a2) + a2) ≤ (8 : Nat) := by
  grind -ring -ac
theorem ar361 {a1 : Nat}  : (((2 : Nat) * a1) % (2 : Nat)) = (0 : Nat) := by
  lia
theorem ar362 {a1 : Nat}  : ((((2 : Nat) * a1) + (1 : Nat)) % (2 : Nat)) = (1 : Nat) := by
  lia
theorem ar363 {a1 : Nat}  : (a1 + a1) = ((2 : Nat) * a1) := by
  lia
theorem ar364 {a1 : Nat} {a2 : Nat} (h1 : a2 = ((2 : Nat) * a1)) : ((0 : Nat) + a1) ≤ a2 := by
  lia
theorem ar365 {a1 : Nat} {a2 : Nat} (h1 : a2 = ((2 : Nat) * a1)) : (a1 + a1) ≤ a2 := by
  lia
theorem ar366 {a1 : Int} {a2 : Int} {a3 : Int} {a4 : Int} (h1 : (a1 < a2) ∨ ((a1 = a2) ∧ (a3 < a4))) : a1 ≤ a2 := by
  lia
theorem ar367 {a1 : Int} {a2 : Int} {a3 : Int} {a4 : Int} (h1 : ((-a2) < (-a1)) ∨ (((-a2) = (-a1)) ∧ (a3 < a4))) : a1 ≤ a2 := by
  lia
theorem ar368 {a1 : Nat} (h1 : ¬ ((a1 % (2 : Nat)) = (1 : Nat))) : (a1 % (2 : Nat)) = (0 : Nat) := by
  lia
theorem ar369 {a1 : Nat} (h1 : a1 = (8 : Nat)) : ((0 : Nat) + (8 : Nat)) ≤ a1 := (Nat.le_of_eq (Eq.symm h1))
theorem ar370 {a1 : Nat} (h1 : a1 = (8 : Nat)) : a1 ≤ (8 : Nat) := (Nat.le_of_eq h1)
theorem ar371 {a1 : Int} {a2 : Int} (h1 : ((0 : Int) ≤ a1) ∧ (a1 ≤ (255 : Int))) (h2 : (512 : Int) ≤ a2) : ((0 : Int) ≤ a1) ∧ (a1 < a2) := by
  lia
theorem ar372 {a1 : Nat} (h1 : (a1 + (1 : Nat)) = (8 : Nat)) : a1 = (7 : Nat) := (Nat.le_antisymm (dFF a1 0 1 8 0 7 (Nat.le_of_eq h1) (Nat.le_of_ble_eq_true rfl)) (dFF 0 a1 8 1 7 0 (Nat.le_of_eq (Eq.symm h1)) (Nat.le_of_ble_eq_true rfl)))
theorem ar373 {a1 : Int} {a2 : Int} (h1 : ((0 : Int) ≤ a1) ∧ (a1 ≤ (255 : Int))) (h2 : a1 ≤ a2) (h3 : ¬ ((0 : Int) < a2)) : a1 = (0 : Int) := by
  lia
theorem ar374 {a1 : Int} (h1 : ((0 : Int) ≤ a1) ∧ (a1 ≤ (255 : Int))) (h2 : ¬ ((0 : Int) < a1)) : a1 = (0 : Int) := by
  lia
theorem ar375 {a1 : Nat} (h1 : (9 : Nat) ≤ a1) : (a1 - (1 : Nat)) < a1 := by
  omega
theorem ar376  : (0 : Nat) ≤ (8 : Nat) := (dRR 0 0 8 (Nat.le_of_ble_eq_true rfl))
theorem ar377 {a1 : Nat} {a2 : Nat}  : ((a1 + (1 : Nat)) + a2) = ((a1 + a2) + (1 : Nat)) := by
  lia
theorem ar378 {a1 : Nat} (h1 : a1 = (0 : Nat)) : (0 : Int) = ((a1 : Nat) : Int) := by
  lia
theorem ar379 {a1 : Int} {a2 : Int} {a3 : Int} {a4 : Int} (h1 : (a4 + (a1 * a2)) = (a4 + (a3 * a2))) : (a1 * a2) = (a3 * a2) := by
  lia
theorem ar380 {a1 : Nat} (h1 : a1 < (0 : Nat)) : False := by
  lia
theorem ar381 {a1 : Nat} (h1 : (a1 + (1 : Nat)) ≤ (0 : Nat)) : False := by
  lia
theorem ar382 {a1 : Nat} {a2 : Nat} (h1 : (a1 + (1 : Nat)) ≤ (a2 + (1 : Nat))) : a1 ≤ a2 := (dFF a1 a2 1 1 0 0 h1 (Nat.le_of_ble_eq_true rfl))
theorem ar383 {a1 : Nat} {a2 : Nat} {a3 : Nat} (h1 : a2 < (a3 - a1)) : (a1 + a2) < a3 := by
  omega
theorem ar384 {a1 : Int} {a2 : Nat}  : ((a1 + (1 : Int)) + ((a2 : Nat) : Int)) = (a1 + (((a2 : Nat) : Int) + (1 : Int))) := by
  lia
theorem ar385 {a1 : Nat} {a2 : Nat} (h1 : a1 ≤ a2) (h2 : a2 ≤ a1) : a1 = a2 := (Nat.le_antisymm h1 h2)
theorem ar386 {a1 : Nat}  : (Int.toNat ((0 : Int) + (((a1 : Nat) : Int) * (1 : Int)))) = a1 := by
  lia
theorem ar387 {a1 : Nat} {a2 : Nat} {a3 : Nat} (h1 : a1 < a3) (h2 : a3 = a2) : a1 < a2 := (dTT a1 a3 a2 1 0 0 0 h1 (Nat.le_of_eq h2))
theorem ar388 {a1 : Nat}  : ((0 : Int) + (((a1 : Nat) : Int) * (1 : Int))) = ((a1 : Nat) : Int) := by
  lia
theorem ar389 {a1 : Nat} {a2 : Nat} {a3 : Int} {a4 : Int} (h1 : a3 < a4) (h2 : a4 ≤ a3) : a1 < a2 := by
  lia
theorem ar390 {a1 : Int} {a2 : Int} {a3 : Nat} {a4 : Nat} (h1 : a3 < a4) (h2 : a4 ≤ a3) : a1 ≤ a2 := by
  lia
theorem ar391 {a1 : Int} {a2 : Nat} (h1 : ((0 : Int) ≤ a1) ∧ (a1 < ((0 : Int) + ((a2 : Nat) : Int)))) : a1 < ((a2 : Nat) : Int) := by
  lia
theorem ar392 {a1 : Nat} {a2 : Int} (h1 : (((a1 : Nat) : Int) ≤ a2) ∧ (a2 < (((a1 : Nat) : Int) + ((a1 : Nat) : Int)))) : ((a1 : Nat) : Int) ≤ a2 := by
  lia
theorem ar393 {a1 : Nat} {a2 : Nat} {a3 : Nat} {a4 : Nat} (h1 : a1 < a3) (h2 : a2 = a4) (h3 : a3 = a4) : a1 < a2 := (dTT a1 a4 a2 1 0 0 0 (dTT a1 a3 a4 1 0 0 0 h1 (Nat.le_of_eq h3)) (Nat.le_of_eq (Eq.symm h2)))
theorem ar394 {a1 : Int} {a2 : Int} {a3 : Int} {a4 : Int} (h1 : (a1 < a2) ∨ ((a1 = a2) ∧ (a3 < a4))) (h2 : (a2 < a1) ∨ ((a2 = a1) ∧ (a4 < a3))) : False := by
  lia
theorem ar395 {a1 : Nat} {a2 : Nat} {a3 : Nat} {a4 : Nat} (h1 : a2 = a3) (h2 : a4 = a3) : ((min a1 a2) + (min (a3 - a1) a4)) = a3 := by
  omega
theorem ar396 {a1 : Nat} {a2 : Int} (h1 : ((a1 : Nat) : Int) ≤ a2) : ((a1 : Nat) : Int) ≤ a2 := by
  omega
theorem ar397 {a1 : Nat} {a2 : Nat} {a3 : Nat} (h1 : a1 ≤ a3) (h2 : a2 = a3) : (min a1 a2) = a1 := by
  lia
theorem ar398 {a1 : Nat} {a2 : Nat} {a3 : Nat} {a4 : Nat} (h1 : a1 ≤ a3) (h2 : a2 = a3) (h3 : a4 < a1) : (a1 - (1 : Nat)) < a2 := by
  lia
theorem ar399 {a1 : Nat} {a2 : Nat} (h1 : a1 < a2) : a1 ≤ (a2 - (1 : Nat)) := by
  omega
theorem ar400 {a1 : Nat} {a2 : Nat} (h1 : a2 < a1) : (a1 - (1 : Nat)) < a1 := by
  omega
theorem ar401 {a1 : Nat} {a2 : Nat} {a3 : Nat} (h1 : (a1 - a3) ≤ a2) : ((a1 - (1 : Nat)) - a2) ≤ (a3 - (1 : Nat)) := by
  omega
theorem ar402 {a1 : Int} {a2 : Int} {a3 : Int} {a4 : Int} {a5 : Nat} {a6 : Int} {a7 : Int} {a8 : Int} {a9 : Int} (h1 : ((a5 : Nat) : Int) ≤ a4) (h2 : a1 = a6) (h3 : a2 = a7) (h4 : a3 < ((a5 : Nat) : Int)) (h5 : a6 ≤ a8) (h6 : a8 ≤ a9) (h7 : a9 ≤ a7) : (a1 < a2) ∨ ((a1 = a2) ∧ (a3 < a4)) := by
  lia
theorem ar403 {a1 : Nat} {a2 : Nat} {a3 : Nat} {a4 : Nat} {a5 : Nat} (h1 : a1 ≤ a3) (h2 : a2 = a4) (h3 : a3 < a5) (h4 : a5 = a4) : a1 < a2 := (dTT a1 a4 a2 1 0 0 0 (dTT a1 a5 a4 1 0 0 0 (dTT a1 a3 a5 0 0 1 0 h1 h3) (Nat.le_of_eq h4)) (Nat.le_of_eq (Eq.symm h2)))
theorem ar404 {a1 : Nat} {a2 : Nat} (h1 : a1 ≤ a2) : a1 ≤ a2 := h1
theorem ar405 {a1 : Nat} {a2 : Nat} {a3 : Nat} (h1 : a3 < (a2 - a1)) : a1 ≤ ((a2 - (1 : Nat)) - a3) := by
  omega
theorem ar406 {a1 : Int} {a2 : Int} {a3 : Int} {a4 : Int} {a5 : Int} {a6 : Int} {a7 : Nat} {a8 : Int} {a9 : Int} (h1 : (a5 ≤ a6) ↔ (a7 < a7)) (h2 : a1 = a8) (h3 : a2 = a9) (h4 : a5 ≤ a9) (h5 : a8 ≤ a6) : (a1 < a2) ∨ ((a1 = a2) ∧ (a3 < a4)) := by
  lia
theorem ar407 {a1 : Nat} {a2 : Nat} {a3 : Nat} {a4 : Nat} (h1 : (a3 - a4) ≤ a2) (h2 : a1 < (a3 - a4)) : a1 < a2 := (dTT a1 (a3 - a4) a2 1 0 0 0 h2 h1)
theorem ar408 {a1 : Int} {a2 : Int} {a3 : Int} {a4 : Int} {a5 : Int}  : ((a1 + (a2 * a3)) + (a4 + (a5 * a3))) = ((a1 + a4) + ((a2 * a3) + (a5 * a3))) := by
  lia
theorem ar409 {a1 : Int} {a2 : Int} {a3 : Int} {a4 : Int} {a5 : Int}  : ((a1 + (a2 * a3)) - (a4 + (a5 * a3))) = ((a1 - a4) + ((a2 * a3) - (a5 * a3))) := by
  lia
theorem ar410 {a1 : Int} (h1 : (0 : Int) ≤ a1) (h2 : a1 ≤ (255 : Int)) : (a1 % (256 : Int)) = a1 := by
  lia
theorem ar411 {a1 : Int} (h1 : ((0 : Int) ≤ a1) ∧ (a1 ≤ (0 : Int))) : a1 = (0 : Int) := by
  lia
theorem ar412 {a1 : Int}  : (a1 + (256 : Int)) = ((256 : Int) + a1) := by
  lia
theorem ar413 {a1 : Int} {a2 : Int} (h1 : (256 : Int) ≤ (((256 : Int) + a2) - a1)) : a1 = (min a1 a2) := by
  lia
theorem ar414 {a1 : Int} {a2 : Int} (h1 : ¬ ((256 : Int) ≤ (((256 : Int) + a1) - a2))) : a1 = (min a2 a1) := by
  grind -ring -ac
theorem ar415 {a1 : Int} {a2 : Int} (h1 : (256 : Int) ≤ (((256 : Int) + a1) - a2)) : a1 = (max a2 a1) := by
  lia
theorem ar416 {a1 : Int} {a2 : Int} (h1 : ¬ ((256 : Int) ≤ (((256 : Int) + a2) - a1))) : a1 = (max a1 a2) := by
  grind -ring -ac
theorem ar417 {a1 : Nat} {a2 : Nat} (h1 : (a2 = (1 : Nat)) ∨ ((a2 = (2 : Nat)) ∨ (a2 = (4 : Nat)))) (h2 : a1 = (8 : Nat)) : ((a1 - a2) + a2) = (8 : Nat) := by
  lia
theorem ar418 {a1 : Nat} {a2 : Nat} (h1 : a1 = (8 : Nat)) (h2 : a2 = (8 : Nat)) : a1 = a2 := (Nat.le_antisymm (dFF a1 a2 8 8 0 0 (dTT a1 0 a2 0 8 8 0 (Nat.le_of_eq h1) (Nat.le_of_eq (Eq.symm h2))) (Nat.le_of_ble_eq_true rfl)) (dFF a2 a1 8 8 0 0 (dTT a2 0 a1 0 8 8 0 (Nat.le_of_eq h2) (Nat.le_of_eq (Eq.symm h1))) (Nat.le_of_ble_eq_true rfl)))
theorem ar419 {a1 : Nat}  : ((8 : Nat) + a1) = (a1 + (8 : Nat)) := by
  lia
theorem ar420 {a1 : Int}  : ((a1 + (255 : Int)) - (a1 * (2 : Int))) = ((255 : Int) - a1) := by
  lia
theorem ar421 {a1 : Nat} {a2 : Nat} {a3 : Nat} (h1 : (a1 ≤ a3) ∧ (a3 < a2)) : a1 ≤ (((a1 + a2) - (1 : Nat)) - a3) := by
  omega
theorem ar422 {a1 : Nat} {a2 : Nat} {a3 : Nat} (h1 : (a1 ≤ a3) ∧ (a3 < a2)) : (((a1 + a2) - (1 : Nat)) - a3) < a2 := by
  omega
theorem ar423 {a1 : Nat} {a2 : Nat} {a3 : Nat} (h1 : (a1 ≤ a2) ∧ (a2 < a3)) : a1 ≤ a2 := h1.1
theorem ar424 {a1 : Nat} {a2 : Nat} {a3 : Nat} (h1 : (a3 ≤ a1) ∧ (a1 < a2)) : a1 < a2 := h1.2
theorem ar425 {a1 : Nat} {a2 : Nat} (h1 : a1 ≤ a2) : (max a1 a2) = a2 := by
  lia
theorem ar426 {a1 : Nat} {a2 : Nat} {a3 : Nat} (h1 : a1 < a3) (h2 : a3 ≤ a2) : (a1 - (1 : Nat)) < a2 := by
  omega
theorem ar427 {a1 : Nat} {a2 : Nat} (h1 : a1 < (a2 + (1 : Nat))) (h2 : ¬ (a1 < a2)) : a1 = a2 := (Nat.le_antisymm (dFF a1 a2 1 1 0 0 h1 (Nat.le_of_ble_eq_true rfl)) (Nat.le_of_not_lt h2))
theorem ar428 {a1 : Int} {a2 : Int} {a3 : Int} {a4 : Int} (h1 : a3 < a4) (h2 : ¬ (a2 < a1)) : (a1 < a2) ∨ ((a1 = a2) ∧ (a3 < a4)) := by
  lia
theorem ar429 {a1 : Nat} {a2 : Nat} (h1 : a1 < a2) (h2 : ¬ (a1 = (a2 - (1 : Nat)))) : a1 < (a2 - (1 : Nat)) := by
  lia
theorem ar430 {a1 : Int} {a2 : Int} {a3 : Int} {a4 : Int} {a5 : Int} {a6 : Int} (h1 : (a1 < a5) ∨ ((a1 = a5) ∧ (a3 < a6))) (h2 : a3 < a4) (h3 : ¬ (a2 < a5)) : (a1 < a2) ∨ ((a1 = a2) ∧ (a3 < a4)) := by
  lia
theorem ar431 {a1 : Nat} {a2 : Nat} (h1 : (1 : Nat) ≤ a2) (h2 : a2 ≤ a1) : (1 : Nat) ≤ a1 := (dTT 0 a2 a1 1 0 0 0 h1 h2)
theorem ar432 {a1 : Nat} {a2 : Nat} {a3 : Nat} (h1 : a1 < a3) (h2 : a3 < a2) : ((0 : Nat) ≤ a1) ∧ (a1 < a2) := ⟨(Nat.zero_le a1), (dFF a1 a2 2 0 1 0 (dTT a1 a3 a2 1 0 1 0 h1 h2) (Nat.le_of_ble_eq_true rfl))⟩
theorem ar433 {a1 : Nat} {a2 : Nat} (h1 : a1 < a2) : ((0 : Nat) ≤ a1) ∧ (a1 < a2) := ⟨(Nat.zero_le a1), h1⟩
theorem ar434 {a1 : Nat} {a2 : Nat} {a3 : Nat} (h1 : a2 < a1) (h2 : a3 < a2) : ((((0 : Nat) + a1) - (1 : Nat)) - a2) < ((((0 : Nat) + a1) - (1 : Nat)) - a3) := by
  grind -ring -ac
theorem ar435 {a1 : Nat} {a2 : Nat} {a3 : Nat} (h1 : a3 < a1) : ((((0 : Nat) + a1) - (1 : Nat)) - a2) < a1 := by
  omega
theorem ar436 {a1 : Int} {a2 : Int} {a3 : Int} {a4 : Int} (h1 : (a1 < a2) ∨ ((a2 = a1) ∧ (a3 < a4))) : (a1 < a2) ∨ ((a1 = a2) ∧ (a3 < a4)) := by
  grind -ring -ac
theorem ar437 {a1 : Nat} {a2 : Nat} {a3 : Nat} (h1 : a2 < a1) : ¬ ((a1 ≤ a2) ∧ (a2 < a3)) := by
  lia
theorem ar438 {a1 : Nat} {a2 : Nat} {a3 : Nat} {a4 : Nat} (h1 : a2 < a4) (h2 : a4 < a1) : ¬ ((a1 ≤ a2) ∧ (a2 < a3)) := by
  lia
theorem ar439 {a1 : Nat} {a2 : Nat} (h1 : ¬ (a2 < a1)) : a1 ≤ a2 := (Nat.le_of_not_lt h1)
theorem ar440 {a1 : Nat} {a2 : Nat} {a3 : Nat} (h1 : a1 < a3) (h2 : a3 < a2) : a1 < a2 := (dFF a1 a2 2 0 1 0 (dTT a1 a3 a2 1 0 1 0 h1 h2) (Nat.le_of_ble_eq_true rfl))
theorem ar441 {a1 : Nat} {a2 : Nat} {a3 : Nat} (h1 : a2 < a3) (h2 : ¬ (a2 < a1)) : (a1 ≤ a2) ∧ (a2 < a3) := ⟨(Nat.le_of_not_lt h2), h1⟩
theorem ar442 {a1 : Nat} {a2 : Nat} {a3 : Nat} {a4 : Nat} (h1 : a2 < a4) (h2 : a4 < a3) (h3 : ¬ (a2 < a1)) : (a1 ≤ a2) ∧ (a2 < a3) := ⟨(Nat.le_of_not_lt h3), (dFF a2 a3 2 0 1 0 (dTT a2 a4 a3 1 0 1 0 h1 h2) (Nat.le_of_ble_eq_true rfl))⟩
theorem ar443 {a1 : Nat} {a2 : Nat} {a3 : Nat} (h1 : a3 < a2) : a1 ≤ (((a1 + a2) - (1 : Nat)) - a3) := by
  omega
theorem ar444 {a1 : Nat} {a2 : Nat} {a3 : Nat} {a4 : Nat} (h1 : a3 < a2) (h2 : a4 < a3) : (((a1 + a2) - (1 : Nat)) - a3) < (((a1 + a2) - (1 : Nat)) - a4) := by
  omega
theorem ar445 {a1 : Nat} {a2 : Nat} {a3 : Nat} {a4 : Nat} (h1 : a4 < a2) (h2 : ¬ (a3 < a1)) : (((a1 + a2) - (1 : Nat)) - a3) < a2 := by
  omega
theorem ar446 {a1 : Nat} {a2 : Nat} (h1 : a1 < (a2 + (1 : Nat))) (h2 : a2 ≤ a1) : a1 = a2 := (Nat.le_antisymm (dFF a1 a2 1 1 0 0 h1 (Nat.le_of_ble_eq_true rfl)) h2)
theorem ar447 {a1 : Nat} {a2 : Nat} (h1 : a1 < (a2 + (1 : Nat))) (h2 : a2 ≤ a1) : a1 = ((a2 + (1 : Nat)) - (1 : Nat)) := by
  lia
theorem ar448 {a1 : Int} {a2 : Int} {a3 : Nat} {a4 : Nat} {a5 : Nat} (h1 : a3 < (a4 + (1 : Nat))) (h2 : a4 ≤ a5) (h3 : a5 < a3) : a1 < a2 := by
  grind -ring -ac
theorem ar449 {a1 : Nat} (h1 : (1 : Nat) ≤ a1) : ((0 : Nat) + (1 : Nat)) ≤ a1 := h1
theorem ar450 {a1 : Nat}  : ((0 : Nat) + (1 : Nat)) ≤ (a1 + (1 : Nat)) := (dFF 0 a1 0 0 1 1 (Nat.zero_le a1) (Nat.le_of_ble_eq_true rfl))
theorem ar451 {a1 : Nat} {a2 : Nat} (h1 : (a2 + (1 : Nat)) ≤ a1) (h2 : ¬ ((0 : Nat) < a2)) : a1 = ((a1 - (a2 + (1 : Nat))) + (1 : Nat)) := by
  grind -ring -ac
theorem ar452 {a1 : Int} {a2 : Int} (h1 : ¬ (a1 < a2)) (h2 : ¬ (a2 < a1)) : a1 = a2 := by
  lia
theorem ar453 {a1 : Nat} {a2 : Nat} (h1 : (a1 + (1 : Nat)) ≤ a2) : ((a1 + (1 : Nat)) + (1 : Nat)) ≤ (a2 + (1 : Nat)) := (dFF a1 a2 1 0 2 1 h1 (Nat.le_of_ble_eq_true rfl))
theorem ar454 {a1 : Nat} {a2 : Nat}  : ((a1 + (1 : Nat)) - ((a2 + (1 : Nat)) + (1 : Nat))) = (a1 - (a2 + (1 : Nat))) := by
  lia
theorem ar455 {a1 : Nat} {a2 : Nat}  : (a1 - (a2 + (1 : Nat))) < (a1 + (1 : Nat)) := by
  omega
theorem ar456 {a1 : Nat} {a2 : Nat}  : (a1 - (a2 + (1 : Nat))) ≤ (a1 - (1 : Nat)) := by
  omega
theorem ar457 {a1 : Nat} {a2 : Nat} (h1 : (1 : Nat) ≤ a2) (h2 : a2 ≤ a1) : (a1 - (1 : Nat)) < a1 := by
  omega
theorem ar458 {a1 : Nat}  : ((a1 + (1 : Nat)) - (1 : Nat)) = a1 := by
  lia
theorem ar459 {a1 : Nat} {a2 : Nat} {a3 : Nat} (h1 : (a1 - (a2 + (1 : Nat))) ≤ a3) : (a1 - (a2 + (1 : Nat))) ≤ a3 := h1
theorem ar460 {a1 : Nat} {a2 : Nat} (h1 : a1 < (a2 + (1 : Nat))) (h2 : ¬ (a1 = a2)) : a1 < a2 := by
  lia
theorem ar461 {a1 : Nat} {a2 : Nat} {a3 : Nat} (h1 : a1 < a3) (h2 : a3 < (a2 + (1 : Nat))) : a1 < a2 := (dFF a1 a2 2 1 1 0 (dTT a1 a3 a2 1 0 1 1 h1 h2) (Nat.le_of_ble_eq_true rfl))
theorem ar462 {a1 : Nat}  : (1 : Nat) ≤ (a1 + (1 : Nat)) := (dFF 0 a1 0 0 1 1 (Nat.zero_le a1) (Nat.le_of_ble_eq_true rfl))
theorem ar463 {a1 : Nat} {a2 : Nat} (h1 : (a2 + (1 : Nat)) ≤ a1) : (1 : Nat) ≤ a1 := (dTT 0 a2 a1 0 0 1 0 (Nat.zero_le a2) h1)
theorem ar464 {a1 : Int} {a2 : Int} {a3 : Int} {a4 : Int} {a5 : Nat} {a6 : Nat} (h1 : a5 < (1 : Nat)) (h2 : a6 < a5) : (a1 < a2) ∨ ((a1 = a2) ∧ (a3 < a4)) := by
  omega
theorem ar465 {a1 : Nat} {a2 : Nat} (h1 : (1 : Nat) ≤ a2) (h2 : a2 ≤ a1) : (0 : Nat) < a1 := (dTT 0 a2 a1 1 0 0 0 h1 h2)
theorem ar466 {a1 : Nat} {a2 : Nat} {a3 : Nat} (h1 : (1 : Nat) < a1) (h2 : a1 ≤ a3) (h3 : a3 ≤ a2) : (a1 - (1 : Nat)) < a2 := by
  lia
theorem ar467 {a1 : Nat} (h1 : ¬ ((0 : Nat) < a1)) : a1 = (0 : Nat) := (Nat.le_antisymm (Nat.le_of_not_lt h1) (Nat.zero_le a1))
theorem ar468 {a1 : Nat} (h1 : (1 : Nat) < a1) : (a1 - (1 : Nat)) < a1 := by
  omega
theorem ar469 {a1 : Nat} {a2 : Nat} (h1 : a1 < a2) (h2 : ¬ (a1 < (a2 - (1 : Nat)))) : a1 = (a2 - (1 : Nat)) := by
  lia
theorem ar470 {a1 : Int} {a2 : Int} {a3 : Int} (h1 : a1 ≤ a2) (h2 : a3 ≤ a1) (h3 : ¬ (a3 < a2)) : a1 = a2 := by
  lia
theorem ar471 {a1 : Nat}  : (0 : Nat) ≤ a1 := (Nat.zero_le a1)
theorem ar472 {a1 : Nat} {a2 : Nat} {a3 : Nat} (h1 : a2 < a3) (h2 : a3 < a1) : (1 : Nat) ≤ ((((0 : Nat) + a1) - (1 : Nat)) - a2) := by
  omega
theorem ar473 {a1 : Nat} {a2 : Nat} {a3 : Nat} {a4 : Nat} (h1 : (1 : Nat) ≤ a4) (h2 : a1 ≤ a4) (h3 : a4 ≤ a3) : ((((0 : Nat) + a1) - (1 : Nat)) - a2) < a3 := by
  omega
theorem ar474 {a1 : Nat} {a2 : Nat} (h1 : a1 ≤ a2) (h2 : ¬ (a1 = a2)) : (a1 + (1 : Nat)) ≤ a2 := by
  lia
theorem ar475 {a1 : Nat} (h1 : (1 : Nat) ≤ a1) (h2 : ¬ ((1 : Nat) < a1)) : a1 = (1 : Nat) := (Nat.le_antisymm (Nat.le_of_not_lt h2) h1)
theorem ar476 {a1 : Nat} (h1 : (1 : Nat) ≤ a1) (h2 : ¬ ((1 : Nat) = a1)) : ((1 : Nat) + (1 : Nat)) ≤ a1 := by
  lia
theorem ar477 {a1 : Int} {a2 : Int} {a3 : Int} {a4 : Int} {a5 : Nat} {a6 : Nat} (h1 : a5 < (1 : Nat)) (h2 : a6 < a5) : (a1 < a2) ∨ ((a2 = a1) ∧ (a3 < a4)) := by
  omega
theorem ar478 {a1 : Nat} (h1 : a1 < (1 : Nat)) : a1 = (0 : Nat) := (Nat.le_antisymm (dFF a1 0 1 1 0 0 h1 (Nat.le_of_ble_eq_true rfl)) (Nat.zero_le a1))
theorem ar479 {a1 : Nat} {a2 : Nat} (h1 : (1 : Nat) ≤ a1) (h2 : a1 ≤ a2) : (min (max a1 (1 : Nat)) a2) = a1 := by
  grind -ring -ac
theorem ar480 {a1 : Nat} {a2 : Nat}  : (min (max (max a1 (1 : Nat)) a2) a2) = a2 := by
  lia
theorem ar481 {a1 : Nat} {a2 : Nat} (h1 : a1 < a2) : (min a1 a2) = a1 := by
  lia
theorem ar482 {a1 : Nat}  : a1 ≤ a1 := (dRR a1 0 0 (Nat.le_of_ble_eq_true rfl))
theorem ar483 {a1 : Nat}  : (a1 - (0 : Nat)) ≤ (a1 - (0 : Nat)) := (dRR (a1 - 0) 0 0 (Nat.le_of_ble_eq_true rfl))
theorem ar484 {a1 : Int} {a2 : Int} {a3 : Nat} (h1 : a3 < (0 : Nat)) : a1 ≤ a2 := by
  lia
theorem ar485 {a1 : Int} {a2 : Int} {a3 : Nat} {a4 : Nat} (h1 : a3 < a4) (h2 : a4 ≤ a3) : a1 < a2 := by
  grind -ring -ac
theorem ar486 {a1 : Nat} {a2 : Nat} {a3 : Nat} (h1 : (a2 - a1) ≤ (a3 - (max (0 : Nat) a3))) (h2 : a1 ≤ a2) : a1 = a2 := by
  grind -ring -ac
theorem ar487 {a1 : Nat} {a2 : Nat} {a3 : Nat} {a4 : Nat} (h1 : a2 ≤ a4) (h2 : a4 < a3) (h3 : ¬ (a2 ≤ a1)) : ((a1 + a2) / (2 : Nat)) < a3 := by
  lia
theorem ar488 {a1 : Nat} {a2 : Nat} (h1 : ¬ (a2 ≤ a1)) : a1 ≤ ((a1 + a2) / (2 : Nat)) := by
  lia
theorem ar489 {a1 : Nat} {a2 : Nat} {a3 : Nat} (h1 : a2 ≤ a3) (h2 : ¬ (a2 ≤ a1)) : ((a1 + a2) / (2 : Nat)) ≤ a3 := by
  lia
theorem ar490 {a1 : Nat} {a2 : Nat} {a3 : Nat} {a4 : Nat} (h1 : (a2 - a1) ≤ (a3 - a4)) : (((a1 + a2) / (2 : Nat)) - a1) ≤ (a3 - (a4 + (1 : Nat))) := by
  omega
theorem ar491 {a1 : Int} {a2 : Int} {a3 : Int} {a4 : Int} {a5 : Int} (h1 : (a3 < a2) ∨ ((a3 = a2) ∧ (a4 < a5))) (h2 : a1 < a3) : a1 < a2 := by
  lia
theorem ar492 {a1 : Nat} {a2 : Nat} {a3 : Nat} (h1 : ((a2 + a3) / (2 : Nat)) ≤ a1) (h2 : ¬ (((a2 + a3) / (2 : Nat)) < a1)) : a1 = ((a2 + a3) / (2 : Nat)) := (Nat.le_antisymm (Nat.le_of_not_lt h2) h1)
theorem ar493 {a1 : Nat} {a2 : Nat} (h1 : ¬ (a2 ≤ a1)) : (((a1 + a2) / (2 : Nat)) + (1 : Nat)) ≤ a2 := by
  lia
theorem ar494 {a1 : Nat} {a2 : Nat} {a3 : Nat} {a4 : Nat} (h1 : (a1 - a2) ≤ (a3 - a4)) : (a1 - (((a2 + a1) / (2 : Nat)) + (1 : Nat))) ≤ (a3 - (a4 + (1 : Nat))) := by
  omega
theorem ar495 {a1 : Nat} {a2 : Nat} {a3 : Nat} (h1 : a2 ≤ a3) (h2 : ¬ (a2 ≤ a1)) : ((a1 + a2) / (2 : Nat)) < a3 := by
  lia
theorem ar496 {a1 : Int} {a2 : Int} {a3 : Int} {a4 : Int} {a5 : Int} (h1 : (a1 < a3) ∨ ((a1 = a3) ∧ (a4 < a5))) (h2 : ¬ (a2 < a3)) : a1 ≤ a2 := by
  lia
theorem ar497 {a1 : Nat} {a2 : Nat} {a3 : Nat} (h1 : a1 < (((a2 + a3) / (2 : Nat)) + (1 : Nat))) (h2 : ¬ (a1 < ((a2 + a3) / (2 : Nat)))) : a1 = ((a2 + a3) / (2 : Nat)) := (Nat.le_antisymm (dFF a1 ((a2 + a3) / 2) 1 1 0 0 h1 (Nat.le_of_ble_eq_true rfl)) (Nat.le_of_not_lt h2))
theorem ar498 {a1 : Nat} {a2 : Nat} (h1 : a1 < a2) : (min (a1 + (1 : Nat)) a2) = (a1 + (1 : Nat)) := by
  lia
theorem ar499 {a1 : Nat} {a2 : Nat}  : (a1 - a2) ≤ a1 := by
  omega
theorem ar500 {a1 : Nat} {a2 : Nat} (h1 : a2 ≤ a1) : (a1 - (a1 - a2)) = a2 := by
  lia
theorem ar501 {a1 : Nat} {a2 : Nat} {a3 : Nat} (h1 : a3 < a2) (h2 : a3 = a1) : a1 ≤ (a2 - (1 : Nat)) := by
  grind -ring -ac
theorem ar502 {a1 : Nat} {a2 : Nat} {a3 : Nat} (h1 : a1 < (a2 + (1 : Nat))) (h2 : a3 < a1) : (a1 - (1 : Nat)) < a2 := by
  lia
theorem ar503 {a1 : Int} {a2 : Int} {a3 : Int} {a4 : Int} (h1 : a1 ≤ a2) (h2 : a3 < a4) : (a1 < a2) ∨ ((a1 = a2) ∧ (a3 < a4)) := by
  lia
theorem ar504 {a1 : Nat} {a2 : Nat} (h1 : (a1 + (1 : Nat)) ≤ a2) : a1 ≤ a2 := (dFF a1 a2 1 0 0 0 h1 (Nat.le_of_ble_eq_true rfl))
theorem ar505 {a1 : Nat} (h1 : (2 : Nat) ≤ a1) : a1 = ((a1 - (1 : Nat)) + (1 : Nat)) := by
  lia
theorem ar506 {a1 : Nat} (h1 : (2 : Nat) ≤ a1) (h2 : (max (0 : Nat) a1) = (0 : Nat)) : False := by
  lia
theorem ar507 {a1 : Nat} (h1 : (2 : Nat) ≤ a1) : ¬ (a1 ≤ (0 : Nat)) := (Nat.not_le_of_lt (dFF 0 a1 2 0 1 0 h1 (Nat.le_of_ble_eq_true rfl)))
theorem ar508 {a1 : Nat} (h1 : (2 : Nat) ≤ a1) : (1 : Nat) ≤ a1 := (dFF 0 a1 2 0 1 0 h1 (Nat.le_of_ble_eq_true rfl))
theorem ar509  : (1 : Nat) ≤ (1 : Nat) := (dRR 0 1 1 (Nat.le_of_ble_eq_true rfl))
theorem ar510 {a1 : Nat} {a2 : Nat} (h1 : a1 ≤ a2) (h2 : ¬ (a1 < a2)) : a1 = a2 := (Nat.le_antisymm h1 (Nat.le_of_not_lt h2))
theorem ar511 {a1 : Int} {a2 : Int} {a3 : Int} {a4 : Int} (h1 : (a3 < a4) ∨ ((a3 = a4) ∧ (a1 < a2))) (h2 : (a4 < a3) ∨ ((a4 = a3) ∧ (a2 < a1))) : a1 = a2 := by
  lia
theorem ar512 {a1 : Nat} {a2 : Nat} (h1 : (a1 + (a2 + (1 : Nat))) < (600 : Nat)) : (a1 + a2) < (600 : Nat) := by
  lia
theorem ar513 {a1 : Nat} {a2 : Nat} (h1 : (a1 + ((8 : Nat) * (a2 + (1 : Nat)))) < (6000 : Nat)) : ((a1 + (1 : Nat)) + ((8 : Nat) * a2)) < (6000 : Nat) := by
  lia
theorem ar514 {a1 : Nat} {a2 : Nat} (h1 : a1 = a2) (h2 : a2 < (64 : Nat)) : a1 ≤ (16777216 : Nat) := (dFF a1 0 1 64 0 16777216 (dTT a1 a2 0 0 0 1 64 (Nat.le_of_eq h1) h2) (Nat.le_of_ble_eq_true rfl))
theorem ar515 {a1 : Nat} {a2 : Nat} {a3 : Nat} (h1 : a1 ≤ a3) (h2 : a2 = (a3 + (1 : Nat))) : a1 ≤ a2 := (dFF a1 a2 1 0 0 0 (dTT a1 a3 a2 0 0 1 0 h1 (Nat.le_of_eq (Eq.symm h2))) (Nat.le_of_ble_eq_true rfl))
theorem ar516 {a1 : Nat} {a2 : Nat} (h1 : a2 = (a1 + (1 : Nat))) : a1 ≤ a2 := (dFF a1 a2 1 0 0 0 (Nat.le_of_eq (Eq.symm h1)) (Nat.le_of_ble_eq_true rfl))
theorem ar517 {a1 : Nat} {a2 : Nat} {a3 : Nat} (h1 : a1 < a3) (h2 : a2 = (a3 + (1 : Nat))) : (a1 < a2) ∨ (a2 < a1) := (Or.inl (dFF a1 a2 2 0 1 0 (dTT a1 a3 a2 1 0 1 0 h1 (Nat.le_of_eq (Eq.symm h2))) (Nat.le_of_ble_eq_true rfl)))
theorem ar518 {a1 : Int} {a2 : Nat} {a3 : Nat} (h1 : a2 < a3) : (a1 + (((a2 : Nat) : Int) * (1 : Int))) < (a1 + (((a3 : Nat) : Int) * (1 : Int))) := by
  lia
theorem ar519 {a1 : Nat} (h1 : a1 < (64 : Nat)) : a1 ≤ ((2 : Nat) ^ 24) := (dFF a1 0 1 64 0 16777216 h1 (Nat.le_of_ble_eq_true rfl))
theorem ar520 {a1 : Nat} {a2 : Nat} {a3 : Nat} (h1 : (2 : Nat) ≤ a2) (h2 : a1 = a3) (h3 : a2 = a3) : (0 : Nat) < a1 := (dFF 0 a1 2 0 1 0 (dTT 0 a3 a1 2 0 0 0 (dTT 0 a2 a3 2 0 0 0 h1 (Nat.le_of_eq h3)) (Nat.le_of_eq (Eq.symm h2))) (Nat.le_of_ble_eq_true rfl))
theorem ar521 {a1 : Int} {a2 : Int}  : ¬ (((a1 * (1000 : Int)) + a2) < ((a1 * (1000 : Int)) + a2)) := by
  lia
theorem ar522 {a1 : Int} {a2 : Int} {a3 : Int}  : (((a1 * (1000 : Int)) + a2) < ((a1 * (1000 : Int)) + a3)) ↔ (a2 < a3) := by
  lia
theorem ar523 {a1 : Int} {a2 : Int} {a3 : Int} {a4 : Int} (h1 : ((-(500 : Int)) < a2) ∧ (a2 < (500 : Int))) (h2 : ((-(500 : Int)) < a4) ∧ (a4 < (500 : Int))) (h3 : ¬ (a1 = a3)) : (((a1 * (1000 : Int)) + a2) < ((a3 * (1000 : Int)) + a4)) ↔ (a1 < a3) := by
  lia
end Mine
end

section
open PySem PySem.W PyProof.Rows
set_option maxRecDepth 100000
namespace Mine

/-- what does not turn: the program, the world, the state that the call found -/
structure Cx where
  prog : Program
  w : World
  s₀ : Shared
noncomputable abbrev Cx.at (c : Cx) (h : Heap) (tk : Nat) : Shared := { c.s₀ with heap := h, toks := tk }

/-- the tree ends well from heap h: no raise, the heap alone is told -/
noncomputable def Wp (c : Cx) (A : Around) {α : Type} (t : Sem α) (Q : α → Heap → Prop) (h : Heap) : Prop :=
  ∀ tk, wpAny (model c.prog c.w) A t (fun v s' => ∃ h' tk', s' = c.at h' tk' ∧ Q v h') (fun _ _ => False) (c.at h tk)

/-- on from what is shown -/
theorem Wp.go {c : Cx} {A : Around} {α : Type} {t : Sem α} {P : α → Heap → Prop} {h : Heap} (x : Wp c A t P h) (tk : Nat) {Q : α → Shared → Prop} {E : Value → Shared → Prop} (k : ∀ v h' tk', P v h' → Q v (c.at h' tk')) : wpAny (model c.prog c.w) A t Q E (c.at h tk) :=
  wpAny_mono (x tk) (fun v s' ⟨h', tk', e, q⟩ => e ▸ k v h' tk' q) fun _ _ e => e.elim
/-- the same of a code -/
noncomputable def Cp (c : Cx) (A : Around) (k : Code) (R : Flow → Heap → Prop) (h : Heap) : Prop :=
  ∀ tk, codeAny (model c.prog c.w) A k (fun r s' => ∃ f h' tk', r = .ok f ∧ s' = c.at h' tk' ∧ R f h') (c.at h tk)

noncomputable abbrev Kcons (c : Cx) (A : Around) (env : Env) (rest : List Stmt) (Q : Flow → Heap → Prop) : Flow → Heap → Prop := fun f h' => match f with | .next => Wp c A (execs rest env) Q h' | f => Q f h'
noncomputable abbrev Kret (Q : Flow → Heap → Prop) : Value → Heap → Prop := fun v h' => Q (.ret v) h'
noncomputable abbrev Knxt {α : Type} (Q : Flow → Heap → Prop) : α → Heap → Prop := fun _ h' => Q .next h'
noncomputable abbrev KopB (c : Cx) (A : Around) (f : Value → Value → Sem Value) (Q : Value → Heap → Prop) (a : Value) : Value → Heap → Prop := fun b h₂ => Wp c A (f a b) Q h₂
noncomputable abbrev Kop (c : Cx) (A : Around) (env : Env) (f : Value → Value → Sem Value) (r : Expr) (Q : Value → Heap → Prop) : Value → Heap → Prop := fun a h₁ => Wp c A (eval r env) (KopB c A f Q a) h₁
noncomputable abbrev Kun (c : Cx) (A : Around) (f : Value → Sem Value) (Q : Value → Heap → Prop) : Value → Heap → Prop := fun a h₁ => Wp c A (f a) Q h₁
noncomputable abbrev Ktru (c : Cx) (A : Around) (Q : Bool → Heap → Prop) : Value → Heap → Prop := fun v h₃ => Wp c A (truthy v) Q h₃
noncomputable abbrev Kasg (c : Cx) (A : Around) (env : Env) (x : Str) (Q : Flow → Heap → Prop) : Value → Heap → Prop := fun v h₁ => Wp c A (storeName env x v) (Knxt Q) h₁
section
variable {c : Cx} {A : Around} {α β : Type} {h : Heap} {env : Env}

theorem Wp.pure {a : α} {Q : α → Heap → Prop} (hq : Q a h) : Wp c A (Pure.pure a) Q h := fun tk => wpAny_pure ⟨h, tk, rfl, hq⟩
theorem Wp.mono {t : Sem α} {Q Q' : α → Heap → Prop} (x : Wp c A t Q h) (k : ∀ v h', Q v h' → Q' v h') : Wp c A t Q' h :=
  fun tk => wpAny_mono (x tk) (fun v _ ⟨h', tk', e, q⟩ => ⟨h', tk', e, k v h' q⟩) fun _ _ e => e
theorem Wp.bind {m : Sem α} {f : α → Sem β} {Q : β → Heap → Prop} (x : Wp c A m (fun a h' => Wp c A (f a) Q h') h) : Wp c A (m >>= f) Q h :=
  fun tk => wpAny_bind (x.go tk (fun a h' tk' q => q tk'))
/-- what is to be shown, by a name -/
theorem Wp.abs {t : Sem α} {P : α → Heap → Prop} (x : ∀ Q : α → Heap → Prop, (∀ v h', P v h' → Q v h') → Wp c A t Q h) : Wp c A t P h := x P fun _ _ p => p
theorem Wp.absB {t : Sem α} {u : α → Sem β} {P : β → Heap → Prop} (x : ∀ Q : β → Heap → Prop, (∀ v h', P v h' → Q v h') → Wp c A t (fun a h₂ => Wp c A (u a) Q h₂) h) : Wp c A t (fun a h₂ => Wp c A (u a) P h₂) h := x P fun _ _ p => p
theorem Wp.ofEq {t t' : Sem α} {Q : α → Heap → Prop} (e : t = t') (x : Wp c A t' Q h) : Wp c A t Q h := e ▸ x

theorem Wp.nil {Q : Flow → Heap → Prop} (hq : Q .next h) : Wp c A (execs [] env) Q h := fun tk => wpAny_execs_nil ⟨h, tk, rfl, hq⟩
theorem Wp.cons {st : Stmt} {rest : List Stmt} {Q : Flow → Heap → Prop}
    (x : Wp c A (exec st env) (Kcons c A env rest Q) h) : Wp c A (execs (st :: rest) env) Q h :=
  fun tk => wpAny_execs_cons (x.go tk (fun f h' tk' q => by
    cases f with
    | next => exact q tk'
    | brk => exact ⟨h', tk', rfl, q⟩
    | cont => exact ⟨h', tk', rfl, q⟩
    | ret v => exact ⟨h', tk', rfl, q⟩))
theorem Wp.ret {e : Expr} {pos : Pos} {Q : Flow → Heap → Prop} (x : Wp c A (eval e env) (Kret Q) h) : Wp c A (exec (.Return (some e) pos) env) Q h :=
  fun tk => wpAny_Return_some (x tk)
theorem Wp.retN {pos : Pos} {Q : Flow → Heap → Prop} (x : Q (.ret .none) h) : Wp c A (exec (.Return none pos) env) Q h :=
  fun tk => wpAny_Return_none ⟨h, tk, rfl, x⟩
theorem Wp.ifS {test : Expr} {body orelse : List Stmt} {pos : Pos} {Q : Flow → Heap → Prop}
    (x : Wp c A (isTrue test env (eval test env)) (fun b h' => if b then Wp c A (execs body env) Q h' else Wp c A (execs orelse env) Q h') h) :
    Wp c A (exec (.If test body orelse pos) env) Q h :=
  fun tk => wpAny_If (x.go tk (fun b h' tk' q => by
    cases b with
    | true => exact q tk'
    | false => exact q tk'))
theorem Wp.ifE {test body orelse : Expr} {pos : Pos} {Q : Value → Heap → Prop}
    (x : Wp c A (isTrue test env (eval test env)) (fun b h' => if b then Wp c A (eval body env) Q h' else Wp c A (eval orelse env) Q h') h) :
    Wp c A (eval (.IfExp test body orelse pos) env) Q h :=
  fun tk => wpAny_IfExp (x.go tk (fun b h' tk' q => by
    cases b with
    | true => exact q tk'
    | false => exact q tk'))
theorem Wp.cmp {l r : Expr} {op : CmpOp} {pos : Pos} {Q : Value → Heap → Prop}
    (x : Wp c A (eval l env) (Kop c A env (compareOp op) r Q) h)
    (hm : behindInMarks op r = false := by with_unfolding_all rfl) : Wp c A (eval (.Compare l [op] [r] pos) env) Q h :=
  fun tk => wpAny_Compare1 (x.go tk (fun a h' tk' q => by
    exact q.go tk' (fun b h' tk' q => q tk'))) hm
theorem Wp.bin {l r : Expr} {op : Operator} {pos : Pos} {Q : Value → Heap → Prop}
    (x : Wp c A (eval l env) (Kop c A env (binaryOp op) r Q) h) : Wp c A (eval (.BinOp l op r pos) env) Q h :=
  fun tk => wpAny_BinOp (x.go tk (fun a h' tk' q => by
    exact q.go tk' (fun b h' tk' q => q tk')))
theorem Wp.un {x : Expr} {op : UnaryOp} {pos : Pos} {Q : Value → Heap → Prop}
    (k : Wp c A (eval x env) (Kun c A (unaryOp op) Q) h) : Wp c A (eval (.UnaryOp op x pos) env) Q h :=
  fun tk => wpAny_UnaryOp (k.go tk (fun a h' tk' q => q tk'))
/-- a test that is a comparison -/
theorem Wp.tCmp {l r : Expr} {op : CmpOp} {pos : Pos} {whole : Sem Value} {Q : Bool → Heap → Prop}
    (x : Wp c A (eval l env) (Kop c A env (compareOp op) r (Ktru c A Q)) h)
    (hm : behindInMarks op r = false := by with_unfolding_all rfl) : Wp c A (isTrue (.Compare l [op] [r] pos) env whole) Q h :=
  fun tk => wpAny_isTrue_Compare1 (x.go tk (fun a h' tk' q => by
    exact q.go tk' (fun b h' tk' q => by
      exact q.go tk' (fun b h' tk' q => q tk')))) hm
theorem Wp.tNot {x : Expr} {pos : Pos} {whole : Sem Value} {Q : Bool → Heap → Prop} (k : Wp c A (isTrue x env (eval x env)) (fun b h₁ => Q (!b) h₁) h) :
    Wp c A (isTrue (.UnaryOp .Not x pos) env whole) Q h := fun tk => wpAny_isTrue_Not (k tk)
/-- a test by its value -/
theorem Wp.tVal {e : Expr} {whole : Sem Value} {Q : Bool → Heap → Prop} (x : Wp c A whole (Ktru c A Q) h)
    (he : isTrue e env whole = (do let v ← whole; standAt e.pos; holding [v] (truthy v)) := by rfl) : Wp c A (isTrue e env whole) Q h :=
  fun tk => wpAny_isTrue_value (x.go tk (fun a h' tk' q => q tk')) he
theorem Wp.tAnd2 {x y : Expr} {pos : Pos} {whole : Sem Value} {Q : Bool → Heap → Prop}
    (k : Wp c A (isTrue x env (eval x env)) (fun b h₁ => if b then Wp c A (isTrue y env (eval y env)) Q h₁ else Q false h₁) h) :
    Wp c A (isTrue (.BoolOp .And [x, y] pos) env whole) Q h := fun tk => by
  refine wpAny_isTrue_BoolOp (wpAny_allTrue_And_cons (k.go tk (fun b h' tk' q => ?_)))
  cases b with
  | false => exact ⟨h', tk', rfl, q⟩
  | true =>
    refine wpAny_allTrue_And_cons (q.go tk' (fun b h' tk' q => ?_))
    cases b with
    | false => exact ⟨h', tk', rfl, q⟩
    | true => exact wpAny_allTrue_And_nil ⟨h', tk', rfl, q⟩
theorem Wp.truB {b : Bool} {Q : Bool → Heap → Prop} (hq : Q b h) : Wp c A (truthy (.bool b)) Q h := fun tk => wpAny_truthy_bool ⟨h, tk, rfl, hq⟩
theorem Wp.truI {n : Int} {t : Tok} {Q : Bool → Heap → Prop} (hq : Q (n != 0) h) : Wp c A (truthy (.int n t)) Q h := fun tk => PySem.P.truthy_int ⟨h, tk, rfl, hq⟩

theorem Wp.cInt {i : Int} {k : Nat} {pos : Pos} {Q : Value → Heap → Prop} (hq : ∀ t, Q (.int i t) h) : Wp c A (eval (.Constant (.int i) k pos) env) Q h :=
  fun tk => wpAny_Constant_int ⟨h, _, rfl, hq _⟩
theorem Wp.cNone {k : Nat} {pos : Pos} {Q : Value → Heap → Prop} (hq : Q .none h) : Wp c A (eval (.Constant .none k pos) env) Q h := fun tk => wpAny_Constant_none ⟨h, _, rfl, hq⟩
theorem Wp.cBool {b : Bool} {k : Nat} {pos : Pos} {Q : Value → Heap → Prop} (hq : Q (.bool b) h) : Wp c A (eval (.Constant (.bool b) k pos) env) Q h := fun tk => wpAny_Constant_bool ⟨h, _, rfl, hq⟩

theorem Wp.assign {x : Str} {pos' pos : Pos} {value : Expr} {Q : Flow → Heap → Prop}
    (k : Wp c A (eval value env) (Kasg c A env x Q) h)
    (hs : swapsWith value (some (.Name x pos')) pos.line env = Pure.pure false := by rfl) : Wp c A (exec (.Assign [.Name x pos'] value pos) env) Q h :=
  fun tk => wpAny_Assign_Name (k.go tk (fun a h' tk' q => q tk')) hs
theorem Wp.aug {x : Str} {pos' pos : Pos} {op : Operator} {value : Expr} {Q : Flow → Heap → Prop}
    (k : Wp c A (loadName env x) (Kop c A env (inplaceOp op) value (Kasg c A env x Q)) h) :
    Wp c A (exec (.AugAssign (.Name x pos') op value pos) env) Q h :=
  fun tk => wpAny_AugAssign_Name (k.go tk (fun a h' tk' q => by
    exact q.go tk' (fun b h' tk' q => by
      exact q.go tk' (fun b h' tk' q => q tk'))))
end
end Mine
end

section
open PySem PySem.W PyProof.Rows
set_option maxRecDepth 100000
namespace Mine

section
variable {c : Cx} {A : Around} {h : Heap} {env : Env} {a b : Int} {t u : Tok} {Q : Value → Heap → Prop}
theorem Wp.addI (q : ∀ t, Q (.int (a + b) t) h) : Wp c A (binaryOp .Add (.int a t) (.int b u)) Q h := fun tk => PySem.P.add_int ⟨h, _, rfl, q _⟩
theorem Wp.subI (q : ∀ t, Q (.int (a - b) t) h) : Wp c A (binaryOp .Sub (.int a t) (.int b u)) Q h := fun tk => PySem.P.sub_int ⟨h, _, rfl, q _⟩
theorem Wp.mulI (hm : IntMulOk a b) (q : ∀ t, Q (.int (a * b) t) h) : Wp c A (binaryOp .Mult (.int a t) (.int b u)) Q h := fun tk => PySem.P.mul_int ⟨h, _, rfl, q _⟩ hm
theorem Wp.fdivI (hb : b ≠ 0) (hp : b.natAbs.log2 < 9000) (q : ∀ t, Q (.int (a.fdiv b) t) h) : Wp c A (binaryOp .FloorDiv (.int a t) (.int b u)) Q h :=
  fun tk => PyProof.Rows.floordiv_int hb ⟨h, _, rfl, q _⟩ (Or.inl (PyProof.noPylong_of_log2 hp))
theorem Wp.ifdivI (hb : b ≠ 0) (hp : b.natAbs.log2 < 9000) (q : ∀ t, Q (.int (a.fdiv b) t) h) : Wp c A (inplaceOp .FloorDiv (.int a t) (.int b u)) Q h :=
  fun tk => PyProof.Rows.ifloordiv_int hb ⟨h, _, rfl, q _⟩ (Or.inl (PyProof.noPylong_of_log2 hp))
theorem Wp.modI (hb : b ≠ 0) (q : ∀ t, Q (.int (a.fmod b) t) h) : Wp c A (binaryOp .Mod (.int a t) (.int b u)) Q h := fun tk => PyProof.Rows.mod_int' hb ⟨h, _, rfl, q _⟩
theorem Wp.shlI (hn : 0 ≤ b) (hz : (Builtin.Int.intBits a : Int) + b ≤ 2 ^ 27) (q : ∀ t, Q (.int (a * 2 ^ b.toNat) t) h) : Wp c A (binaryOp .LShift (.int a t) (.int b u)) Q h :=
  fun tk => PyProof.Rows.lshift_int hn hz ⟨h, _, rfl, q _⟩
theorem Wp.ishlI (hn : 0 ≤ b) (hz : (Builtin.Int.intBits a : Int) + b ≤ 2 ^ 27) (q : ∀ t, Q (.int (a * 2 ^ b.toNat) t) h) : Wp c A (inplaceOp .LShift (.int a t) (.int b u)) Q h :=
  fun tk => PyProof.Rows.ilshift_int hn hz ⟨h, _, rfl, q _⟩
theorem Wp.shrI (hn : 0 ≤ b) (q : ∀ t, Q (.int (a.fdiv (2 ^ b.toNat)) t) h) : Wp c A (binaryOp .RShift (.int a t) (.int b u)) Q h := fun tk => PyProof.Rows.rshift_int hn ⟨h, _, rfl, q _⟩
theorem Wp.ishrI (hn : 0 ≤ b) (q : ∀ t, Q (.int (a.fdiv (2 ^ b.toNat)) t) h) : Wp c A (inplaceOp .RShift (.int a t) (.int b u)) Q h := fun tk => PyProof.Rows.irshift_int hn ⟨h, _, rfl, q _⟩
theorem Wp.andI (q : ∀ t, Q (.int (Builtin.bitAnd a b) t) h) : Wp c A (binaryOp .BitAnd (.int a t) (.int b u)) Q h := fun tk => PyProof.Rows.and_int ⟨h, _, rfl, q _⟩
theorem Wp.orI (q : ∀ t, Q (.int (Builtin.bitOr a b) t) h) : Wp c A (binaryOp .BitOr (.int a t) (.int b u)) Q h := fun tk => PyProof.Rows.or_int ⟨h, _, rfl, q _⟩
theorem Wp.xorI (q : ∀ t, Q (.int (Builtin.bitXor a b) t) h) : Wp c A (binaryOp .BitXor (.int a t) (.int b u)) Q h := fun tk => PyProof.Rows.xor_int ⟨h, _, rfl, q _⟩
theorem Wp.ixorI (q : ∀ t, Q (.int (Builtin.bitXor a b) t) h) : Wp c A (inplaceOp .BitXor (.int a t) (.int b u)) Q h := fun tk => PyProof.Rows.ixor_int ⟨h, _, rfl, q _⟩
theorem Wp.iaddI (q : ∀ t, Q (.int (a + b) t) h) : Wp c A (inplaceOp .Add (.int a t) (.int b u)) Q h := fun tk => PySem.P.iadd_int ⟨h, _, rfl, q _⟩
theorem Wp.negI (q : ∀ t, Q (.int (-a) t) h) : Wp c A (unaryOp .USub (.int a t)) Q h := fun tk => PySem.P.neg_int ⟨h, _, rfl, q _⟩
theorem Wp.ltI (q : Q (.bool (decide (a < b))) h) : Wp c A (compareOp .Lt (.int a t) (.int b u)) Q h := fun tk => PySem.P.lt_int ⟨h, _, rfl, q⟩
theorem Wp.leI (q : Q (.bool (decide (a ≤ b))) h) : Wp c A (compareOp .LtE (.int a t) (.int b u)) Q h := fun tk => PySem.P.le_int ⟨h, _, rfl, q⟩
theorem Wp.gtI (q : Q (.bool (decide (a > b))) h) : Wp c A (compareOp .Gt (.int a t) (.int b u)) Q h := fun tk => PySem.P.gt_int ⟨h, _, rfl, q⟩
theorem Wp.geI (q : Q (.bool (decide (a ≥ b))) h) : Wp c A (compareOp .GtE (.int a t) (.int b u)) Q h := fun tk => PySem.P.ge_int ⟨h, _, rfl, q⟩
theorem Wp.eqI (q : Q (.bool (a == b)) h) : Wp c A (compareOp .Eq (.int a t) (.int b u)) Q h := fun tk => PySem.P.eq_int ⟨h, _, rfl, q⟩
theorem Wp.neI (q : Q (.bool (a != b)) h) : Wp c A (compareOp .NotEq (.int a t) (.int b u)) Q h := fun tk => PySem.P.ne_int ⟨h, _, rfl, q⟩
theorem Wp.isN {v : Value} (q : Q (.bool (v == .none)) h) : Wp c A (compareOp .Is v .none) Q h := fun tk => is_none ⟨h, _, rfl, q⟩
theorem Wp.ltB {x y : Bool} (q : Q (.bool (decide (b2i x < b2i y))) h) : Wp c A (compareOp .Lt (.bool x) (.bool y)) Q h := fun tk => PyProof.Rows.lt_bool ⟨h, _, rfl, q⟩
end

/-- the code tables that a call may lengthen: 51 of the def at 56, 58 of 63, 115 of 118, 120 of 123 -/
noncomputable abbrev tabs : List Addr := [51, 58, 115, 120]

/-- h' holds what h held, but for W -/
structure Ext (W : List Addr) (h h' : Heap) : Prop where
  size : h.objs.size ≤ h'.objs.size
  get : ∀ b o, b ∉ W → h.get? b = some o → h'.get? b = some o
theorem Ext.refl (W : List Addr) (h : Heap) : Ext W h h := ⟨Nat.le_refl _, fun _ _ _ e => e⟩
theorem Ext.trans {W : List Addr} {h h' h'' : Heap} (x : Ext W h h') (y : Ext W h' h'') : Ext W h h'' :=
  ⟨Nat.le_trans x.size y.size, fun b o hb e => y.get b o hb (x.get b o hb e)⟩
theorem Ext.wide {W W' : List Addr} {h h' : Heap} (x : Ext W h h') (s : ∀ b ∈ W, b ∈ W') : Ext W' h h' := ⟨x.size, fun b o hb e => x.get b o (fun q => hb (s b q)) e⟩
theorem Ext.of_nil {W : List Addr} {h h' : Heap} (x : Ext [] h h') : Ext W h h' := x.wide fun _ q => nomatch q
theorem Ext.all {h h' : Heap} (x : Ext [] h h') : ∀ b o, h.get? b = some o → h'.get? b = some o := fun b o e => x.get b o (fun q => nomatch q) e
theorem Ext.push (h : Heap) (o : Obj) : Ext [] h (h.push o) := ⟨by rw [Heap.size_push]; exact ar35, fun b o' _ e => Heap.get?_push_of_some _ e⟩
theorem Ext.same {a : Addr} {h h' : Heap} (x : Heap.SameBut a h h') : Ext [a] h h' := ⟨by rw [x.1]; exact Nat.le_refl _, fun b o hb e => (x.2 b (fun q => hb (by rw [q]; exact List.mem_singleton_self a))).trans e⟩
/-- a code and its table, whose codes all bear the one name -/
noncomputable def TabQ (h : Heap) (k P : Addr) (q : Str) : Prop :=
  CodeHd h k P ∧ ∃ ps, h.get? P = some (tabObj ps) ∧ TriplesOk ps.toList ∧ ∀ pos cv, codeAmong pos ps.toList = some cv → h.CodeRec cv q
/-- what the top left, by name and address -/
structure TopAt (B : Heap) (mg mb : Str → Option Value) : Prop where
  g : B.Ns mainGlobals mg
  bu : B.Ns builtinsNs mb
  boot : ∀ x : Str, x ≠ "__name__" → mb x = bootBuiltins x
  lim : B.NoLimit
  bmain : ∃ bm ob, mg "__builtins__" = some (.ref bm) ∧ bm ≠ builtinsNs ∧ bm ≠ mainGlobals ∧ bm ∉ tabs ∧ B.get? bm = some ob ∧ ob.cls = .type "module" ∧ ob.dict = some builtinsNs ∧ ob.data = .plain
/-- the heap at hand, over the base -/
structure GG (B h : Heap) : Prop where
  ext : Ext tabs B h
  t1 : TabQ h 55 51 "_int2digits.<locals>.inner"
  t2 : TabQ h 62 58 "_digits2int.<locals>.inner"
  t3 : TabQ h 117 115 "_law_cut.<locals>.<lambda>"
  t4 : TabQ h 122 120 "law.<locals>.<lambda>"

theorem TabQ.keeps {h h' : Heap} {k P : Addr} {q : Str} (x : TabQ h k P q) (e : ∀ b o, h.get? b = some o → h'.get? b = some o) : TabQ h' k P q :=
  let ⟨x1, ps, x2, x3, x4⟩ := x; ⟨x1.keeps e, ps, e _ _ x2, x3, fun pos cv y => (x4 pos cv y).keeps e⟩
theorem GG.grow {B h h' : Heap} (x : GG B h) (e : Ext [] h h') : GG B h' :=
  ⟨x.ext.trans e.of_nil, x.t1.keeps e.all, x.t2.keeps e.all, x.t3.keeps e.all, x.t4.keeps e.all⟩
theorem codeHd_but {h h' : Heap} {k P a : Addr} {oa : Obj} (x : CodeHd h k P) (e : ∀ b o, b ≠ a → h.get? b = some o → h'.get? b = some o) (ha : h.get? a = some oa) (hn : ∀ vs, oa.data ≠ .fields vs) : CodeHd h' k P := by
  obtain ⟨o, vs, file, tf, flags, tg, inF, text, tt, g, r1, r2, r⟩ := x
  exact ⟨o, vs, file, tf, flags, tg, inF, text, tt, e _ _ (by rintro rfl; rw [ha] at g; cases g; exact hn _ r2) g, r1, r2, r⟩
/-- an object that is no record is turned -/
theorem TabQ.but {h h' : Heap} {k P a : Addr} {oa : Obj} {q : Str} (x : TabQ h k P q) (e : ∀ b o, b ≠ a → h.get? b = some o → h'.get? b = some o) (ha : h.get? a = some oa) (hn : ∀ vs, oa.data ≠ .fields vs) : TabQ h' k P q :=
  let ⟨x1, ps, x2, x3, x4⟩ := x
  ⟨codeHd_but x1 e ha hn, ps, e _ _ (by rintro rfl; rw [ha] at x2; cases x2; exact hn _ rfl) x2, x3, fun pos cv y => (x4 pos cv y).keepsBut e ha hn⟩
theorem GG.turn {B h h' : Heap} {a : Addr} {oa : Obj} (x : GG B h) (e : Ext [a] h h') (ha : h.get? a = some oa) (hn : ∀ vs, oa.data ≠ .fields vs) (hB : B.get? a = none) : GG B h' := by
  have e' : ∀ b o, b ≠ a → h.get? b = some o → h'.get? b = some o := fun b o hb q => e.get b o (by simpa using hb) q
  refine ⟨⟨Nat.le_trans x.ext.size e.size, fun b o hb q => e' b o (by rintro rfl; rw [hB] at q; cases q) (x.ext.get b o hb q)⟩, x.t1.but e' ha hn, x.t2.but e' ha hn, x.t3.but e' ha hn, x.t4.but e' ha hn⟩
theorem GG.new {B h : Heap} (x : GG B h) {a : Addr} (ha : h.objs.size ≤ a) : B.get? a = none := by
  cases q : B.get? a with
  | none => rfl
  | some o => exact absurd (Heap.lt_size q) (Nat.not_lt.mpr (Nat.le_trans x.ext.size ha))
theorem GG.ns {B h : Heap} (x : GG B h) {a : Addr} {m : Str → Option Value} (n : B.Ns a m) (ha : a ∉ tabs) : h.Ns a m :=
  let ⟨o, es, ep, q, r⟩ := n; ⟨o, es, ep, x.ext.get _ _ ha q, r⟩
theorem GG.lim {B h : Heap} {mg mb : Str → Option Value} (x : GG B h) (T : TopAt B mg mb) : h.NoLimit :=
  let ⟨mc, n, e⟩ := T.lim; ⟨mc, x.ns n (by decide), e⟩

/-- a name is put -/
noncomputable def upd (x : Str) (v : Value) (m : Str → Option Value) : Str → Option Value := fun y => if y = x then some v else m y
theorem upd_ne {x y : Str} {v : Value} {m : Str → Option Value} (h : y ≠ x) : upd x v m y = m y := if_neg h
/-- a frame: its names m at L; behind it the elder heap h₀ stands as it stood, but for W and L -/
structure Fm (B h₀ : Heap) (W : List Addr) (L : Addr) (m : Str → Option Value) (h : Heap) : Prop where
  gg : GG B h
  ns : h.Ns L m
  size : h₀.objs.size ≤ h.objs.size
  get : ∀ b o, b ∉ W → b ≠ L → h₀.get? b = some o → h.get? b = some o
  new : B.get? L = none
theorem Fm.grow {B h₀ h h' : Heap} {W : List Addr} {L : Addr} {m : Str → Option Value} (S : Fm B h₀ W L m h) (e : Ext [] h h') : Fm B h₀ W L m h' :=
  ⟨S.gg.grow e, S.ns.keeps e.all, Nat.le_trans S.size e.size, fun b o hb hl q => e.all _ _ (S.get b o hb hl q), S.new⟩
/-- the frame is done: what the elder heap sees -/
theorem Fm.out {B h₀ h : Heap} {W : List Addr} {L : Addr} {m : Str → Option Value} (S : Fm B h₀ W L m h) (hL : h₀.get? L = none) : Ext W h₀ h :=
  ⟨S.size, fun b o hb q => S.get b o hb (fun z => by rw [z, hL] at q; cases q) q⟩
/-- the frame looked at anew from the heap at hand -/
theorem Fm.here {B h₀ h : Heap} {W : List Addr} {L : Addr} {m : Str → Option Value} (S : Fm B h₀ W L m h) (W' : List Addr) : Fm B h W' L m h :=
  ⟨S.gg, S.ns, Nat.le_refl _, fun _ _ _ _ q => q, S.new⟩

section
variable {c : Cx} {A : Around} {B h₀ h : Heap} {W : List Addr} {L : Addr} {m mg mb : Str → Option Value} {env : Env} {x : Str} {pos : Pos} {v : Value} {Q : Value → Heap → Prop}
theorem Wp.nameL (S : Fm B h₀ W L m h) (hL : env.locals = L) (hk : env.scope.kind = .function) (hx : env.kindOf x = some .local) (hv : m x = some v) (q : Q v h)
    (hd : (x == ("__debug__" : Str)) = false := by decide) : Wp c A (eval (.Name x pos) env) Q h :=
  fun tk => wpAny_Name (wpAny_loadName_local hk hx (hL ▸ S.ns) hv ⟨h, tk, rfl, q⟩) hd
theorem Wp.nameG (S : Fm B h₀ W L m h) (T : TopAt B mg mb) (hg : env.globals = mainGlobals) (hk : env.scope.kind = .function) (hx : env.kindOf x = some .globalImplicit) (hv : mg x = some v) (q : Q v h)
    (hd : (x == ("__debug__" : Str)) = false := by decide) : Wp c A (eval (.Name x pos) env) Q h :=
  fun tk => Calls.Name_function_global hk hx (Calls.loadGlobal_global (hg ▸ S.gg.ns T.g (by decide)) hv ⟨h, tk, rfl, q⟩) hd
theorem Wp.nameB (S : Fm B h₀ W L m h) (T : TopAt B mg mb) (hg : env.globals = mainGlobals) (hb : env.builtins = builtinsNs) (hk : env.scope.kind = .function) (hx : env.kindOf x = some .globalImplicit) (hv : mg x = none)
    (hn : x ≠ "__name__") (he : bootBuiltins x = some v) (q : Q v h) (hd : (x == ("__debug__" : Str)) = false := by decide) : Wp c A (eval (.Name x pos) env) Q h :=
  fun tk => Calls.Name_function_global hk hx (Calls.loadGlobal_builtin (hg ▸ S.gg.ns T.g (by decide)) hv (hb ▸ S.gg.ns T.bu (by decide)) ((T.boot x hn).trans he) ⟨h, tk, rfl, q⟩) hd
theorem Wp.storeL {Q : Unit → Heap → Prop} (S : Fm B h₀ W L m h) (hL : env.locals = L) (hk : env.scope.kind = .function) (hx : env.kindOf x = some .local)
    (q : ∀ h', Fm B h₀ W L (upd x v m) h' → Ext [L] h h' → Q () h') : Wp c A (storeName env x v) Q h := fun tk => by
  subst hL
  refine wpAny_storeName_local hx S.ns (fun h' hn hs => ⟨h', _, rfl, ?_⟩) (by rw [hk]; rfl)
  obtain ⟨oL, es, ep, hoL, hdL, _⟩ := S.ns
  have e := Ext.same hs
  refine q h' ⟨S.gg.turn e hoL (fun vs => by rw [hdL]; nofun) S.new, hn, Nat.le_trans S.size e.size, fun b o hb hl z => e.get b o (by simpa using hl) (S.get b o hb hl z), S.new⟩ e
theorem Wp.loadL (S : Fm B h₀ W L m h) (hL : env.locals = L) (hk : env.scope.kind = .function) (hx : env.kindOf x = some .local) (hv : m x = some v) (q : Q v h) : Wp c A (loadName env x) Q h :=
  fun tk => wpAny_loadName_local hk hx (hL ▸ S.ns) hv ⟨h, tk, rfl, q⟩
end
end Mine
end

section
open PySem PySem.W PyProof.Rows
set_option maxRecDepth 100000
namespace Mine

noncomputable abbrev KicB (v : Value) (Q : List Value → Heap → Prop) : List Value → Heap → Prop := fun vs h₂ => Q (v :: vs) h₂
noncomputable abbrev Kic (c : Cx) (A : Around) (env : Env) (pos : Pos) (rest : List Expr) (Q : List Value → Heap → Prop) : Value → Heap → Prop := fun v h₁ => Wp c A (spliced (backTo pos (starEach rest env))) (KicB v Q) h₁
noncomputable abbrev KcallF (c : Cx) (A : Around) (a : Addr) (o : Obj) (fd : FuncData) (Q : Value → Heap → Prop) : List Value → Heap → Prop := fun vs h₂ => (h₂.get? a = some o ∧ o.data = .func fd) ∧ Wp c A (call (.ref a) vs []) Q h₂
noncomputable abbrev KcallV (c : Cx) (A : Around) (v : Value) (Q : Value → Heap → Prop) : List Value → Heap → Prop := fun vs h₂ => Wp c A (call v vs []) Q h₂
section
variable {c : Cx} {A : Around} {h : Heap} {env : Env} {Q : Value → Heap → Prop}
/-- evaluates to v, the heap as it is -/
noncomputable def Nm (c : Cx) (A : Around) (env : Env) (e : Expr) (v : Value) (h : Heap) : Prop := ∀ Q : Value → Heap → Prop, Q v h → Wp c A (eval e env) Q h

theorem Wp.inil {pos : Pos} {Q : List Value → Heap → Prop} (q : Q [] h) : Wp c A (spliced (backTo pos (starEach [] env))) Q h := fun tk => wpAny_items_nil ⟨h, tk, rfl, q⟩
theorem Wp.icons {pos : Pos} {e : Expr} {rest : List Expr} {Q : List Value → Heap → Prop}
    (k : Wp c A (eval e env) (Kic c A env pos rest Q) h)
    (he : starEach (e :: rest) env = (false, eval e env) :: starEach rest env := by rfl) : Wp c A (spliced (backTo pos (starEach (e :: rest) env))) Q h :=
  fun tk => wpAny_items_cons (k.go tk (fun v h' tk' q => q tk')) he

theorem Wp.callF {id : Str} {p pos : Pos} {e : Expr} {rest : List Expr} {a : Addr} {o : Obj} {fd : FuncData} (n : Nm c A env (.Name id p) (.ref a) h)
    (k : Wp c A (spliced (backTo pos (starEach (e :: rest) env))) (KcallF c A a o fd Q) h)
    (he : starEach (e :: rest) env = (false, eval e env) :: starEach rest env := by rfl) : Wp c A (eval (.Call (.Name id p) (e :: rest) [] pos) env) Q h := fun tk => by
  refine wpAny_Call_NameR ((n (fun f h₁ => f = .ref a ∧ h₁ = h) ⟨rfl, rfl⟩).go tk (fun f h' tk' ⟨e2, e3⟩ => ?_))
  subst e2 e3
  have k' := k tk'
  rw [he] at k' ⊢
  refine Calls.callWith_function (o := o) (fd := fd) (Calls.evalArgs_plain (wpAny_mono k' (fun vs s' ⟨h', tk', e, q⟩ => ?_) fun _ _ e => e))
  subst e
  exact ⟨q.1, q.2 tk'⟩
theorem Wp.callB {id : Str} {p pos : Pos} {e : Expr} {rest : List Expr} {bi : String} (n : Nm c A env (.Name id p) (.builtin bi) h)
    (k : Wp c A (spliced (backTo pos (starEach (e :: rest) env))) (KcallV c A (.builtin bi) Q) h)
    (he : starEach (e :: rest) env = (false, eval e env) :: starEach rest env := by rfl)
    (hp : (backTo pos (starEach rest env)).any (·.1) = false := by rfl) : Wp c A (eval (.Call (.Name id p) (e :: rest) [] pos) env) Q h := fun tk => by
  refine wpAny_Call_NameR ((n (fun f h₁ => f = .builtin bi ∧ h₁ = h) ⟨rfl, rfl⟩).go tk (fun f h' tk' ⟨e2, e3⟩ => ?_))
  subst e2 e3
  have k' := k tk'
  rw [he] at k' ⊢
  refine Calls.callWith_builtin (by show (false || (backTo pos (starEach rest env)).any (·.1)) = false; rw [hp]; rfl) (Calls.evalArgs_plain (wpAny_mono k' (fun vs s' ⟨h', tk', e, q⟩ => ?_) fun _ _ e => e))
  subst e
  exact q tk'
theorem Wp.callT {id : Str} {p pos : Pos} {e : Expr} {rest : List Expr} {ty : String} (n : Nm c A env (.Name id p) (.type ty) h)
    (k : Wp c A (spliced (backTo pos (starEach (e :: rest) env))) (KcallV c A (.type ty) Q) h)
    (he : starEach (e :: rest) env = (false, eval e env) :: starEach rest env := by rfl)
    (hp : (backTo pos (starEach rest env)).any (·.1) = false := by rfl) : Wp c A (eval (.Call (.Name id p) (e :: rest) [] pos) env) Q h := fun tk => by
  refine wpAny_Call_NameR ((n (fun f h₁ => f = .type ty ∧ h₁ = h) ⟨rfl, rfl⟩).go tk (fun f h' tk' ⟨e2, e3⟩ => ?_))
  subst e2 e3
  have k' := k tk'
  rw [he] at k' ⊢
  refine PySem.callWith_type (by show (false || (backTo pos (starEach rest env)).any (·.1)) = false; rw [hp]; rfl) (Calls.evalArgs_plain (wpAny_mono k' (fun vs s' ⟨h', tk', e, q⟩ => ?_) fun _ _ e => e))
  subst e
  exact q tk'
/-- a def of the text, one keyword behind the places -/
theorem Wp.callFk {id kn : Str} {p pos kp : Pos} {e ke : Expr} {rest : List Expr} {a : Addr} {o : Obj} {fd : FuncData} (n : Nm c A env (.Name id p) (.ref a) h)
    (k : Wp c A (spliced (backTo pos (starEach (e :: rest) env))) (fun vs h₁ => Wp c A (eval ke env) (fun kv h₂ => (h₂.get? a = some o ∧ o.data = .func fd) ∧ Wp c A (call (.ref a) vs [(kn, kv)]) Q h₂) h₁) h)
    (he : starEach (e :: rest) env = (false, eval e env) :: starEach rest env := by rfl) : Wp c A (eval (.Call (.Name id p) (e :: rest) [⟨some kn, ke, kp⟩] pos) env) Q h := fun tk => by
  refine wpAny_Call_Name_kw ((n (fun f h₁ => f = .ref a ∧ h₁ = h) ⟨rfl, rfl⟩).go tk (fun f h' tk' ⟨e2, e3⟩ => ?_))
  subst e2 e3
  have k' := k tk'
  rw [he] at k' ⊢
  refine callWith_function_kw (o := o) (fd := fd) (evalArgs_kw rfl (wpAny_mono k' (fun vs s' ⟨h', tk', e, q⟩ => ?_) fun _ _ e => e))
  subst e
  show wpAny _ _ (evalAll [do let v ← eval ke env; standAt pos; Pure.pure v]) _ _ _
  refine wpAny_evalAll_cons (wpAny_bind (q.go tk' (fun kv h' tk' q => ?_)))
  exact wpAny_bind (wpAny_standAt (wpAny_pure (wpAny_evalAll_nil ⟨q.1, q.2 tk'⟩)))
end

section
variable {c : Cx} {A : Around} {h : Heap} {env : Env}
theorem Wp.whileS {test : Expr} {body : List Stmt} {pos : Pos} {Q : Flow → Heap → Prop} (I : Nat → Heap → Prop)
    (turn : ∀ n h, I n h → Wp c A (isTrue test env (eval test env)) (fun b h₂ => if b then Wp c A (execs body env) (fun f h₃ => match f with
      | .next => ∃ m, m < n ∧ I m h₃ | .cont => ∃ m, m < n ∧ I m h₃ | .brk => Q .next h₃ | .ret v => Q (.ret v) h₃) h₂ else Q .next h₂) h)
    (n : Nat) (hI : I n h) : Wp c A (exec (.While test body [] pos) env) Q h := fun tk => by
  refine wpAny_While (codeAny_whileLoop (fun n s => ∃ h' tk', s = c.at h' tk' ∧ I n h') (fun n s ⟨h', tk', e, hI⟩ => ?_) n ⟨h, tk, rfl, hI⟩)
  subst e
  refine (turn n h' hI).go tk' (fun b h₂ tk₂ q => ?_)
  cases b with
  | false => exact wpAny_execs_nil ⟨h₂, tk₂, rfl, q⟩
  | true =>
    refine q.go tk₂ (fun f h₃ tk₃ q => ?_)
    cases f with
    | next => obtain ⟨m, hm, q⟩ := q; exact ⟨m, hm, h₃, tk₃, rfl, q⟩
    | cont => obtain ⟨m, hm, q⟩ := q; exact ⟨m, hm, h₃, tk₃, rfl, q⟩
    | brk => exact ⟨h₃, tk₃, rfl, q⟩
    | ret v => exact ⟨h₃, tk₃, rfl, q⟩
theorem Wp.forS {target iter : Expr} {body : List Stmt} {pos : Pos} {Q : Flow → Heap → Prop}
    (k : Wp c A (eval iter env) (fun x h₁ => Wp c A (pyIter x) (fun it h₂ => Cp c A (.forLoop target it body [] env) Q h₂) h₁) h)
    (hs : ∀ x, foldedSetIterable iter env x = Pure.pure x := by intro _; rfl) : Wp c A (exec (.For target iter body [] pos) env) Q h := fun tk => by
  refine wpAny_For (k.go tk (fun x h₁ tk₁ q => ?_)) hs
  refine q.go tk₁ (fun x h₁ tk₁ q => ?_)
  refine codeAny_mono (q tk₁) fun r s ⟨f, h', tk', e1, e2, q⟩ => ?_
  subst e1 e2
  exact ⟨h', tk', rfl, q⟩
/-- an iterator's turns, told of heaps -/
structure It (c : Cx) (A : Around) (I : Addr) (n : Nat) (P : Nat → Value → Prop) (St : Nat → Heap → Prop) (wr : List Addr) : Prop where
  item : ∀ i h (Q : Option Value → Heap → Prop), i < n → St i h → (∀ v h', P i v → St (i + 1) h' → Ext wr h h' → Q (some v) h') → Wp c A (pyNext (.ref I)) Q h
  done : ∀ h (Q : Option Value → Heap → Prop), St n h → (∀ h', Ext wr h h' → Q none h') → Wp c A (pyNext (.ref I)) Q h
theorem Cp.forIt {target : Expr} {body : List Stmt} {Q : Flow → Heap → Prop} {I : Addr} {n : Nat} {P : Nat → Value → Prop} {St : Nat → Heap → Prop} {wr : List Addr}
    (W : It c A I n P St wr) (J : Nat → Heap → Prop) (h0 : J 0 h) (hst : ∀ i h, J i h → St i h)
    (turn : ∀ i h v h', i < n → J i h → P i v → St (i + 1) h' → Ext wr h h' → Wp c A (PySem.assign target env v) (fun _ h₂ => Wp c A (execs body env) (fun f h₃ => match f with
      | .next => J (i + 1) h₃ | .cont => J (i + 1) h₃ | .brk => Q .next h₃ | .ret v => Q (.ret v) h₃) h₂) h')
    (fin : ∀ h h', J n h → Ext wr h h' → Q .next h') (ht : ∀ v, letOwnedTupleGo target (.ref I) v = Pure.pure () := by intro _; rfl) : Cp c A (.forLoop target (.ref I) body [] env) Q h := fun tk => by
  refine codeAny_forLoop_any (fun k s => ∃ i h' tk', s = c.at h' tk' ∧ J i h' ∧ i ≤ n ∧ k = n + 1 - i) (fun k s ⟨i, h', tk', e, hJ, hi, hk⟩ => ?_) (n + 1) ⟨0, h, tk, rfl, h0, Nat.zero_le _, rfl⟩
  subst e
  by_cases hlt : i < n
  · refine (W.item i h' (fun r h₁ => ∃ v, r = some v ∧ P i v ∧ St (i + 1) h₁ ∧ Ext wr h' h₁) hlt (hst i h' hJ) (fun v h₁ p s e => ⟨v, rfl, p, s, e⟩)).go tk' (fun r h₁ tk₁ ⟨v, er, p, st, ex⟩ => ?_)
    subst er
    refine wpAny_of_eq (ht v) ?_
    refine (turn i h' v h₁ hlt hJ p st ex).go tk₁ (fun _ h₂ tk₂ q => ?_)
    refine q.go tk₂ (fun f h₃ tk₃ q => ?_)
    cases f with
    | next => exact ⟨n + 1 - (i + 1), by omega, i + 1, h₃, tk₃, rfl, q, hlt, rfl⟩
    | cont => exact ⟨n + 1 - (i + 1), by omega, i + 1, h₃, tk₃, rfl, q, hlt, rfl⟩
    | brk => exact ⟨_, h₃, tk₃, rfl, rfl, q⟩
    | ret v => exact ⟨_, h₃, tk₃, rfl, rfl, q⟩
  · obtain rfl : i = n := by omega
    refine (W.done h' (fun r h₁ => r = none ∧ Ext wr h' h₁) (hst i h' hJ) (fun h₁ e => ⟨rfl, e⟩)).go tk' (fun r h₁ tk₁ ⟨er, ex⟩ => ?_)
    subst er
    exact wpAny_execs_nil ⟨_, h₁, tk₁, rfl, rfl, fin h' h₁ hJ ex⟩
theorem Wp.asg {x : Str} {pos : Pos} {v : Value} {Q : Unit → Heap → Prop} (k : Wp c A (storeName env x v) Q h) : Wp c A (PySem.assign (.Name x pos) env v) Q h := fun tk => wpAny_assign_Name (k tk)
end
end Mine
end

section
open PySem PySem.W PyProof.Rows
set_option maxRecDepth 100000
namespace Mine

noncomputable def stm (i : Nat) : Stmt := (PySem.Challenge.pw_rs0153_01.main.body[i]?).getD (.Pass ⟨0, 0, 0, 0⟩)
noncomputable def fArgs : Stmt → Arguments
  | .FunctionDef _ a _ _ _ _ _ _ _ _ => a
  | _ => default
noncomputable def fBody : Stmt → List Stmt
  | .FunctionDef _ _ b _ _ _ _ _ _ _ => b
  | _ => []
noncomputable def fScope : Stmt → Scope
  | .FunctionDef _ _ _ _ _ _ s _ _ _ => s
  | _ => default

/-- the def of statement i stands at a -/
noncomputable def FnI (B : Heap) (a i : Nat) (nm : Str) (dV kV : Value) (cd : Addr) : Prop :=
  ∃ o doc pm, B.get? a = some o ∧ o.data = .func (fnOf nm nm (fArgs (stm i)) (fBody (stm i)) (fScope (stm i)) dV kV doc pm none (.ref cd) .none) ∧ B.CodeRec (.ref cd) nm
structure Fns (B : Heap) (mg : Str → Option Value) : Prop where
  n3 : mg "ISTERMINAL" = some (.ref 21)
  f3 : FnI B 21 3 "ISTERMINAL" .none .none 20
  n4 : mg "ISNONTERMINAL" = some (.ref 28)
  f4 : FnI B 28 4 "ISNONTERMINAL" .none .none 27
  n5 : mg "ISEOF" = some (.ref 35)
  f5 : FnI B 35 5 "ISEOF" .none .none 34
  n8 : mg "_div2n1n" = some (.ref 42)
  f8 : FnI B 42 8 "_div2n1n" .none .none 41
  n9 : mg "_div3n2n" = some (.ref 49)
  f9 : FnI B 49 9 "_div3n2n" .none .none 48
  n10 : mg "_int2digits" = some (.ref 56)
  f10 : FnI B 56 10 "_int2digits" .none .none 55
  n11 : mg "_digits2int" = some (.ref 63)
  f11 : FnI B 63 11 "_digits2int" .none .none 62
  n12 : mg "_divmod_pos" = some (.ref 70)
  f12 : FnI B 70 12 "_divmod_pos" .none .none 69
  n13 : mg "int_divmod" = some (.ref 77)
  f13 : FnI B 77 13 "int_divmod" .none .none 76
  n15 : mg "insort_right" = some (.ref 86)
  f15 : FnI B 86 15 "insort_right" (.ref 78) (.ref 79) 85
  n16 : mg "bisect_right" = some (.ref 95)
  f16 : FnI B 95 16 "bisect_right" (.ref 87) (.ref 88) 94
  n17 : mg "insort_left" = some (.ref 104)
  f17 : FnI B 104 17 "insort_left" (.ref 96) (.ref 97) 103
  n18 : mg "bisect_left" = some (.ref 113)
  f18 : FnI B 113 18 "bisect_left" (.ref 105) (.ref 106) 112
  n20 : mg "_law_cut" = some (.ref 118)
  f20 : FnI B 118 20 "_law_cut" .none .none 117
  f21 : FnI B 123 21 "law" .none .none 122
  d78 : ∃ t n o, B.get? 78 = some o ∧ o.data = .seq #[.int 0 t, .none] n
  d87 : ∃ t n o, B.get? 87 = some o ∧ o.data = .seq #[.int 0 t, .none] n
  d96 : ∃ t n o, B.get? 96 = some o ∧ o.data = .seq #[.int 0 t, .none] n
  d105 : ∃ t n o, B.get? 105 = some o ∧ o.data = .seq #[.int 0 t, .none] n
  cNT : ∃ t, mg "NT_OFFSET" = some (.int 256 t)
  cEM : ∃ t, mg "ENDMARKER" = some (.int 0 t)
  cDL : ∃ t, mg "_DIV_LIMIT" = some (.int 4000 t)
  bLen : mg "len" = none
  bRange : mg "range" = none
  bZip : mg "zip" = none
  bSorted : mg "sorted" = none
  bSum : mg "sum" = none
  bDivmod : mg "divmod" = none
  bReversed : mg "reversed" = none

structure Room (A : Around) (n : Nat) : Prop where
  d : A.depth + n < 600
  u : A.units + 8 * n < 6000
  hh : A.handled = none
theorem Room.deeper {A : Around} {n : Nat} (r : Room A (n + 1)) (env : Env) : Room (A.deeper env) n :=
  ⟨by have := r.d; show A.depth + 1 + n < 600; exact ar36 this, by have := r.u; show A.units + 3 + 8 * n < 6000; exact ar37 this, r.hh⟩
theorem Room.le {A : Around} {n k : Nat} (r : Room A n) (h : k ≤ n) : Room A k := ⟨by have := r.d; exact ar38 this h, by have := r.u; exact ar39 this h, r.hh⟩
theorem Room.lim {A : Around} {n : Nat} (r : Room A n) : A.depth < recursionLimit := by have := r.d; show A.depth < 1000; exact ar40 this

section
variable {c : Cx} {A : Around} {B h : Heap} {mg mb : Str → Option Value}
/-- a def of the top is entered -/
theorem Wp.enter {a i : Nat} {nm : Str} {dV kV : Value} {cd : Addr} {pos : List Value} {kw : List (Str × Value)} {binds : List (Str × Value)} {Q : Value → Heap → Prop} {n : Nat}
    (T : TopAt B mg mb) (G : GG B h) (f : FnI B a i nm dV kV cd) (r : Room A (n + 1)) (ha : a ∉ tabs) (hcd : cd ∉ tabs)
    (hb : ∀ doc pm tk, BindsTo (c.at h tk) (fnOf nm nm (fArgs (stm i)) (fBody (stm i)) (fScope (stm i)) dV kV doc pm none (.ref cd) .none) ⟨pos, kw⟩ binds)
    (hcell : (fScope (stm i)).names.all (fun x => x.2 != .cell) = true) (hloc : (binds.all fun x => decide ((fScope (stm i)).names.lookup x.1 = some .local)) = true)
    (hk : (fScope (stm i)).kind = .function) (hco : (fScope (stm i)).isCoroutine = false) (hgen : (fScope (stm i)).isGenerator = false)
    (k : ∀ L h₁, h.get? L = none → (∀ W, Fm B h W L (fun x => binds.reverse.lookup x) h₁) → Room (A.deeper (envX nm (fScope (stm i)) L a (.ref cd) [])) n →
      Wp c (A.deeper (envX nm (fScope (stm i)) L a (.ref cd) [])) (execs (fBody (stm i)) (envX nm (fScope (stm i)) L a (.ref cd) [])) (fun f h' => Q (match f with | .ret v => v | _ => .none) h') h₁) :
    Wp c A (call (.ref a) pos kw) Q h := fun tk => by
  obtain ⟨o, doc, pm, ho, hd, hrec⟩ := f
  refine wpAny_call (codeAny_call_def (fd := fnOf nm nm (fArgs (stm i)) (fBody (stm i)) (fScope (stm i)) dV kV doc pm none (.ref cd) .none) (body := fBody (stm i)) (binds := binds)
    r.lim (G.ext.get _ _ ha ho) hd (G.lim T) ?_ rfl (hb doc pm tk) ?_ (locs hloc) (fun h₁ hn hk₁ => ?_) hco hgen hk)
  · obtain ⟨c', o', vs, t, e1, e2, e3⟩ := hrec
    exact ⟨c', o', vs, t, e1, G.ext.get _ _ (by cases e1; exact hcd) e2, e3⟩
  · intro x hx e
    have := List.all_eq_true.mp hcell x hx
    rw [e] at this
    cases this
  · have hL : h.get? h.objs.size = none := by
      cases q : h.get? h.objs.size with
      | none => rfl
      | some o => exact absurd (Heap.lt_size q) (Nat.lt_irrefl _)
    have hsz : h.objs.size ≤ h₁.objs.size := Nat.le_of_lt hn.lt
    have E : Ext [] h h₁ := ⟨hsz, fun b o _ e => hk₁ b o e⟩
    refine wpAny_mono (k h.objs.size h₁ hL (fun W => ⟨G.grow E, hn, hsz, fun b o _ _ e => hk₁ b o e, G.new (Nat.le_refl _)⟩) (r.deeper _) _) (fun f s ⟨h', tk', e, q⟩ => ?_) fun _ _ e => e.elim
    subst e
    exact ⟨h', tk', rfl, q⟩
theorem FnI.there {a i : Nat} {nm : Str} {dV kV : Value} {cd : Addr} (f : FnI B a i nm dV kV cd) (G : GG B h) (ha : a ∉ tabs) : ∃ o fd, h.get? a = some o ∧ o.data = .func fd :=
  let ⟨o, _, _, ho, hd, _⟩ := f; ⟨o, _, G.ext.get _ _ ha ho, hd⟩
end
end Mine
end

section
open PySem PySem.W PyProof.Rows
set_option maxRecDepth 100000
namespace Mine

/-- values that are these ints, whatever their tokens -/
noncomputable abbrev Ints (vs : List Value) (ns : List Int) : Prop := IntsAre vs ns
theorem Ints.at : ∀ {vs : List Value} {ns : List Int} (x : Ints vs ns) {i : Nat} {n : Int}, ns[i]? = some n → ∃ t, vs[i]? = some (.int n t)
  | _, _, .nil, i, n, e => by simp at e
  | _, _, .cons k t r, 0, n, e => by simp at e; subst e; exact ⟨t, rfl⟩
  | _, _, .cons k t r, i + 1, n, e => by simpa using Ints.at r (by simpa using e)
theorem Ints.len : ∀ {vs : List Value} {ns : List Int}, Ints vs ns → vs.length = ns.length
  | _, _, .nil => rfl
  | _, _, .cons _ _ r => by simp [Ints.len r]
theorem Ints.app : ∀ {vs vs' : List Value} {ns ns' : List Int}, Ints vs ns → Ints vs' ns' → Ints (vs ++ vs') (ns ++ ns')
  | _, _, _, _, .nil, y => y
  | _, _, _, _, .cons _ _ r, y => .cons _ _ (Ints.app r y)
theorem Ints.take : ∀ {vs : List Value} {ns : List Int} (k : Nat), Ints vs ns → Ints (vs.take k) (ns.take k)
  | _, _, 0, _ => by simpa using IntsAre.nil
  | _, _, k + 1, .nil => by simpa using IntsAre.nil
  | _, _, k + 1, .cons n t r => by simpa using IntsAre.cons n t (Ints.take k r)
theorem Ints.drop : ∀ {vs : List Value} {ns : List Int} (k : Nat), Ints vs ns → Ints (vs.drop k) (ns.drop k)
  | _, _, 0, x => by simpa using x
  | _, _, k + 1, .nil => by simpa using IntsAre.nil
  | _, _, k + 1, .cons n t r => by simpa using Ints.drop k r
/-- a list of ints lies at l -/
noncomputable abbrev lstObj (vs : List Value) (n : Nat) : Obj := { cls := .type "list", data := .seq vs.toArray n }
noncomputable def IL (h : Heap) (l : Addr) (ns : List Int) : Prop := ∃ (vs : List Value) (n : Nat), h.get? l = some (lstObj vs n) ∧ Ints vs ns
theorem IL.isList {h : Heap} {l : Addr} {ns : List Int} (x : IL h l ns) : ∃ vs : List Value, h.IsList l vs.toArray ∧ Ints vs ns := let ⟨vs, n, y, z⟩ := x; ⟨vs, ⟨_, y, rfl, n, rfl⟩, z⟩
theorem IL.get {h h' : Heap} {l : Addr} {ns : List Int} (x : IL h l ns) (e : ∀ o, h.get? l = some o → h'.get? l = some o) : IL h' l ns :=
  let ⟨vs, n, y, z⟩ := x; ⟨vs, n, e _ y, z⟩
theorem IL.ext {W : List Addr} {h h' : Heap} {l : Addr} {ns : List Int} (x : IL h l ns) (e : Ext W h h') (hl : l ∉ W) : IL h' l ns := x.get fun o q => e.get _ _ hl q
theorem IL.fm {B h₀ h : Heap} {W : List Addr} {L l : Addr} {m : Str → Option Value} {ns : List Int} (x : IL h₀ l ns) (S : Fm B h₀ W L m h) (hW : l ∉ W) (hL : l ≠ L) : IL h l ns := x.get fun o q => S.get _ _ hW hL q
theorem IL.some {h : Heap} {l : Addr} {ns : List Int} (x : IL h l ns) : ∃ o, h.get? l = some o ∧ ∀ vs, o.data ≠ .fields vs := by
  obtain ⟨vs, n, ho, _⟩ := x
  exact ⟨_, ho, fun vs => by nofun⟩
theorem IL.notTab {B h : Heap} {l : Addr} {ns : List Int} (x : IL h l ns) (G : GG B h) : l ∉ tabs := by
  obtain ⟨o, ho, hn⟩ := x.some
  have key : ∀ {k P : Addr} {q : Str}, TabQ h k P q → l ≠ P := fun t e => by
    obtain ⟨_, ps, hp, _⟩ := t
    rw [← e, ho] at hp; cases hp
    exact hn _ rfl
  simp only [tabs, List.mem_cons, List.not_mem_nil, or_false, not_or]
  exact ⟨key G.t1, key G.t2, key G.t3, key G.t4⟩

section
variable {c : Cx} {A : Around} {h : Heap} {env : Env} {Q : Value → Heap → Prop}
theorem Wp.sub {value slice : Expr} {pos : Pos} {T id : String} (hl : typeLookup (.type T) "__getitem__" = Pure.pure (some (.builtin id)))
    (k : Wp c A (eval value env) (fun o h₁ => Wp c A (eval slice env) (fun i h₂ => (∀ tk, (c.at h₂ tk).TypeIs o T) ∧ Wp c A (getItem o i) Q h₂) h₁) h)
    (hs : ∀ o i, subscripted slice false o i = operate [o, i] (getItem o i) ∨ subscripted slice false o i = operate [i, o] (getItem o i) := by intro _ _; first | exact Or.inl rfl | exact Or.inr rfl) :
    Wp c A (eval (.Subscript value slice pos) env) Q h := fun tk => by
  rw [arm_eval_Subscript]
  refine wpAny_bind (k.go tk (fun o h₁ tk₁ q => ?_))
  refine wpAny_bind (wpAny_holding (q.go tk₁ (fun i h₂ tk₂ q => ?_)))
  refine wpAny_bind (wpAny_standAt ?_)
  have hT := q.1 tk₂
  refine wpAny_bind (m := getitemInPython o) ?_
  rw [getitemInPython_of_ne hT.not_modules]
  refine wpAny_bind (wpAny_specialOf hT hl ?_)
  refine wpAny_pure (wpAny_bind ?_)
  have fin : wpAny (model c.prog c.w) A (getItem o i) (fun r s₃ => wpAny (model c.prog c.w) A (letTemporaryGo value o r >>= fun _ => Pure.pure r) (fun v s' => ∃ h' tk', s' = c.at h' tk' ∧ Q v h') (fun _ _ => False) s₃) (fun _ _ => False) (c.at h₂ tk₂) :=
    wpAny_mono (q.2 tk₂) (fun r s₃ h₃ => wpAny_bind (wpAny_letTemporaryGo (wpAny_pure h₃))) fun _ _ x => x
  rcases hs o i with e | e
  · rw [e]; exact wpAny_operating fin
  · rw [e]; exact wpAny_operating fin
theorem Wp.getL {l : Addr} {ns : List Int} {k n : Int} {t : Tok} (x : IL h l ns) (h0 : 0 ≤ k) (hx : ns[k.toNat]? = some n) (hz : ns.length < 2 ^ 62) (q : ∀ t, Q (.int n t) h) : Wp c A (getItem (.ref l) (.int k t)) Q h := fun tk => by
  obtain ⟨vs, y, z⟩ := x.isList
  obtain ⟨t', ht⟩ := z.at hx
  have hlt : k.toNat < ns.length := (List.getElem?_eq_some_iff.mp hx).1
  exact wpAny_getItem_list y h0 (by have : (k.toNat : Int) < (2 : Int) ^ 62 := by exact_mod_cast Nat.lt_trans hlt hz
                                    exact ar41 this) (by simpa using ht) ⟨h, tk, rfl, q t'⟩
theorem isL_type {l : Addr} {items : Array Value} (x : h.IsList l items) (tk : Nat) : (c.at h tk).TypeIs (.ref l) "list" := let ⟨o, ho, hc, _⟩ := x; ⟨o, ho, hc⟩
/-- what an item asks -/
inductive ItK (Q : Value → Heap → Prop) (o i : Value) (h₂ : Heap) : Prop
  | mk (l : Addr) (ns : List Int) (k : Int) (t : Tok) (n : Int) (e1 : o = .ref l) (e2 : i = .int k t) (x : IL h₂ l ns) (h0 : 0 ≤ k) (hx : ns[k.toNat]? = some n) (hz : ns.length < 2 ^ 62) (q : ∀ t, Q (.int n t) h₂) : ItK Q o i h₂
noncomputable abbrev Kit (c : Cx) (A : Around) (env : Env) (slice : Expr) (Q : Value → Heap → Prop) : Value → Heap → Prop := fun o h₁ => Wp c A (eval slice env) (ItK Q o) h₁
/-- an item of a list of ints, read at an int in bounds -/
theorem Wp.item {value slice : Expr} {pos : Pos}
    (k : Wp c A (eval value env) (Kit c A env slice Q) h)
    (hs : ∀ o i, subscripted slice false o i = operate [o, i] (getItem o i) := by intro _ _; rfl) : Wp c A (eval (.Subscript value slice pos) env) Q h := by
  refine Wp.sub slot_list_getitem.lookup (k.mono fun o h₁ q => q.mono fun i h₂ ⟨l, ns, k, t, n, e1, e2, x, h0, hx, hz, qq⟩ => ?_) (fun o i => Or.inl (hs o i))
  subst e1 e2
  obtain ⟨vs, y, z⟩ := x.isList
  exact ⟨isL_type y, Wp.getL x h0 hx hz qq⟩
theorem Wp.lenL {l : Addr} {ns : List Int} (x : IL h l ns) (hz : ns.length < 2 ^ 62) (q : ∀ t, Q (.int ns.length t) h) : Wp c A (call (.builtin "len") [.ref l] []) Q h := fun tk => by
  obtain ⟨vs, y, z⟩ := x.isList
  have e : (vs.toArray.size : Int) = ns.length := by simp [z.len]
  refine Calls.call_len_list y (by rw [e]; have : (ns.length : Int) < (2 : Int) ^ 62 := by exact_mod_cast hz
                                   exact ar42 hz) ?_
  rw [e]
  exact ⟨h, _, rfl, q _⟩
end
end Mine
namespace Mine
section
variable {c : Cx} {A : Around} {h : Heap} {env : Env}
theorem Wp.ifT {test : Expr} {body orelse : List Stmt} {pos : Pos} {Q : Flow → Heap → Prop}
    (x : Wp c A (isTrue test env (eval test env)) (fun b h' => b = true ∧ Wp c A (execs body env) Q h') h) : Wp c A (exec (.If test body orelse pos) env) Q h :=
  Wp.ifS (x.mono fun b h' ⟨e, q⟩ => by subst e; exact q)
theorem Wp.ifF {test : Expr} {body orelse : List Stmt} {pos : Pos} {Q : Flow → Heap → Prop}
    (x : Wp c A (isTrue test env (eval test env)) (fun b h' => b = false ∧ Wp c A (execs orelse env) Q h') h) : Wp c A (exec (.If test body orelse pos) env) Q h :=
  Wp.ifS (x.mono fun b h' ⟨e, q⟩ => by subst e; exact q)
theorem Wp.ifN {test : Expr} {body : List Stmt} {pos : Pos} {Q : Flow → Heap → Prop}
    (x : Wp c A (isTrue test env (eval test env)) (fun b h' => b = false ∧ Q .next h') h) : Wp c A (exec (.If test body [] pos) env) Q h :=
  Wp.ifF (x.mono fun b h' ⟨e, q⟩ => ⟨e, Wp.nil q⟩)

/-- a method of a built-in kind, by place -/
theorem Wp.meth {o : Expr} {name : Str} {apos pos : Pos} {e : Expr} {rest : List Expr} {Q : Value → Heap → Prop}
    (k : Wp c A (eval o env) (fun ov h₁ => ∃ bi, (∀ (pl : Sem Bool) (Q' : Value × List Value → Heap → Prop), Q' (.builtin bi, [ov]) h₁ → Wp c A (getMethod ov name pl) Q' h₁) ∧
      Wp c A (spliced (backTo pos (starEach (e :: rest) env))) (fun vs h₂ => Wp c A (call (.builtin bi) (ov :: vs) []) Q h₂) h₁) h)
    (hbase : attributeBase o name env (eval o env) = eval o env := by rfl)
    (hform : methodCallForm ((e :: rest).length + ([] : List Keyword).length) (backTo pos (starEach (e :: rest) env)) (backToKw pos (keywordEach [] env)) = true := by rfl)
    (hline : (apos.endLine == pos.line) = true := by rfl) (he : starEach (e :: rest) env = (false, eval e env) :: starEach rest env := by rfl)
    (hp : (backTo pos (starEach rest env)).any (·.1) = false := by rfl) : Wp c A (eval (.Call (.Attribute o name apos) (e :: rest) [] pos) env) Q h := fun tk => by
  rw [arm_eval_Call, hbase]
  refine wpAny_bind (k.go tk (fun ov h₁ tk₁ ⟨bi, g, q⟩ => ?_))
  refine wpAny_bind (wpAny_standAt ?_)
  have hpos : methodCallPos true o env apos pos = Pure.pure pos := by unfold methodCallPos; simp [hline]
  unfold methodCall
  rw [hform]
  refine wpAny_bind (wpAny_holding ((g _ (fun r h' => r = (.builtin bi, [ov]) ∧ h' = h₁) ⟨rfl, rfl⟩).go tk₁ (fun r h₂ tk₂ ⟨e2, e3⟩ => ?_)))
  subst e2 e3
  refine wpAny_bind (wpAny_of_eq hpos ?_)
  have k' := q tk₂
  rw [he] at k' ⊢
  refine Calls.callWith_builtin (by show (false || (backTo pos (starEach rest env)).any (·.1)) = false; rw [hp]; rfl) (Calls.evalArgs_plain (wpAny_mono k' (fun vs s' ⟨h', tk', e, q⟩ => ?_) fun _ _ e => e))
  subst e
  exact q tk'
theorem Wp.meth0 {o : Expr} {name : Str} {apos pos : Pos} {Q : Value → Heap → Prop}
    (k : Wp c A (eval o env) (fun ov h₁ => ∃ bi, (∀ (pl : Sem Bool) (Q' : Value × List Value → Heap → Prop), Q' (.builtin bi, [ov]) h₁ → Wp c A (getMethod ov name pl) Q' h₁) ∧
      Wp c A (call (.builtin bi) [ov] []) Q h₁) h)
    (hbase : attributeBase o name env (eval o env) = eval o env := by rfl) (hline : (apos.endLine == pos.line) = true := by rfl) : Wp c A (eval (.Call (.Attribute o name apos) [] [] pos) env) Q h := fun tk => by
  rw [arm_eval_Call, hbase]
  refine wpAny_bind (k.go tk (fun ov h₁ tk₁ ⟨bi, g, q⟩ => ?_))
  refine wpAny_bind (wpAny_standAt ?_)
  have hpos : methodCallPos true o env apos pos = Pure.pure pos := by unfold methodCallPos; simp [hline]
  have hform : methodCallForm (([] : List Expr).length + ([] : List Keyword).length) (backTo pos (starEach [] env)) (backToKw pos (keywordEach [] env)) = true := rfl
  unfold methodCall
  rw [hform]
  refine wpAny_bind (wpAny_holding ((g _ (fun r h' => r = (.builtin bi, [ov]) ∧ h' = h₁) ⟨rfl, rfl⟩).go tk₁ (fun r h₂ tk₂ ⟨e2, e3⟩ => ?_)))
  subst e2 e3
  refine wpAny_bind (wpAny_of_eq hpos ?_)
  exact Calls.callWith_builtin rfl (evalArgs_kw_nil rfl (wpAny_evalAll_nil (q tk₂)))
/-- a call whose value is dropped -/
theorem Wp.expr {e : Expr} {pos : Pos} {Q : Flow → Heap → Prop} (k : Wp c A (eval e env) (fun v h' => v = .none ∧ Q .next h') h)
    (hi : interactive env = false := by rfl) (hs : swapsWith e none pos.line env = Pure.pure false := by rfl) : Wp c A (exec (.Expr e pos) env) Q h := fun tk =>
  wpAny_Expr (k.go tk (fun v h' tk' ⟨ev, q⟩ => by subst ev; exact ⟨h', tk', rfl, q⟩)) hi hs
theorem Wp.gmL {l : Addr} {vs : List Value} {n : Nat} {name : Str} {id : String} (x : h.get? l = some (lstObj vs n)) (slot : Slot "list" name id) (hty : typeOf (.builtin id) = Pure.pure (.type "method_descriptor")) :
    ∀ (pl : Sem Bool) (Q' : Value × List Value → Heap → Prop), Q' (.builtin id, [.ref l]) h → Wp c A (getMethod (.ref l) name pl) Q' h := fun pl Q' q tk =>
  PySem.getMethod_builtin (T := "list") ⟨_, x, rfl⟩ PySem.F.plainAttrs_list slot hty (fun a e => by cases e; exact ⟨_, x, rfl⟩) ⟨h, tk, rfl, q⟩
theorem Wp.gmI {a : Int} {t : Tok} : ∀ (pl : Sem Bool) (Q' : Value × List Value → Heap → Prop), Q' (.builtin "int.bit_length", [.int a t]) h → Wp c A (getMethod (.int a t) "bit_length" pl) Q' h := fun pl Q' q tk =>
  PyProof.Rows.getMethod_int_bit_length ⟨h, tk, rfl, q⟩
theorem Wp.bitlen {a : Int} {t : Tok} {Q : Value → Heap → Prop} (q : ∀ t, Q (.int (Builtin.Int.intBits a) t) h) : Wp c A (call (.builtin "int.bit_length") [.int a t] []) Q h := fun tk =>
  PyProof.Rows.call_int_bit_length ⟨h, _, rfl, q _⟩
theorem size_ok {vs : List Value} (h : vs.length < 2 ^ 20) : vs.toArray.size ≤ sizeLine := by
  rw [List.size_toArray]
  show vs.length ≤ 2 ^ 24
  exact ar43 h
theorem mapSeq_lst {vs : List Value} {n : Nat} {f : Array Value → Array Value} {vs' : List Value} (e : f vs.toArray = vs'.toArray) : ∃ n', Obj.mapSeq f (lstObj vs n) = lstObj vs' n' := by
  refine ⟨if (f vs.toArray).size == vs.toArray.size then n else n + 1, ?_⟩
  show ({ cls := .type "list", data := .seq (f vs.toArray) (if (f vs.toArray).size == vs.toArray.size then n else n + 1) } : Obj) = _
  rw [e]
/-- insert at a place of the list's -/
theorem Wp.insertK {l : Addr} {ns : List Int} {k x : Int} {t u : Tok} {Q : Value → Heap → Prop} (L : IL h l ns) (h0 : 0 ≤ k) (hp : k.toNat ≤ ns.length) (hz : ns.length < 2 ^ 20)
    (q : ∀ h', IL h' l (ns.take k.toNat ++ x :: ns.drop k.toNat) → Ext [l] h h' → Q .none h') : Wp c A (call (.builtin "list.insert") [.ref l, .int k t, .int x u] []) Q h := fun tk => by
  obtain ⟨vs, n, ho, hi⟩ := L
  have hlen := hi.len
  have hfit : ¬(!Builtin.List.listFitsIndex k) = true := by
    have : Builtin.List.listFitsIndex k = true := fitsIndex_of h0 (by exact ar44 hp hz)
    rw [this]; decide
  refine call_meets PySem.F.slot_list_insert ⟨_, ho, rfl⟩ PySem.F.entry_list_insert (PySem.F.args_list_insert_3 _ _ _) (PySem.AutoSeq1.list_insert_list_int_val_1 l vs.toArray n k t (.int x u) hfit (size_ok (by exact ar45 hlen hz))) ⟨ho, ?_⟩
  have e : (fun xs : Array Value => have k := if k < 0 then (k + ((xs.size : Nat) : Int)).toNat else min k.toNat xs.size; (xs.extract 0 k).push (Value.int x u) ++ xs.extract k) vs.toArray = (vs.take k.toNat ++ Value.int x u :: vs.drop k.toNat).toArray := by
    have hk : min k.toNat vs.length = k.toNat := by exact ar46 hp hlen
    simp only [show ¬ (k < 0) by exact ar47 h0, if_false, List.size_toArray, hk]
    apply Array.ext'
    simp
    exact List.take_of_length_le (by simp)
  obtain ⟨n', e'⟩ := mapSeq_lst (f := fun xs : Array Value => have k := if k < 0 then (k + ((xs.size : Nat) : Int)).toNat else min k.toNat xs.size; (xs.extract 0 k).push (Value.int x u) ++ xs.extract k) (n := n) e
  have hg := Heap.get?_update_self (f := Obj.mapSeq fun xs : Array Value => have k := if k < 0 then (k + ((xs.size : Nat) : Int)).toNat else min k.toNat xs.size; (xs.extract 0 k).push (Value.int x u) ++ xs.extract k) ho (by rw [e']; rfl)
  rw [e'] at hg
  exact ⟨_, _, rfl, q _ ⟨_, n', hg, (hi.take _).app (.cons _ _ (hi.drop _))⟩ (Ext.same (Heap.SameBut.update ..))⟩
theorem Wp.reverseL {l : Addr} {ns : List Int} {Q : Value → Heap → Prop} (L : IL h l ns) (hz : ns.length < 2 ^ 20)
    (hr : ∀ vs, Ints vs ns → Ints vs.reverse ns.reverse) (q : ∀ h', IL h' l ns.reverse → Ext [l] h h' → Q .none h') : Wp c A (call (.builtin "list.reverse") [.ref l] []) Q h := fun tk => by
  obtain ⟨vs, n, ho, hi⟩ := L
  have hlen := hi.len
  refine call_meets PySem.F.slot_list_reverse ⟨_, ho, rfl⟩ PySem.F.entry_list_reverse (PySem.F.args_list_reverse_1 _) (PySem.AutoSeq1.list_reverse_list_0 l vs.toArray n (size_ok (by exact ar45 hlen hz))) ⟨ho, ?_⟩
  have e : (fun x : Array Value => x.reverse) vs.toArray = vs.reverse.toArray := by simp
  obtain ⟨n', e'⟩ := mapSeq_lst (f := fun x : Array Value => x.reverse) (n := n) e
  have hg := Heap.get?_update_self (f := Obj.mapSeq fun x : Array Value => x.reverse) ho (by rw [e']; rfl)
  rw [e'] at hg
  exact ⟨_, _, rfl, q _ ⟨_, n', hg, hr vs hi⟩ (Ext.same (Heap.SameBut.update ..))⟩
theorem Wp.appendL {l : Addr} {ns : List Int} {x : Int} {u : Tok} {Q : Value → Heap → Prop} (L : IL h l ns) (hz : ns.length < 2 ^ 20)
    (q : ∀ h', IL h' l (ns ++ [x]) → Ext [l] h h' → Q .none h') : Wp c A (call (.builtin "list.append") [.ref l, .int x u] []) Q h := fun tk => by
  obtain ⟨vs, n, ho, hi⟩ := L
  have hlen := hi.len
  refine wpAny_list_append_plain (items := vs.toArray) ⟨n, ho⟩ (fun h' ⟨n', hl'⟩ hs => ⟨h', _, rfl, q h' ⟨vs ++ [.int x u], n', by simpa using hl', hi.app (.cons _ _ .nil)⟩ (Ext.same hs)⟩) (size_ok (by exact ar45 hlen hz))
end
theorem Ints.rev : ∀ {vs : List Value} {ns : List Int}, Ints vs ns → Ints vs.reverse ns.reverse
  | _, _, .nil => by simpa using IntsAre.nil
  | _, _, .cons n t r => by simpa using (Ints.rev r).app (.cons n t .nil)
end Mine
end

section
open PySem PySem.W PyProof.Rows
set_option maxRecDepth 100000
namespace Mine

theorem triples_snoc {a b : Int} {t u : Tok} {c : Value} : ∀ {l : List Value}, TriplesOk l → TriplesOk (l ++ [.int a t, .int b u, c])
  | [], _ => trivial
  | .int _ _ :: .int _ _ :: _ :: rest, h => triples_snoc (l := rest) h
theorem among_snoc {pos : Pos} {a b : Int} {t u : Tok} {c cv : Value} : ∀ {l : List Value}, TriplesOk l → codeAmong pos (l ++ [.int a t, .int b u, c]) = some cv → codeAmong pos l = some cv ∨ cv = c
  | [], _, e => by
    simp only [List.nil_append, codeAmong] at e
    split at e
    · right; exact (Option.some.inj e).symm
    · cases e
  | .int x _ :: .int y _ :: d :: rest, h, e => by
    simp only [List.cons_append, codeAmong] at e ⊢
    split
    · rename_i hq
      rw [if_pos hq] at e
      exact .inl e
    · rename_i hq
      rw [if_neg hq] at e
      exact among_snoc (l := rest) h e
theorem triples_one : ∀ {l : List Value} {s : Str} {t : Tok}, TriplesOk l → l[1]? ≠ some (.str s t)
  | [], _, _, _, e => by simp at e
  | .int _ _ :: .int _ _ :: _ :: _, _, _, _, e => by simp at e
/-- a name kept in a code's record is not the table's own -/
theorem codeRec_tab {h h' : Heap} {P : Addr} {ps : Array Value} {cd : Value} {q : Str} (x : h.CodeRec cd q) (e : ∀ b o, b ≠ P → h.get? b = some o → h'.get? b = some o) (hP : h.get? P = some (tabObj ps)) (ht : TriplesOk ps.toList) : h'.CodeRec cd q := by
  obtain ⟨k, o, vs, t, e1, e2, e3, e4⟩ := x
  refine ⟨k, o, vs, t, e1, e _ _ ?_ e2, e3, e4⟩
  rintro rfl
  rw [hP] at e2
  cases e2
  cases e3
  rw [← Array.getElem?_toList] at e4
  exact triples_one ht e4
theorem TabQ.off {h h' : Heap} {k P P' : Addr} {q : Str} {ps : Array Value} (x : TabQ h k P q) (e : ∀ b o, b ≠ P' → h.get? b = some o → h'.get? b = some o) (hP : h.get? P' = some (tabObj ps)) (ht : TriplesOk ps.toList) (h1 : k ≠ P') (h2 : P ≠ P') : TabQ h' k P q := by
  obtain ⟨⟨o, vs, file, tf, flags, tg, inF, text, tt, g, r⟩, ps', x2, x3, x4⟩ := x
  exact ⟨⟨o, vs, file, tf, flags, tg, inF, text, tt, e _ _ h1 g, r⟩, ps', e _ _ h2 x2, x3, fun pos cv y => codeRec_tab (x4 pos cv y) e hP ht⟩
theorem TabQ.grown {h h' : Heap} {k P : Addr} {q : Str} {ps : Array Value} {pos : Pos} {c' : Addr} (x : TabQ h k P q) (e : ∀ b o, b ≠ P → h.get? b = some o → h'.get? b = some o) (hP : h.get? P = some (tabObj ps)) (ht : TriplesOk ps.toList)
    (hP' : h'.get? P = some (tabObj (ps ++ #[rawInt pos.line, rawInt pos.col, .ref c']))) (hc : h'.CodeRec (.ref c') q) : TabQ h' k P q := by
  obtain ⟨⟨o, vs, file, tf, flags, tg, inF, text, tt, g, r1, r2, r3, r4, r5, r6, r7, r8, r9⟩, ps', x2, x3, x4⟩ := x
  rw [hP] at x2
  cases x2
  refine ⟨⟨o, vs, file, tf, flags, tg, inF, text, tt, e _ _ r9 g, r1, r2, r3, r4, r5, r6, r7, r8, r9⟩, _, hP', ?_, fun pos' cv y => ?_⟩
  · rw [Array.toList_append]; exact triples_snoc ht
  · rw [Array.toList_append] at y
    rcases among_snoc ht y with y | y
    · exact codeRec_tab (x4 pos' cv y) e hP ht
    · rw [y]; exact hc

theorem new_none {h : Heap} {a : Addr} (ha : h.objs.size ≤ a) : h.get? a = none := by
  cases q : h.get? a with
  | none => rfl
  | some o => exact absurd (Heap.lt_size q) (Nat.not_lt.mpr ha)
theorem some_lt {h : Heap} {a : Addr} {o : Obj} (e : h.get? a = some o) : a < h.objs.size := Heap.lt_size e

/-- which table: the code's address, the table's, the name of all that it makes -/
inductive Tb : Addr → Addr → Str → Prop
  | t1 : Tb 55 51 "_int2digits.<locals>.inner"
  | t2 : Tb 62 58 "_digits2int.<locals>.inner"
  | t3 : Tb 117 115 "_law_cut.<locals>.<lambda>"
  | t4 : Tb 122 120 "law.<locals>.<lambda>"
theorem Tb.at {B h : Heap} {k P : Addr} {q : Str} (b : Tb k P q) (G : GG B h) : TabQ h k P q := by
  cases b with
  | t1 => exact G.t1
  | t2 => exact G.t2
  | t3 => exact G.t3
  | t4 => exact G.t4
theorem Tb.mem {k P : Addr} {q : Str} (b : Tb k P q) : P ∈ tabs := by cases b <;> decide
theorem Tb.grow {B h h' : Heap} {k P : Addr} {q : Str} {ps : Array Value} {pos : Pos} {c' : Addr} (b : Tb k P q) (G : GG B h) (e : Ext [P] h h') (hP : h.get? P = some (tabObj ps)) (ht : TriplesOk ps.toList)
    (hP' : h'.get? P = some (tabObj (ps ++ #[rawInt pos.line, rawInt pos.col, .ref c']))) (hc : h'.CodeRec (.ref c') q) : GG B h' := by
  have e' : ∀ b o, b ≠ P → h.get? b = some o → h'.get? b = some o := fun b o hb q => e.get b o (by simpa using hb) q
  have ex : Ext tabs B h' := G.ext.trans (e.wide fun x hx => by rw [List.mem_singleton.mp hx]; exact b.mem)
  cases b with
  | t1 => exact ⟨ex, G.t1.grown e' hP ht hP' hc, G.t2.off e' hP ht (by decide) (by decide), G.t3.off e' hP ht (by decide) (by decide), G.t4.off e' hP ht (by decide) (by decide)⟩
  | t2 => exact ⟨ex, G.t1.off e' hP ht (by decide) (by decide), G.t2.grown e' hP ht hP' hc, G.t3.off e' hP ht (by decide) (by decide), G.t4.off e' hP ht (by decide) (by decide)⟩
  | t3 => exact ⟨ex, G.t1.off e' hP ht (by decide) (by decide), G.t2.off e' hP ht (by decide) (by decide), G.t3.grown e' hP ht hP' hc, G.t4.off e' hP ht (by decide) (by decide)⟩
  | t4 => exact ⟨ex, G.t1.off e' hP ht (by decide) (by decide), G.t2.off e' hP ht (by decide) (by decide), G.t3.off e' hP ht (by decide) (by decide), G.t4.grown e' hP ht hP' hc⟩
theorem bAt {B h : Heap} {mg mb : Str → Option Value} {k P : Addr} {q : Str} (T : TopAt B mg mb) (G : GG B h) (b : Tb k P q) : h.BuiltinsAt mg P := by
  obtain ⟨bm, ob, e1, e2, e3, e0, e4, e5, e6, e7⟩ := T.bmain
  exact ⟨bm, ob, e1, e2, e3, fun e => e0 (e ▸ b.mem), G.ext.get _ _ e0 e4, e5, e6, e7⟩

/-- a function that the call made -/
noncomputable def FnM (h : Heap) (f : Addr) (fd : FuncData) : Prop := ∃ o, h.get? f = some o ∧ o.data = .func fd ∧ h.CodeRec fd.code fd.qualname
theorem FnM.there {h : Heap} {f : Addr} {fd : FuncData} (x : FnM h f fd) : ∃ o fd, h.get? f = some o ∧ o.data = .func fd := let ⟨o, a, b, _⟩ := x; ⟨o, fd, a, b⟩
theorem FnM.keeps {h h' : Heap} {f : Addr} {fd : FuncData} (x : FnM h f fd) (e : ∀ b o, h.get? b = some o → h'.get? b = some o) : FnM h' f fd :=
  let ⟨o, a, b, d⟩ := x; ⟨o, e _ _ a, b, d.keeps e⟩
/-- an object is turned that is no function and no record -/
theorem FnM.but {h h' : Heap} {f a : Addr} {fd : FuncData} {oa : Obj} (x : FnM h f fd) (e : Ext [a] h h') (ha : h.get? a = some oa) (hn : ∀ vs, oa.data ≠ .fields vs) (hf : ∀ fd, oa.data ≠ .func fd) : FnM h' f fd := by
  obtain ⟨o, y, z, d⟩ := x
  have e' : ∀ b o, b ≠ a → h.get? b = some o → h'.get? b = some o := fun b o hb q => e.get b o (by simpa using hb) q
  exact ⟨o, e' _ _ (by rintro rfl; rw [ha] at y; cases y; exact hf _ z) y, z, d.keepsBut e' ha hn⟩
section
variable {c : Cx} {A : Around} {B h h₀ : Heap} {mg mb : Str → Option Value} {env : Env}
/-- a def within a def makes its function -/
theorem Wp.mkDef {name : Str} {params : Arguments} {body : List Stmt} {scope : Scope} {pos : Pos} {line : Nat} {clos : List (Str × Addr)} {k P : Addr} {q : Str} {Q : Value → Heap → Prop}
    (T : TopAt B mg mb) (G : GG B h) (b : Tb k P q) (hcl : closureFor scope env = Pure.pure clos) (hg : env.globals = mainGlobals) (hc : env.code = .ref k)
    (kk : ∀ f h' doc ct cv, GG B h' → Ext [P] h h' → h.objs.size ≤ f → f < h'.objs.size → FnM h' f (fnX name q params body scope clos .none .none doc ((mg "__name__").getD .none) none cv ct) → Q (.ref f) h') :
    Wp c A (makeFunction name q params (.stmts body) scope env [] [] [] pos line) Q h := fun tk => by
  obtain ⟨C, ps, hP, ht, hall⟩ := b.at G
  cases hf : codeAmong pos ps.toList with
  | some cv =>
    refine makeFunction_hit hcl hg (G.ns T.g (by decide)) hc C hP ht hf (bAt T G b) fun ct doc h' tk' hk hs => ⟨_, _, rfl, ?_⟩
    have e : Ext [] h (h'.push { cls := .type "function", data := .func (fnX name q params body scope clos .none .none doc ((mg "__name__").getD .none) none cv ct) }) :=
      ⟨by rw [Heap.size_push]; exact Nat.le_trans hs (Nat.le_succ _), fun b o _ z => Heap.get?_push_of_some _ (hk b o z)⟩
    exact kk _ _ doc ct cv (G.grow e) e.of_nil hs (by rw [Heap.size_push]; exact Nat.lt_succ_self _) ⟨_, Heap.get?_push_size _ rfl, rfl, ((hall pos cv hf).keeps fun b o z => e.all b o z)⟩
  | none =>
    have hgP : mainGlobals ≠ P := by cases b <;> decide
    refine makeFunction_K hcl hg (G.ns T.g (by decide)) hc C hP ht hf hgP (bAt T G b) fun c' ct doc h' tk' hx hge hlt hrec hP' => ⟨_, _, rfl, ?_⟩
    have hs : h.objs.size ≤ h'.objs.size := Nat.le_trans hge (Nat.le_of_lt hlt)
    have e : Ext [P] h h' := ⟨hs, fun b o hb z => hx b o (by simpa using hb) z⟩
    have G' := (b.grow G e hP ht hP' hrec).grow (Ext.push h' (fnMade name q params body scope clos doc ((mg "__name__").getD .none) c' ct))
    exact kk _ _ doc ct _ G' (e.trans (Ext.push _ _).of_nil) hs (by rw [Heap.size_push]; exact Nat.lt_succ_self _) ⟨_, Heap.get?_push_size _ rfl, rfl, hrec.push _⟩
theorem Wp.mkLam {params : Arguments} {body : Expr} {scope : Scope} {pos : Pos} {clos : List (Str × Addr)} {k P : Addr} {q : Str} {Q : Value → Heap → Prop}
    (T : TopAt B mg mb) (G : GG B h) (b : Tb k P q) (hq : env.qual ++ "<lambda>" = q) (hcl : closureFor scope env = Pure.pure clos) (hg : env.globals = mainGlobals) (hc : env.code = .ref k)
    (hd : params.defaults = []) (hkd : params.kw_defaults = [])
    (kk : ∀ f h' ct cv, GG B h' → Ext [P] h h' → h.objs.size ≤ f → f < h'.objs.size → FnM h' f (kla_fn "<lambda>" q params body scope clos ((mg "__name__").getD .none) cv ct) → Q (.ref f) h') :
    Wp c A (eval (.Lambda params body scope pos) env) Q h := fun tk => by
  rw [arm_eval_Lambda, defaultsOf_eq, hd, hkd, hq]
  refine wpAny_bind (wpAny_pure (wpAny_bind (wpAny_holding (wpAny_pure ?_))))
  obtain ⟨C, ps, hP, ht, hall⟩ := b.at G
  cases hf : codeAmong pos ps.toList with
  | some cv =>
    refine kla_makeFunctionHit hcl hg (G.ns T.g (by decide)) hc C hP ht hf (bAt T G b) fun ct h' tk' hk hs => ⟨_, _, rfl, ?_⟩
    have e : Ext [] h (h'.push { cls := .type "function", data := .func (kla_fn "<lambda>" q params body scope clos ((mg "__name__").getD .none) cv ct) }) :=
      ⟨by rw [Heap.size_push]; exact Nat.le_trans hs (Nat.le_succ _), fun b o _ z => Heap.get?_push_of_some _ (hk b o z)⟩
    exact kk _ _ ct cv (G.grow e) e.of_nil hs (by rw [Heap.size_push]; exact Nat.lt_succ_self _) ⟨_, Heap.get?_push_size _ rfl, rfl, ((hall pos cv hf).keeps fun b o z => e.all b o z)⟩
  | none =>
    have hgP : mainGlobals ≠ P := by cases b <;> decide
    refine kla_makeFunction hcl hg (G.ns T.g (by decide)) hc C hP ht hf hgP (bAt T G b) fun c' ct h' tk' hx hge hlt hrec hP' => ⟨_, _, rfl, ?_⟩
    have hs : h.objs.size ≤ h'.objs.size := Nat.le_trans hge (Nat.le_of_lt hlt)
    have e : Ext [P] h h' := ⟨hs, fun b o hb z => hx b o (by simpa using hb) z⟩
    have G' := (b.grow G e hP ht hP' hrec).grow (Ext.push h' (kla_obj "<lambda>" q params body scope clos ((mg "__name__").getD .none) c' ct))
    exact kk _ _ ct _ G' (e.trans (Ext.push _ _).of_nil) hs (by rw [Heap.size_push]; exact Nat.lt_succ_self _) ⟨_, Heap.get?_push_size _ rfl, rfl, hrec.push _⟩
theorem Wp.defS {name : Str} {params : Arguments} {body : List Stmt} {scope : Scope} {pos : Pos} {Q : Flow → Heap → Prop} (hd0 : params.defaults = []) (hk0 : params.kw_defaults = []) (ha : annTrees params none env = [])
    (k : Wp c A (makeFunction name (qualnameIn env name name) params (.stmts body) scope env [] [] [] pos pos.line) (fun v h' => Wp c A (storeName env name v) (fun _ h'' => Q .next h'') h') h) :
    Wp c A (exec (.FunctionDef name params body [] none [] scope none name pos) env) Q h := fun tk =>
  nestDef_K hd0 hk0 ha (k.go tk (fun v h' tk' q => q tk'))
/-- a made function is entered -/
theorem Wp.enterM {f : Addr} {fd : FuncData} {body : List Stmt} {args : Args} {binds : List (Str × Value)} {Q : Value → Heap → Prop} {n : Nat}
    (T : TopAt B mg mb) (G : GG B h) (x : FnM h f fd) (hbody : fd.body = .stmts body) (r : Room A (n + 1)) (hb : bindArgs fd args = Pure.pure binds)
    (hcell : fd.scope.names.all (fun x => x.2 != .cell) = true) (hloc : (binds.all fun x => decide (fd.scope.names.lookup x.1 = some .local)) = true)
    (hk : fd.scope.kind = .function) (hco : fd.scope.isCoroutine = false) (hgen : fd.scope.isGenerator = false)
    (k : ∀ L h₁, h.objs.size ≤ L → (∀ W, Fm B h W L (fun x => binds.reverse.lookup x) h₁) → Room (A.deeper (callEnv fd L f)) n →
      Wp c (A.deeper (callEnv fd L f)) (execs body (callEnv fd L f)) (fun f h' => Q (match f with | .ret v => v | _ => .none) h') h₁) :
    Wp c A (call (.ref f) args.pos args.kw) Q h := fun tk => by
  obtain ⟨o, ho, hd, hrec⟩ := x
  refine wpAny_call (codeAny_call_def (fd := fd) (body := body) (binds := binds) r.lim ho hd (G.lim T) hrec hbody (BindsTo.of_eq hb) ?_ (locs hloc) (fun h₁ hn hk₁ => ?_) hco hgen hk)
  · intro x hx e
    have := List.all_eq_true.mp hcell x hx
    rw [e] at this
    cases this
  · have hsz : h.objs.size ≤ h₁.objs.size := Nat.le_of_lt hn.lt
    have E : Ext [] h h₁ := ⟨hsz, fun b o _ e => hk₁ b o e⟩
    refine wpAny_mono (k h.objs.size h₁ (Nat.le_refl _) (fun W => ⟨G.grow E, hn, hsz, fun b o _ _ e => hk₁ b o e, G.new (Nat.le_refl _)⟩) (r.deeper _) _) (fun f s ⟨h', tk', e, q⟩ => ?_) fun _ _ e => e.elim
    subst e
    exact ⟨h', tk', rfl, q⟩
/-- a lambda is entered -/
theorem Wp.enterE {f : Addr} {fd : FuncData} {body : Expr} {args : Args} {binds : List (Str × Value)} {Q : Value → Heap → Prop} {n : Nat}
    (T : TopAt B mg mb) (G : GG B h) (x : FnM h f fd) (hbody : fd.body = .expr body) (r : Room A (n + 1)) (hb : bindArgs fd args = Pure.pure binds)
    (hcell : fd.scope.names.all (fun x => x.2 != .cell) = true) (hloc : (binds.all fun x => decide (fd.scope.names.lookup x.1 = some .local)) = true)
    (hk : fd.scope.kind = .function) (hco : fd.scope.isCoroutine = false) (hgen : fd.scope.isGenerator = false)
    (k : ∀ L h₁, h.objs.size ≤ L → (∀ W, Fm B h W L (fun x => binds.reverse.lookup x) h₁) → Room (A.deeper (callEnv fd L f)) n →
      Wp c (A.deeper (callEnv fd L f)) (eval body (callEnv fd L f)) Q h₁) :
    Wp c A (call (.ref f) args.pos args.kw) Q h := fun tk => by
  obtain ⟨o, ho, hd, hrec⟩ := x
  refine wpAny_call (kla_callFunE r.lim ho hd hco hgen hbody hrec ?_)
  rw [hb]
  refine wpAny_pure (wpAny_newFunctionEnv (fun x hx e => ?_) (locs hloc) (fun h₁ hns hsb => ?_) hk)
  · have := List.all_eq_true.mp hcell x hx
    rw [e] at this
    cases this
  · have hk₁ : ∀ b o, h.get? b = some o → h₁.get? b = some o := fun b o e => hsb.extBut b o (Nat.ne_of_lt (Heap.lt_size e)) (Heap.get?_push_of_some _ e)
    have hsz : h.objs.size ≤ h₁.objs.size := Nat.le_of_lt hns.lt
    have E : Ext [] h h₁ := ⟨hsz, fun b o _ e => hk₁ b o e⟩
    refine ⟨(G.grow E).lim T, kla_codeExpr ?_⟩
    refine wpAny_mono (k h.objs.size h₁ (Nat.le_refl _) (fun W => ⟨G.grow E, hns, hsz, fun b o _ _ e => hk₁ b o e, G.new (Nat.le_refl _)⟩) (r.deeper _) _) (fun v s ⟨h', tk', e, q⟩ => ?_) fun _ _ e => e.elim
    subst e
    exact ⟨h', tk', rfl, q⟩
/-- a def of the top, with cells, is entered -/
theorem Wp.enterC {a i : Nat} {nm : Str} {cd : Addr} {pos : List Value} {binds : List (Str × Value)} {Q : Value → Heap → Prop} {n : Nat}
    (T : TopAt B mg mb) (G : GG B h) (f : FnI B a i nm .none .none cd) (r : Room A (n + 1)) (ha : a ∉ tabs) (hcd : cd ∉ tabs)
    (hb : ∀ doc pm, bindArgs (fnOf nm nm (fArgs (stm i)) (fBody (stm i)) (fScope (stm i)) .none .none doc pm none (.ref cd) .none) ⟨pos, []⟩ = Pure.pure binds)
    (hkind : (binds.all fun y => (fScope (stm i)).names.lookup y.1 == some .local || (fScope (stm i)).names.lookup y.1 == some .cell) = true)
    (hk : (fScope (stm i)).kind = .function) (hco : (fScope (stm i)).isCoroutine = false) (hgen : (fScope (stm i)).isGenerator = false)
    (k : ∀ L h₁, h.objs.size ≤ L → (∀ W, Fm B h W L (bindL (envX nm (fScope (stm i)) L a (.ref cd) (cellsFrom (L + 1) (fScope (stm i)).names [])).kindOf binds fun _ => none) h₁) →
      (∀ x z, (cellsFrom (L + 1) (fScope (stm i)).names []).lookup x = some z → h₁.IsCell z (bindC (envX nm (fScope (stm i)) L a (.ref cd) (cellsFrom (L + 1) (fScope (stm i)).names [])).kindOf binds (fun _ => none) x)) →
      Room (A.deeper (envX nm (fScope (stm i)) L a (.ref cd) (cellsFrom (L + 1) (fScope (stm i)).names []))) n →
      Wp c (A.deeper (envX nm (fScope (stm i)) L a (.ref cd) (cellsFrom (L + 1) (fScope (stm i)).names []))) (execs (fBody (stm i)) (envX nm (fScope (stm i)) L a (.ref cd) (cellsFrom (L + 1) (fScope (stm i)).names []))) (fun f h' => Q (match f with | .ret v => v | _ => .none) h') h₁) :
    Wp c A (call (.ref a) pos []) Q h := fun tk => by
  obtain ⟨o, doc, pm, ho, hd, hrec⟩ := f
  refine wpAny_call (codeAny_call_cells (fd := fnOf nm nm (fArgs (stm i)) (fBody (stm i)) (fScope (stm i)) .none .none doc pm none (.ref cd) .none) (body := fBody (stm i)) (binds := binds)
    r.lim (G.ext.get _ _ ha ho) hd (G.lim T) ?_ rfl (hb doc pm) rfl (kindsX hkind _) (fun s₁ x => ?_) hco hgen hk)
  · obtain ⟨c', o', vs, t, e1, e2, e3⟩ := hrec
    exact ⟨c', o', vs, t, e1, G.ext.get _ _ (by cases e1; exact hcd) e2, e3⟩
  · obtain ⟨h₁, tk₁, rfl, hk₁⟩ := x.done
    have hsz : h.objs.size ≤ h₁.objs.size := Nat.le_of_lt x.toInCall.ns.lt
    have E : Ext [] h h₁ := ⟨hsz, fun b o _ e => hk₁ b o e⟩
    refine wpAny_mono (k h.objs.size h₁ (Nat.le_refl _) (fun W => ⟨G.grow E, x.toInCall.ns, hsz, fun b o _ _ e => hk₁ b o e, G.new (Nat.le_refl _)⟩) x.cell (r.deeper _) _) (fun f s ⟨h', tk', e, q⟩ => ?_) fun _ _ e => e.elim
    subst e
    exact ⟨h', tk', rfl, q⟩
theorem Wp.nameC {x : Str} {pos : Pos} {z : Addr} {v : Value} {Q : Value → Heap → Prop} (hk : env.scope.kind = .function) (hx : env.kindOf x = some .cell) (hz : env.cells.lookup x = some z) (hv : h.IsCell z (some v)) (q : Q v h)
    (hd : (x == ("__debug__" : Str)) = false := by decide) : Wp c A (eval (.Name x pos) env) Q h := fun tk => wpAny_Name (wpAny_loadName_cell hk hx hz hv ⟨h, tk, rfl, q⟩) hd
theorem Wp.nameF {x : Str} {pos : Pos} {z : Addr} {v : Value} {Q : Value → Heap → Prop} (hk : env.scope.kind = .function) (hx : env.kindOf x = some .free) (hz : env.cells.lookup x = some z) (hv : h.IsCell z (some v)) (q : Q v h)
    (hd : (x == ("__debug__" : Str)) = false := by decide) (hn : (x == ("__classdict__" : Str)) = false := by decide) : Wp c A (eval (.Name x pos) env) Q h := fun tk => wpAny_Name (wpAny_loadName_free hk hx hz hv ⟨h, tk, rfl, q⟩ hn) hd
theorem Wp.storeC {x : Str} {z : Addr} {v₀ : Option Value} {v : Value} {Q : Unit → Heap → Prop} (G : GG B h) (hB : B.get? z = none) (hk : env.scope.kind = .function) (hx : env.kindOf x = some .cell) (hz : env.cells.lookup x = some z) (hv : h.IsCell z v₀)
    (q : ∀ h', h'.IsCell z (some v) → Ext [z] h h' → GG B h' → Q () h') : Wp c A (storeName env x v) Q h := fun tk =>
  wpAny_storeName_cell hk hx hz hv fun h' hv' hs => ⟨h', _, rfl, q h' hv' (Ext.same hs) (by
    obtain ⟨o, ho, hd⟩ := hv
    exact G.turn (Ext.same hs) ho (fun vs => by rw [hd]; nofun) hB)⟩
end
theorem cell_ext {W : List Addr} {h h' : Heap} {z : Addr} {v : Option Value} (x : h.IsCell z v) (e : Ext W h h') (hz : z ∉ W) : h'.IsCell z v := let ⟨o, ho, hd⟩ := x; ⟨o, e.get _ _ hz ho, hd⟩
theorem TabQ.lt {h : Heap} {k P : Addr} {q : Str} (x : TabQ h k P q) : P < h.objs.size := let ⟨_, _, e, _⟩ := x; Heap.lt_size e
theorem GG.tabLt {B h : Heap} (G : GG B h) : ∀ b ∈ tabs, b < h.objs.size := by
  intro b hb
  simp only [tabs, List.mem_cons, List.not_mem_nil, or_false] at hb
  rcases hb with rfl | rfl | rfl | rfl
  · exact G.t1.lt
  · exact G.t2.lt
  · exact G.t3.lt
  · exact G.t4.lt
theorem GG.offT {B h : Heap} (G : GG B h) {a : Addr} (ha : h.objs.size ≤ a) : a ∉ tabs := fun q => Nat.lt_irrefl _ (Nat.lt_of_lt_of_le (G.tabLt a q) ha)
theorem Fm.ext' {B h₀ h h' : Heap} {W W' : List Addr} {L : Addr} {m : Str → Option Value} (S : Fm B h₀ W L m h) (e : Ext W' h h') (g : GG B h') (hW : ∀ b ∈ W', b ∈ W ∨ h₀.get? b = none) (hL : L ∉ W') : Fm B h₀ W L m h' :=
  ⟨g, let ⟨o, es, ep, q, r⟩ := S.ns; ⟨o, es, ep, e.get _ _ hL q, r⟩, Nat.le_trans S.size e.size, fun b o hb hl q => e.get b o (fun z => (hW b z).elim hb fun y => by rw [y] at q; cases q) (S.get b o hb hl q), S.new⟩
theorem IL.lt {h : Heap} {l : Addr} {ns : List Int} (x : IL h l ns) : l < h.objs.size := let ⟨_, q, _⟩ := x.some; Heap.lt_size q
section
variable {c : Cx} {A : Around} {h : Heap}
theorem Wp.truL {l : Addr} {ns : List Int} {Q : Bool → Heap → Prop} (x : IL h l ns) (hz : ns.length < 2 ^ 62) (q : Q (!ns.isEmpty) h) : Wp c A (truthy (.ref l)) Q h := fun tk => by
  obtain ⟨vs, y, z⟩ := x.isList
  have e : (vs.toArray.size : Int) = ns.length := by simp [z.len]
  refine wpAny_truthy_list y (by rw [e]; have : (ns.length : Int) < (2 : Int) ^ 62 := by exact_mod_cast hz
                                 exact ar42 hz) ?_
  have e2 : vs.toArray.isEmpty = ns.isEmpty := by
    have := z.len
    cases vs with
    | nil => cases ns with
      | nil => rfl
      | cons _ _ => simp at this
    | cons _ _ => cases ns with
      | nil => simp at this
      | cons _ _ => rfl
  rw [e2]; exact ⟨h, _, rfl, q⟩
end
end Mine
end

section
open PySem PySem.W PyProof.Rows
set_option maxRecDepth 100000
namespace Mine
noncomputable abbrev tupObj (vs : List Value) : Obj := { cls := .type "tuple", data := .seq vs.toArray }
theorem Ints.set : ∀ {vs : List Value} {ns : List Int} (x : Ints vs ns) (i : Nat) (n : Int) (t : Tok), Ints (vs.set i (.int n t)) (ns.set i n)
  | _, _, .nil, i, n, t => by simpa using IntsAre.nil
  | _, _, .cons k u r, 0, n, t => .cons n t r
  | _, _, .cons k u r, i + 1, n, t => .cons k u (Ints.set r i n t)
theorem Ints.rep (n : Int) (t : Tok) : ∀ k : Nat, Ints (List.replicate k (.int n t)) (List.replicate k n)
  | 0 => .nil
  | k + 1 => .cons n t (Ints.rep n t k)
section
variable {c : Cx} {A : Around} {h : Heap} {env : Env}
theorem Wp.listD {elts : List Expr} {pos : Pos} {Q : Value → Heap → Prop}
    (k : Wp c A (spliced (backTo pos (starEach elts env))) (fun vs h₁ => vs.length ≤ sizeLine ∧ Q (.ref h₁.objs.size) (h₁.push (lstObj vs 0))) h) : Wp c A (eval (.List elts pos) env) Q h := fun tk =>
  wpAny_List (k.go tk (fun vs h' tk' ⟨q1, q2⟩ => ⟨q1, _, _, rfl, q2⟩))
theorem Wp.tupD {elts : List Expr} {pos : Pos} {n : Nat} {Q : Value → Heap → Prop}
    (k : Wp c A (spliced (backTo pos (starEach elts env))) (fun vs h₁ => vs.length ≤ sizeLine ∧ Q (.ref h₁.objs.size) (h₁.push (tupObj vs))) h) : Wp c A (eval (.Tuple elts n pos) env) Q h := fun tk =>
  wpAny_Tuple (k.go tk (fun vs h' tk' ⟨q1, q2⟩ => ⟨q1, _, _, rfl, q2⟩))
theorem Wp.setS {o i value : Expr} {pos' pos : Pos} {Q : Flow → Heap → Prop}
    (k : Wp c A (eval value env) (fun v h₁ => Wp c A (eval o env) (fun ov h₂ => Wp c A (eval i env) (fun iv h₃ => Wp c A (setItem ov iv v) (fun _ h₄ => Q .next h₄) h₃) h₂) h₁) h)
    (hs : swapsWith value (some (.Subscript o i pos')) pos.line env = Pure.pure false := by rfl) : Wp c A (exec (.Assign [.Subscript o i pos'] value pos) env) Q h := fun tk => by
  refine wpAny_Assign_Subscript (k.go tk (fun v h₁ tk₁ q => ?_)) hs
  refine q.go tk₁ (fun v h₁ tk₁ q => ?_)
  refine q.go tk₁ (fun v h₁ tk₁ q => ?_)
  exact q tk₁
theorem Wp.setL {l : Addr} {ns : List Int} {k x : Int} {t u : Tok} {Q : Unit → Heap → Prop} (L : IL h l ns) (h0 : 0 ≤ k) (hj : k.toNat < ns.length) (hz : ns.length < 2 ^ 62)
    (q : ∀ h', IL h' l (ns.set k.toNat x) → Ext [l] h h' → Q () h') : Wp c A (setItem (.ref l) (.int k t) (.int x u)) Q h := fun tk => by
  obtain ⟨vs, n, ho, hi⟩ := L
  have hlen := hi.len
  have hl : (c.at h tk).heap.IsList l vs.toArray := ⟨_, ho, rfl, n, rfl⟩
  unfold setItem
  try with_reducible refine wpAny_holding ?_
  first | refine wpAny_bind (wpAny_pure ?_) | skip
  refine wpAny_bind (wpAny_sequenceKey hl.typeIs (by decide) ?_)
  refine wpAny_bind (wpAny_callSpecial?_slot (name := Str.ofString "__setitem__") hl.typeIs slot_list_setitem
    (wpAny_call_entry slot_list_setitem hl.typeIs entry_list_setitem ?_ (args_list_setitem _ _ _)))
  show wpAny _ _ (Builtin.List.listSubscript? (.int k t) >>= _) _ _ _
  refine wpAny_bind (wpAny_listSubscript_int (fitsIndex_of (by exact ar48 h0) (by exact ar49 hj hz)) ?_)
  obtain ⟨j, rfl⟩ := Int.eq_ofNat_of_zero_le h0
  rw [Int.toNat_natCast] at hj q
  have hj' : j < vs.toArray.size := by simp; exact ar50 hj hlen
  have hx' : vs.toArray[j]? = some vs.toArray[j] := Array.getElem?_eq_getElem hj'
  show wpAny _ _ ((seqItemAt l j >>= fun r => Pure.pure (r.map (j, ·))) >>= _) _ _ _
  refine wpAny_bind (wpAny_bind (wpAny_seqItemAt ho rfl (wpAny_pure ?_)))
  rw [hx']
  show wpAny _ _ (setSeqItemAt l j (.int x u) >>= _) _ _ _
  have e : (fun a : Array Value => a.setIfInBounds j (.int x u)) vs.toArray = (vs.set j (.int x u)).toArray := by simp
  obtain ⟨n', e'⟩ := mapSeq_lst (f := fun a : Array Value => a.setIfInBounds j (.int x u)) (n := n) e
  have hg := Heap.get?_update_self (f := Obj.mapSeq fun a : Array Value => a.setIfInBounds j (.int x u)) ho (by rw [e']; rfl)
  rw [e'] at hg
  have fin := q _ ⟨_, n', hg, hi.set j x u⟩ (Ext.same (Heap.SameBut.update ..))
  refine wpAny_bind (wpAny_setSeqItemAt ho rfl ?_)
  first
    | exact wpAny_bind (wpAny_pure (wpAny_pure ⟨.none, rfl, wpAny_pure ⟨_, tk, rfl, fin⟩⟩))
    | exact wpAny_pure ⟨.none, rfl, wpAny_pure ⟨_, tk, rfl, fin⟩⟩
theorem fold_rep (a : Value) : ∀ k : Nat, List.foldl (fun x1 x2 : Array Value => x1 ++ x2) #[] (List.replicate k #[a]) = (List.replicate k a).toArray := by
  have key : ∀ (k : Nat) (x : Array Value), List.foldl (fun x1 x2 : Array Value => x1 ++ x2) x (List.replicate k #[a]) = x ++ (List.replicate k a).toArray := by
    intro k
    induction k with
    | zero => intro x; simp
    | succ k ih => intro x; rw [List.replicate_succ, List.foldl_cons, ih, List.replicate_succ]; apply Array.ext'; simp
  intro k
  rw [key]; simp
theorem Wp.mulL {l : Addr} {a x : Int} {t u : Tok} {Q : Value → Heap → Prop} (ho : h.get? l = some (lstObj [.int a t] 0)) (h0 : 0 ≤ x) (hx : x < 2 ^ 20)
    (q : ∀ h', h' = h.push (lstObj (List.replicate x.toNat (.int a t)) 0) → Q (.ref h.objs.size) h') : Wp c A (binaryOp .Mult (.ref l) (.int x u)) Q h := fun tk =>
  wpAny_binaryOp_repeat_ref (T := "list") (U := "int") (by decide) ⟨_, ho, rfl⟩ (fun s' => typeIs_int s' x u) noFill_list_mul PySem.F.fills_int_mul PySem.F.slot_int_rmul repeat_list PySem.F.slot_int_index.lookup
    (call_meets PySem.F.slot_int_rmul (typeIs_int _ x u) PySem.F.entry_int_rmul (PySem.F.args_int_rmul_2 _ _) (int___rmul___int_list x u l [Value.int a t].toArray 0)
      ⟨ho, rfl, ⟨_, ho, rfl⟩, call_meets PySem.F.slot_list_mul ⟨_, ho, rfl⟩ PySem.F.entry_list_mul (PySem.F.args_list_mul_2 _ _)
        (PySem.AutoListH.list___mul___list_int_3 l [Value.int a t].toArray 0 x u (by simp [Builtin.List.listFitsIndex]; exact ar51 h0 hx) (by simp; exact ar52 hx) (by simp [Builtin.List.listTooLong, sizeLine]; exact ar53 hx))
        ⟨ho, _, _, rfl, q _ (by
          congr 1
          unfold lstObj
          congr 1
          have : (if ([Value.int a t].toArray).isEmpty = true then 0 else x.toNat) = x.toNat := by simp
          rw [this]
          exact congrArg (Data.seq · 0) (fold_rep _ _))⟩⟩)
end
end Mine
end

section
open PySem PySem.W PyProof.Rows
set_option maxRecDepth 100000
namespace Mine
theorem runs_size {M : Model} {Γ : Ctx} {p : Pos} {t : Sem Fin} {fs : List Frame} {s s' : Shared} {e : End} (h : Runs M Γ p t fs s e s') : s.heap.objs.size ≤ s'.heap.objs.size := by
  induction h <;> (try simp only [Shared.setGen, Heap.size_push, Heap.size_after_update] at *) <;> omega
theorem returns_size {M : Model} {Γ : Ctx} {p : Pos} {s s' : Shared} {r : Result} (h : Returns M Γ p s r s') : s.heap.objs.size ≤ s'.heap.objs.size := runs_size h
theorem wakes_size {M : Model} {Γ : Ctx} {p : Pos} {g : Nat} {r : Resume} {s s' : Shared} {res : GenResult} (h : Wakes M Γ p g r s res s') : s.heap.objs.size ≤ s'.heap.objs.size := by
  unfold Wakes at h
  split at h
  · exact h.elim
  · split at h
    · obtain ⟨e₁, s₁, hr, _, _, rfl⟩ := h; exact (runs_size hr : (s.setGen g .running).heap.objs.size ≤ s₁.heap.objs.size)
    · rw [h.2]; exact Nat.le_refl _
    · rw [h.2]; exact Nat.le_refl _
  · obtain ⟨e₁, s₁, hr, _, _, rfl⟩ := h; exact (runs_size hr : (s.setGen g .running).heap.objs.size ≤ s₁.heap.objs.size)
  · rw [h.2]; exact Nat.le_refl _
  · rw [h.2]; exact Nat.le_refl _
theorem wp_size {α : Type} (M : Model) (Γ : Ctx) (n : Nat) (t : Sem α) : ∀ (Q : α → Pos → Shared → Prop) (E : Value → Pos → Shared → Prop) (p : Pos) (s : Shared), n ≤ s.heap.objs.size → Sem.wp M Γ t Q E p s →
    Sem.wp M Γ t (fun a p' s' => n ≤ s'.heap.objs.size ∧ Q a p' s') (fun e p' s' => n ≤ s'.heap.objs.size ∧ E e p' s') p s := by
  induction t with
  | pure a => intro Q E p s hn h; exact ⟨hn, h⟩
  | raise e => intro Q E p s hn h; exact ⟨hn, h⟩
  | unsupported _ => intro Q E p s _ h; exact h
  | finish _ => intro Q E p s _ h; exact h
  | rule _ k ih => intro Q E p s hn h; exact ih () Q E p s hn h
  | «at» p' k ih => intro Q E p s hn h; exact ih () Q E p' s hn h
  | load a _ k ih => intro Q E p s hn h; obtain ⟨o, ho, h⟩ := h; exact ⟨o, ho, ih o Q E p s hn h⟩
  | update a _ f k ih => intro Q E p s hn h; exact ⟨h.1, ih () Q E p _ (by simp only [Heap.size_after_update]; exact hn) h.2⟩
  | loadIfAlive a k ih => intro Q E p s hn h; exact ih _ Q E p s hn h
  | point _ k ih => intro Q E p s hn h; exact ih () Q E p s hn h
  | register _ _ => intro Q E p s _ h; exact h
  | alloc o k ih => intro Q E p s hn h; exact ih _ Q E p _ (by simp only [Heap.size_push]; exact Nat.le_succ_of_le hn) h
  | fresh k ih => intro Q E p s hn h; exact ih _ Q E p _ hn h
  | ask k ih => intro Q E p s hn h; exact ih _ Q E p s hn h
  | choose src m k ih => intro Q E p s hn h; exact ⟨h.1, ih _ Q E p _ hn h.2⟩
  | os q _ k ih => intro Q E p s hn h; exact ih _ Q E p _ hn h
  | call c hd _ _ k ih => intro Q E p s hn h; obtain ⟨r, s', hr, h⟩ := h; exact ⟨r, s', hr, ih r Q E p s' (Nat.le_trans hn (returns_size hr)) h⟩
  | handled own k ih => intro Q E p s hn h; exact ih _ Q E p s hn h
  | genState g k ih => intro Q E p s hn h; obtain ⟨st, hs, h⟩ := h; exact ⟨st, hs, ih _ Q E p s hn h⟩
  | newGen c k ih => intro Q E p s hn h; exact ih _ Q E p _ hn h
  | resume g r _ k ih => intro Q E p s hn h; obtain ⟨res, s', hw, h⟩ := h; exact ⟨res, s', hw, ih res Q E p s' (Nat.le_trans hn (wakes_size hw)) h⟩
  | yield _ _ _ _ => intro Q E p s _ h; exact h
  | stack k ih => intro Q E p s hn h; exact ih _ Q E p s hn h
  | fork _ _ => intro Q E p s _ h; exact h
  | thread k ih => intro Q E p s hn h; exact ih _ Q E p s hn h
  | await _ _ _ _ _ => intro Q E p s _ h; exact h
section
variable {c : Cx} {A : Around} {α : Type} {h : Heap} {env : Env}
/-- a heap never grows smaller -/
theorem Wp.sized {t : Sem α} {Q : α → Heap → Prop} (x : Wp c A t (fun v h' => h.objs.size ≤ h'.objs.size → Q v h') h) : Wp c A t Q h := fun tk Γ p hΓ =>
  Sem.wp_mono _ Γ t (fun a p' s' ⟨hn, h', tk', e, q⟩ => ⟨h', tk', e, q (by subst e; exact hn)⟩) (fun e _ _ ⟨_, q⟩ => q) p _ (wp_size _ Γ h.objs.size t _ _ p _ (Nat.le_refl _) (x tk Γ p hΓ))

theorem ext_of_sized {h h₁ : Heap} (hs : h.objs.size ≤ h₁.objs.size) (he : Heap.ExtBut h.objs.size h h₁) : Ext [] h h₁ :=
  ⟨hs, fun b o _ e => he b o (fun q => by subst q; exact absurd (Heap.lt_size e) (Nat.lt_irrefl _)) e⟩
theorem Wp.unpackI {T : Addr} {vs : List Value} {n : Nat} {Q : List Value → Heap → Prop} (hh : A.handled = none) (ho : h.IsTuple T vs.toArray) (hn : n = vs.length) (q : ∀ h₂, Ext [] h h₂ → Q vs h₂) :
    Wp c A (unpackItems (.ref T) n none) Q h := by
  refine Wp.sized fun tk => ?_
  subst hn
  have := wpAny_unpackItems_tuple (prog := c.prog) (w := c.w) (A := A) (E := fun _ _ => False) (s := c.at h tk) (t := T) (items := vs.toArray) (Q := fun v s' => ∃ h' tk', s' = c.at h' tk' ∧ (h.objs.size ≤ h'.objs.size → Q v h')) hh ho
    (fun h' he => ⟨h', tk, rfl, fun hs => q h' (ext_of_sized hs he)⟩)
  simpa using this
/-- what a pair asks -/
inductive UpK (F : Value → Value → Heap → Prop) (v : Value) (h₁ : Heap) : Prop
  | mk (T : Addr) (a b : Value) (e : v = .ref T) (ho : h₁.get? T = some (tupObj [a, b])) (q : ∀ h₂, Ext [] h₁ h₂ → F a b h₂) : UpK F v h₁
noncomputable abbrev KupF (c : Cx) (A : Around) (env : Env) (x y : Str) (Q : Flow → Heap → Prop) : Value → Value → Heap → Prop := fun a b h₂ => Wp c A (storeName env x a) (fun _ h₃ => Wp c A (storeName env y b) (Knxt Q) h₃) h₂
noncomputable abbrev KupS (c : Cx) (A : Around) (env : Env) (x y : Str) (Q : Flow → Heap → Prop) : Value → Value → Heap → Prop := fun a b h₂ => Wp c A (storeName env y b) (fun _ h₃ => Wp c A (storeName env x a) (Knxt Q) h₃) h₂
/-- a pair is unpacked into two names -/
theorem Wp.asg2 {x y : Str} {px py tpos : Pos} {k : Nat} {T : Addr} {a b : Value} {Q : Unit → Heap → Prop} (hh : A.handled = none) (ho : h.IsTuple T [a, b].toArray)
    (q : ∀ h₂, Ext [] h h₂ → Wp c A (storeName env x a) (fun _ h₃ => Wp c A (storeName env y b) Q h₃) h₂) : Wp c A (PySem.assign (.Tuple [.Name x px, .Name y py] k tpos) env (.ref T)) Q h := fun tk => by
  rw [arm_assign_Tuple]
  refine wpAny_bind (wpAny_standAt ?_)
  show wpAny _ _ (unpackItems (.ref T) 2 none |> holding [.ref T] |> (· >>= fun items => assignInOrder [PySem.assign (.Name x px) env, PySem.assign (.Name y py) env] items)) _ _ _
  refine wpAny_bind (wpAny_holding ((Wp.unpackI (A := A) (vs := [a, b]) (Q := fun vs h₂ => vs = [a, b] ∧ Ext [] h h₂) hh ho rfl (fun h₂ e => ⟨rfl, e⟩)).go tk (fun vs h₂ tk₂ ⟨ev, ex⟩ => ?_)))
  subst ev
  refine assignInOrder_cons (wpAny_assign_Name ((q h₂ ex).go tk₂ (fun _ h₃ tk₃ q => ?_)))
  exact assignInOrder_cons (wpAny_assign_Name (wpAny_mono (q tk₃) (fun _ s z => assignInOrder_nil z) fun _ _ e => e))
theorem Wp.unpack2 {x y : Str} {px py tpos pos : Pos} {k : Nat} {value : Expr} {Q : Flow → Heap → Prop} (hh : A.handled = none)
    (q : Wp c A (eval value env) (UpK (KupF c A env x y Q)) h)
    (hs : swapsWithSole [.Tuple [.Name x px, .Name y py] k tpos] value pos.line env = Pure.pure false := by rfl)
    (hw : swappedStores [.Tuple [.Name x px, .Name y py] k tpos] value env = Pure.pure none := by rfl) :
    Wp c A (exec (.Assign [.Tuple [.Name x px, .Name y py] k tpos] value pos) env) Q h := fun tk => by
  refine PyProof.Rows.Assign_Tuple (q.go tk (fun v h₁ tk₁ ⟨T, a, b, ev, ho, q⟩ => ?_)) hs hw
  subst ev
  exact Wp.asg2 hh ⟨_, ho, rfl, 0, rfl⟩ q tk₁
/-- the same where the pair is written out: the stores go backwards -/
theorem Wp.unpack2s {x y : Str} {px py tpos pos : Pos} {k : Nat} {value : Expr} {Q : Flow → Heap → Prop} (hh : A.handled = none)
    (q : Wp c A (eval value env) (UpK (KupS c A env x y Q)) h)
    (hs : swapsWithSole [.Tuple [.Name x px, .Name y py] k tpos] value pos.line env = Pure.pure false := by rfl)
    (hw : swappedStores [.Tuple [.Name x px, .Name y py] k tpos] value env = Pure.pure (some [x, y]) := by rfl) :
    Wp c A (exec (.Assign [.Tuple [.Name x px, .Name y py] k tpos] value pos) env) Q h := fun tk => by
  refine PyProof.Rows.Assign_Tuple_swapped (names := [x, y]) (q.go tk (fun v h₁ tk₁ ⟨T, a, b, ev, ho, q⟩ => ?_)) hs hw
  subst ev
  refine (Wp.unpackI (A := A) (vs := [a, b]) (Q := fun vs h₂ => vs = [a, b] ∧ Ext [] h₁ h₂) hh ⟨_, ho, rfl, 0, rfl⟩ rfl (fun h₂ e => ⟨rfl, e⟩)).go tk₁ (fun vs h₂ tk₂ ⟨ev, ex⟩ => ?_)
  subst ev
  refine assignInOrder_cons (bindName_ ((q h₂ ex).go tk₂ (fun _ h₃ tk₃ q => ?_)))
  exact assignInOrder_cons (bindName_ (wpAny_mono (q tk₃) (fun _ s z => assignInOrder_nil z) fun _ _ e => e))
theorem Wp.divmodI {a b : Int} {t u : Tok} {Q : Value → Heap → Prop} (hb : b ≠ 0) (hp : Builtin.divisionGoesByPylong a b = false) (q : ∀ t u, Q (.ref h.objs.size) (h.push (tupObj [.int (a.fdiv b) t, .int (a.fmod b) u]))) :
    Wp c A (call (.builtin "divmod") [.int a t, .int b u] []) Q h := fun tk => divmod_int hb ⟨_, _, rfl, q _ _⟩ (Or.inl hp)
end
section
variable {c : Cx} {A : Around} {B h : Heap} {mg mb : Str → Option Value}
/-- the same, with the frame's place told -/
theorem Wp.enterS {a i : Nat} {nm : Str} {dV kV : Value} {cd : Addr} {pos : List Value} {kw : List (Str × Value)} {binds : List (Str × Value)} {Q : Value → Heap → Prop} {n : Nat}
    (T : TopAt B mg mb) (G : GG B h) (f : FnI B a i nm dV kV cd) (r : Room A (n + 1)) (ha : a ∉ tabs) (hcd : cd ∉ tabs)
    (hb : ∀ doc pm tk, BindsTo (c.at h tk) (fnOf nm nm (fArgs (stm i)) (fBody (stm i)) (fScope (stm i)) dV kV doc pm none (.ref cd) .none) ⟨pos, kw⟩ binds)
    (hcell : (fScope (stm i)).names.all (fun x => x.2 != .cell) = true) (hloc : (binds.all fun x => decide ((fScope (stm i)).names.lookup x.1 = some .local)) = true)
    (hk : (fScope (stm i)).kind = .function) (hco : (fScope (stm i)).isCoroutine = false) (hgen : (fScope (stm i)).isGenerator = false)
    (k : ∀ L h₁, h.objs.size ≤ L → (∀ W, Fm B h W L (fun x => binds.reverse.lookup x) h₁) → Room (A.deeper (envX nm (fScope (stm i)) L a (.ref cd) [])) n →
      Wp c (A.deeper (envX nm (fScope (stm i)) L a (.ref cd) [])) (execs (fBody (stm i)) (envX nm (fScope (stm i)) L a (.ref cd) [])) (fun f h' => Q (match f with | .ret v => v | _ => .none) h') h₁) :
    Wp c A (call (.ref a) pos kw) Q h := fun tk => by
  obtain ⟨o, doc, pm, ho, hd, hrec⟩ := f
  refine wpAny_call (codeAny_call_def (fd := fnOf nm nm (fArgs (stm i)) (fBody (stm i)) (fScope (stm i)) dV kV doc pm none (.ref cd) .none) (body := fBody (stm i)) (binds := binds)
    r.lim (G.ext.get _ _ ha ho) hd (G.lim T) ?_ rfl (hb doc pm tk) ?_ (locs hloc) (fun h₁ hn hk₁ => ?_) hco hgen hk)
  · obtain ⟨c', o', vs, t, e1, e2, e3⟩ := hrec
    exact ⟨c', o', vs, t, e1, G.ext.get _ _ (by cases e1; exact hcd) e2, e3⟩
  · intro x hx e
    have := List.all_eq_true.mp hcell x hx
    rw [e] at this
    cases this
  · have hsz : h.objs.size ≤ h₁.objs.size := Nat.le_of_lt hn.lt
    have E : Ext [] h h₁ := ⟨hsz, fun b o _ e => hk₁ b o e⟩
    refine wpAny_mono (k h.objs.size h₁ (Nat.le_refl _) (fun W => ⟨G.grow E, hn, hsz, fun b o _ _ e => hk₁ b o e, G.new (Nat.le_refl _)⟩) (r.deeper _) _) (fun f s ⟨h', tk', e, q⟩ => ?_) fun _ _ e => e.elim
    subst e
    exact ⟨h', tk', rfl, q⟩
end
end Mine
end

section
open PySem PySem.W PyProof.Rows
set_option maxRecDepth 100000
namespace Mine
theorem reads_ints {h : Heap} : ∀ {vs : List Value} {ns : List Int}, Ints vs ns → ReadsAll h vs (ns.map .int) []
  | _, _, .nil => .nil
  | _, _, .cons n t r => .cons (as := []) (.int n t) (reads_ints r)
theorem lay_ints : ∀ ns : List Int, PyData.canLayAll0 (ns.map .int) = true
  | [] => rfl
  | n :: r => by rw [List.map_cons, PyData.canLayAll0, lay_ints r]; rfl
theorem depth_ints : ∀ ns : List Int, PyData.depthAll (ns.map .int) = 0
  | [] => rfl
  | n :: r => by rw [List.map_cons, PyData.depthAll, depth_ints r]; rfl
theorem eqv_ints : ∀ ns ms : List Int, PyData.eqvAll (ns.map .int) (ms.map .int) = decide (ns = ms)
  | [], [] => rfl
  | n :: r, m :: q => by
    rw [List.map_cons, List.map_cons, PyData.eqvAll, eqv_ints r q]
    rw [Bool.eq_iff_iff]; simp [PyData.eqv]
  | [], m :: q => by simp [PyData.eqvAll]
  | n :: r, [] => by simp [PyData.eqvAll]
section
variable {c : Cx} {A : Around} {h : Heap} {env : Env} {Q : Value → Heap → Prop}
theorem IL.reads {l : Addr} {ns : List Int} (x : IL h l ns) : Reads h (.ref l) (.list (ns.map .int)) [l] := by
  obtain ⟨vs, n, ho, hi⟩ := x
  exact .list ho rfl rfl (by rw [List.toList_toArray]; exact reads_ints hi)
theorem Wp.eqL {l m : Addr} {ns ms : List Int} (x : IL h l ns) (y : IL h m ms) (hu : A.units < 9000) (q : Q (.bool (decide (ns = ms))) h) : Wp c A (compareOp .Eq (.ref l) (.ref m)) Q h := fun tk =>
  SeqAt.compareEq_reads x.reads y.reads (lay_ints _) (lay_ints _) (by rw [PyData.depth, depth_ints]; exact Nat.lt_of_le_of_lt (Nat.add_le_add_left (Nat.min_le_left _ _) _) (by show A.units + 1 < 9900; exact ar54 hu)) ⟨h, tk, rfl, by rw [PyData.eqv, eqv_ints]; exact q⟩
theorem Wp.neL {l m : Addr} {ns ms : List Int} (x : IL h l ns) (y : IL h m ms) (hu : A.units < 9000) (q : Q (.bool (!decide (ns = ms))) h) : Wp c A (compareOp .NotEq (.ref l) (.ref m)) Q h := fun tk =>
  SeqAt.compareNe_reads x.reads y.reads (lay_ints _) (lay_ints _) (by rw [PyData.depth, depth_ints]; exact Nat.lt_of_le_of_lt (Nat.add_le_add_left (Nat.min_le_left _ _) _) (by show A.units + 1 < 9900; exact ar54 hu)) ⟨h, tk, rfl, by rw [PyData.eqv, eqv_ints]; exact q⟩
theorem Wp.neT {l m : Addr} {vs ws : List Value} {ns ms : List Int} (x : h.get? l = some (tupObj vs)) (hi : Ints vs ns) (y : h.get? m = some (tupObj ws)) (hj : Ints ws ms) (hu : A.units < 9000) (q : Q (.bool (!decide (ns = ms))) h) :
    Wp c A (compareOp .NotEq (.ref l) (.ref m)) Q h := fun tk =>
  SeqAt.compareNe_reads (da := .tuple (ns.map .int)) (db := .tuple (ms.map .int)) (.tuple x rfl rfl (by rw [List.toList_toArray]; exact reads_ints hi)) (.tuple y rfl rfl (by rw [List.toList_toArray]; exact reads_ints hj)) (lay_ints _) (lay_ints _)
    (by rw [PyData.depth, depth_ints]; exact Nat.lt_of_le_of_lt (Nat.add_le_add_left (Nat.min_le_left _ _) _) (by show A.units + 1 < 9900; exact ar54 hu)) ⟨h, tk, rfl, by rw [PyData.eqv, eqv_ints]; exact q⟩
theorem Wp.isB {x y : Bool} (q : Q (.bool (x == y)) h) : Wp c A (compareOp .Is (.bool x) (.bool y)) Q h := fun tk => wpAny_is_plain rfl ⟨h, tk, rfl, by cases x <;> cases y <;> exact q⟩
theorem Wp.isNotB {x y : Bool} (q : Q (.bool (!(x == y))) h) : Wp c A (compareOp .IsNot (.bool x) (.bool y)) Q h := fun tk => wpAny_isNot_plain rfl ⟨h, tk, rfl, by cases x <;> cases y <;> exact q⟩
/-- Walks of the library are turns told of heaps -/
theorem It.walks {I : Addr} {fp wr : List Addr} {n : Nat} {P : Nat → Value → Prop} {St : Nat → Heap → Prop} (W : Walks c.prog c.w A I fp wr n P St) : It c A I n P St wr where
  item := fun i h Q hi st k => Wp.sized fun tk => W.item i _ _ _ hi st fun v h' tk' p st' e => ⟨h', tk', rfl, fun hs => k v h' p st' ⟨hs, e⟩⟩
  done := fun h Q st k => Wp.sized fun tk => W.done _ _ _ st fun h' tk' e => ⟨h', tk', rfl, fun hs => k h' ⟨hs, e⟩⟩
/-- no record of a code -/
noncomputable def NoCode (o : Obj) : Prop := o.cls ≠ .type "code" ∧ ∀ vs q t, o.data = .fields vs → vs[1]? ≠ some (.str q t)
theorem codeRec_turn {h h' : Heap} {cd : Value} {q : Str} {a : Addr} {oa : Obj} (x : h.CodeRec cd q) (e : Ext [a] h h') (ha : h.get? a = some oa) (hn : NoCode oa) : h'.CodeRec cd q :=
  let ⟨c, o, vs, t, ec, g, d, r⟩ := x
  ⟨c, o, vs, t, ec, e.get _ _ (by intro z; rw [List.mem_singleton.mp z, ha] at g; cases g; exact hn.2 _ _ _ d r) g, d, r⟩
theorem TabQ.turnI {h h' : Heap} {k P a : Addr} {oa : Obj} {q : Str} (x : TabQ h k P q) (e : Ext [a] h h') (ha : h.get? a = some oa) (hn : NoCode oa) (hP : a ≠ P) : TabQ h' k P q := by
  obtain ⟨⟨o, vs, file, tf, flags, tg, inF, text, tt, g, r1, r⟩, ps, x2, x3, x4⟩ := x
  refine ⟨⟨o, vs, file, tf, flags, tg, inF, text, tt, e.get _ _ (by intro z; rw [List.mem_singleton.mp z, ha] at g; cases g; exact hn.1 r1) g, r1, r⟩, ps, e.get _ _ (fun z => hP (List.mem_singleton.mp z).symm) x2, x3, fun pos cv y => codeRec_turn (x4 pos cv y) e ha hn⟩
/-- an iterator is turned -/
theorem GG.turnI {B h h' : Heap} {a : Addr} {oa : Obj} (x : GG B h) (e : Ext [a] h h') (ha : h.get? a = some oa) (hn : NoCode oa) (hB : B.get? a = none) (hT : a ∉ tabs) : GG B h' := by
  simp only [tabs, List.mem_cons, List.not_mem_nil, or_false, not_or] at hT
  refine ⟨⟨Nat.le_trans x.ext.size e.size, fun b o hb q => e.get b o (by intro z; rw [List.mem_singleton.mp z, hB] at q; cases q) (x.ext.get b o hb q)⟩, x.t1.turnI e ha hn hT.1, x.t2.turnI e ha hn hT.2.1, x.t3.turnI e ha hn hT.2.2.1, x.t4.turnI e ha hn hT.2.2.2⟩
/-- a source of ints: the iterator it, whose turns give xs; it keeps when what's below the heap's size is kept -/
inductive Src (c : Cx) (A : Around) (h₂ : Heap) (I : Nat) (fp : List Nat) (xs : List Int) : Prop
  | mk (St : Nat → Heap → Prop) (W : It c A I xs.length (fun i v => ∃ n t, xs[i]? = some n ∧ v = .int n t) St [I]) (st : St 0 h₂) (lt : I < h₂.objs.size) (fpl : ∀ b ∈ fp, b < h₂.objs.size)
    (fr : ∀ i h h', St i h → (∀ b ∈ fp, ∀ o, h.get? b = some o → h'.get? b = some o) → St i h')
    (self : ∀ h (Q : Value → Heap → Prop), St 0 h → Q (.ref I) h → Wp c A (pyIter (.ref I)) Q h) (no : ∀ i h, St i h → ∃ o, h.get? I = some o ∧ NoCode o) : Src c A h₂ I fp xs
theorem Src.walks {I : Addr} {fp : List Nat} {n : Nat} {P : Nat → Value → Prop} {St : Nat → Heap → Prop} {xs : List Int} (W : Walks c.prog c.w A I fp [I] n P St) (hn : xs.length = n) (hP : ∀ i v, i < n → P i v → ∃ n t, xs[i]? = some n ∧ v = .int n t)
    (st : St 0 h) (hI : I < h.objs.size) (hfp : ∀ b ∈ fp, b < h.objs.size) (hno : ∀ i h, St i h → ∃ o, h.get? I = some o ∧ NoCode o) : Src c A h I fp xs := by
  have I0 := It.walks W
  refine ⟨St, ⟨fun i h Q hi st k => I0.item i h Q (hn ▸ hi) st fun v h' p => k v h' (hP i v (hn ▸ hi) p), fun h Q st k => I0.done h Q (hn ▸ st) k⟩, st, hI, hfp, fun i h h' st k => W.frame i h h' st k, fun h Q st q tk => W.self 0 _ _ _ st ⟨h, tk, rfl, q⟩, hno⟩
theorem Wp.iterL {l : Addr} {xs : List Int} (hh : A.handled = none) (x : IL h l xs) (q : ∀ h', Ext [] h h' → Src c A h' h.objs.size [h.objs.size, l] xs → Q (.ref h.objs.size) h') : Wp c A (pyIter (.ref l)) Q h := fun tk => by
  obtain ⟨vs, n, ho, hi⟩ := x
  have hl : h.IsList l vs.toArray := ⟨_, ho, rfl, n, rfl⟩
  have hlt : l < h.objs.size := Heap.lt_size ho
  refine wpAny_pyIter_list hl ⟨_, tk, rfl, q _ (Ext.push _ _) ?_⟩
  refine Src.walks (Walks.list hh h.objs.size l (Nat.ne_of_lt hlt) vs.toArray) (by simp [hi.len]) (fun i v hi' p => ?_) ⟨⟨_, Heap.get?_push_size _ rfl, rfl, rfl⟩, hl.push _⟩ (by rw [Heap.size_push]; exact Nat.lt_succ_self _) (fun b hb => ?_) (fun i h st => by obtain ⟨⟨o, ho, hc, hd⟩, _⟩ := st; exact ⟨o, ho, by rw [hc]; decide, fun vs q t e => by rw [hd] at e; cases e; simp⟩)
  · have hlen := hi.len
    have : i < xs.length := by simpa [hlen] using hi'
    obtain ⟨t, ht⟩ := hi.at (i := i) (n := xs[i]) (by simp)
    refine ⟨xs[i], t, by simp, ?_⟩
    have p' : vs[i]? = some v := by simpa using p
    rw [ht] at p'; cases p'; rfl
  · rw [Heap.size_push]
    rcases List.mem_cons.mp hb with rfl | hb
    · exact Nat.lt_succ_self _
    · rw [List.mem_singleton.mp hb]; exact Nat.lt_succ_of_lt hlt
theorem Wp.iterRev {l : Addr} {xs : List Int} (hh : A.handled = none) (x : IL h l xs) (q : ∀ h', Ext [] h h' → Src c A h' h.objs.size [h.objs.size, l] xs.reverse → Q (.ref h.objs.size) h') : Wp c A (call (.type "reversed") [.ref l] []) Q h := fun tk => by
  obtain ⟨vs, n, ho, hi⟩ := x
  have hl : h.IsList l vs.toArray := ⟨_, ho, rfl, n, rfl⟩
  have hlt : l < h.objs.size := Heap.lt_size ho
  refine call_reversed_list hl ⟨_, tk, rfl, q _ (Ext.push _ _) ?_⟩
  refine Src.walks (Walks.listRev hh h.objs.size l (Nat.ne_of_lt hlt) vs.toArray) (by simp [hi.len]) (fun i v hi' p => ?_) ⟨Nat.zero_le _, ⟨_, Heap.get?_push_size _ rfl, rfl, by simp [revObj]⟩, hl.push _⟩ (by rw [Heap.size_push]; exact Nat.lt_succ_self _) (fun b hb => ?_) (fun i h st => by obtain ⟨_, ⟨o, ho, hc, hd⟩, _⟩ := st; exact ⟨o, ho, by rw [hc]; decide, fun vs q t e => by rw [hd] at e; cases e; simp [rawInt]⟩)
  · have hlen := hi.len
    have hi2 : i < xs.length := by simpa [hlen] using hi'
    obtain ⟨t, ht⟩ := hi.at (i := xs.length - 1 - i) (n := xs[xs.length - 1 - i]) (by simp)
    refine ⟨xs[xs.length - 1 - i], t, by rw [List.getElem?_reverse hi2]; simp, ?_⟩
    have p' : vs[xs.length - 1 - i]? = some v := by simpa [hlen] using p
    rw [ht] at p'; cases p'; rfl
  · rw [Heap.size_push]
    rcases List.mem_cons.mp hb with rfl | hb
    · exact Nat.lt_succ_self _
    · rw [List.mem_singleton.mp hb]; exact Nat.lt_succ_of_lt hlt
/-- the ints from a, n of them, d apart -/
noncomputable def ramp (a d : Int) : Nat → List Int
  | 0 => []
  | n + 1 => a :: ramp (a + d) d n
theorem ramp_len (d : Int) : ∀ (n : Nat) (a : Int), (ramp a d n).length = n
  | 0, _ => rfl
  | n + 1, a => by rw [ramp, List.length_cons, ramp_len d n]
theorem ramp_at (d : Int) : ∀ (n : Nat) (a : Int) (i : Nat), i < n → (ramp a d n)[i]? = some (a + i * d)
  | n + 1, a, 0, _ => by simp [ramp]
  | n + 1, a, i + 1, h => by
    rw [ramp, List.getElem?_cons_succ, ramp_at d n (a + d) i (by exact ar56 h)]
    congr 1
    push_cast
    rw [Int.add_mul, Int.one_mul, Int.add_assoc, Int.add_comm d]
theorem Wp.iterR {r : Addr} {a b d : Int} {t u v : Tok} {n : Nat} (hh : A.handled = none) (hr : IsRange h r a b d t u v) (hsmall : Builtin.Range.small a b d = true) (hn : Builtin.Range.rangeSize a b d = n)
    (q : ∀ h', Ext [] h h' → Src c A h' h.objs.size [h.objs.size] (ramp a d n) → Q (.ref h.objs.size) h') : Wp c A (pyIter (.ref r)) Q h := fun tk => by
  refine wpAny_pyIter_range hr hsmall ⟨_, tk, rfl, q _ (Ext.push _ _) ?_⟩
  refine Src.walks (Walks.range hh h.objs.size a d n) (ramp_len _ _ _) (fun i v hi p => ?_) ?_ (by rw [Heap.size_push]; exact Nat.lt_succ_self _) (fun b hb => ?_) (fun i h st => ⟨_, st, (show Value.type "range_iterator" ≠ Value.type "code" by decide), fun vs q t e => by cases e; simp [rawInt]⟩)
  · obtain ⟨t, rfl⟩ := p
    exact ⟨_, t, ramp_at d n a i hi, rfl⟩
  · rw [hn]
    simp only [Int.natCast_zero, Int.zero_mul, Int.add_zero, Int.sub_zero]
    exact Heap.get?_push_size _ rfl
  · rw [Heap.size_push, List.mem_singleton.mp hb]; exact Nat.lt_succ_self _
theorem Wp.range1 {n : Int} {t : Tok} (q : ∀ h' t u v, IsRange h' h.objs.size 0 n 1 t u v → Ext [] h h' → h'.objs.size = h.objs.size + 1 → Q (.ref h.objs.size) h') : Wp c A (call (.type "range") [.int n t] []) Q h := fun tk =>
  call_range_1 ⟨_, _, rfl, q _ _ _ _ (Heap.get?_push_size _ rfl) (Ext.push _ _) (Heap.size_push ..)⟩
theorem Wp.range2 {a b : Int} {t u : Tok} (q : ∀ h' t u v, IsRange h' h.objs.size a b 1 t u v → Ext [] h h' → h'.objs.size = h.objs.size + 1 → Q (.ref h.objs.size) h') : Wp c A (call (.type "range") [.int a t, .int b u] []) Q h := fun tk =>
  call_range_2 ⟨_, _, rfl, q _ _ _ _ (Heap.get?_push_size _ rfl) (Ext.push _ _) (Heap.size_push ..)⟩
theorem Wp.range3 {a b d : Int} {t u v : Tok} (hd : d ≠ 0) (hp : d.natAbs < 1073741824) (q : ∀ h' t u v, IsRange h' h.objs.size a b d t u v → Ext [] h h' → h'.objs.size = h.objs.size + 1 → Q (.ref h.objs.size) h') :
    Wp c A (call (.type "range") [.int a t, .int b u, .int d v] []) Q h := fun tk =>
  call_range_3 hd ⟨_, _, rfl, q _ _ _ _ (Heap.get?_push_size _ rfl) (Ext.push _ _) (Heap.size_push ..)⟩ (Or.inl (PyProof.noPylong_small hp))
end
end Mine
end

section
open PySem PySem.W PyProof.Rows
set_option maxRecDepth 100000
namespace Mine
theorem wp_noRaise {M : Model} {A : Around} {α : Type} {t : Sem α} {Q : α → Shared → Prop} {E : Value → Shared → Prop} {s : Shared} (x : wpAny M A t Q (fun _ _ => False) s) : wpAny M A t Q E s := wpAny_mono x (fun _ _ q => q) fun _ _ e => e.elim
theorem off1 {a b : Nat} (h : a < b ∨ b < a) : a ∉ [b] := by simp; exact ar2 h
theorem ne_new {h : Heap} {b : Addr} {o : Obj} {n : Nat} (e : h.get? b = some o) (hn : h.objs.size ≤ n) : b ≠ n := Nat.ne_of_lt (Nat.lt_of_lt_of_le (Heap.lt_size e) hn)
theorem nin_new {h : Heap} {b : Addr} {o : Obj} {n : Nat} (e : h.get? b = some o) (hn : h.objs.size ≤ n) : b ∉ [n] := by
  intro q
  exact ne_new e hn (List.mem_singleton.mp q)
theorem nltg {a b : Nat} (h : a < b ∨ b < a) : a ≠ b := by exact ar2 h
section
variable {c : Cx} {A : Around} {h : Heap} {env : Env}
/-- the tests of a comprehension -/
noncomputable abbrev tests (ifs : List Expr) (env : Env) : Sem Bool := forIn ifs true fun c r => if r = true then do let ok ← isTrue c env (eval c env); Pure.pure (ForInStep.yield ok) else Pure.pure (ForInStep.yield r)
theorem Wp.tests0 {Q : Bool → Heap → Prop} (q : Q true h) : Wp c A (tests [] env) Q h := Wp.pure q
theorem Wp.tests1 {e : Expr} {Q : Bool → Heap → Prop} (q : Wp c A (isTrue e env (eval e env)) Q h) : Wp c A (tests [e] env) Q h := by
  unfold tests
  rw [List.forIn_cons]
  refine Wp.bind ?_
  rw [if_pos rfl]
  exact Wp.bind (q.mono fun b h' q => Wp.pure (Wp.pure q))
/-- the loop of a list comprehension, one name a turn -/
theorem Cp.compIt {elt iter : Expr} {x : Str} {px : Pos} {ifs : List Expr} {scope : Scope} {pos : Pos} {Q : Flow → Heap → Prop} {I D : Addr} {n : Nat} {P : Nat → Value → Prop} {St : Nat → Heap → Prop} {wr : List Addr}
    (W : It c A I n P St wr) (J : Nat → Heap → Prop) (h0 : J 0 h) (hst : ∀ i h, J i h → St i h)
    (turn : ∀ i h v h', i < n → J i h → P i v → St (i + 1) h' → Ext wr h h' → Wp c A (storeName env x v) (fun _ h₂ => Wp c A (tests ifs env) (fun ok h₃ =>
      if ok then Wp c A (eval elt env) (fun y h₄ => Wp c A (call (.builtin "list.append") [.ref D, y] []) (fun _ h₅ => J (i + 1) h₅) h₄) h₃ else J (i + 1) h₃) h₂) h')
    (fin : ∀ h h', J n h → Ext wr h h' → Q .next h') : Cp c A (.compLoop (.ListComp elt [⟨.Name x px, iter, ifs, 0⟩] scope pos) 0 (.ref I) (.ref D) env) Q h := fun tk => by
  refine codeAny_compLoop_tests (fun k s => ∃ i h' tk', s = c.at h' tk' ∧ J i h' ∧ i ≤ n ∧ k = n + 1 - i) (fun k s ⟨i, h', tk', e, hJ, hi, hk⟩ => ?_) (n + 1) ⟨0, h, tk, rfl, h0, Nat.zero_le _, rfl⟩
  subst e
  by_cases hlt : i < n
  · refine (W.item i h' (fun r h₁ => ∃ v, r = some v ∧ P i v ∧ St (i + 1) h₁ ∧ Ext wr h' h₁) hlt (hst i h' hJ) (fun v h₁ p s e => ⟨v, rfl, p, s, e⟩)).go tk' (fun r h₁ tk₁ ⟨v, er, p, st, ex⟩ => ?_)
    subst er
    refine (Wp.asg (turn i h' v h₁ hlt hJ p st ex)).go tk₁ (fun _ h₂ tk₂ q => ?_)
    refine q.go tk₂ (fun ok h₃ tk₃ q => ?_)
    cases ok with
    | false => exact ⟨n + 1 - (i + 1), by omega, i + 1, h₃, tk₃, rfl, q, hlt, rfl⟩
    | true =>
      refine q.go tk₃ (fun y h₄ tk₄ q => ?_)
      refine q.go tk₄ (fun _ h₅ tk₅ q => ?_)
      exact ⟨n + 1 - (i + 1), by omega, i + 1, h₅, tk₅, rfl, q, hlt, rfl⟩
  · obtain rfl : i = n := by omega
    refine (W.done h' (fun r h₁ => r = none ∧ Ext wr h' h₁) (hst i h' hJ) (fun h₁ e => ⟨rfl, e⟩)).go tk' (fun r h₁ tk₁ ⟨er, ex⟩ => ?_)
    subst er
    exact ⟨_, h₁, tk₁, rfl, rfl, fin h' h₁ hJ ex⟩
/-- what a comprehension makes before its loop: the list D, the names C -/
theorem Wp.compMake {elt target iter : Expr} {ifs : List Expr} {scope : Scope} {cl : List (Str × Addr)} {pos : Pos} {use : Option (Value → Sem Unit)} {Q : Value → Heap → Prop}
    (hclos : closureFor scope env = Pure.pure cl) (hcell : scope.names.all (fun x => x.2 != .cell) = true) (hkind : scope.kind = .function)
    (hnames : ∀ y ∈ scope.names, y.2 = .local → scope.names.lookup y.1 = some .local) (hs : ∀ x, foldedSetIterable iter env x = Pure.pure x)
    (k : Wp c A (eval iter env) (fun xv h₁ => Wp c A (pyIter xv) (fun it h₂ => ∀ D h₃, h₂.objs.size = D → h₃.objs.size = D + 2 → Ext [] h₂ h₃ → IL h₃ D [] → h₃.Ns (D + 1) (fun _ => none) →
      Wp c A (pyIter it) (fun it' h₄ => it' = it ∧ h₄ = h₃) h₃ ∧
      Cp c A (.compLoop (.ListComp elt [⟨target, iter, ifs, 0⟩] scope pos) 0 it (.ref D) (compEnvC scope cl (D + 1) env)) (fun _ h₄ => match use with
        | none => ∃ m, h₄.Ns (D + 1) m ∧ ∀ h₅, Heap.SameBut (D + 1) h₄ h₅ → Q (.ref D) h₅
        | some u => Wp c A (u (.ref D)) (fun _ h₅ => ∃ m, h₅.Ns (D + 1) m ∧ ∀ h₆, Heap.SameBut (D + 1) h₅ h₆ → Q .none h₆) h₄) h₃) h₁) h) :
    Wp c A (comprehension (.ListComp elt [⟨target, iter, ifs, 0⟩] scope pos) scope env (firstIterPos [⟨target, iter, ifs, 0⟩] pos) (newList []) false (eval iter env) use) Q h := fun tk => by
  refine wpAny_comprehension_free rfl hs hclos hkind hnames (k.go tk (fun xv h₁ tk₁ q => ?_))
  refine q.go tk₁ (fun it h₂ tk₂ q => ?_)
  refine wpAny_newObj_type (wpAny_newFunctionEnv (fun x hx e => ?_) (by intro y hy; simp at hy) (fun h₃ hns hsb => ?_) hkind)
  · have := List.all_eq_true.mp hcell x hx
    rw [e] at this
    cases this
  dsimp only at hns hsb ⊢
  have hC : (h₂.push { cls := .type "list", dict := none, data := .seq ([] : List Value).toArray }).objs.size = h₂.objs.size + 1 := Heap.size_push ..
  have hsz : h₃.objs.size = h₂.objs.size + 2 := by rw [hsb.1, Heap.size_push, Heap.size_push]
  rw [hC] at hns hsb
  have old : ∀ b o, h₂.get? b = some o → h₃.get? b = some o := fun b o e => hsb.extBut b o (Nat.ne_of_lt (Nat.lt_succ_of_lt (Heap.lt_size e))) (Heap.get?_push_of_some _ (Heap.get?_push_of_some _ e))
  have hD : h₃.get? h₂.objs.size = some (lstObj [] 0) := hsb.extBut _ _ (Nat.ne_of_lt (Nat.lt_succ_self _)) (Heap.get?_push_of_some _ (Heap.get?_push_size _ rfl))
  obtain ⟨q1, q2⟩ := q h₂.objs.size h₃ rfl hsz ⟨by exact ar4 hsz, fun b o _ e => old b o e⟩ ⟨[], 0, hD, .nil⟩ hns
  have loop : ∀ tk', codeAny (model c.prog c.w) A (.compLoop (.ListComp elt [⟨target, iter, ifs, 0⟩] scope pos) 0 it (.ref h₂.objs.size) (compEnvC scope cl (h₂.objs.size + 1) env))
      (compPost (model c.prog c.w) A (fun _ _ => False) use (fun v s' => ∃ h' tk', s' = c.at h' tk' ∧ Q v h') (.ref h₂.objs.size) (h₂.objs.size + 1)) (c.at h₃ tk') := fun tk' => by
    refine codeAny_mono (q2 tk') fun r s ⟨f, h₄, tk₄, er, es, q⟩ => ?_
    subst er es
    cases use with
    | none =>
      obtain ⟨m, hn, q⟩ := q
      exact ⟨m, hn, fun h' hs' => ⟨h', tk₄, rfl, q h' hs'⟩⟩
    | some u =>
      refine q.go tk₄ (fun _ h₅ tk₅ ⟨m, hn, q⟩ => ?_)
      exact ⟨m, hn, fun h' hs' => ⟨h', tk₅, rfl, q h' hs'⟩⟩
  have hC' : (c.at (h₂.push { cls := .type "list", dict := none, data := .seq ([] : List Value).toArray }) tk₂).heap.objs.size = h₂.objs.size + 1 := hC
  rw [hC']
  refine codeAny_compStart_list (loop _) (wpAny_mono (wp_noRaise (q1 _)) (fun it' s ⟨h₄, tk₄, e, e1, e2⟩ => ?_) fun _ _ e => e)
  subst e e1 e2
  exact loop _
/-- a list comprehension of ints, one name, over a source of ints -/
theorem Cp.compSrc {elt iter : Expr} {x : Str} {px : Pos} {ifs : List Expr} {scope : Scope} {cl : List (Str × Addr)} {pos : Pos} {Q : Flow → Heap → Prop} {I D : Nat} {fp : List Nat} {xs : List Int} {h₂ h₃ : Heap} (p : Int → Bool) (f : Int → Int)
    (S : Src c A h₂ I fp xs) (hkind : scope.kind = .function) (hx : scope.names.lookup x = some .local) (hlen : xs.length < 2 ^ 20)
    (hD : h₂.objs.size = D) (h3 : h₃.objs.size = D + 2) (e3 : Ext [] h₂ h₃) (il : IL h₃ D []) (ns : h₃.Ns (D + 1) (fun _ => none))
    (body : ∀ h' m v t, h'.Ns (D + 1) m → m x = some (.int v t) → v ∈ xs → Ext [I] h₂ h' → Wp c A (tests ifs (compEnvC scope cl (D + 1) env)) (fun ok h'' => ok = p v ∧ h'' = h') h' ∧
      (p v = true → Wp c A (eval elt (compEnvC scope cl (D + 1) env)) (fun y h'' => (∃ t, y = .int (f v) t) ∧ h'' = h') h'))
    (fin : ∀ h' m, h'.Ns (D + 1) m → IL h' D ((xs.filter p).map f) → Ext [I] h₂ h' → Q .next h') :
    Cp c A (.compLoop (.ListComp elt [⟨.Name x px, iter, ifs, 0⟩] scope pos) 0 (.ref I) (.ref D) (compEnvC scope cl (D + 1) env)) Q h₃ := by
  obtain ⟨St, W, st, hI, hfp, fr0, _⟩ := S
  have fr : ∀ i h h', St i h → (∀ (b : Nat) o, b < h₂.objs.size → h.get? b = some o → h'.get? b = some o) → St i h' := fun i h h' st k => fr0 i h h' st fun b hb o e => k b o (hfp b hb) e
  have hID : I < D := hD ▸ hI
  refine Cp.compIt W (fun i h' => ∃ m, h'.Ns (D + 1) m ∧ St i h' ∧ IL h' D (((xs.take i).filter p).map f) ∧ Ext [I] h₂ h') ⟨_, ns, fr 0 _ _ st (fun b o _ e => e3.all _ _ e), by simpa using il, e3.of_nil⟩ (fun i h ⟨_, _, s, _⟩ => s) ?_ ?_
  · rintro i h' v h₁ hi ⟨m, hn, st', il', ex⟩ ⟨n, t, hn1, rfl⟩ st1 e1 tk
    have hn' : h₁.Ns (D + 1) m := hn.at' fun o e => e1.get _ _ (off1 (by exact ar5 hI hD)) e
    have il1 : IL h₁ D (((xs.take i).filter p).map f) := il'.ext e1 (off1 (by exact ar6 hI hD))
    have hmem : n ∈ xs := List.mem_of_getElem? hn1
    refine wpAny_storeName_local (lookup_relabel_local hx) hn' (fun h₄ hn₄ hs₄ => ?_) (by simp [compEnvC, relabel, hkind])
    have hs₄ : Heap.SameBut (D + 1) h₁ h₄ := hs₄
    have hn₄ : h₄.Ns (D + 1) _ := hn₄
    have il4 : IL h₄ D (((xs.take i).filter p).map f) := il1.get fun o e => hs₄.extBut _ _ (nltg (by exact ar7)) e
    have ex4 : Ext [I] h₂ h₄ := ⟨by rw [hs₄.1]; exact (ex.trans e1).size, fun b o hb e => hs₄.extBut _ _ (ne_new e (by exact ar8 hD)) ((ex.trans e1).get b o hb e)⟩
    have st4 : St (i + 1) h₄ := fr _ _ _ st1 fun b o hb e => hs₄.extBut _ _ (nltg (by exact ar9 hb hD)) e
    refine ⟨h₄, _, rfl, ?_⟩
    obtain ⟨b1, b2⟩ := body h₄ _ n t hn₄ (by simp) hmem ex4
    have htk : xs.take (i + 1) = xs.take i ++ [n] := by rw [List.take_add_one, hn1]; rfl
    refine b1.mono fun ok h₅ ⟨e1, e2⟩ => ?_
    subst e1 e2
    cases hp : p n with
    | false =>
      rw [if_neg (by decide)]
      exact ⟨_, hn₄, st4, by rw [htk, List.filter_append, List.filter_cons_of_neg (by simp [hp])]; simpa using il4, ex4⟩
    | true =>
      rw [if_pos rfl]
      refine (b2 hp).mono fun y h₆ ⟨⟨t', e1⟩, e2⟩ => ?_
      subst e1 e2
      refine Wp.appendL il4 ?_ fun h₇ il7 e7 => ⟨_, hn₄.at' fun o e => e7.get _ _ (off1 (by exact ar10)) e, fr _ _ _ st4 fun b o hb e => e7.get _ _ (off1 (by exact ar11 hb hD)) e, ?_, ?_⟩
      · have := List.length_filter_le p (xs.take i)
        rw [List.length_map]
        have := List.length_take_le i xs
        exact ar12 (by assumption) this hi hlen
      · rw [htk, List.filter_append, List.filter_cons_of_pos hp, List.map_append]; exact il7
      · exact ⟨Nat.le_trans ex4.size e7.size, fun b o hb e => e7.get _ _ (nin_new e (by exact ar13 hD)) (ex4.get b o hb e)⟩
  · rintro h' h₁ ⟨m, hn, st', il', ex⟩ e1
    rw [List.take_of_length_le (Nat.le_refl _)] at il'
    exact fin h₁ m (hn.at' fun o e => e1.get _ _ (off1 (by exact ar5 hI hD)) e) (il'.ext e1 (off1 (by exact ar6 hI hD))) (ex.trans e1)
theorem Src.self {h₂ h₃ : Heap} {I : Addr} {fp : List Nat} {xs : List Int} (S : Src c A h₂ I fp xs) (e : Ext [] h₂ h₃) : Wp c A (pyIter (.ref I)) (fun it' h₄ => it' = .ref I ∧ h₄ = h₃) h₃ := by
  obtain ⟨St, W, st, hI, _, fr, self, _⟩ := S
  exact self h₃ _ (fr 0 _ _ st fun b _ o z => e.all _ _ z) ⟨rfl, rfl⟩
/-- what a comprehension asks -/
inductive LcK (c : Cx) (A : Around) (env : Env) (scope : Scope) (cl : List (Str × Addr)) (ifs : List Expr) (elt : Expr) (x : Str) (F : Heap → Addr → Heap → Prop) (it : Value) (h₂ : Heap) : Prop
  | mk (I : Nat) (fp : List Nat) (xs : List Int) (p : Int → Bool) (f : Int → Int) (e : it = .ref I) (S : Src c A h₂ I fp xs) (len : xs.length < 2 ^ 20)
    (body : ∀ C h' m v t, h₂.objs.size ≤ C → h'.Ns C m → m x = some (.int v t) → v ∈ xs → Ext [I] h₂ h' → Wp c A (tests ifs (compEnvC scope cl C env)) (fun ok h'' => ok = p v ∧ h'' = h') h' ∧
        (p v = true → Wp c A (eval elt (compEnvC scope cl C env)) (fun y h'' => (∃ t, y = .int (f v) t) ∧ h'' = h') h'))
    (fin : ∀ D h', h₂.objs.size ≤ D → IL h' D ((xs.filter p).map f) → Ext [I] h₂ h' → F h₂ D h') : LcK c A env scope cl ifs elt x F it h₂
noncomputable abbrev KlcF (Q : Value → Heap → Prop) : Heap → Addr → Heap → Prop := fun _ D h' => Q (.ref D) h'
noncomputable abbrev KlcA (c : Cx) (A : Around) (env : Env) (y : Str) (Q : Flow → Heap → Prop) : Heap → Addr → Heap → Prop := fun h₂ D h' => Wp c A (storeName env y (.ref D)) (fun _ h'' => ∀ C m, h₂.objs.size ≤ C → C ≠ D → h'.Ns C m → (∃ m, h''.Ns C m) ∧ ∀ h₃, Heap.SameBut C h'' h₃ → Q .next h₃) h'
noncomputable abbrev Kpi (c : Cx) (A : Around) (P : Value → Heap → Prop) : Value → Heap → Prop := fun xv h₁ => Wp c A (pyIter xv) P h₁
/-- [elt for x in iter if ..], ints of ints -/
theorem Wp.lcomp {elt iter : Expr} {x : Str} {px : Pos} {ifs : List Expr} {scope : Scope} {cl : List (Str × Addr)} {pos : Pos} {Q : Value → Heap → Prop}
    (hclos : closureFor scope env = Pure.pure cl) (hcell : scope.names.all (fun x => x.2 != .cell) = true) (hkind : scope.kind = .function)
    (hnames : ∀ y ∈ scope.names, y.2 = .local → scope.names.lookup y.1 = some .local) (hx : scope.names.lookup x = some .local)
    (k : Wp c A (eval iter env) (Kpi c A (LcK c A env scope cl ifs elt x (KlcF Q))) h)
    (hs : ∀ x, foldedSetIterable iter env x = Pure.pure x := by intro _; rfl) : Wp c A (eval (.ListComp elt [⟨.Name x px, iter, ifs, 0⟩] scope pos) env) Q h := by
  refine Wp.ofEq (eval_ListComp _ _ _ _) (Wp.compMake (use := none) hclos hcell hkind hnames hs (k.mono fun xv h₁ q => q.mono fun it h₂ ⟨I, fp, xs, p, f, e, S, hlen, body, fin⟩ => ?_))
  subst e
  intro D h₃ hD h3 e3 il ns
  refine ⟨S.self e3, Cp.compSrc p f S hkind hx hlen hD h3 e3 il ns (fun h' m v t => body (D + 1) h' m v t (by exact ar8 hD)) fun h' m hn il' ex => ⟨m, hn, fun h₅ hs₅ => fin D h₅ (by exact ar13 hD) (il'.get fun o e => hs₅.extBut _ _ (nltg (by exact ar7)) e) ?_⟩⟩
  exact ⟨by rw [hs₅.1]; exact ex.size, fun b o hb e => hs₅.extBut _ _ (ne_new e (by exact ar8 hD)) (ex.get b o hb e)⟩
/-- the same, its list put to a local name -/
theorem Wp.lcompA {elt iter : Expr} {x y : Str} {px py : Pos} {ifs : List Expr} {scope : Scope} {cl : List (Str × Addr)} {pos spos : Pos} {Q : Flow → Heap → Prop}
    (hsw : swapsWith (.ListComp elt [⟨.Name x px, iter, ifs, 0⟩] scope pos) (some (.Name y py)) spos.line env = Pure.pure true)
    (hclos : closureFor scope env = Pure.pure cl) (hcell : scope.names.all (fun x => x.2 != .cell) = true) (hkind : scope.kind = .function)
    (hnames : ∀ y ∈ scope.names, y.2 = .local → scope.names.lookup y.1 = some .local) (hx : scope.names.lookup x = some .local)
    (k : Wp c A (eval iter env) (Kpi c A (LcK c A env scope cl ifs elt x (KlcA c A env y Q))) h)
    (hs : ∀ x, foldedSetIterable iter env x = Pure.pure x := by intro _; rfl) : Wp c A (exec (.Assign [.Name y py] (.ListComp elt [⟨.Name x px, iter, ifs, 0⟩] scope pos) spos) env) Q h := by
  refine Wp.ofEq (exec_Assign_Name_used _ _ _ _ hsw) (Wp.bind fun tk => wpAny_standAt ⟨h, tk, rfl, Wp.bind ?_⟩)
  show Wp c A (do let _ ← comprehension (.ListComp elt [⟨.Name x px, iter, ifs, 0⟩] scope pos) scope env _ (newList []) false (eval iter env) (some (PySem.assign (.Name y py) env))) _ h
  refine Wp.bind ((Wp.compMake (use := some (PySem.assign (.Name y py) env)) (Q := fun _ h' => Q .next h') hclos hcell hkind hnames hs (k.mono fun xv h₁ q => q.mono fun it h₂ ⟨I, fp, xs, p, f, e, S, hlen, body, fin⟩ => ?_)).mono fun _ h' q => Wp.pure (Wp.pure q))
  subst e
  intro D h₃ hD h3 e3 il ns
  refine ⟨S.self e3, Cp.compSrc p f S hkind hx hlen hD h3 e3 il ns (fun h' m v t => body (D + 1) h' m v t (by exact ar8 hD)) fun h' m hn il' ex => ?_⟩
  refine Wp.asg ((fin D h' (by exact ar13 hD) il' ex).mono fun _ h'' q => ?_)
  obtain ⟨⟨m', q1⟩, q2⟩ := q (D + 1) m (by exact ar8 hD) (nltg (by exact ar10)) hn
  exact ⟨m', q1, q2⟩
end
end Mine
end

section
open PySem PySem.W PyProof.Rows
set_option maxRecDepth 100000
namespace Mine
section
variable {c : Cx} {A : Around} {h : Heap} {env : Env}
/-- a zip of two sources of ints, made since h₁ -/
inductive ZSrc (c : Cx) (A : Around) (h₁ h₂ : Heap) (z : Nat) (xs ys : List Int) : Prop
  | mk (fp wr : List Addr) (St : Nat → Heap → Prop) (Mid : Nat → Addr → Heap → Prop)
    (W : WalksT c.prog c.w A z fp wr (min xs.length ys.length) (fun i vals => ∃ a b t u, xs[i]? = some a ∧ ys[i]? = some b ∧ vals = #[.int a t, .int b u]) St Mid) (st : St 0 h₂) (e : Ext [] h₁ h₂)
    (fpl : ∀ b ∈ fp, (b : Nat) < h₂.objs.size) (wrl : ∀ b ∈ wr, h₁.objs.size ≤ (b : Nat)) : ZSrc c A h₁ h₂ z xs ys
theorem Wp.zipL {l1 l2 : Nat} {xs ys : List Int} {Q : Value → Heap → Prop} (hh : A.handled = none) (x : IL h l1 xs) (y : IL h l2 ys) (q : ∀ z h', ZSrc c A h h' z xs ys → Q (.ref z) h') :
    Wp c A (call (.type "zip") [.ref l1, .ref l2] []) Q h := fun tk => by
  obtain ⟨vs, n, ho, hi⟩ := x
  obtain ⟨ws, n', ho', hi'⟩ := y
  have hl1 : h.IsList l1 vs.toArray := ⟨_, ho, rfl, n, rfl⟩
  have hl2 : h.IsList l2 ws.toArray := ⟨_, ho', rfl, n', rfl⟩
  have lt1 : (l1 : Nat) < h.objs.size := Heap.lt_size ho
  have lt2 : (l2 : Nat) < h.objs.size := Heap.lt_size ho'
  have hlt1 := hi.len
  have hlt2 := hi'.len
  have key : ∀ (N : Nat) h', N = h.objs.size → IsZip h' (N + 4) (N + 2) (N + 3) .none → IsPair h' (N + 2) (.ref N) (.ref (N + 1)) → IsPair h' (N + 3) .none .none → h'.IsListIter N l1 0 → h'.IsListIter (N + 1) l2 0 → h'.objs.size = N + 5 →
      (∀ c o, h.get? c = some o → h'.get? c = some o) → ZSrc c A h h' (N + 4) xs ys := by
    intro N h' hN hz hTI hTO h1 h2 hsz hk
    have lt1 : (l1 : Nat) < N := by rw [hN]; exact Heap.lt_size ho
    have lt2 : (l2 : Nat) < N := by rw [hN]; exact Heap.lt_size ho'
    have nn : ∀ a b : Nat, a < b ∨ b < a → a ≠ b := fun a b h => by exact ar2 h
    have D : ZipApart (N + 4) (N + 2) (N + 3) N (N + 1) l1 l2 :=
      ⟨nn _ _ (by exact ar14), nn _ _ (by exact ar15), nn _ _ (by exact ar16), nn _ _ (by exact ar17), nn _ _ (by exact ar18), nn _ _ (by exact ar19), nn _ _ (by exact ar20), nn _ _ (by exact ar21), nn _ _ (by exact ar22), nn _ _ (by exact ar7),
        nn _ _ (by exact ar23 (by assumption) hN), nn _ _ (by exact ar24 (by assumption) hN), nn _ _ (by exact ar25 (by assumption) hN), nn _ _ (by exact ar26 (by assumption) hN), nn _ _ (by exact ar23 (by assumption) hN), nn _ _ (by exact ar24 (by assumption) hN), nn _ _ (by exact ar25 (by assumption) hN), nn _ _ (by exact ar26 (by assumption) hN)⟩
    have W := WalksT.zip2 (prog := c.prog) (w := c.w) (A := A) hh _ _ _ _ _ _ _ D vs.toArray ws.toArray
    have hn : min vs.toArray.size ws.toArray.size = min xs.length ys.length := by simp [hi.len, hi'.len]
    rw [hn] at W
    have hP : ∀ i vals, i < min xs.length ys.length → (∃ x y, vs.toArray[i]? = some x ∧ ws.toArray[i]? = some y ∧ vals = #[x, y]) → ∃ a b t u, xs[i]? = some a ∧ ys[i]? = some b ∧ vals = #[.int a t, .int b u] := by
      rintro i vals hlt ⟨x, y, e1, e2, e3⟩
      have k1 : i < xs.length := by exact ar27 hlt
      have k2 : i < ys.length := by exact ar28 hlt
      obtain ⟨t, ht⟩ := hi.at (i := i) (n := xs[i]) (by simp)
      obtain ⟨u, hu⟩ := hi'.at (i := i) (n := ys[i]) (by simp)
      refine ⟨xs[i], ys[i], t, u, by simp, by simp, ?_⟩
      have e1' : vs[i]? = some x := by simpa using e1
      have e2' : ws[i]? = some y := by simpa using e2
      rw [ht] at e1'; rw [hu] at e2'
      cases e1'; cases e2'; exact e3
    refine ⟨_, _, _, _, ⟨W.sub, W.frame, fun i s Q E hlt st k => W.item i s Q E hlt st fun T vals h' tk p => k T vals h' tk (hP i vals hlt p), W.go, W.apart, W.done, W.self⟩, ⟨hz, hTI, ⟨_, _, hTO⟩, h1, h2, hl1.at fun o e => hk _ _ e, hl2.at fun o e => hk _ _ e⟩, ⟨by exact ar29 hsz hN, fun b o _ e => hk b o e⟩, ?_, ?_⟩
    · intro b hb
      rw [hsz]
      simp only [List.mem_cons, List.not_mem_nil, or_false] at hb
      have go : ∀ a : Nat, (a < N + 5) → a < N + 5 := fun _ h => h
      rcases hb with rfl | rfl | rfl | rfl | rfl | rfl | rfl <;> exact go _ (by omega)
    · intro b hb
      rw [← hN]
      simp only [List.mem_cons, List.not_mem_nil, or_false] at hb
      rcases hb with rfl | rfl | rfl | rfl
      · exact Nat.le_add_right _ _
      · exact Nat.le_add_right _ _
      · exact Nat.le_refl _
      · exact Nat.le_add_right _ _
  exact call_zip_2 hl1 hl2 fun h' hz hTI hTO h1 h2 hsz hk => ⟨h', tk, rfl, q _ h' (key _ h' rfl hz hTI hTO h1 h2 hsz hk)⟩
theorem zipWith_take_succ {f : Int → Int → Int} {xs ys : List Int} {i : Nat} {a b : Int} (ha : xs[i]? = some a) (hb : ys[i]? = some b) : List.zipWith f (xs.take (i + 1)) (ys.take (i + 1)) = List.zipWith f (xs.take i) (ys.take i) ++ [f a b] := by
  have h1 := (List.getElem?_eq_some_iff.mp ha).1
  have h2 := (List.getElem?_eq_some_iff.mp hb).1
  rw [List.take_add_one, List.take_add_one, ha, hb, List.zipWith_append (by simp; exact ar30 h1 h2)]
  rfl
theorem bt1 {i x y n : Nat} (h : x < n) : min (min i x) (min i y) < n := by omega
theorem bt2 {i n : Nat} (h : i < n) : n + 1 - (i + 1) < n + 1 - i := by omega
/-- what a comprehension over a zip asks -/
inductive LzK (c : Cx) (A : Around) (env : Env) (scope : Scope) (cl : List (Str × Addr)) (elt : Expr) (x y : Str) (Q : Value → Heap → Prop) (xv : Value) (h₂ : Heap) : Prop
  | mk (h₁ : Heap) (z : Nat) (xs ys : List Int) (f : Int → Int → Int) (e : xv = .ref z) (S : ZSrc c A h₁ h₂ z xs ys) (len : xs.length < 2 ^ 20)
    (body : ∀ C h' m v u t t', h₁.objs.size ≤ C → h'.Ns C m → m x = some (.int v t) → m y = some (.int u t') → v ∈ xs → u ∈ ys → Ext [] h₁ h' → Wp c A (eval elt (compEnvC scope cl C env)) (fun y h'' => (∃ t, y = .int (f v u) t) ∧ h'' = h') h')
    (fin : ∀ D h', h₁.objs.size ≤ D → IL h' D (List.zipWith f xs ys) → Ext [] h₁ h' → Q (.ref D) h') : LzK c A env scope cl elt x y Q xv h₂
/-- [elt for x, y in zip(..)], ints of pairs of ints -/
theorem Wp.lcompZ {elt iter : Expr} {x y : Str} {px py tp : Pos} {k₀ : Nat} {scope : Scope} {cl : List (Str × Addr)} {pos : Pos} {Q : Value → Heap → Prop} (hh : A.handled = none)
    (hclos : closureFor scope env = Pure.pure cl) (hcell : scope.names.all (fun x => x.2 != .cell) = true) (hkind : scope.kind = .function)
    (hnames : ∀ y ∈ scope.names, y.2 = .local → scope.names.lookup y.1 = some .local) (hx : scope.names.lookup x = some .local) (hy : scope.names.lookup y = some .local) (hxy : x ≠ y)
    (k : Wp c A (eval iter env) (LzK c A env scope cl elt x y Q) h)
    (hs : ∀ x, foldedSetIterable iter env x = Pure.pure x := by intro _; rfl) : Wp c A (eval (.ListComp elt [⟨.Tuple [.Name x px, .Name y py] k₀ tp, iter, [], 0⟩] scope pos) env) Q h := by
  refine Wp.ofEq (eval_ListComp _ _ _ _) (Wp.compMake (use := none) hclos hcell hkind hnames hs (k.mono fun xv h₂ ⟨h₁, z, xs, ys, f, e, ⟨fp, wr, St, Mid, W, st, e2, hfp, hwr⟩, hlen, body, fin⟩ => ?_))
  subst e
  refine fun tk => W.self 0 _ _ _ st ⟨h₂, tk, rfl, ?_⟩
  intro D h₃ hD h3 e3 il ns
  have st3 : St 0 h₃ := W.frame 0 _ _ st fun b _ o e => e3.all _ _ e
  have hwD : ∀ b ∈ wr, (b : Nat) < D := fun b hb => hD ▸ hfp b (W.sub b hb)
  have h1D : h₁.objs.size ≤ D := by exact Nat.le_trans e2.size (Nat.le_of_eq hD)
  have h1C : h₁.objs.size ≤ D + 1 := by exact Nat.le_succ_of_le h1D
  have nw : ∀ {n : Nat}, D ≤ n → n ∉ wr := fun hn q => Nat.lt_irrefl _ (Nat.lt_of_lt_of_le (hwD _ q) hn)
  have fr : ∀ {i : Nat} {h h' : Heap}, St i h → (∀ (b : Nat) o, b < D → h.get? b = some o → h'.get? b = some o) → St i h' := fun st k => W.frame _ _ _ st fun b hb o e => k b o (hD ▸ hfp b hb) e
  refine ⟨fun tk => W.self 0 _ _ _ st3 ⟨h₃, tk, rfl, rfl, rfl⟩, ?_⟩
  generalize hn : min xs.length ys.length = n at W
  intro tk
  refine LCp.codeAny_compLoop_pair (fun k s => ∃ i h' tk' m, s = c.at h' tk' ∧ i ≤ n ∧ k = n + 1 - i ∧ h'.Ns (D + 1) m ∧ St i h' ∧ IL h' D (List.zipWith f (xs.take i) (ys.take i)) ∧ Ext [] h₁ h') ?_ (n + 1)
    ⟨0, h₃, tk, _, rfl, Nat.zero_le _, rfl, ns, st3, by simpa using il, e2.trans e3⟩
  rintro k s ⟨i, h', tk', m, rfl, hi, rfl, hn', st', il', ex⟩
  by_cases hlt : i < n
  · have key : Wp c A (pyNext (.ref z)) (fun r h₄ => ∃ T a b t u, r = some (.ref T) ∧ xs[i]? = some a ∧ ys[i]? = some b ∧ h₄.IsTuple T [.int a t, .int b u].toArray ∧ Mid i T h₄ ∧ Ext wr h' h₄) h' := by
      refine Wp.sized fun tk => W.item i _ _ _ hlt st' fun T vals h₄ tk₄ ⟨a, b, t, u, p1, p2, p3⟩ hT hTu mid kk => ⟨h₄, tk₄, rfl, fun hs => ⟨T, a, b, t, u, rfl, p1, p2, p3 ▸ hTu, mid, hs, kk⟩⟩
    refine key.go tk' (fun r h₄ tk₄ ⟨T, a, b, t, u, er, ha, hb, hTu, mid, e4⟩ => ?_)
    subst er
    have key2 : Wp c A (letOwnedTupleGo (.Tuple [.Name x px, .Name y py] k₀ tp) (.ref z) (.ref T)) (fun _ h₅ => St (i + 1) h₅ ∧ Ext wr h₄ h₅) h₄ :=
      Wp.sized fun tk => W.go _ _ _ i T _ _ _ mid fun h₅ st5 kk => ⟨h₅, tk, rfl, fun hs => ⟨st5, hs, kk⟩⟩
    refine key2.go tk₄ (fun _ h₅ tk₅ ⟨st5, e5⟩ => ?_)
    have hTu5 : h₅.IsTuple T [.int a t, .int b u].toArray := hTu.at fun o e => e5.get _ _ (W.apart i T h₄ mid) e
    have hn5 : h₅.Ns (D + 1) m := (hn'.at' fun o e => e4.get _ _ (nw (Nat.le_succ _)) e).at' fun o e => e5.get _ _ (nw (Nat.le_succ _)) e
    have il5 : IL h₅ D _ := (il'.ext e4 (nw (Nat.le_refl _))).ext e5 (nw (Nat.le_refl _))
    have wext : ∀ {h h' : Heap}, Ext wr h h' → Ext [] h₁ h → Ext [] h₁ h' := fun e x => ⟨Nat.le_trans x.size e.size, fun b o _ q => e.get _ _ (fun z => absurd (Heap.lt_size q) (Nat.not_lt.mpr (hwr b z))) (x.all _ _ q)⟩
    have ex5 : Ext [] h₁ h₅ := wext e5 (wext e4 ex)
    have asg : Wp c A (PySem.assign (.Tuple [.Name x px, .Name y py] k₀ tp) (compEnvC scope cl (D + 1) env) (.ref T)) (fun _ h₆ => ∃ m, h₆.Ns (D + 1) m ∧ m x = some (.int a t) ∧ m y = some (.int b u) ∧ (∀ (b : Nat) o, b ≠ D + 1 → h₅.get? b = some o → h₆.get? b = some o) ∧ h₅.objs.size ≤ h₆.objs.size) h₅ := by
      refine Wp.asg2 hh hTu5 fun h₆ e6 => fun tk => ?_
      refine wpAny_storeName_local (lookup_relabel_local hx) (hn5.at' fun o e => e6.all _ _ e) (fun h₇ hn₇ hs₇ => ⟨h₇, _, rfl, fun tk => ?_⟩) (by simp [compEnvC, relabel, hkind])
      refine wpAny_storeName_local (lookup_relabel_local hy) hn₇ (fun h₈ hn₈ hs₈ => ⟨h₈, _, rfl, _, hn₈, by simp [hxy], by simp, ?_, ?_⟩) (by simp [compEnvC, relabel, hkind])
      · intro b o hb e
        exact hs₈.extBut _ _ hb (hs₇.extBut _ _ hb (e6.all _ _ e))
      · have a1 : h₈.objs.size = h₇.objs.size := hs₈.1
        have a2 : h₇.objs.size = h₆.objs.size := hs₇.1
        exact Nat.le_trans e6.size (Nat.le_of_eq (a2.symm.trans a1.symm))
    refine asg.go tk₅ (fun _ h₆ tk₆ ⟨m₆, hn6, mx, my, k6, s6⟩ => ?_)
    have ex6 : Ext [] h₁ h₆ := ⟨Nat.le_trans ex5.size s6, fun b o _ q => k6 b o (ne_new q (by exact h1C)) (ex5.all _ _ q)⟩
    have il6 : IL h₆ D _ := il5.get fun o e => k6 _ _ (nltg (by exact ar7)) e
    have st6 : St (i + 1) h₆ := fr st5 fun b o hb e => k6 _ _ (nltg (by exact .inl (Nat.lt_succ_of_lt hb))) e
    refine wpAny_mono (body (D + 1) h₆ m₆ a b t u (by exact h1C) hn6 mx my (List.mem_of_getElem? ha) (List.mem_of_getElem? hb) ex6 tk₆) (fun v s ⟨h₇, tk₇, e, ⟨t', ev⟩, eh⟩ => ?_) fun _ _ e => e.elim
    subst e ev eh
    have app : Wp c A (call (.builtin "list.append") [.ref D, .int (f a b) t'] []) (fun _ h₈ => IL h₈ D (List.zipWith f (xs.take (i + 1)) (ys.take (i + 1))) ∧ Ext [D] h₇ h₈) h₇ := by
      refine Wp.appendL il6 ?_ fun h₈ il8 e8 => ⟨?_, e8⟩
      · rw [List.length_zipWith, List.length_take, List.length_take]; exact bt1 hlen
      · rw [zipWith_take_succ ha hb]; exact il8
    refine app.go tk₇ (fun v h₈ tk₈ ⟨il8, e8⟩ => ?_)
    exact ⟨n + 1 - (i + 1), by exact bt2 hlt, i + 1, h₈, tk₈, _, rfl, hlt, rfl, hn6.at' fun o e => e8.get _ _ (off1 (by exact ar10)) e, fr st6 fun b o hb e => e8.get _ _ (off1 (by exact .inl hb)) e, il8,
      ⟨Nat.le_trans ex6.size e8.size, fun b o _ q => e8.get _ _ (nin_new q (by exact h1D)) (ex6.all _ _ q)⟩⟩
  · obtain rfl : i = n := Nat.le_antisymm hi (Nat.le_of_not_lt hlt)
    have key : Wp c A (pyNext (.ref z)) (fun r h₄ => r = none ∧ Ext wr h' h₄) h' := Wp.sized fun tk => W.done _ _ _ st' fun h₄ tk₄ kk => ⟨h₄, tk₄, rfl, fun hs => ⟨rfl, hs, kk⟩⟩
    refine key.go tk' (fun r h₄ tk₄ ⟨er, e4⟩ => ?_)
    subst er
    have wext : ∀ {h h' : Heap}, Ext wr h h' → Ext [] h₁ h → Ext [] h₁ h' := fun e x => ⟨Nat.le_trans x.size e.size, fun b o _ q => e.get _ _ (fun z => absurd (Heap.lt_size q) (Nat.not_lt.mpr (hwr b z))) (x.all _ _ q)⟩
    have ex4 := wext e4 ex
    have hz : List.zipWith f (xs.take i) (ys.take i) = List.zipWith f xs ys := by
      rw [← List.take_zipWith, List.take_of_length_le (by rw [List.length_zipWith]; exact Nat.le_of_eq hn)]
    rw [hz] at il'
    have il4 := il'.ext e4 (nw (Nat.le_refl _))
    refine ⟨.next, h₄, tk₄, rfl, rfl, m, hn'.at' fun o e => e4.get _ _ (nw (Nat.le_succ _)) e, fun h₅ hs₅ => fin D h₅ (by exact h1D) (il4.get fun o e => hs₅.extBut _ _ (nltg (by exact ar7)) e) ?_⟩
    exact ⟨by rw [hs₅.1]; exact ex4.size, fun b o hb e => hs₅.extBut _ _ (ne_new e (by exact h1C)) (ex4.get b o hb e)⟩
end
end Mine
end

section
open PySem PySem.W PyProof.Rows
set_option maxRecDepth 100000
set_option maxHeartbeats 4000000
namespace Mine
theorem pre_take (l : List Int) : ∀ n, preSum (fun i => l.getD i 0) n = (l.take n).sum
  | 0 => by simp [preSum]
  | n + 1 => by
    rw [preSum, pre_take l n, List.take_add_one, List.sum_append]
    congr 1
    rw [List.getD_eq_getElem?_getD]
    cases l[n]? <;> simp
section
variable {c : Cx} {A : Around} {h : Heap} {env : Env}
theorem Wp.sumL {l : Addr} {vs : List Value} {ns : List Int} {Q : Value → Heap → Prop} (hh : A.handled = none) (hl : h.IsList l vs.toArray) (hi : Ints vs ns) (q : ∀ t h', Ext [] h h' → Q (.int ns.sum t) h') : Wp c A (call (.builtin "sum") [.ref l] []) Q h := by
  refine Wp.sized fun tk => ?_
  obtain ⟨o, ho, hc, n, hd⟩ := id hl
  have hne : l ≠ h.objs.size := Nat.ne_of_lt (Heap.lt_size ho)
  have W := (Walks.list (prog := c.prog) (w := c.w) (A := A.in1) hh h.objs.size l hne vs.toArray).toS
  refine call_sum_walkAnyS (wpAny_pyIter_list hl ?_)
  refine ⟨h.objs.size, _, _, _, _, _, _, fun i => ns.getD i 0, rfl, W, ⟨⟨_, Heap.get?_push_size _ rfl, rfl, rfl⟩, hl.at fun o e => Heap.get?_push_of_some _ e⟩, fun b hb => ?_, fun i v hP => ?_, fun s' t' hm => ?_⟩
  · rcases List.mem_cons.mp hb with rfl | hb
    · exact Heap.lt_size (Heap.get?_push_size _ rfl)
    · obtain rfl := List.mem_singleton.mp hb
      exact Heap.lt_size (Heap.get?_push_of_some _ ho)
  · have hP' : vs[i]? = some v := by simpa using hP
    have hlt : i < ns.length := by have := (List.getElem?_eq_some_iff.mp hP').1; rwa [hi.len] at this
    obtain ⟨t, ht⟩ := hi.at (i := i) (n := ns[i]) (by simp)
    rw [hP'] at ht
    refine ⟨t, ?_⟩
    rw [Option.some.inj ht]
    simp [hlt]
  · obtain ⟨h', g', d', tk', os'⟩ := s'
    have e1 : g' = c.s₀.gens := hm.gens
    have e2 : d' = c.s₀.drawn := hm.drawn
    have e3 : os' = c.s₀.os := hm.os
    subst e1 e2 e3
    refine ⟨h', tk', rfl, fun hs => ?_⟩
    have hsum : preSum (fun i => ns.getD i 0) vs.toArray.size = ns.sum := by
      rw [List.size_toArray, hi.len, pre_take, List.take_of_length_le (Nat.le_refl _)]
    rw [hsum]
    exact q t' h' ⟨hs, fun b o _ e => hm.heap b o (fun hb => absurd (Heap.lt_size e) ((List.mem_singleton.mp hb) ▸ Nat.lt_irrefl _)) (Heap.get?_push_of_some _ e)⟩
theorem Wp.addL {l m : Addr} {ns ms : List Int} {Q : Value → Heap → Prop} (x : IL h l ns) (y : IL h m ms) (hz : ns.length + ms.length < 2 ^ 20) (q : ∀ h', IL h' h.objs.size (ns ++ ms) → Ext [] h h' → Q (.ref h.objs.size) h') :
    Wp c A (binaryOp .Add (.ref l) (.ref m)) Q h := fun tk => by
  obtain ⟨vs, n, ho, hi⟩ := x
  obtain ⟨ws, n', ho', hi'⟩ := y
  refine PySem.P.add_list ho ho' ⟨_, tk, rfl, q _ ⟨vs ++ ws, 0, ?_, hi.app hi'⟩ (Ext.push _ _)⟩ (by simp [hi.len, hi'.len, sizeLine]; exact ar31 hz)
  rw [Heap.get?_push_size _ rfl]
  simp
/-- what a slice asks -/
inductive SlK (Q : Value → Heap → Prop) (o vl vu : Value) (h₃ : Heap) : Prop
  | mk (l : Addr) (vs : List Value) (ns ms : List Int) (lo hi : Option Int) (e : o = .ref l) (hl : h₃.IsList l vs.toArray) (hv : Ints vs ns) (hz : ns.length < 2 ^ 20) (pl : IsPart vl lo) (pu : IsPart vu hi) (hm : Ints (slicePick vs.toArray lo hi none).toList ms)
    (q : ∀ D h', h₃.objs.size ≤ D → IL h' D ms → Ext [] h₃ h' → Q (.ref D) h') : SlK Q o vl vu h₃
/-- a slice of a list of ints -/
theorem Wp.slice {value : Expr} {lower upper : Option Expr} {p pos : Pos} {Q : Value → Heap → Prop}
    (k : Wp c A (eval value env) (fun o h₁ => Wp c A (evalPart lower env) (fun vl h₂ => Wp c A (evalPart upper env) (SlK Q o vl) h₂) h₁) h)
    (hs : ∀ o i, subscripted (.Slice lower upper none p) false o i = operate [o, i] (getItem o i) ∨ subscripted (.Slice lower upper none p) false o i = operate [i, o] (getItem o i) := by intro _ _; first | exact Or.inl rfl | exact Or.inr rfl) :
    Wp c A (eval (.Subscript value (.Slice lower upper none p) pos) env) Q h := by
  refine Wp.sub list_getitem_lookup (k.mono fun o h₁ q1 => fun tk => ?_) hs
  refine wpAny_Slice (q1.go tk (fun vl h₂ tk₂ q2 => ?_))
  refine q2.go tk₂ (fun vu h₃ tk₃ ⟨l, vs, ns, ms, lo, hi, eo, hl, hv, hz, pl, pu, hm, q3⟩ => ?_)
  subst eo
  have fin : ∀ sl, Q (.ref (h₃.push sl).objs.size) ((h₃.push sl).push { cls := .type "list", data := .seq (slicePick vs.toArray lo hi none) }) := fun sl => by
    refine q3 _ _ (by rw [Heap.size_push]; exact Nat.le_succ _) ⟨(slicePick vs.toArray lo hi none).toList, 0, ?_, hm⟩ ((Ext.push _ _).trans (Ext.push _ _))
    rw [Heap.get?_push_size _ rfl]
  refine wpAny_pure ⟨_, tk₃, rfl, fun tk => (hl.push _).typeIs, fun tk => ?_⟩
  exact wpAny_getItem_list_slice (s := c.at _ tk) (hl.push _) (Heap.IsSliceOf.new ..) pl pu .none (by simp) ⟨_, tk, rfl, fin _⟩ (size_ok (by rw [hv.len]; exact hz))
theorem Wp.partS {e : Expr} {Q : Value → Heap → Prop} (k : Wp c A (eval e env) Q h) : Wp c A (evalPart (some e) env) Q h := k
theorem Wp.partN {Q : Value → Heap → Prop} (k : Q .none h) : Wp c A (evalPart none env) Q h := Wp.pure k
theorem pick_run {vs : List Value} {ns : List Int} (hi : Ints vs ns) {a b : Nat} (hab : a ≤ b) (hb : b ≤ ns.length) : Ints (slicePick vs.toArray (some (a : Int)) (some (b : Int)) none).toList ((ns.drop a).take (b - a)) := by
  rw [slicePick_run vs.toArray a b (by simp [hi.len]; exact hb) hab]
  simpa using (hi.drop a).take (b - a)
theorem pick_upto {vs : List Value} {ns : List Int} (hi : Ints vs ns) {y : Nat} : Ints (slicePick vs.toArray none (some (y : Int)) none).toList (ns.take y) := by
  have := slice_ints_uptoW hi (y := (y : Int)) (by exact ar32)
  simpa using this
/-- the last item -/
theorem Wp.getLast {l : Addr} {ns : List Int} {n : Int} {t : Tok} {Q : Value → Heap → Prop} (x : IL h l ns) (hx : ns.getLast? = some n) (hz : ns.length < 2 ^ 62) (q : ∀ t, Q (.int n t) h) : Wp c A (getItem (.ref l) (.int (-1) t)) Q h := fun tk => by
  obtain ⟨vs, y, z⟩ := x.isList
  have hlen := z.len
  have hne : 0 < ns.length := by
    cases ns with
    | nil => simp at hx
    | cons _ _ => simp
  rw [List.getLast?_eq_getElem?] at hx
  obtain ⟨t', ht⟩ := z.at hx
  have hsz : vs.toArray.size = ns.length := by simp [hlen]
  refine wpAny_getItem_list_neg (s := c.at h tk) (items := vs.toArray) (x := .int n t') y (by decide) (by rw [hsz]; exact ar33 hne) (by decide) ?_ ⟨h, tk, rfl, q t'⟩
  rw [hsz, show ((-1 : Int) + (ns.length : Int)).toNat = ns.length - 1 by exact ar34]
  simpa using ht
/-- the turns of a tuple of ints -/
theorem Wp.iterT {l : Nat} {vs : List Value} {xs : List Int} {Q : Value → Heap → Prop} (hh : A.handled = none) (ho : h.get? l = some (tupObj vs)) (hi : Ints vs xs) (q : ∀ h', Ext [] h h' → Src c A h' h.objs.size [h.objs.size, l] xs → Q (.ref h.objs.size) h') : Wp c A (pyIter (.ref l)) Q h := fun tk => by
  have hl : h.IsTuple l vs.toArray := ⟨_, ho, rfl, 0, rfl⟩
  have hlt : l < h.objs.size := Heap.lt_size ho
  refine wpAny_pyIter_tuple hl ⟨_, tk, rfl, q _ (Ext.push _ _) ?_⟩
  refine Src.walks (Walks.tuple hh h.objs.size l (Nat.ne_of_lt hlt) vs.toArray) (by simp [hi.len]) (fun i v hi' p => ?_) ⟨⟨_, Heap.get?_push_size _ rfl, rfl, rfl⟩, hl.at fun o e => Heap.get?_push_of_some _ e⟩ (by rw [Heap.size_push]; exact Nat.lt_succ_self _) (fun b hb => ?_) (fun i h st => by obtain ⟨⟨o, ho, hc, hd⟩, _⟩ := st; exact ⟨o, ho, by rw [hc]; decide, fun vs q t e => by rw [hd] at e; cases e; simp⟩)
  · have hlen := hi.len
    have : i < xs.length := by simpa [hlen] using hi'
    obtain ⟨t, ht⟩ := hi.at (i := i) (n := xs[i]) (by simp)
    refine ⟨xs[i], t, by simp, ?_⟩
    have p' : vs[i]? = some v := by simpa using p
    rw [ht] at p'; cases p'; rfl
  · rw [Heap.size_push]
    rcases List.mem_cons.mp hb with rfl | hb
    · exact Nat.lt_succ_self _
    · rw [List.mem_singleton.mp hb]; exact Nat.lt_succ_of_lt hlt
end
end Mine
end

section
open PySem PySem.W PyProof.Rows
set_option maxRecDepth 100000
namespace Mine
section
variable {c : Cx} {A : Around} {h : Heap} {env : Env} {Q : Value → Heap → Prop}
/-- a built-in function, one keyword behind the places -/
theorem Wp.callBk {id kn : Str} {p pos kp : Pos} {e ke : Expr} {rest : List Expr} {bi : String} (n : Nm c A env (.Name id p) (.builtin bi) h)
    (k : Wp c A (spliced (backTo pos (starEach (e :: rest) env))) (fun vs h₁ => Wp c A (eval ke env) (fun kv h₂ => Wp c A (call (.builtin bi) vs [(kn, kv)]) Q h₂) h₁) h)
    (he : starEach (e :: rest) env = (false, eval e env) :: starEach rest env := by rfl)
    (hp : (backTo pos (starEach rest env)).any (·.1) = false := by rfl) : Wp c A (eval (.Call (.Name id p) (e :: rest) [⟨some kn, ke, kp⟩] pos) env) Q h := fun tk => by
  refine wpAny_Call_Name_kw ((n (fun f h₁ => f = .builtin bi ∧ h₁ = h) ⟨rfl, rfl⟩).go tk (fun f h' tk' ⟨e2, e3⟩ => ?_))
  subst e2 e3
  have k' := k tk'
  rw [he] at k' ⊢
  refine callWith_builtin_kwB (by show (false || (backTo pos (starEach rest env)).any (·.1)) = false; rw [hp]; rfl) rfl (evalArgs_kw rfl (wpAny_mono k' (fun vs s' ⟨h', tk', e, q⟩ => ?_) fun _ _ e => e))
  subst e
  show wpAny _ _ (evalAll [do let v ← eval ke env; standAt pos; Pure.pure v]) _ _ _
  refine wpAny_evalAll_cons (wpAny_bind (q.go tk' (fun kv h' tk' q => ?_)))
  exact wpAny_bind (wpAny_standAt (wpAny_pure (wpAny_evalAll_nil (q tk'))))
end
end Mine
end

section
namespace Mine
/-- the number of which these are the figures, the first lowest, of n bits -/
noncomputable def undig (n : Nat) : List Int → Int
  | [] => 0
  | d :: r => d + undig n r * 2 ^ n
theorem undig_app (n : Nat) (xs ys : List Int) : undig n (xs ++ ys) = undig n xs + undig n ys * 2 ^ (n * xs.length) := by
  induction xs with
  | nil => simp [undig]
  | cons d r ih =>
    simp only [List.cons_append, undig, ih, List.length_cons, Nat.mul_add, Nat.mul_one, Int.pow_add]
    grind
theorem undig_nonneg (n : Nat) : ∀ xs : List Int, (∀ d ∈ xs, 0 ≤ d) → 0 ≤ undig n xs
  | [], _ => by simp [undig]
  | d :: r, h => by
    have h1 := h d (List.mem_cons_self)
    have h2 := undig_nonneg n r fun x hx => h x (List.mem_cons_of_mem _ hx)
    have h3 : (0 : Int) ≤ 2 ^ n := Int.le_of_lt (Int.pow_pos (by decide))
    have := Int.mul_nonneg h2 h3
    simp only [undig]; exact ar317 this h1
theorem undig_lt (n : Nat) : ∀ xs : List Int, (∀ d ∈ xs, 0 ≤ d ∧ d < 2 ^ n) → undig n xs < 2 ^ (n * xs.length)
  | [], _ => by simp [undig]
  | d :: r, h => by
    have h1 := h d (List.mem_cons_self)
    have h2 := undig_lt n r fun x hx => h x (List.mem_cons_of_mem _ hx)
    have h3 : (0 : Int) < 2 ^ n := Int.pow_pos (by decide)
    simp only [undig, List.length_cons, Nat.mul_add, Nat.mul_one, Int.pow_add]
    have h4 : (undig n r + 1) * 2 ^ n ≤ 2 ^ (n * r.length) * 2 ^ n := Int.mul_le_mul_of_nonneg_right (by exact ar318 h2) (Int.le_of_lt h3)
    have h5 : (undig n r + 1) * 2 ^ n = undig n r * 2 ^ n + 2 ^ n := by grind
    exact ar319 h1 h5 h4
theorem undig_one (n : Nat) (d : Int) : undig n [d] = d := by simp [undig]
/-- the stretch from L up to R -/
noncomputable def seg (ds : List Int) (L R : Nat) : List Int := (ds.drop L).take (R - L)
theorem seg_len {ds : List Int} {L R : Nat} (h : R ≤ ds.length) : (seg ds L R).length = R - L := by unfold seg; simp; exact ar320 h
theorem seg_all (ds : List Int) : seg ds 0 ds.length = ds := by simp [seg]
theorem seg_one {ds : List Int} {L : Nat} {d : Int} (h : ds[L]? = some d) : seg ds L (L + 1) = [d] := by
  unfold seg
  obtain ⟨hl, he⟩ := List.getElem?_eq_some_iff.mp h
  rw [show L + 1 - L = 1 by exact ar221, List.drop_eq_getElem_cons hl, he]
  rfl
theorem seg_cat {ds : List Int} {L M R : Nat} (h1 : L ≤ M) (h2 : M ≤ R) : seg ds L R = seg ds L M ++ seg ds M R := by
  unfold seg
  have e : R - L = (M - L) + (R - M) := by exact ar321 h1 h2
  rw [e, List.take_add, List.drop_drop]
  congr 3; exact ar143 h1
theorem seg_mem {ds : List Int} {L R : Nat} {d : Int} (h : d ∈ seg ds L R) : d ∈ ds := List.mem_of_mem_drop (List.mem_of_mem_take h)
theorem undig_seg {n : Nat} {ds : List Int} {L M R : Nat} (h1 : L ≤ M) (h2 : M ≤ R) (h3 : R ≤ ds.length) : undig n (seg ds L R) = undig n (seg ds M R) * 2 ^ (n * (M - L)) + undig n (seg ds L M) := by
  rw [seg_cat h1 h2, undig_app, seg_len (by exact ar174 h2 h3), Int.add_comm]
end Mine
end

section
namespace Mine
/-- k figures of n bits of a number -/
noncomputable def digs (n : Nat) : Nat → Nat → List Int
  | 0, _ => []
  | k + 1, a => ((a % 2 ^ n : Nat) : Int) :: digs n k (a / 2 ^ n)
theorem digs_len (n : Nat) : ∀ k a, (digs n k a).length = k
  | 0, _ => rfl
  | k + 1, a => by simp [digs, digs_len n k]
theorem digs_mem (n : Nat) : ∀ (k a : Nat) (d : Int), d ∈ digs n k a → 0 ≤ d ∧ d < 2 ^ n
  | 0, _, _, h => by simp [digs] at h
  | k + 1, a, d, h => by
    simp only [digs, List.mem_cons] at h
    rcases h with rfl | h
    · have := Nat.mod_lt a (Nat.pow_pos (n := n) (show 0 < 2 by decide))
      exact ⟨Int.natCast_nonneg _, by exact_mod_cast this⟩
    · exact digs_mem n k _ d h
theorem digs_cat (n : Nat) : ∀ (M R a : Nat), digs n (M + R) a = digs n M (a % 2 ^ (n * M)) ++ digs n R (a / 2 ^ (n * M))
  | 0, R, a => by simp [digs]
  | M + 1, R, a => by
    rw [show M + 1 + R = (M + R) + 1 by exact ar377]
    simp only [digs, List.cons_append]
    rw [digs_cat n M R (a / 2 ^ n)]
    have e : 2 ^ (n * (M + 1)) = 2 ^ n * 2 ^ (n * M) := by rw [Nat.mul_add, Nat.mul_one, Nat.pow_add, Nat.mul_comm]
    rw [e, Nat.mod_mul_right_div_self, Nat.div_div_eq_div_mul, Nat.mod_mod_of_dvd _ (Nat.dvd_mul_right _ _)]
theorem undig_digs (n : Nat) : ∀ (k a : Nat), a < 2 ^ (n * k) → undig n (digs n k a) = a
  | 0, a, h => by simp [digs, undig] at *; exact ar378 h
  | k + 1, a, h => by
    have h' : a / 2 ^ n < 2 ^ (n * k) := by
      rw [Nat.div_lt_iff_lt_mul (Nat.pow_pos (by decide)), ← Nat.pow_add]
      rwa [Nat.mul_add, Nat.mul_one] at h
    simp only [digs, undig, undig_digs n k _ h']
    have := Nat.mod_add_div a (2 ^ n)
    have h2 : ((a % 2 ^ n : Nat) : Int) + ((a / 2 ^ n : Nat) : Int) * ((2 ^ n : Nat) : Int) = ((a % 2 ^ n + 2 ^ n * (a / 2 ^ n) : Nat) : Int) := by
      rw [Int.natCast_add, Int.natCast_mul, Int.mul_comm ((2 ^ n : Nat) : Int)]
    rw [this] at h2
    rw [← h2]; simp
theorem undig_inj (n : Nat) : ∀ (xs ys : List Int), xs.length = ys.length → (∀ d ∈ xs, 0 ≤ d ∧ d < 2 ^ n) → (∀ d ∈ ys, 0 ≤ d ∧ d < 2 ^ n) → undig n xs = undig n ys → xs = ys
  | [], [], _, _, _, _ => rfl
  | x :: xs, y :: ys, hl, hx, hy, e => by
    have hx0 := hx x List.mem_cons_self
    have hy0 := hy y List.mem_cons_self
    simp only [undig] at e
    have hp : (0 : Int) < 2 ^ n := Int.pow_pos (by decide)
    have e1 : x % 2 ^ n = y % 2 ^ n := by
      have := congrArg (· % (2 : Int) ^ n) e
      simpa [Int.add_mul_emod_self_right] using this
    rw [Int.emod_eq_of_lt hx0.1 hx0.2, Int.emod_eq_of_lt hy0.1 hy0.2] at e1
    subst e1
    have e2 : undig n xs * 2 ^ n = undig n ys * 2 ^ n := by exact ar379 e
    have e3 := Int.eq_of_mul_eq_mul_right (Int.ne_of_gt hp) e2
    rw [undig_inj n xs ys (by simpa using hl) (fun d hd => hx d (List.mem_cons_of_mem _ hd)) (fun d hd => hy d (List.mem_cons_of_mem _ hd)) e3]
theorem digs_undig {n : Nat} {xs : List Int} (h : ∀ d ∈ xs, 0 ≤ d ∧ d < 2 ^ n) : digs n xs.length (undig n xs).toNat = xs := by
  have h0 := undig_nonneg n xs fun d hd => (h d hd).1
  have h1 := undig_lt n xs h
  have hlt : (undig n xs).toNat < 2 ^ (n * xs.length) := by
    have : ((undig n xs).toNat : Int) < ((2 ^ (n * xs.length) : Nat) : Int) := by rw [Int.toNat_of_nonneg h0]; simpa using h1
    exact_mod_cast this
  refine undig_inj n _ _ (digs_len _ _ _) (fun d hd => digs_mem n _ _ d hd) h ?_
  rw [undig_digs n _ _ hlt, Int.toNat_of_nonneg h0]
theorem shift_back (a s : Nat) : a &&& (a / 2 ^ s * 2 ^ s) = a / 2 ^ s * 2 ^ s := by
  rw [← Nat.shiftRight_eq_div_pow, ← Nat.shiftLeft_eq]
  apply Nat.eq_of_testBit_eq
  intro i
  simp only [Nat.testBit_and, Nat.testBit_shiftLeft, Nat.testBit_shiftRight]
  by_cases h : s ≤ i
  · simp [h, show s + (i - s) = i by exact ar143 h]
  · simp [h]
end Mine
end

section
set_option maxRecDepth 100000
namespace Mine
/-- digits of a, taken from the top -/
theorem top_step (n a j : Nat) : a / 2 ^ (n * j) = a / 2 ^ (n * (j + 1)) * 2 ^ n + a / 2 ^ (n * j) % 2 ^ n := by
  rw [Nat.mul_succ, Nat.pow_add, ← Nat.div_div_eq_div_mul]
  exact (Nat.div_add_mod' _ _).symm
theorem digs_at (n : Nat) : ∀ (K a i : Nat), i < K → (digs n K a)[i]? = some ((a / 2 ^ (n * i) % 2 ^ n : Nat) : Int)
  | K + 1, a, 0, _ => by simp [digs]
  | K + 1, a, i + 1, h => by
    rw [digs, List.getElem?_cons_succ, digs_at n K _ i (by exact ar56 h), Nat.div_div_eq_div_mul, ← Nat.pow_add, Nat.mul_succ, Nat.add_comm n]
end Mine
end

section
set_option maxRecDepth 100000
namespace Mine
theorem split_at {P : Int → Bool} : ∀ {ys : List Int}, ys.Pairwise (fun a b => P b = true → P a = true) → ∃ p, p ≤ ys.length ∧ (∀ i y, i < p → ys[i]? = some y → P y = true) ∧ (∀ i y, p ≤ i → ys[i]? = some y → P y = false)
  | [], _ => ⟨0, Nat.le_refl _, fun i y h => by exact (ar380 h).elim, fun i y _ e => by simp at e⟩
  | a :: ys, h => by
    obtain ⟨h1, h2⟩ := List.pairwise_cons.mp h
    obtain ⟨p, p1, p2, p3⟩ := split_at h2
    by_cases ha : P a = true
    · refine ⟨p + 1, by simp; exact p1, fun i y hi e => ?_, fun i y hi e => ?_⟩
      · cases i with
        | zero => simp at e; subst e; exact ha
        | succ i => exact p2 i y (by exact ar56 hi) (by simpa using e)
      · cases i with
        | zero => exact (ar381 hi).elim
        | succ i => exact p3 i y (by exact ar382 hi) (by simpa using e)
    · refine ⟨0, Nat.zero_le _, fun i y hi => by exact (ar380 hi).elim, fun i y _ e => ?_⟩
      cases i with
      | zero => simp at e; subst e; simpa using ha
      | succ i =>
        have hm : y ∈ ys := List.mem_of_getElem? (by simpa using e)
        cases hp : P y with
        | false => rfl
        | true => exact absurd (h1 y hm hp) ha
theorem mem_take_at {ys : List Int} {p : Nat} {y : Int} (h : y ∈ ys.take p) : ∃ i, i < p ∧ ys[i]? = some y := by
  obtain ⟨i, hi, e⟩ := List.mem_iff_getElem.mp h
  rw [List.length_take] at hi
  refine ⟨i, by exact ar27 hi, ?_⟩
  rw [List.getElem_take] at e
  rw [← e]; exact List.getElem?_eq_getElem (by exact ar28 hi)
theorem mem_drop_at {ys : List Int} {p : Nat} {y : Int} (h : y ∈ ys.drop p) : ∃ i, p ≤ i ∧ ys[i]? = some y := by
  obtain ⟨i, hi, e⟩ := List.mem_iff_getElem.mp h
  rw [List.length_drop] at hi
  refine ⟨p + i, by exact ar140, ?_⟩
  rw [List.getElem_drop] at e
  rw [← e]; exact List.getElem?_eq_getElem (by exact ar383 hi)
theorem ins_pair {R : Int → Int → Prop} {ys : List Int} {x : Int} {p : Nat} (h : ys.Pairwise R) (h1 : ∀ y ∈ ys.take p, R y x) (h2 : ∀ y ∈ ys.drop p, R x y) : (ys.take p ++ x :: ys.drop p).Pairwise R := by
  have h' : (ys.take p ++ ys.drop p).Pairwise R := by rw [List.take_append_drop]; exact h
  rw [List.pairwise_append] at h' ⊢
  refine ⟨h'.1, List.pairwise_cons.mpr ⟨h2, h'.2.1⟩, fun a ha b hb => ?_⟩
  rcases List.mem_cons.mp hb with rfl | hb
  · exact h1 a ha
  · exact h'.2.2 a ha b hb
theorem ins_perm (ys : List Int) (x : Int) (p : Nat) : (ys.take p ++ x :: ys.drop p).Perm (ys ++ [x]) := by
  have h1 : (ys.take p ++ x :: ys.drop p).Perm (x :: (ys.take p ++ ys.drop p)) := List.perm_middle
  rw [List.take_append_drop] at h1
  exact h1.trans (List.perm_append_singleton x ys).symm
/-- the least of a list in order -/
theorem take_least {R : Int → Int → Prop} (asym : ∀ a b, R a b → R b a → False) : ∀ {out A B : List Int}, out.Pairwise R → out.Perm (A ++ B) → (∀ a ∈ A, ∀ b ∈ B, R a b) → (out.take A.length).Perm A
  | [], A, B, _, hp, _ => by
    have : A ++ B = [] := List.Perm.eq_nil hp.symm
    have hA : A = [] := (List.append_eq_nil_iff.mp this).1
    subst hA; simp
  | x :: xs, [], B, _, _, _ => by simp
  | x :: xs, a₀ :: A, B, hw, hp, hab => by
    obtain ⟨h1, h2⟩ := List.pairwise_cons.mp hw
    have hx : x ∈ a₀ :: A := by
      have hm : x ∈ (a₀ :: A) ++ B := hp.mem_iff.mp List.mem_cons_self
      rcases List.mem_append.mp hm with h | h
      · exact h
      · exfalso
        have r1 := hab a₀ List.mem_cons_self x h
        have ha : a₀ ∈ x :: xs := hp.mem_iff.mpr (List.mem_append_left _ List.mem_cons_self)
        rcases List.mem_cons.mp ha with e | ha
        · rw [e] at r1; exact asym _ _ r1 r1
        · exact asym _ _ r1 (h1 a₀ ha)
    have hA := List.perm_cons_erase hx
    have hp' : xs.Perm ((a₀ :: A).erase x ++ B) := by
      have := hp.trans (hA.append_right B)
      exact (List.perm_cons x).mp this
    have ih := take_least asym h2 hp' fun a ha b hb => hab a (List.mem_of_mem_erase ha) b hb
    have hl : ((a₀ :: A).erase x).length = A.length := by rw [List.length_erase_of_mem hx]; simp
    rw [hl] at ih
    rw [List.length_cons, List.take_succ_cons]
    exact (ih.cons x).trans hA.symm
end Mine
end

section
open PySem PySem.W PyProof.Rows
set_option maxRecDepth 100000
namespace Mine
section
variable {c : Cx} {A : Around} {B h : Heap} {mg mb : Str → Option Value}
theorem isTerminal_spec (T : TopAt B mg mb) (F : Fns B mg) (G : GG B h) (r : Room A 1) (x : Int) (t : Tok) :
    Wp c A (call (.ref 21) [.int x t] []) (fun v h' => v = .bool (decide (x < 256)) ∧ Ext [] h h' ∧ GG B h') h := by
  refine Wp.enter T G F.f3 r (by decide) (by decide) (binds := [("x", .int x t)]) (fun doc pm tk => BindsTo.of_eq rfl) rfl rfl rfl rfl rfl (fun L h₁ hL S r' => ?_)
  have S := S []
  obtain ⟨tN, hN⟩ := F.cNT
  refine Wp.cons (Wp.ret (Wp.cmp ?_))
  refine Wp.nameL S rfl rfl rfl rfl ?_
  refine Wp.nameG S T rfl rfl rfl hN ?_
  refine Wp.ltI ?_
  exact ⟨rfl, S.out hL, S.gg⟩
end
end Mine
end

section
open PySem PySem.W PyProof.Rows
set_option maxRecDepth 100000
namespace Mine
/-- what a key function does: of ints in D; the heap may have been turned at W since h₀ -/
noncomputable def KeyOk (c : Cx) (B h₀ : Heap) (W : List Addr) (k : Value) (d : Nat) (D : Int → Prop) (R : Int → Value → Prop) : Prop :=
  ∀ (A : Around) (h : Heap) (y : Int) (t : Tok), Room A d → GG B h → Ext W h₀ h → D y → Wp c A (call k [.int y t] []) (fun v h' => R y v ∧ Ext [] h h' ∧ GG B h') h
/-- «x < v» | «v < x» answers b, wherever it's asked -/
noncomputable def LtIs (c : Cx) (x v : Value) (b : Bool) : Prop := ∀ (A : Around) (h : Heap) (Q : Value → Heap → Prop), Q (.bool b) h → Wp c A (compareOp .Lt x v) Q h
theorem LtIs.ints {c : Cx} (a b : Int) (t u : Tok) : LtIs c (.int a t) (.int b u) (decide (a < b)) := fun A h Q q => Wp.ltI q
theorem LtIs.bools {c : Cx} (a b : Bool) : LtIs c (.bool a) (.bool b) (decide (b2i a < b2i b)) := fun A h Q q => Wp.ltB q

section
variable {c : Cx} {A : Around} {B h : Heap} {mg mb : Str → Option Value}
/-- the loop of a bisection -/
inductive BsJ (B h : Heap) (L l f : Addr) (xv : Value) (lo hi p : Nat) (n : Nat) (h' : Heap) : Prop
  | mk (m : Str → Option Value) (lo' hi' : Nat) (t1 t2 : Tok) (S : Fm B h [] L m h') (ma : m "a" = some (.ref l)) (mx : m "x" = some xv) (mk : m "key" = some (.ref f)) (mlo : m "lo" = some (.int (lo' : Nat) t1)) (mhi : m "hi" = some (.int (hi' : Nat) t2))
    (k1 : lo ≤ lo') (k2 : lo' ≤ p) (k3 : p ≤ hi') (k4 : hi' ≤ hi) (e : n = hi' - lo') : BsJ B h L l f xv lo hi p n h'
/-- bisect_right, with a key: p parts the list -/
theorem bisectR_spec (T : TopAt B mg mb) (F : Fns B mg) (G : GG B h) {d : Nat} (r : Room A (d + 1)) {l f : Addr} {ys : List Int} {xv hiv : Value} {lo hi p : Nat} {t : Tok} {D : Int → Prop} {gt : Int → Bool}
    (hl : IL h l ys) (hz : ys.length < 2 ^ 62) (hf : ∃ o fd, h.get? f = some o ∧ o.data = .func fd) (hk : KeyOk c B h [] (.ref f) d D (fun y v => LtIs c xv v (gt y)))
    (hhi : hiv = .none ∧ hi = ys.length ∨ ∃ t, hiv = .int hi t ∧ hi ≤ ys.length) (hlp : lo ≤ p) (hph : p ≤ hi)
    (hD : ∀ i y, lo ≤ i → i < hi → ys[i]? = some y → D y) (h1 : ∀ i y, lo ≤ i → i < p → ys[i]? = some y → gt y = false) (h2 : ∀ i y, p ≤ i → i < hi → ys[i]? = some y → gt y = true) :
    Wp c A (call (.ref 95) [.ref l, xv, .int lo t, hiv] [("key", .ref f)]) (fun v h' => (∃ t, v = .int p t) ∧ Ext [] h h' ∧ GG B h') h := by
  obtain ⟨td, nd, od, hd1, hd2⟩ := F.d87
  refine Wp.enter T G F.f16 r (by decide) (by decide) (binds := [("a", .ref l), ("x", xv), ("lo", .int lo t), ("hi", hiv), ("key", .ref f)])
    (fun doc pm tk => BindsTo.of_defaults rfl (G.ext.get _ _ (by decide) hd1) hd2 rfl rfl) rfl rfl rfl rfl rfl (fun L h₁ hL S r' => ?_)
  have S := S []
  refine Wp.abs fun Qz kz => ?_
  have hlL : l ≠ L := by rintro rfl; obtain ⟨o, q, _⟩ := hl.some; rw [hL] at q; cases q
  have hloop : ∀ h₂ m₂ t₂ t₃, Fm B h [] L m₂ h₂ → m₂ "a" = some (.ref l) → m₂ "x" = some xv → m₂ "key" = some (.ref f) → m₂ "lo" = some (.int lo t₂) → m₂ "hi" = some (.int hi t₃) →
      Wp c (A.deeper (envX "bisect_right" (fScope (stm 16)) L 95 (.ref 94) [])) (execs ((fBody (stm 16)).drop 2) (envX "bisect_right" (fScope (stm 16)) L 95 (.ref 94) []))
        Qz h₂ := by
    intro h₂ m₂ t₂ t₃ S ma mx mk mlo mhi
    refine Wp.cons (Wp.ifF (Wp.tCmp ?_))
    refine Wp.nameL S rfl rfl rfl mk (Wp.cNone (Wp.isN (Wp.truB ⟨rfl, ?_⟩)))
    refine Wp.cons ?_
    refine Wp.whileS (BsJ B h L l f xv lo hi p) ?_ (hi - lo) ⟨m₂, lo, hi, t₂, t₃, S, ma, mx, mk, mlo, mhi, Nat.le_refl _, hlp, hph, Nat.le_refl _, rfl⟩
    rintro n h' ⟨m, lo', hi', t1, t2, S, ma, mx, mk, mlo, mhi, k1, k2, k3, k4, rfl⟩
    refine Wp.tCmp (Wp.nameL S rfl rfl rfl mlo (Wp.nameL S rfl rfl rfl mhi (Wp.ltI (Wp.truB ?_))))
    by_cases hlt : lo' < hi'
    · rw [decide_eq_true (by exact ar177 hlt), if_pos rfl]
      refine Wp.abs fun Qy ky => ?_
      have hhl : hi ≤ ys.length := by rcases hhi with ⟨_, e⟩ | ⟨_, _, e⟩ <;> omega
      have hm1 : (lo' + hi') / 2 < ys.length := by exact ar178 hlt k4 hhl
      refine Wp.cons (Wp.assign (Wp.bin (Wp.bin ?_)))
      refine Wp.nameL S rfl rfl rfl mlo (Wp.nameL S rfl rfl rfl mhi (Wp.addI fun t4 => ?_))
      refine Wp.cInt fun t5 => Wp.fdivI (by decide) (by decide +kernel) fun t6 => ?_
      have em : Int.fdiv ((lo' : Int) + hi') 2 = ((lo' + hi') / 2 : Nat) := by rw [Int.fdiv_eq_ediv_of_nonneg _ (by decide)]; exact ar179
      rw [em]
      refine Wp.storeL S rfl rfl rfl fun h'' S _ => ?_
      have iy : IL h'' l ys := hl.fm S (fun q => nomatch q) hlL
      obtain ⟨y, hy⟩ : ∃ y, ys[(lo' + hi') / 2]? = some y := ⟨ys[(lo' + hi') / 2], by simp [hm1]⟩
      obtain ⟨fo, fd, hfo, hfd⟩ := hf
      refine Wp.cons (Wp.ifS (Wp.tCmp (Wp.nameL S rfl rfl rfl mx ?_)))
      refine Wp.callF (o := fo) (fd := fd) (fun Q q => Wp.nameL S rfl rfl rfl mk q) ?_
      refine Wp.icons (Wp.item ?_)
      refine Wp.nameL S rfl rfl rfl ma (Wp.nameL S rfl rfl rfl rfl ?_)
      refine ⟨l, ys, _, _, y, rfl, rfl, iy, by exact ar180, by rw [Int.toNat_natCast]; exact hy, hz, fun t7 => Wp.inil ?_⟩
      have hfL : f ≠ L := by rintro rfl; rw [hL] at hfo; cases hfo
      refine ⟨⟨S.get _ _ (fun q => nomatch q) hfL hfo, hfd⟩, ?_⟩
      refine (hk _ h'' y t7 (r'.le (Nat.le_refl _)) S.gg (S.out hL) (hD _ y (by exact ar181 k1 hlt) (by exact ar182 hlt k4) hy)).mono fun v h₃ ⟨q1, q2, q3⟩ => ?_
      have S := S.grow q2
      refine q1 _ _ _ (Wp.truB ?_)
      cases hg : gt y with
      | true =>
        rw [if_pos rfl]
        refine Wp.cons (Wp.assign (Wp.nameL S rfl rfl rfl rfl (Wp.storeL S rfl rfl rfl fun h₄ S _ => Wp.nil (Wp.nil ?_))))
        have hp : p ≤ (lo' + hi') / 2 := by
          apply Nat.le_of_not_lt
          intro q
          have := h1 _ y (by exact ar181 k1 hlt) q hy
          rw [hg] at this; cases this
        exact ky .next _ ⟨_, by exact ar183 hlt, _, lo', (lo' + hi') / 2, _, _, S, ma, mx, mk, mlo, rfl, k1, k2, hp, by exact ar184 hlt k4, rfl⟩
      | false =>
        rw [if_neg (by decide)]
        refine Wp.cons (Wp.assign (Wp.bin (Wp.nameL S rfl rfl rfl rfl (Wp.cInt fun t8 => Wp.addI fun t9 => ?_))))
        refine Wp.storeL S rfl rfl rfl fun h₄ S _ => Wp.nil (Wp.nil ?_)
        have hp : (lo' + hi') / 2 < p := by
          apply Nat.lt_of_not_le
          intro q
          have := h2 _ y q (by exact ar182 hlt k4) hy
          rw [hg] at this; cases this
        exact ky .next _ ⟨_, by exact ar185 hlt, _, (lo' + hi') / 2 + 1, hi', _, _, S, ma, mx, mk, rfl, mhi, by exact ar186 k1 hlt, by exact ar187 hp, k3, k4, rfl⟩
    · rw [decide_eq_false (by exact ar188 hlt), if_neg (by decide)]
      refine Wp.nil (Wp.cons (Wp.ret (Wp.nameL S rfl rfl rfl mlo ?_)))
      obtain rfl : lo' = p := by exact ar189 k2 k3 hlt
      exact kz _ _ ⟨⟨_, rfl⟩, S.out hL, S.gg⟩
  refine Wp.cons (Wp.ifN (Wp.tCmp ?_))
  refine Wp.nameL S rfl rfl rfl rfl (Wp.cInt fun t0 => Wp.ltI (Wp.truB ⟨decide_eq_false (by exact ar87), ?_⟩))
  rcases hhi with ⟨rfl, rfl⟩ | ⟨t', rfl, hle⟩
  · refine Wp.cons (Wp.ifT (Wp.tCmp ?_))
    refine Wp.nameL S rfl rfl rfl rfl (Wp.cNone (Wp.isN (Wp.truB ⟨rfl, ?_⟩)))
    refine Wp.cons (Wp.assign (Wp.callB (bi := "len") (fun Q q => Wp.nameB S T rfl rfl rfl rfl F.bLen (by decide) (by decide +kernel) q) ?_))
    refine Wp.icons (Wp.nameL S rfl rfl rfl rfl (Wp.inil ?_))
    refine Wp.lenL (hl.fm S (fun q => nomatch q) hlL) hz fun t1 => ?_
    refine Wp.storeL S rfl rfl rfl fun h₂ S _ => Wp.nil ?_
    exact hloop _ _ _ _ S rfl rfl rfl rfl rfl
  · refine Wp.cons (Wp.ifN (Wp.tCmp ?_))
    refine Wp.nameL S rfl rfl rfl rfl (Wp.cNone (Wp.isN (Wp.truB ⟨rfl, ?_⟩)))
    exact hloop _ _ _ _ S rfl rfl rfl rfl rfl
end
end Mine
end

section
open PySem PySem.W PyProof.Rows
set_option maxRecDepth 100000
namespace Mine
section
variable {c : Cx} {A : Around} {B h : Heap} {mg mb : Str → Option Value}
/-- bisect_left, with a key: p parts the list -/
theorem bisectL_spec (T : TopAt B mg mb) (F : Fns B mg) (G : GG B h) {d : Nat} (r : Room A (d + 1)) {l f : Addr} {ys : List Int} {xv hiv : Value} {lo hi p : Nat} {t : Tok} {D : Int → Prop} {gt : Int → Bool}
    (hl : IL h l ys) (hz : ys.length < 2 ^ 62) (hf : ∃ o fd, h.get? f = some o ∧ o.data = .func fd) (hk : KeyOk c B h [] (.ref f) d D (fun y v => LtIs c v xv (gt y)))
    (hhi : hiv = .none ∧ hi = ys.length ∨ ∃ t, hiv = .int hi t ∧ hi ≤ ys.length) (hlp : lo ≤ p) (hph : p ≤ hi)
    (hD : ∀ i y, lo ≤ i → i < hi → ys[i]? = some y → D y) (h1 : ∀ i y, lo ≤ i → i < p → ys[i]? = some y → gt y = true) (h2 : ∀ i y, p ≤ i → i < hi → ys[i]? = some y → gt y = false) :
    Wp c A (call (.ref 113) [.ref l, xv, .int lo t, hiv] [("key", .ref f)]) (fun v h' => (∃ t, v = .int p t) ∧ Ext [] h h' ∧ GG B h') h := by
  obtain ⟨td, nd, od, hd1, hd2⟩ := F.d105
  refine Wp.enter T G F.f18 r (by decide) (by decide) (binds := [("a", .ref l), ("x", xv), ("lo", .int lo t), ("hi", hiv), ("key", .ref f)])
    (fun doc pm tk => BindsTo.of_defaults rfl (G.ext.get _ _ (by decide) hd1) hd2 rfl rfl) rfl rfl rfl rfl rfl (fun L h₁ hL S r' => ?_)
  have S := S []
  refine Wp.abs fun Qz kz => ?_
  have hlL : l ≠ L := by rintro rfl; obtain ⟨o, q, _⟩ := hl.some; rw [hL] at q; cases q
  have hloop : ∀ h₂ m₂ t₂ t₃, Fm B h [] L m₂ h₂ → m₂ "a" = some (.ref l) → m₂ "x" = some xv → m₂ "key" = some (.ref f) → m₂ "lo" = some (.int lo t₂) → m₂ "hi" = some (.int hi t₃) →
      Wp c (A.deeper (envX "bisect_left" (fScope (stm 18)) L 113 (.ref 112) [])) (execs ((fBody (stm 18)).drop 2) (envX "bisect_left" (fScope (stm 18)) L 113 (.ref 112) []))
        Qz h₂ := by
    intro h₂ m₂ t₂ t₃ S ma mx mk mlo mhi
    refine Wp.cons (Wp.ifF (Wp.tCmp ?_))
    refine Wp.nameL S rfl rfl rfl mk (Wp.cNone (Wp.isN (Wp.truB ⟨rfl, ?_⟩)))
    refine Wp.cons ?_
    refine Wp.whileS (BsJ B h L l f xv lo hi p) ?_ (hi - lo) ⟨m₂, lo, hi, t₂, t₃, S, ma, mx, mk, mlo, mhi, Nat.le_refl _, hlp, hph, Nat.le_refl _, rfl⟩
    rintro n h' ⟨m, lo', hi', t1, t2, S, ma, mx, mk, mlo, mhi, k1, k2, k3, k4, rfl⟩
    refine Wp.tCmp (Wp.nameL S rfl rfl rfl mlo (Wp.nameL S rfl rfl rfl mhi (Wp.ltI (Wp.truB ?_))))
    by_cases hlt : lo' < hi'
    · rw [decide_eq_true (by exact ar177 hlt), if_pos rfl]
      refine Wp.abs fun Qy ky => ?_
      have hhl : hi ≤ ys.length := by rcases hhi with ⟨_, e⟩ | ⟨_, _, e⟩ <;> omega
      have hm1 : (lo' + hi') / 2 < ys.length := by exact ar178 hlt k4 hhl
      refine Wp.cons (Wp.assign (Wp.bin (Wp.bin ?_)))
      refine Wp.nameL S rfl rfl rfl mlo (Wp.nameL S rfl rfl rfl mhi (Wp.addI fun t4 => ?_))
      refine Wp.cInt fun t5 => Wp.fdivI (by decide) (by decide +kernel) fun t6 => ?_
      have em : Int.fdiv ((lo' : Int) + hi') 2 = ((lo' + hi') / 2 : Nat) := by rw [Int.fdiv_eq_ediv_of_nonneg _ (by decide)]; exact ar179
      rw [em]
      refine Wp.storeL S rfl rfl rfl fun h'' S _ => ?_
      have iy : IL h'' l ys := hl.fm S (fun q => nomatch q) hlL
      obtain ⟨y, hy⟩ : ∃ y, ys[(lo' + hi') / 2]? = some y := ⟨ys[(lo' + hi') / 2], by simp [hm1]⟩
      obtain ⟨fo, fd, hfo, hfd⟩ := hf
      refine Wp.cons (Wp.ifS (Wp.tCmp ?_))
      refine Wp.callF (o := fo) (fd := fd) (fun Q q => Wp.nameL S rfl rfl rfl mk q) ?_
      refine Wp.icons (Wp.item ?_)
      refine Wp.nameL S rfl rfl rfl ma (Wp.nameL S rfl rfl rfl rfl ?_)
      refine ⟨l, ys, _, _, y, rfl, rfl, iy, by exact ar180, by rw [Int.toNat_natCast]; exact hy, hz, fun t7 => Wp.inil ?_⟩
      have hfL : f ≠ L := by rintro rfl; rw [hL] at hfo; cases hfo
      refine ⟨⟨S.get _ _ (fun q => nomatch q) hfL hfo, hfd⟩, ?_⟩
      refine (hk _ h'' y t7 (r'.le (Nat.le_refl _)) S.gg (S.out hL) (hD _ y (by exact ar181 k1 hlt) (by exact ar182 hlt k4) hy)).mono fun v h₃ ⟨q1, q2, q3⟩ => ?_
      have S := S.grow q2
      refine Wp.nameL S rfl rfl rfl mx (q1 _ _ _ (Wp.truB ?_))
      cases hg : gt y with
      | true =>
        rw [if_pos rfl]
        refine Wp.cons (Wp.assign (Wp.bin (Wp.nameL S rfl rfl rfl rfl (Wp.cInt fun t8 => Wp.addI fun t9 => ?_))))
        refine Wp.storeL S rfl rfl rfl fun h₄ S _ => Wp.nil (Wp.nil ?_)
        have hp : (lo' + hi') / 2 < p := by
          apply Nat.lt_of_not_le
          intro q
          have := h2 _ y q (by exact ar182 hlt k4) hy
          rw [hg] at this; cases this
        exact ky .next _ ⟨_, by exact ar185 hlt, _, (lo' + hi') / 2 + 1, hi', _, _, S, ma, mx, mk, rfl, mhi, by exact ar186 k1 hlt, by exact ar187 hp, k3, k4, rfl⟩
      | false =>
        rw [if_neg (by decide)]
        refine Wp.cons (Wp.assign (Wp.nameL S rfl rfl rfl rfl (Wp.storeL S rfl rfl rfl fun h₄ S _ => Wp.nil (Wp.nil ?_))))
        have hp : p ≤ (lo' + hi') / 2 := by
          apply Nat.le_of_not_lt
          intro q
          have := h1 _ y (by exact ar181 k1 hlt) q hy
          rw [hg] at this; cases this
        exact ky .next _ ⟨_, by exact ar183 hlt, _, lo', (lo' + hi') / 2, _, _, S, ma, mx, mk, mlo, rfl, k1, k2, hp, by exact ar184 hlt k4, rfl⟩
    · rw [decide_eq_false (by exact ar188 hlt), if_neg (by decide)]
      refine Wp.nil (Wp.cons (Wp.ret (Wp.nameL S rfl rfl rfl mlo ?_)))
      obtain rfl : lo' = p := by exact ar189 k2 k3 hlt
      exact kz _ _ ⟨⟨_, rfl⟩, S.out hL, S.gg⟩
  refine Wp.cons (Wp.ifN (Wp.tCmp ?_))
  refine Wp.nameL S rfl rfl rfl rfl (Wp.cInt fun t0 => Wp.ltI (Wp.truB ⟨decide_eq_false (by exact ar87), ?_⟩))
  rcases hhi with ⟨rfl, rfl⟩ | ⟨t', rfl, hle⟩
  · refine Wp.cons (Wp.ifT (Wp.tCmp ?_))
    refine Wp.nameL S rfl rfl rfl rfl (Wp.cNone (Wp.isN (Wp.truB ⟨rfl, ?_⟩)))
    refine Wp.cons (Wp.assign (Wp.callB (bi := "len") (fun Q q => Wp.nameB S T rfl rfl rfl rfl F.bLen (by decide) (by decide +kernel) q) ?_))
    refine Wp.icons (Wp.nameL S rfl rfl rfl rfl (Wp.inil ?_))
    refine Wp.lenL (hl.fm S (fun q => nomatch q) hlL) hz fun t1 => ?_
    refine Wp.storeL S rfl rfl rfl fun h₂ S _ => Wp.nil ?_
    exact hloop _ _ _ _ S rfl rfl rfl rfl rfl
  · refine Wp.cons (Wp.ifN (Wp.tCmp ?_))
    refine Wp.nameL S rfl rfl rfl rfl (Wp.cNone (Wp.isN (Wp.truB ⟨rfl, ?_⟩)))
    exact hloop _ _ _ _ S rfl rfl rfl rfl rfl
end
end Mine
end

section
open PySem PySem.W PyProof.Rows
set_option maxRecDepth 100000
namespace Mine
theorem KeyOk.here {c : Cx} {B h₀ h : Heap} {W : List Addr} {k : Value} {d : Nat} {D : Int → Prop} {R : Int → Value → Prop} (x : KeyOk c B h₀ W k d D R) (e : Ext W h₀ h) : KeyOk c B h [] k d D R :=
  fun A h' y t r g e' dy => x A h' y t r g (e.trans e'.of_nil) dy
theorem KeyOk.mono {c : Cx} {B h₀ : Heap} {W : List Addr} {k : Value} {d : Nat} {D : Int → Prop} {R R' : Int → Value → Prop} (x : KeyOk c B h₀ W k d D R) (i : ∀ y v, R y v → R' y v) : KeyOk c B h₀ W k d D R' :=
  fun A h' y t r g e' dy => (x A h' y t r g e' dy).mono fun v h₂ ⟨a, b⟩ => ⟨i _ _ a, b⟩
section
variable {c : Cx} {A : Around} {B h : Heap} {mg mb : Str → Option Value}
theorem insortR_spec (T : TopAt B mg mb) (F : Fns B mg) (G : GG B h) {d : Nat} (r : Room A (d + 2)) {l f : Addr} {ys : List Int} {x : Int} {p : Nat} {t : Tok} {D : Int → Prop} {g : Int → Int}
    (hl : IL h l ys) (hz : ys.length < 2 ^ 20) (hlB : B.get? l = none) (hf : ∃ o fd, h.get? f = some o ∧ o.data = .func fd) (hk : KeyOk c B h [] (.ref f) d D (fun y v => ∃ t, v = .int (g y) t))
    (hx : D x) (hD : ∀ (i : Nat) y, ys[i]? = some y → D y) (hp : p ≤ ys.length) (h1 : ∀ i y, i < p → ys[i]? = some y → ¬ g x < g y) (h2 : ∀ i y, p ≤ i → ys[i]? = some y → g x < g y) :
    Wp c A (call (.ref 86) [.ref l, .int x t] [("key", .ref f)]) (fun v h' => v = .none ∧ IL h' l (ys.take p ++ x :: ys.drop p) ∧ Ext [l] h h' ∧ GG B h') h := by
  obtain ⟨td, nd, od, hd1, hd2⟩ := F.d78
  refine Wp.enter T G F.f15 r (by decide) (by decide) (binds := [("a", .ref l), ("x", .int x t), ("lo", .int 0 td), ("hi", .none), ("key", .ref f)])
    (fun doc pm tk => BindsTo.of_defaults rfl (G.ext.get _ _ (by decide) hd1) hd2 rfl rfl) rfl rfl rfl rfl rfl (fun L h₁ hL S r' => ?_)
  have S := S []
  refine Wp.abs fun Qz kz => ?_
  have hlL : l ≠ L := by rintro rfl; obtain ⟨o, q, _⟩ := hl.some; rw [hL] at q; cases q
  obtain ⟨fo, fd, hfo, hfd⟩ := hf
  have hfL : f ≠ L := by rintro rfl; rw [hL] at hfo; cases hfo
  refine Wp.cons (Wp.ifF (Wp.tCmp ?_))
  refine Wp.nameL S rfl rfl rfl rfl (Wp.cNone (Wp.isN (Wp.truB ⟨rfl, ?_⟩)))
  obtain ⟨bo, bfd, hbo, hbd⟩ := F.f16.there S.gg (by decide)
  refine Wp.cons (Wp.assign (Wp.callFk (o := bo) (fd := bfd) (fun Q q => Wp.nameG S T rfl rfl rfl F.n16 q) ?_))
  refine Wp.icons (Wp.nameL S rfl rfl rfl rfl (Wp.icons ?_))
  refine Wp.callF (o := fo) (fd := fd) (fun Q q => Wp.nameL S rfl rfl rfl rfl q) (Wp.icons (Wp.nameL S rfl rfl rfl rfl (Wp.inil ⟨⟨S.get _ _ (fun q => nomatch q) hfL hfo, hfd⟩, ?_⟩)))
  refine (hk _ h₁ x t (r'.le (by exact ar35)) S.gg (S.out hL) hx).mono fun v h₂ ⟨⟨t', e⟩, q2, q3⟩ => ?_
  subst e
  have S := S.grow q2
  refine Wp.icons (Wp.nameL S rfl rfl rfl rfl (Wp.icons (Wp.nameL S rfl rfl rfl rfl (Wp.inil ?_))))
  refine Wp.nameL S rfl rfl rfl rfl ⟨⟨q2.all _ _ hbo, hbd⟩, ?_⟩
  refine (bisectR_spec T F S.gg (d := d) (r'.le (by exact ar190)) (p := p) (lo := 0) (hi := ys.length) (gt := fun y => decide (g x < g y)) (hl.fm S (fun q => nomatch q) hlL) (by exact ar191 hz) ⟨fo, fd, S.get _ _ (fun q => nomatch q) hfL hfo, hfd⟩
    ((hk.here (S.out hL)).mono fun y v ⟨t2, e⟩ => e ▸ LtIs.ints _ _ _ _) (.inl ⟨rfl, rfl⟩) (Nat.zero_le _) hp (fun i y _ _ e => hD i y e) (fun i y _ hi e => decide_eq_false (h1 i y hi e)) (fun i y hi _ e => decide_eq_true (h2 i y hi e))).mono fun v h₃ ⟨⟨t2, e⟩, e2, g2⟩ => ?_
  subst e
  have S := S.grow e2
  refine Wp.storeL S rfl rfl rfl fun h₄ S _ => Wp.nil ?_
  have il := hl.fm S (fun q => nomatch q) hlL
  obtain ⟨vs, n, ho, hi⟩ := id il
  refine Wp.cons (Wp.expr (Wp.meth ?_))
  refine Wp.nameL S rfl rfl rfl rfl ⟨"list.insert", Wp.gmL ho PySem.F.slot_list_insert PySem.F.type_list_insert, ?_⟩
  refine Wp.icons (Wp.nameL S rfl rfl rfl rfl (Wp.icons (Wp.nameL S rfl rfl rfl rfl (Wp.inil ?_))))
  refine Wp.insertK il (by exact ar32) (by exact ar192 hp) hz fun h₅ il' e5 => ⟨rfl, Wp.nil ?_⟩
  rw [Int.toNat_natCast] at il'
  have o := S.out hL
  exact kz _ _ ⟨rfl, il', o.of_nil.trans e5, S.gg.turn e5 ho (fun _ => nofun) hlB⟩
end
end Mine
end

section
open PySem PySem.W PyProof.Rows
set_option maxRecDepth 100000
namespace Mine
section
variable {c : Cx} {A : Around} {B h : Heap} {mg mb : Str → Option Value}
theorem insortL_spec (T : TopAt B mg mb) (F : Fns B mg) (G : GG B h) {d : Nat} (r : Room A (d + 2)) {l f : Addr} {ys : List Int} {x : Int} {p : Nat} {t : Tok} {D : Int → Prop} {g : Int → Int}
    (hl : IL h l ys) (hz : ys.length < 2 ^ 20) (hlB : B.get? l = none) (hf : ∃ o fd, h.get? f = some o ∧ o.data = .func fd) (hk : KeyOk c B h [] (.ref f) d D (fun y v => ∃ t, v = .int (g y) t))
    (hx : D x) (hD : ∀ (i : Nat) y, ys[i]? = some y → D y) (hp : p ≤ ys.length) (h1 : ∀ i y, i < p → ys[i]? = some y → g y < g x) (h2 : ∀ i y, p ≤ i → ys[i]? = some y → ¬ g y < g x) :
    Wp c A (call (.ref 104) [.ref l, .int x t] [("key", .ref f)]) (fun v h' => v = .none ∧ IL h' l (ys.take p ++ x :: ys.drop p) ∧ Ext [l] h h' ∧ GG B h') h := by
  obtain ⟨td, nd, od, hd1, hd2⟩ := F.d96
  refine Wp.enter T G F.f17 r (by decide) (by decide) (binds := [("a", .ref l), ("x", .int x t), ("lo", .int 0 td), ("hi", .none), ("key", .ref f)])
    (fun doc pm tk => BindsTo.of_defaults rfl (G.ext.get _ _ (by decide) hd1) hd2 rfl rfl) rfl rfl rfl rfl rfl (fun L h₁ hL S r' => ?_)
  have S := S []
  refine Wp.abs fun Qz kz => ?_
  have hlL : l ≠ L := by rintro rfl; obtain ⟨o, q, _⟩ := hl.some; rw [hL] at q; cases q
  obtain ⟨fo, fd, hfo, hfd⟩ := hf
  have hfL : f ≠ L := by rintro rfl; rw [hL] at hfo; cases hfo
  refine Wp.cons (Wp.ifF (Wp.tCmp ?_))
  refine Wp.nameL S rfl rfl rfl rfl (Wp.cNone (Wp.isN (Wp.truB ⟨rfl, ?_⟩)))
  obtain ⟨bo, bfd, hbo, hbd⟩ := F.f18.there S.gg (by decide)
  refine Wp.cons (Wp.assign (Wp.callFk (o := bo) (fd := bfd) (fun Q q => Wp.nameG S T rfl rfl rfl F.n18 q) ?_))
  refine Wp.icons (Wp.nameL S rfl rfl rfl rfl (Wp.icons ?_))
  refine Wp.callF (o := fo) (fd := fd) (fun Q q => Wp.nameL S rfl rfl rfl rfl q) (Wp.icons (Wp.nameL S rfl rfl rfl rfl (Wp.inil ⟨⟨S.get _ _ (fun q => nomatch q) hfL hfo, hfd⟩, ?_⟩)))
  refine (hk _ h₁ x t (r'.le (by exact ar35)) S.gg (S.out hL) hx).mono fun v h₂ ⟨⟨t', e⟩, q2, q3⟩ => ?_
  subst e
  have S := S.grow q2
  refine Wp.icons (Wp.nameL S rfl rfl rfl rfl (Wp.icons (Wp.nameL S rfl rfl rfl rfl (Wp.inil ?_))))
  refine Wp.nameL S rfl rfl rfl rfl ⟨⟨q2.all _ _ hbo, hbd⟩, ?_⟩
  refine (bisectL_spec T F S.gg (d := d) (r'.le (by exact ar190)) (p := p) (lo := 0) (hi := ys.length) (gt := fun y => decide (g y < g x)) (hl.fm S (fun q => nomatch q) hlL) (by exact ar191 hz) ⟨fo, fd, S.get _ _ (fun q => nomatch q) hfL hfo, hfd⟩
    ((hk.here (S.out hL)).mono fun y v ⟨t2, e⟩ => e ▸ LtIs.ints _ _ _ _) (.inl ⟨rfl, rfl⟩) (Nat.zero_le _) hp (fun i y _ _ e => hD i y e) (fun i y _ hi e => decide_eq_true (h1 i y hi e)) (fun i y hi _ e => decide_eq_false (h2 i y hi e))).mono fun v h₃ ⟨⟨t2, e⟩, e2, g2⟩ => ?_
  subst e
  have S := S.grow e2
  refine Wp.storeL S rfl rfl rfl fun h₄ S _ => Wp.nil ?_
  have il := hl.fm S (fun q => nomatch q) hlL
  obtain ⟨vs, n, ho, hi⟩ := id il
  refine Wp.cons (Wp.expr (Wp.meth ?_))
  refine Wp.nameL S rfl rfl rfl rfl ⟨"list.insert", Wp.gmL ho PySem.F.slot_list_insert PySem.F.type_list_insert, ?_⟩
  refine Wp.icons (Wp.nameL S rfl rfl rfl rfl (Wp.icons (Wp.nameL S rfl rfl rfl rfl (Wp.inil ?_))))
  refine Wp.insertK il (by exact ar32) (by exact ar192 hp) hz fun h₅ il' e5 => ⟨rfl, Wp.nil ?_⟩
  rw [Int.toNat_natCast] at il'
  have o := S.out hL
  exact kz _ _ ⟨rfl, il', o.of_nil.trans e5, S.gg.turn e5 ho (fun _ => nofun) hlB⟩
end
end Mine
end

section
open PySem PySem.W PyProof.Rows
set_option maxRecDepth 100000
namespace Mine
open Builtin.Int in
theorem bits_le {x : Int} {k : Nat} (h0 : 0 ≤ x) (h : x < 2 ^ k) : intBits x ≤ k := by
  rw [intBits_le_iff]
  have : (x.natAbs : Int) < ((2 ^ k : Nat) : Int) := by rw [Int.natAbs_of_nonneg h0]; exact_mod_cast h
  exact_mod_cast this
open Builtin.Int in
theorem bits_small {x : Int} (h0 : 0 ≤ x) (h : x < 2 ^ 60) : intBits x ≤ 64 := Nat.le_trans (bits_le h0 h) (by decide)
theorem nin1 {a b : Nat} (h : a ≠ b) : a ∉ [b] := by simp [h]
noncomputable def inD (i : Nat) : Stmt := ((fBody (stm i)).find? fun s => match s with | .FunctionDef .. => true | _ => false).getD (.Pass ⟨0, 0, 0, 0⟩)
/-- what inner of _digits2int finds -/
structure DI (B : Heap) (mg : Str → Option Value) (z1 z2 z3 l f : Addr) (ds : List Int) (n : Nat) (fd : FuncData) (h : Heap) : Prop where
  gg : GG B h
  c1 : h.IsCell z1 (some (.ref l))
  c2 : ∃ t, h.IsCell z2 (some (.int n t))
  c3 : h.IsCell z3 (some (.ref f))
  il : IL h l ds
  fn : FnM h f fd
theorem DI.grow {B h h' : Heap} {mg : Str → Option Value} {z1 z2 z3 l f : Addr} {ds : List Int} {n : Nat} {fd : FuncData} (x : DI B mg z1 z2 z3 l f ds n fd h) (e : Ext [] h h') : DI B mg z1 z2 z3 l f ds n fd h' :=
  ⟨x.gg.grow e, x.c1.keeps e.all, let ⟨t, y⟩ := x.c2; ⟨t, y.keeps e.all⟩, x.c3.keeps e.all, x.il.get fun o q => e.all _ _ q, x.fn.keeps e.all⟩
section
variable {c : Cx} {A : Around} {B h : Heap} {mg mb : Str → Option Value}
theorem d2iInner (T : TopAt B mg mb) {z1 z2 z3 l f : Addr} {ds : List Int} {n : Nat} {doc pm cv ct : Value}
    (hds : ∀ d ∈ ds, 0 ≤ d ∧ d < 2 ^ n) (hn : n * ds.length ≤ 100000) (hlen : ds.length ≤ 1000) (hn1 : n ≤ 100000) :
    ∀ (k : Nat) (A : Around) (h : Heap) (L R : Nat) (tL tR : Tok), R - L ≤ k → L < R → R ≤ ds.length → Room A k →
      DI B mg z1 z2 z3 l f ds n (fnX "inner" "_digits2int.<locals>.inner" (fArgs (inD 11)) (fBody (inD 11)) (fScope (inD 11)) [("n", z2), ("inner", z3), ("digits", z1)] .none .none doc pm none cv ct) h →
      Wp c A (call (.ref f) [.int L tL, .int R tR] []) (fun v h' => (∃ t, v = .int (undig n (seg ds L R)) t) ∧ Ext [] h h' ∧ GG B h') h := by
  intro k
  induction k with
  | zero => intro A h L R tL tR h1 h2; exact (ar193 h1 h2).elim
  | succ k ih =>
    intro A h L R tL tR h1 h2 h3 r D
    refine Wp.enterM (args := ⟨[.int L tL, .int R tR], []⟩) (n := k) T D.gg D.fn rfl r (binds := [("L", .int L tL), ("R", .int R tR)]) rfl rfl rfl rfl rfl rfl (fun F h₁ hF S r' => ?_)
    have S := S []
    refine Wp.abs fun Qz kz => ?_
    have out : ∀ {h' : Heap} {m : Str → Option Value}, Fm B h [] F m h' → Ext [] h h' := fun S => S.out (new_none hF)
    have dd := fun {h' : Heap} {m : Str → Option Value} (S : Fm B h [] F m h') => D.grow (out S)
    refine Wp.cons ?_
    by_cases hb : L + 1 = R
    · subst hb
      refine Wp.ifT (Wp.tCmp (Wp.bin (Wp.nameL S rfl rfl rfl rfl (Wp.cInt fun t1 => Wp.addI fun t2 => Wp.nameL S rfl rfl rfl rfl (Wp.eqI (Wp.truB ⟨by simp, ?_⟩))))))
      obtain ⟨d, hd⟩ : ∃ d, ds[L]? = some d := ⟨ds[L]'(by exact ar194 h3), by simp⟩
      refine Wp.cons (Wp.ret (Wp.item (Wp.nameF rfl rfl rfl (dd S).c1 (Wp.nameL S rfl rfl rfl rfl ?_))))
      refine ⟨l, ds, L, tL, d, rfl, rfl, (dd S).il, by exact ar32, by rw [Int.toNat_natCast]; exact hd, by exact ar195 hlen, fun t3 => ?_⟩
      refine kz _ _ ?_
      rw [seg_one hd, undig_one]
      exact ⟨⟨_, rfl⟩, out S, S.gg⟩
    · refine Wp.ifN (Wp.tCmp (Wp.bin (Wp.nameL S rfl rfl rfl rfl (Wp.cInt fun t1 => Wp.addI fun t2 => Wp.nameL S rfl rfl rfl rfl (Wp.eqI (Wp.truB ⟨by simp; exact ar196 hb, ?_⟩))))))
      refine Wp.cons (Wp.assign (Wp.bin (Wp.bin (Wp.nameL S rfl rfl rfl rfl (Wp.nameL S rfl rfl rfl rfl (Wp.addI fun t3 => Wp.cInt fun t4 => Wp.shrI (by decide) fun t5 => ?_))))))
      have em : Int.fdiv ((L : Int) + R) (2 ^ (1 : Int).toNat) = ((L + R) / 2 : Nat) := by
        rw [Int.fdiv_eq_ediv_of_nonneg _ (by decide)]
        show ((L : Int) + R) / 2 = _
        exact ar179
      rw [em]
      generalize hM : (L + R) / 2 = M
      have hLM : L < M := by exact ar197 hM h2 hb
      have hMR : M < R := by exact ar198 hM h2
      refine Wp.storeL S rfl rfl rfl fun h₂ S _ => ?_
      obtain ⟨tn, hc2⟩ := (dd S).c2
      have hnn : (0 : Int) ≤ (n : Int) := Int.natCast_nonneg n
      refine Wp.cons (Wp.assign (Wp.bin (Wp.bin (Wp.nameL S rfl rfl rfl rfl (Wp.nameL S rfl rfl rfl rfl (Wp.subI fun t6 => Wp.nameF rfl rfl rfl hc2 (Wp.mulI (IntMulOk.of_left (bits_small (by exact ar199 hLM) (by exact ar200 hM h3 hlen))) fun t7 => ?_)))))))
      have es : ((M : Int) - L) * n = (n * (M - L) : Nat) := by
        rw [Int.natCast_mul, Int.mul_comm, Int.natCast_sub (Nat.le_of_lt hLM)]
      rw [es]
      refine Wp.storeL S rfl rfl rfl fun h₃ S _ => ?_
      obtain ⟨fo, fd', hfo, hfd⟩ := (dd S).fn.there
      refine Wp.cons (Wp.ret (Wp.bin (Wp.bin ?_)))
      refine Wp.callF (o := fo) (fd := fd') (fun Q q => Wp.nameF rfl rfl rfl (dd S).c3 q) (Wp.icons (Wp.nameL S rfl rfl rfl rfl (Wp.icons (Wp.nameL S rfl rfl rfl rfl (Wp.inil ⟨⟨hfo, hfd⟩, ?_⟩)))))
      refine (ih _ h₃ M R _ _ (by exact ar201 hM h1 hb) hMR h3 r' (dd S)).mono fun v h₄ ⟨⟨t8, e⟩, e4, g4⟩ => ?_
      subst e
      have S := S.grow e4
      have hq : ∀ d ∈ seg ds M R, 0 ≤ d ∧ d < 2 ^ n := fun d hd => hds d (seg_mem hd)
      have hbq := bits_le (undig_nonneg n _ fun d hd => (hq d hd).1) (undig_lt n _ hq)
      rw [seg_len h3] at hbq
      have hb1 : n * (R - M) ≤ n * ds.length := Nat.mul_le_mul_left _ (by exact ar202 h3)
      have hb2 : n * (M - L) ≤ n * ds.length := Nat.mul_le_mul_left _ (by exact ar203 hM h3)
      refine Wp.nameL S rfl rfl rfl rfl (Wp.shlI (Int.natCast_nonneg _) (by exact ar204 hb2 hb1 hn hbq) fun t9 => ?_)
      obtain ⟨fo, fd', hfo, hfd⟩ := (dd S).fn.there
      refine Wp.callF (o := fo) (fd := fd') (fun Q q => Wp.nameF rfl rfl rfl (dd S).c3 q) (Wp.icons (Wp.nameL S rfl rfl rfl rfl (Wp.icons (Wp.nameL S rfl rfl rfl rfl (Wp.inil ⟨⟨hfo, hfd⟩, ?_⟩)))))
      refine (ih _ h₄ L M _ _ (by exact ar205 hM h1) hLM (by exact ar206 hMR h3) r' (dd S)).mono fun v h₅ ⟨⟨t10, e⟩, e5, g5⟩ => ?_
      subst e
      have S := S.grow e5
      refine Wp.addI fun t11 => ?_
      rw [Int.toNat_natCast, ← undig_seg (Nat.le_of_lt hLM) (Nat.le_of_lt hMR) h3]
      exact kz _ _ ⟨⟨_, rfl⟩, out S, S.gg⟩
theorem d2i_spec (T : TopAt B mg mb) (F : Fns B mg) (G : GG B h) {l : Addr} {ds : List Int} {n : Nat} {t : Tok} (r : Room A (ds.length + 1)) (hl : IL h l ds)
    (hds : ∀ d ∈ ds, 0 ≤ d ∧ d < 2 ^ n) (hn : n * ds.length ≤ 100000) (hlen : ds.length ≤ 1000) (hn1 : n ≤ 100000) :
    Wp c A (call (.ref 63) [.ref l, .int n t] []) (fun v h' => (∃ t, v = .int (undig n ds) t) ∧ Ext tabs h h' ∧ GG B h') h := by
  refine Wp.enterC (n := ds.length) T G F.f11 r (by decide) (by decide) (binds := [("digits", .ref l), ("n", .int n t)]) (fun doc pm => rfl) rfl rfl rfl rfl (fun L h₁ hL S C r' => ?_)
  have S := S tabs
  refine Wp.abs fun Qz kz => ?_
  have c1 := C "digits" (L + 1) rfl
  have c2 := C "n" (L + 2) rfl
  have c3 := C "inner" (L + 3) rfl
  have hlL : l < L := Nat.lt_of_lt_of_le (let ⟨o, q, _⟩ := hl.some; some_lt q) hL
  have tb : ∀ {h' : Heap} {m : Str → Option Value}, Fm B h tabs L m h' → Ext tabs h h' := fun S => S.out (new_none hL)
  refine Wp.cons (Wp.defS rfl rfl rfl (Wp.mkDef T S.gg Tb.t2 rfl rfl rfl fun f h₂ doc ct cv G₂ e₂ hf1 hf2 fm => ?_))
  have hL1 : h₁.objs.size ≤ h₂.objs.size := e₂.size
  have lt3 : L + 3 < h₁.objs.size := c3.lt
  have off : ∀ a, h.objs.size ≤ a → a ∉ [58] := fun a ha q => G.offT ha (by rw [List.mem_singleton.mp q]; decide)
  have S := S.ext' e₂ G₂ (fun b hb => .inl (by rw [List.mem_singleton.mp hb]; decide)) (off L hL)
  refine Wp.storeC G₂ (G.new (by exact ar207 hL)) rfl rfl rfl (cell_ext c3 e₂ (off _ (by exact ar207 hL))) fun h₃ c3' e₃ G₃ => ?_
  have S := S.ext' e₃ G₃ (fun b hb => .inr (new_none (by rw [List.mem_singleton.mp hb]; exact ar207 hL))) (nin1 (by exact ar208))
  have D : DI B mg (L + 1) (L + 2) (L + 3) l f ds n _ h₃ := ⟨G₃, cell_ext (cell_ext c1 e₂ (off _ (by exact ar209 hL))) e₃ (nin1 (by exact ar210)), ⟨t, cell_ext (cell_ext c2 e₂ (off _ (by exact ar211 hL))) e₃ (nin1 (by exact ar212))⟩, c3',
    (hl.fm S (hl.notTab G) (Nat.ne_of_lt hlL)), by
      obtain ⟨o, ho, hd⟩ := cell_ext c3 e₂ (off _ (by exact ar213 hL))
      exact fm.but e₃ ho (fun vs => by rw [hd]; nofun) (fun fd => by rw [hd]; nofun)⟩
  refine Wp.cons (Wp.ret (Wp.ifE (Wp.tVal (Wp.nameC rfl rfl rfl D.c1 (Wp.truL D.il (by exact ar195 hlen) ?_)))))
  cases hds0 : ds with
  | nil =>
    rw [if_neg (by simp)]
    refine Wp.cInt fun t2 => kz _ _ ⟨⟨t2, by rw [hds0]; rfl⟩, tb S, S.gg⟩
  | cons d0 rest =>
    rw [if_pos (by simp)]
    obtain ⟨fo, fd', hfo, hfd⟩ := D.fn.there
    refine Wp.callF (o := fo) (fd := fd') (fun Q q => Wp.nameC rfl rfl rfl D.c3 q) (Wp.icons (Wp.cInt fun t2 => Wp.icons ?_))
    refine Wp.callB (bi := "len") (fun Q q => Wp.nameB S T rfl rfl rfl rfl F.bLen (by decide) (by decide +kernel) q) (Wp.icons (Wp.nameC rfl rfl rfl D.c1 (Wp.inil ?_)))
    refine Wp.lenL D.il (by exact ar195 hlen) fun t3 => Wp.inil ⟨⟨hfo, hfd⟩, ?_⟩
    refine (d2iInner T hds hn hlen hn1 ds.length _ h₃ 0 ds.length t2 t3 (by exact ar214) (by rw [hds0]; simp) (Nat.le_refl _) r' D).mono fun v h₄ ⟨⟨t4, e⟩, e4, g4⟩ => ?_
    subst e
    rw [seg_all]
    exact kz _ _ ⟨⟨_, rfl⟩, (tb S).trans e4.of_nil, g4⟩
end
end Mine
end

section
open PySem PySem.W PyProof.Rows
set_option maxRecDepth 100000
namespace Mine
theorem bitXor_shift (a s : Nat) : Builtin.bitXor (a : Int) (((a / 2 ^ s : Nat) : Int) * 2 ^ s) = ((a % 2 ^ s : Nat) : Int) := by
  have e : (((a / 2 ^ s : Nat) : Int) * 2 ^ s) = ((a / 2 ^ s * 2 ^ s : Nat) : Int) := by simp
  rw [bitXor_and, e]
  have h2 : Builtin.bitAnd (a : Int) ((a / 2 ^ s * 2 ^ s : Nat) : Int) = ((a / 2 ^ s * 2 ^ s : Nat) : Int) := by
    unfold Builtin.bitAnd
    rw [decide_eq_true (Int.natCast_nonneg a), decide_eq_true (Int.natCast_nonneg _)]
    simp only [Int.toNat_natCast]
    rw [shift_back]
  rw [h2]
  have := Nat.div_add_mod' a (2 ^ s)
  exact ar215 this
theorem fdiv_shift (a s : Nat) : Int.fdiv (a : Int) (2 ^ s) = ((a / 2 ^ s : Nat) : Int) := by
  rw [Int.fdiv_eq_ediv_of_nonneg _ (Int.le_of_lt (Int.pow_pos (by decide)))]
  simp
structure II (B : Heap) (z1 z2 z3 l f : Addr) (n : Nat) (fd : FuncData) (h : Heap) : Prop where
  gg : GG B h
  c1 : h.IsCell z1 (some (.ref l))
  c2 : ∃ t, h.IsCell z2 (some (.int n t))
  c3 : h.IsCell z3 (some (.ref f))
  fn : FnM h f fd
theorem II.grow {B h h' : Heap} {z1 z2 z3 l f : Addr} {n : Nat} {fd : FuncData} (x : II B z1 z2 z3 l f n fd h) (e : Ext [] h h') : II B z1 z2 z3 l f n fd h' :=
  ⟨x.gg.grow e, x.c1.keeps e.all, let ⟨t, y⟩ := x.c2; ⟨t, y.keeps e.all⟩, x.c3.keeps e.all, x.fn.keeps e.all⟩
theorem cell_ne {h : Heap} {z l : Addr} {v : Option Value} {cs : List Int} (x : h.IsCell z v) (y : IL h l cs) : z ∉ [l] := by
  intro q
  obtain ⟨o, ho, hd⟩ := x
  obtain ⟨vs, n, hl, _⟩ := y
  rw [List.mem_singleton.mp q, hl] at ho
  cases ho
  cases hd
theorem II.turn {B h h' : Heap} {z1 z2 z3 l f : Addr} {n : Nat} {fd : FuncData} {cs : List Int} (x : II B z1 z2 z3 l f n fd h) (y : IL h l cs) (e : Ext [l] h h') (G' : GG B h') : II B z1 z2 z3 l f n fd h' :=
  ⟨G', cell_ext x.c1 e (cell_ne x.c1 y), let ⟨t, w⟩ := x.c2; ⟨t, cell_ext w e (cell_ne w y)⟩, cell_ext x.c3 e (cell_ne x.c3 y), by
    obtain ⟨vs, n, hl, _⟩ := y
    exact x.fn.but e hl (fun _ => nofun) (fun _ => nofun)⟩
theorem set_cut {cs : List Int} {j : Nat} {x : Int} (h : j < cs.length) : cs.set j x = cs.take j ++ [x] ++ cs.drop (j + 1) := by
  rw [List.set_eq_take_append_cons_drop, if_pos h]; simp
theorem cut_cut {cs a b : List Int} {L M R : Nat} (h1 : a.length = M - L) (h2 : L ≤ M) (h3 : M ≤ R) (h4 : R ≤ cs.length) :
    (cs.take L ++ a ++ cs.drop M).take M ++ b ++ (cs.take L ++ a ++ cs.drop M).drop R = cs.take L ++ (a ++ b) ++ cs.drop R := by
  have e1 : (cs.take L ++ a).length = M := by simp; exact ar216 h2 h1 h3 h4
  have e2 : (cs.take L ++ a ++ cs.drop M).take M = cs.take L ++ a := by rw [List.take_append_of_le_length (by exact ar217 e1), List.take_of_length_le (by exact ar13 e1)]
  have e3 : (cs.take L ++ a ++ cs.drop M).drop R = cs.drop R := by
    rw [List.drop_append, List.drop_eq_nil_of_le (by exact ar218 e1 h3), e1, List.drop_drop, List.nil_append]
    congr 1; exact ar143 h3
  rw [e2, e3]; simp
section
variable {c : Cx} {A : Around} {B h : Heap} {mg mb : Str → Option Value}
theorem i2dInner (T : TopAt B mg mb) {z1 z2 z3 l f : Addr} {n K : Nat} {doc pm cv ct : Value} (hlB : B.get? l = none) (hn : n * K ≤ 100000) (hK : K ≤ 1000) (hn1 : n ≤ 100000) :
    ∀ (k : Nat) (A : Around) (h : Heap) (Lo Hi x : Nat) (cs : List Int) (tx tl tr : Tok), Hi - Lo ≤ k → Lo < Hi → Hi ≤ cs.length → cs.length = K → x < 2 ^ (n * (Hi - Lo)) → Room A k →
      II B z1 z2 z3 l f n (fnX "inner" "_int2digits.<locals>.inner" (fArgs (inD 10)) (fBody (inD 10)) (fScope (inD 10)) [("n", z2), ("inner", z3), ("a_digits", z1)] .none .none doc pm none cv ct) h → IL h l cs →
      Wp c A (call (.ref f) [.int x tx, .int Lo tl, .int Hi tr] []) (fun v h' => v = .none ∧ IL h' l (cs.take Lo ++ digs n (Hi - Lo) x ++ cs.drop Hi) ∧ Ext [l] h h' ∧ GG B h') h := by
  intro k
  induction k with
  | zero => intro A h Lo Hi x cs tx tl tr h1 h2; exact (ar193 h1 h2).elim
  | succ k ih =>
    intro A h Lo Hi x cs tx tl tr h1 h2 h3 hcK hx r D il
    refine Wp.enterM (args := ⟨[.int x tx, .int Lo tl, .int Hi tr], []⟩) (n := k) T D.gg D.fn rfl r (binds := [("x", .int x tx), ("L", .int Lo tl), ("R", .int Hi tr)]) rfl rfl rfl rfl rfl rfl (fun F h₁ hF S r' => ?_)
    have S := S []
    refine Wp.abs fun Qz kz => ?_
    have out : ∀ {h' : Heap} {m : Str → Option Value}, Fm B h [] F m h' → Ext [] h h' := fun S => S.out (new_none hF)
    have dd := fun {h' : Heap} {m : Str → Option Value} (S : Fm B h [] F m h') => D.grow (out S)
    have ll := fun {h' : Heap} {m : Str → Option Value} (S : Fm B h [] F m h') => il.ext (out S) (fun q => nomatch q)
    have hlF : l ≠ F := Nat.ne_of_lt (Nat.lt_of_lt_of_le il.lt hF)
    refine Wp.cons ?_
    by_cases hb : Lo + 1 = Hi
    · subst hb
      refine Wp.ifT (Wp.tCmp (Wp.bin (Wp.nameL S rfl rfl rfl rfl (Wp.cInt fun t1 => Wp.addI fun t2 => Wp.nameL S rfl rfl rfl rfl (Wp.eqI (Wp.truB ⟨by simp, ?_⟩))))))
      refine Wp.cons (Wp.setS (Wp.nameL S rfl rfl rfl rfl (Wp.nameF rfl rfl rfl (dd S).c1 (Wp.nameL S rfl rfl rfl rfl ?_))))
      refine Wp.setL (ll S) (by exact ar32) (by exact ar219 h3) (by exact ar220 hcK hK) fun h₂ il₂ e₂ => ?_
      have G₂ : GG B h₂ := by
        obtain ⟨vs, n, hl, _⟩ := ll S
        exact S.gg.turn e₂ hl (fun _ => nofun) hlB
      refine Wp.cons (Wp.retN (kz _ _ ⟨rfl, ?_, (out S).of_nil.trans e₂, G₂⟩))
      rw [Int.toNat_natCast, set_cut (by exact ar194 h3)] at il₂
      have e3 : digs n (Lo + 1 - Lo) x = [(x : Int)] := by
        rw [show Lo + 1 - Lo = 1 by exact ar221]
        rw [show Lo + 1 - Lo = 1 by exact ar221, Nat.mul_one] at hx
        simp [digs, Nat.mod_eq_of_lt hx]
      rw [e3]
      exact il₂
    · refine Wp.ifN (Wp.tCmp (Wp.bin (Wp.nameL S rfl rfl rfl rfl (Wp.cInt fun t1 => Wp.addI fun t2 => Wp.nameL S rfl rfl rfl rfl (Wp.eqI (Wp.truB ⟨by simp; exact ar196 hb, ?_⟩))))))
      refine Wp.cons (Wp.assign (Wp.bin (Wp.bin (Wp.nameL S rfl rfl rfl rfl (Wp.nameL S rfl rfl rfl rfl (Wp.addI fun t3 => Wp.cInt fun t4 => Wp.shrI (by decide) fun t5 => ?_))))))
      have em : Int.fdiv ((Lo : Int) + Hi) (2 ^ (1 : Int).toNat) = ((Lo + Hi) / 2 : Nat) := by
        rw [Int.fdiv_eq_ediv_of_nonneg _ (by decide)]
        show ((Lo : Int) + Hi) / 2 = _
        exact ar179
      rw [em]
      generalize hM : (Lo + Hi) / 2 = M
      have hLM : Lo < M := by exact ar197 hM h2 hb
      have hMR : M < Hi := by exact ar198 hM h2
      refine Wp.storeL S rfl rfl rfl fun h₂ S _ => ?_
      obtain ⟨tn, hc2⟩ := (dd S).c2
      refine Wp.cons (Wp.assign (Wp.bin (Wp.bin (Wp.nameL S rfl rfl rfl rfl (Wp.nameL S rfl rfl rfl rfl (Wp.subI fun t6 => Wp.nameF rfl rfl rfl hc2 (Wp.mulI (IntMulOk.of_left (bits_small (by exact ar199 hLM) (by exact ar222 hM h3 hcK hK))) fun t7 => ?_)))))))
      have es : ((M : Int) - Lo) * n = (n * (M - Lo) : Nat) := by
        rw [Int.natCast_mul, Int.mul_comm, Int.natCast_sub (Nat.le_of_lt hLM)]
      rw [es]
      generalize hs : n * (M - Lo) = s
      have hs1 : s ≤ 100000 := by rw [← hs]; exact Nat.le_trans (Nat.mul_le_mul_left _ (by exact ar223 hM h3 hcK)) hn
      refine Wp.storeL S rfl rfl rfl fun h₃ S _ => ?_
      refine Wp.cons (Wp.assign (Wp.bin (Wp.nameL S rfl rfl rfl rfl (Wp.nameL S rfl rfl rfl rfl (Wp.shrI (by exact ar32) fun t8 => ?_)))))
      rw [Int.toNat_natCast, fdiv_shift]
      refine Wp.storeL S rfl rfl rfl fun h₄ S _ => ?_
      have hpow : 2 ^ (n * (Hi - Lo)) = 2 ^ s * 2 ^ (n * (Hi - M)) := by
        rw [← Nat.pow_add, ← hs, ← Nat.mul_add]; congr 2; exact ar224 hLM hMR
      have hup : x / 2 ^ s < 2 ^ (n * (Hi - M)) := by
        rw [Nat.div_lt_iff_lt_mul (Nat.pow_pos (by decide)), Nat.mul_comm, ← hpow]; exact hx
      have hup2 : n * (Hi - M) ≤ 100000 := Nat.le_trans (Nat.mul_le_mul_left _ (by exact ar225 h3 hcK)) hn
      have hbits : Builtin.Int.intBits ((x / 2 ^ s : Nat) : Int) ≤ 100000 := Nat.le_trans (bits_le (Int.natCast_nonneg _) (k := n * (Hi - M)) (by exact_mod_cast hup)) hup2
      refine Wp.cons (Wp.assign (Wp.bin (Wp.nameL S rfl rfl rfl rfl (Wp.bin (Wp.nameL S rfl rfl rfl rfl (Wp.nameL S rfl rfl rfl rfl (Wp.shlI (by exact ar32) (by exact ar226 hbits hs1) fun t9 => Wp.xorI fun t10 => ?_)))))))
      rw [Int.toNat_natCast, bitXor_shift]
      refine Wp.storeL S rfl rfl rfl fun h₅ S _ => ?_
      obtain ⟨fo, fd', hfo, hfd⟩ := (dd S).fn.there
      refine Wp.cons (Wp.expr (Wp.callF (o := fo) (fd := fd') (fun Q q => Wp.nameF rfl rfl rfl (dd S).c3 q) (Wp.icons (Wp.nameL S rfl rfl rfl rfl (Wp.icons (Wp.nameL S rfl rfl rfl rfl (Wp.icons (Wp.nameL S rfl rfl rfl rfl (Wp.inil ⟨⟨hfo, hfd⟩, ?_⟩)))))))))
      have hlow : x % 2 ^ s < 2 ^ (n * (M - Lo)) := by rw [hs]; exact Nat.mod_lt _ (Nat.pow_pos (by decide))
      refine (ih _ h₅ Lo M (x % 2 ^ s) cs _ _ _ (by exact ar205 hM h1) hLM (by exact ar206 hMR h3) hcK hlow r' (dd S) (ll S)).mono fun v h₆ ⟨ev, il₆, e₆, g₆⟩ => ⟨ev, ?_⟩
      have D₆ := (dd S).turn (ll S) e₆ g₆
      have o₆ : Ext [l] h h₆ := (out S).of_nil.trans e₆
      have S : Fm B h [l] F _ h₆ := (⟨S.gg, S.ns, S.size, fun b o hb hl q => S.get b o (fun z => nomatch z) hl q, S.new⟩ : Fm B h [l] F _ h₅).ext' e₆ g₆ (fun b hb => .inl hb) (nin1 (Ne.symm hlF))
      obtain ⟨fo, fd', hfo, hfd⟩ := D₆.fn.there
      refine Wp.cons (Wp.expr (Wp.callF (o := fo) (fd := fd') (fun Q q => Wp.nameF rfl rfl rfl D₆.c3 q) (Wp.icons (Wp.nameL S rfl rfl rfl rfl (Wp.icons (Wp.nameL S rfl rfl rfl rfl (Wp.icons (Wp.nameL S rfl rfl rfl rfl (Wp.inil ⟨⟨hfo, hfd⟩, ?_⟩)))))))))
      have hl6 : (cs.take Lo ++ digs n (M - Lo) (x % 2 ^ s) ++ cs.drop M).length = cs.length := by simp [digs_len]; exact ar227 hLM hMR h3
      refine (ih _ h₆ M Hi (x / 2 ^ s) _ _ _ _ (by exact ar201 hM h1 hb) hMR (by exact ar228 h3 hl6) (by exact ar229 hl6 hcK) hup r' D₆ il₆).mono fun v h₇ ⟨ev, il₇, e₇, g₇⟩ => ⟨ev, Wp.nil (kz _ _ ⟨rfl, ?_, o₆.trans e₇, g₇⟩)⟩
      rw [cut_cut (digs_len _ _ _) (by exact ar99 hLM) (by exact ar99 hMR) h3, ← hs, ← digs_cat] at il₇
      rw [show Hi - Lo = M - Lo + (Hi - M) by exact ar224 hLM hMR]
      exact il₇
end
end Mine
end

section
open PySem PySem.W PyProof.Rows
set_option maxRecDepth 100000
namespace Mine
open Builtin.Int in
theorem lt_bits (a : Nat) : a < 2 ^ intBits (a : Int) := by
  have := (intBits_le_iff (m := intBits (a : Int)) (x := (a : Int))).mp (Nat.le_refl _)
  simpa using this
/-- the number of figures -/
noncomputable def nfig (n a : Nat) : Nat := (Builtin.Int.intBits (a : Int) + n - 1) / n
theorem nfig_cover {n a : Nat} (hn : 0 < n) : a < 2 ^ (n * nfig n a) := by
  refine Nat.lt_of_lt_of_le (lt_bits a) (Nat.pow_le_pow_right (by decide) ?_)
  unfold nfig
  generalize Builtin.Int.intBits (a : Int) = b
  have := Nat.div_add_mod (b + n - 1) n
  have := Nat.mod_lt (b + n - 1) hn
  exact ar230 (by assumption) this
theorem ext_cells {h h' : Heap} {z : Addr} {v : Option Value} (x : h.IsCell z v) (e : Ext [] h h') : h'.IsCell z v := x.keeps e.all
section
variable {c : Cx} {A : Around} {B h : Heap} {mg mb : Str → Option Value}
theorem i2d_spec (T : TopAt B mg mb) (F : Fns B mg) (G : GG B h) {a n K : Nat} {ta t : Tok} (r : Room A (K + 1)) (hn : 0 < n) (hK : nfig n a = K) (hnK : n * K ≤ 100000) (hK1 : K ≤ 1000) (hn1 : n ≤ 100000) :
    Wp c A (call (.ref 56) [.int a ta, .int n t] []) (fun v h' => ∃ l, v = .ref l ∧ IL h' l (digs n K a) ∧ h.objs.size ≤ l ∧ Ext tabs h h' ∧ GG B h') h := by
  refine Wp.enterC (n := K) T G F.f10 r (by decide) (by decide) (binds := [("a", .int a ta), ("n", .int n t)]) (fun doc pm => rfl) rfl rfl rfl rfl (fun L h₁ hL S C r' => ?_)
  have S := S tabs
  refine Wp.abs fun Qz kz => ?_
  have c1 := C "a_digits" (L + 2) rfl
  have c2 := C "n" (L + 1) rfl
  have c3 := C "inner" (L + 3) rfl
  have lt3 : L + 3 < h₁.objs.size := c3.lt
  have tb : ∀ {h' : Heap} {m : Str → Option Value}, Fm B h tabs L m h' → Ext tabs h h' := fun S => S.out (new_none hL)
  have offT : ∀ a, h.objs.size ≤ a → a ∉ tabs := fun a ha => G.offT ha
  refine Wp.cons (Wp.assign (Wp.bin (Wp.listD (Wp.icons (Wp.cInt fun t1 => Wp.inil ⟨show 1 ≤ 2 ^ 24 by decide, ?_⟩)))))
  generalize hl0 : h₁.objs.size = l0
  have e1 := Ext.push h₁ (lstObj [.int 0 t1] 0)
  have hg0 : (h₁.push (lstObj [.int 0 t1] 0)).get? l0 = some (lstObj [.int 0 t1] 0) := by rw [← hl0]; exact Heap.get?_push_size _ rfl
  have hsz1 : (h₁.push (lstObj [.int 0 t1] 0)).objs.size = l0 + 1 := by rw [Heap.size_push, hl0]
  generalize h₁.push (lstObj [.int 0 t1] 0) = h₂ at e1 hg0 hsz1
  have S := S.grow e1
  have c1 := ext_cells c1 e1
  have c2 := ext_cells c2 e1
  have c3 := ext_cells c3 e1
  refine Wp.bin (Wp.bin (Wp.bin (Wp.meth0 (Wp.nameL S rfl rfl rfl rfl ⟨"int.bit_length", Wp.gmI, Wp.bitlen fun t2 => ?_⟩))))
  refine Wp.nameC rfl rfl rfl c2 (Wp.addI fun t3 => Wp.cInt fun t4 => Wp.subI fun t5 => Wp.nameC rfl rfl rfl c2 ?_)
  have hn9 : (n : Int).natAbs.log2 < 9000 := by
    rw [Int.natAbs_natCast, Nat.log2_lt (by exact ar231 hn)]
    exact Nat.lt_of_le_of_lt hn1 (Nat.lt_of_lt_of_le (show 100000 < 2 ^ 17 by decide) (Nat.pow_le_pow_right (by decide) (by decide)))
  refine Wp.fdivI (by exact ar86 hn) hn9 fun t6 => ?_
  have eK : Int.fdiv (((Builtin.Int.intBits (a : Int) : Nat) : Int) + n - 1) n = (K : Nat) := by
    rw [Int.fdiv_eq_ediv_of_nonneg _ (by exact ar32), ← hK]
    unfold nfig
    rw [Int.natCast_ediv]
    congr 1
    exact ar232 hn
  rw [eK]
  refine Wp.mulL hg0 (by exact ar32) (by exact ar233 hK1) fun h₃ eh₃ => ?_
  have e3 : Ext [] h₂ h₃ := eh₃ ▸ Ext.push _ _
  have il3 : IL h₃ h₂.objs.size (List.replicate K 0) := by
    rw [eh₃, Int.toNat_natCast]
    exact ⟨_, 0, Heap.get?_push_size _ rfl, Ints.rep 0 t1 K⟩
  generalize hl : h₂.objs.size = l at il3
  have S := S.grow e3
  have c1 := ext_cells c1 e3
  have c2 := ext_cells c2 e3
  have c3 := ext_cells c3 e3
  have hlL : L + 3 < l := by exact ar234 lt3 hl0 hsz1 hl
  refine Wp.storeC S.gg (G.new (by exact ar167 hL)) rfl rfl rfl c1 fun h₄ c1' e₄ G₄ => ?_
  have S := S.ext' e₄ G₄ (fun b hb => .inr (new_none (by rw [List.mem_singleton.mp hb]; exact ar167 hL))) (nin1 (by exact ar235))
  have c2 := cell_ext c2 e₄ (nin1 (by exact ar236))
  have c3 := cell_ext c3 e₄ (nin1 (by exact ar237))
  have il4 := il3.ext e₄ (nin1 (by exact ar238 lt3 hl0 hsz1 hl))
  refine Wp.cons (Wp.defS rfl rfl rfl (Wp.mkDef T S.gg Tb.t1 rfl rfl rfl fun f h₅ doc ct cv G₅ e₅ hf1 hf2 fm => ?_))
  have off : ∀ a, h.objs.size ≤ a → a ∉ [51] := fun a ha q => G.offT ha (by rw [List.mem_singleton.mp q]; decide)
  have S := S.ext' e₅ G₅ (fun b hb => .inl (by rw [List.mem_singleton.mp hb]; decide)) (off L hL)
  have c1 := cell_ext c1' e₅ (off _ (by exact ar167 hL))
  have c2 := cell_ext c2 e₅ (off _ (by exact ar209 hL))
  have c3 := cell_ext c3 e₅ (off _ (by exact ar213 hL))
  have il5 := il4.ext e₅ (off _ (by exact ar239 lt3 hL hl0 hsz1 hl))
  refine Wp.storeC G₅ (G.new (by exact ar207 hL)) rfl rfl rfl c3 fun h₆ c3' e₆ G₆ => ?_
  have S := S.ext' e₆ G₆ (fun b hb => .inr (new_none (by rw [List.mem_singleton.mp hb]; exact ar207 hL))) (nin1 (by exact ar208))
  have c1 := cell_ext c1 e₆ (nin1 (by exact ar240))
  have c2 := cell_ext c2 e₆ (nin1 (by exact ar210))
  have il6 := il5.ext e₆ (nin1 (by exact ar241 lt3 hl0 hsz1 hl))
  have D : II B (L + 2) (L + 1) (L + 3) l f n _ h₆ := ⟨G₆, c1, ⟨t, c2⟩, c3', by
      obtain ⟨o, ho, hd⟩ := c3
      exact fm.but e₆ ho (fun vs => by rw [hd]; nofun) (fun fd => by rw [hd]; nofun)⟩
  have fin : ∀ h' ns, IL h' l ns → (∀ z, h₆.IsCell z (some (.ref l)) → h'.IsCell z (some (.ref l))) → ns = digs n K a → Ext tabs h h' → GG B h' →
      Wp c (A.deeper (envX "_int2digits" (fScope (stm 10)) L 56 (.ref 55) (cellsFrom (L + 1) (fScope (stm 10)).names []))) (execs ((fBody (stm 10)).drop 3) (envX "_int2digits" (fScope (stm 10)) L 56 (.ref 55) (cellsFrom (L + 1) (fScope (stm 10)).names [])))
        Qz h' := by
    intro h' ns il hc e ex g
    refine Wp.cons (Wp.ret (Wp.nameC rfl rfl rfl (hc _ c1) (kz _ _ ⟨l, rfl, e ▸ il, by exact ar239 lt3 hL hl0 hsz1 hl, ex, g⟩)))
  refine Wp.cons ?_
  by_cases ha : a = 0
  · refine Wp.ifN (Wp.tVal (Wp.nameL S rfl rfl rfl rfl (Wp.truI ⟨by simp [ha], ?_⟩)))
    refine fin h₆ _ il6 (fun z x => x) ?_ (tb S) S.gg
    have hK0 : K = 0 := by
      rw [← hK, ha]
      unfold nfig
      exact Nat.div_eq_of_lt (by simp [Builtin.Int.intBits]; exact ar242 hn)
    rw [hK0]; rfl
  · refine Wp.ifT (Wp.tVal (Wp.nameL S rfl rfl rfl rfl (Wp.truI ⟨by simp; exact ar243 ha, ?_⟩)))
    obtain ⟨fo, fd', hfo, hfd⟩ := D.fn.there
    have hK0 : 0 < K := by
      apply Nat.pos_of_ne_zero
      intro q
      have := nfig_cover (a := a) hn
      rw [hK, q] at this
      simp at this
      exact ha this
    refine Wp.cons (Wp.expr (Wp.callF (o := fo) (fd := fd') (fun Q q => Wp.nameC rfl rfl rfl D.c3 q) (Wp.icons (Wp.nameL S rfl rfl rfl rfl (Wp.icons (Wp.cInt fun t7 => Wp.icons ?_))))))
    refine Wp.callB (bi := "len") (fun Q q => Wp.nameB S T rfl rfl rfl rfl F.bLen (by decide) (by decide +kernel) q) (Wp.icons (Wp.nameC rfl rfl rfl c1 (Wp.inil ?_)))
    refine Wp.lenL il6 (by simp; exact ar244 hK1) fun t8 => Wp.inil ⟨⟨hfo, hfd⟩, ?_⟩
    rw [List.length_replicate]
    refine (i2dInner T (K := K) (G.new (by exact ar239 lt3 hL hl0 hsz1 hl)) hnK hK1 hn1 K _ h₆ 0 K a (List.replicate K 0) _ _ _ (by exact ar214) hK0 (by simp) (by simp) (by rw [Nat.sub_zero, ← hK]; exact nfig_cover hn) r' D il6).mono fun v h₇ ⟨ev, il₇, e₇, g₇⟩ => ⟨ev, ?_⟩
    have hlL' : L ∉ [l] := nin1 (by exact ar245 lt3 hl0 hsz1 hl)
    have S := S.ext' e₇ g₇ (fun b hb => .inr (new_none (by rw [List.mem_singleton.mp hb]; exact ar239 lt3 hL hl0 hsz1 hl))) hlL'
    refine Wp.nil (fin h₇ _ il₇ (fun z x => cell_ext x e₇ (cell_ne x il6)) ?_ (tb S) g₇)
    simp [List.drop_eq_nil_of_le]
end
end Mine
end

section
open PySem PySem.W PyProof.Rows
set_option maxRecDepth 100000
namespace Mine
theorem bitAnd_nat (a b : Nat) : Builtin.bitAnd (a : Int) (b : Int) = ((a &&& b : Nat) : Int) := by
  unfold Builtin.bitAnd
  rw [decide_eq_true (Int.natCast_nonneg a), decide_eq_true (Int.natCast_nonneg _)]
  simp
theorem and_low {x y n : Nat} (hy : y < 2 ^ n) : x * 2 ^ n &&& y = 0 := by
  apply Nat.eq_of_testBit_eq
  intro i
  rw [Nat.testBit_and, Nat.zero_testBit, Nat.mul_comm, Nat.testBit_two_pow_mul]
  by_cases h : n ≤ i
  · rw [Nat.testBit_lt_two_pow (Nat.lt_of_lt_of_le hy (Nat.pow_le_pow_right (by decide) h))]; simp
  · simp [h]
/-- a pair of naturals -/
noncomputable def PairIs (v : Value) (h : Heap) (q r : Nat) : Prop := ∃ T t u, v = .ref T ∧ h.get? T = some (tupObj [.int (q : Nat) t, .int (r : Nat) u])
theorem fdiv_nat (a b : Nat) : Int.fdiv (a : Int) (b : Int) = ((a / b : Nat) : Int) := by
  rw [Int.fdiv_eq_ediv_of_nonneg _ (Int.natCast_nonneg b)]; simp
theorem fmod_nat (a b : Nat) : Int.fmod (a : Int) (b : Int) = ((a % b : Nat) : Int) := by
  rw [Int.fmod_eq_emod_of_nonneg _ (Int.natCast_nonneg b)]; simp
theorem log2_pow_lt {k m : Nat} (h : k < m) : ((2 ^ k : Nat) : Int).natAbs.log2 < m := by
  rw [Int.natAbs_natCast, Nat.log2_two_pow]; exact h
theorem school (x y P B : Nat) (hB : 0 < B) : (x * P + y) / B = x / B * P + (x % B * P + y) / B ∧ (x * P + y) % B = (x % B * P + y) % B := by
  have e : x * P + y = (x % B * P + y) + B * (x / B * P) := by
    have := Nat.mod_add_div x B
    have e2 : x * P = x % B * P + B * (x / B * P) := by
      conv => lhs; rw [← this]
      rw [Nat.add_mul, Nat.mul_assoc]
    exact ar246 e2
  constructor
  · rw [e, Nat.add_mul_div_left _ _ hB]; exact ar247
  · rw [e, Nat.add_mul_mod_self_left]
section
variable {c : Cx} {A : Around} {B h : Heap} {mg mb : Str → Option Value}
theorem div2_small (T : TopAt B mg mb) (F : Fns B mg) (G : GG B h) (r : Room A 1) {a k n : Nat} {ta tb tn : Tok} (hs : Builtin.Int.intBits (a : Int) ≤ n + 4000) (hk : k < 9000) :
    Wp c A (call (.ref 42) [.int a ta, .int (2 ^ k : Nat) tb, .int n tn] []) (fun v h' => PairIs v h' (a / 2 ^ k) (a % 2 ^ k) ∧ Ext [] h h' ∧ GG B h') h := by
  refine Wp.enter (n := 0) T G F.f8 r (by decide) (by decide) (binds := [("a", .int a ta), ("b", .int (2 ^ k : Nat) tb), ("n", .int n tn)]) (fun doc pm tk => BindsTo.of_eq rfl) rfl rfl rfl rfl rfl (fun L h₁ hL S r' => ?_)
  have S := S []
  refine Wp.abs fun Qz kz => ?_
  obtain ⟨tN, hN⟩ := F.cDL
  refine Wp.cons (Wp.ifT (Wp.tCmp (Wp.bin (Wp.meth0 (Wp.nameL S rfl rfl rfl rfl ⟨"int.bit_length", Wp.gmI, Wp.bitlen fun t1 => ?_⟩)))))
  refine Wp.nameL S rfl rfl rfl rfl (Wp.subI fun t2 => Wp.nameG S T rfl rfl rfl hN (Wp.leI (Wp.truB ⟨decide_eq_true (by exact ar248 hs), ?_⟩)))
  refine Wp.cons (Wp.ret (Wp.callB (bi := "divmod") (fun Q q => Wp.nameB S T rfl rfl rfl rfl F.bDivmod (by decide) (by decide +kernel) q) ?_))
  refine Wp.icons (Wp.nameL S rfl rfl rfl rfl (Wp.icons (Wp.nameL S rfl rfl rfl rfl (Wp.inil ?_))))
  refine Wp.divmodI (by have : 0 < 2 ^ k := Nat.two_pow_pos k; exact ar86 this) (PyProof.noPylong_of_log2 (log2_pow_lt hk)) fun t3 t4 => ?_
  rw [fdiv_nat, fmod_nat]
  have S := S.grow (Ext.push h₁ (tupObj [.int (a / 2 ^ k : Nat) t3, .int (a % 2 ^ k : Nat) t4]))
  exact kz _ _ ⟨⟨_, _, _, rfl, Heap.get?_push_size _ rfl⟩, S.out hL, S.gg⟩
theorem natBits {x k : Nat} (h : x < 2 ^ k) : Builtin.Int.intBits (x : Int) ≤ k := bits_le (Int.natCast_nonneg x) (by exact_mod_cast h)
theorem div3_spec (T : TopAt B mg mb) (F : Fns B mg) (G : GG B h) (r : Room A 2) {a12 a3 j n : Nat} {t1 t2 t3 t4 t5 t6 : Tok} (hj : j ≤ 4000) (hn : n ≤ 4000) (ha : a12 < 2 ^ (j + n)) (h3 : a3 < 2 ^ n) :
    Wp c A (call (.ref 49) [.int a12 t1, .int a3 t2, .int (2 ^ (j + n) : Nat) t3, .int (2 ^ j : Nat) t4, .int (0 : Nat) t5, .int n t6] [])
      (fun v h' => PairIs v h' ((a12 * 2 ^ n + a3) / 2 ^ (j + n)) ((a12 * 2 ^ n + a3) % 2 ^ (j + n)) ∧ Ext [] h h' ∧ GG B h') h := by
  refine Wp.enter (n := 1) T G F.f9 r (by decide) (by decide) (binds := [("a12", .int a12 t1), ("a3", .int a3 t2), ("b", .int (2 ^ (j + n) : Nat) t3), ("b1", .int (2 ^ j : Nat) t4), ("b2", .int (0 : Nat) t5), ("n", .int n t6)])
    (fun doc pm tk => BindsTo.of_eq rfl) rfl rfl rfl rfl rfl (fun L h₁ hL S r' => ?_)
  have S := S []
  refine Wp.abs fun Qz kz => ?_
  have hlt : a12 / 2 ^ n < 2 ^ j := Nat.div_lt_of_lt_mul (by rw [← Nat.pow_add, Nat.add_comm]; exact ha)
  refine Wp.cons (Wp.ifF (Wp.tCmp (Wp.bin (Wp.nameL S rfl rfl rfl rfl (Wp.nameL S rfl rfl rfl rfl (Wp.shrI (by exact ar32) fun u1 => Wp.nameL S rfl rfl rfl rfl (Wp.eqI (Wp.truB ⟨?_, ?_⟩))))))))
  · rw [Int.toNat_natCast, fdiv_shift]
    simp only [beq_eq_false_iff_ne]
    intro q
    have q' : a12 / 2 ^ n = 2 ^ j := by exact_mod_cast q
    exact ar249 q hlt
  obtain ⟨fo, fd', hfo, hfd⟩ := F.f8.there S.gg (by decide)
  refine Wp.cons (Wp.unpack2 r'.hh (Wp.callF (o := fo) (fd := fd') (fun Q q => Wp.nameG S T rfl rfl rfl F.n8 q) ?_))
  refine Wp.icons (Wp.nameL S rfl rfl rfl rfl (Wp.icons (Wp.nameL S rfl rfl rfl rfl (Wp.icons (Wp.nameL S rfl rfl rfl rfl (Wp.inil ⟨⟨hfo, hfd⟩, ?_⟩))))))
  refine (div2_small T F S.gg r' (by have := natBits ha; exact ar250 this hj) (by exact ar251 hj)).mono fun v h₂ ⟨⟨P, u1, u2, ev, hP⟩, e2, g2⟩ => ?_
  have S := S.grow e2
  refine ⟨P, _, _, ev, hP, fun h₃ e3 => ?_⟩
  have S := S.grow e3
  refine Wp.storeL S rfl rfl rfl fun h₄ S _ => Wp.storeL S rfl rfl rfl fun h₅ S _ => Wp.nil ?_
  refine Wp.cons (Wp.assign (Wp.bin (Wp.bin (Wp.bin (Wp.nameL S rfl rfl rfl rfl (Wp.nameL S rfl rfl rfl rfl ?_))))))
  have hr : a12 % 2 ^ j < 2 ^ j := Nat.mod_lt _ (Nat.two_pow_pos j)
  refine Wp.shlI (by exact ar32) (by have := natBits hr; exact ar252 this hn hj) fun u3 => Wp.nameL S rfl rfl rfl rfl (Wp.orI fun u4 => ?_)
  have eo : Builtin.bitOr (((a12 % 2 ^ j : Nat) : Int) * 2 ^ ((n : Int)).toNat) (a3 : Int) = ((a12 % 2 ^ j * 2 ^ n + a3 : Nat) : Int) := by
    rw [Int.toNat_natCast]
    have : (((a12 % 2 ^ j : Nat) : Int) * 2 ^ n) = ((a12 % 2 ^ j * 2 ^ n : Nat) : Int) := by simp
    rw [this, bitOr_and, bitAnd_nat, and_low h3]; exact ar80
  rw [eo]
  refine Wp.bin (Wp.nameL S rfl rfl rfl rfl (Wp.nameL S rfl rfl rfl rfl (Wp.mulI (IntMulOk.of_right (bits_small (by decide) (by decide))) fun u5 => Wp.subI fun u6 => ?_)))
  have ez : ((a12 % 2 ^ j * 2 ^ n + a3 : Nat) : Int) - ((a12 / 2 ^ j : Nat) : Int) * ((0 : Nat) : Int) = ((a12 % 2 ^ j * 2 ^ n + a3 : Nat) : Int) := by simp
  rw [ez]
  refine Wp.storeL S rfl rfl rfl fun h₆ S _ => ?_
  refine Wp.cons (Wp.whileS (fun _ h' => ∃ m, Fm B h [] L m h' ∧ m "r" = some (.int ((a12 % 2 ^ j * 2 ^ n + a3 : Nat) : Int) u6) ∧ m "q" = some (.int ((a12 / 2 ^ j : Nat) : Int) u1)) ?_ 0 ⟨_, S, rfl, rfl⟩)
  rintro _ h' ⟨m, S, mr, mq⟩
  refine Wp.tCmp (Wp.nameL S rfl rfl rfl mr (Wp.cInt fun u7 => Wp.ltI (Wp.truB ?_)))
  rw [decide_eq_false (by exact ar253), if_neg (by decide)]
  refine Wp.cons (Wp.ret (Wp.tupD (Wp.icons (Wp.nameL S rfl rfl rfl mq (Wp.icons (Wp.nameL S rfl rfl rfl mr (Wp.inil ⟨show 2 ≤ 2 ^ 24 by decide, ?_⟩)))))))
  have eq1 : (a12 * 2 ^ n + a3) / 2 ^ (j + n) = a12 / 2 ^ j := by
    rw [Nat.add_comm j n, Nat.pow_add, ← Nat.div_div_eq_div_mul, Nat.mul_comm, Nat.mul_add_div (Nat.two_pow_pos n), Nat.div_eq_of_lt h3, Nat.add_zero]
  have eq2 : (a12 * 2 ^ n + a3) % 2 ^ (j + n) = a12 % 2 ^ j * 2 ^ n + a3 := by
    have h1 := Nat.div_add_mod (a12 * 2 ^ n + a3) (2 ^ (j + n))
    have h2 := Nat.div_add_mod a12 (2 ^ j)
    rw [eq1] at h1
    have h4 : a12 * 2 ^ n = 2 ^ (j + n) * (a12 / 2 ^ j) + a12 % 2 ^ j * 2 ^ n := by
      conv => lhs; rw [← h2]
      rw [Nat.add_mul, Nat.pow_add, Nat.mul_right_comm]
    exact ar254 h1 h4
  refine kz _ _ ?_
  show PairIs _ _ _ _ ∧ _
  rw [eq1, eq2]
  have S := S.grow (Ext.push h' (tupObj [.int (a12 / 2 ^ j : Nat) u1, .int (a12 % 2 ^ j * 2 ^ n + a3 : Nat) u6]))
  exact ⟨⟨_, _, _, rfl, Heap.get?_push_size _ rfl⟩, S.out hL, S.gg⟩
end
end Mine
end

section
open PySem PySem.W PyProof.Rows
set_option maxRecDepth 100000
set_option maxHeartbeats 4000000
namespace Mine
theorem mod_2n (k : Nat) (x : Nat) : Builtin.bitAnd (x : Int) ((2 : Int) ^ k - 1) = ((x % 2 ^ k : Nat) : Int) := by
  rw [kbt_mask]; simp
theorem shr_pow {a b : Nat} (h : b ≤ a) : (2 ^ a : Nat) / 2 ^ b = 2 ^ (a - b) := Nat.pow_div h (by decide)
theorem mod_pow {a b : Nat} (h : b ≤ a) : (2 ^ a : Nat) % 2 ^ b = 0 := Nat.mod_eq_zero_of_dvd (Nat.pow_dvd_pow 2 h)
/-- the two steps of the large division -/
theorem big_div (a k : Nat) (m : Nat) (hk : k = 2 * m) :
    let A := 2 * a
    let H := m + 1
    let x := A / 2 ^ (2 * H)
    let u := (x * 2 ^ H + A / 2 ^ H % 2 ^ H)
    let v := u % 2 ^ (k + 1) * 2 ^ H + A % 2 ^ H
    u / 2 ^ (k + 1) * 2 ^ H + v / 2 ^ (k + 1) = a / 2 ^ k ∧ v % 2 ^ (k + 1) / 2 = a % 2 ^ k := by
  intro A H x u v
  have eu : u = A / 2 ^ H := by
    show A / 2 ^ (2 * H) * 2 ^ H + A / 2 ^ H % 2 ^ H = A / 2 ^ H
    rw [Nat.two_mul, Nat.pow_add, ← Nat.div_div_eq_div_mul]
    exact Nat.div_add_mod' _ _
  have eA : u * 2 ^ H + A % 2 ^ H = A := by rw [eu]; exact Nat.div_add_mod' _ _
  have s := school u (A % 2 ^ H) (2 ^ H) (2 ^ (k + 1)) (Nat.two_pow_pos _)
  rw [eA] at s
  have e1 : A / 2 ^ (k + 1) = a / 2 ^ k := by
    show 2 * a / 2 ^ (k + 1) = _
    rw [Nat.pow_succ, Nat.mul_comm (2 ^ k) 2, Nat.mul_div_mul_left _ _ (by decide)]
  have e2 : A % 2 ^ (k + 1) = 2 * (a % 2 ^ k) := by
    show 2 * a % 2 ^ (k + 1) = _
    rw [Nat.pow_succ, Nat.mul_comm (2 ^ k) 2, Nat.mul_mod_mul_left]
  constructor
  · rw [← e1, s.1]
  · rw [← s.2, e2]; exact ar57
section
variable {c : Cx} {A : Around} {B h : Heap} {mg mb : Str → Option Value}
theorem div2_spec (T : TopAt B mg mb) (F : Fns B mg) (G : GG B h) (r : Room A 3) {a k n : Nat} {ta tb tn : Tok} (hn : n = k + 1) (hk : k ≤ 4000 ∨ k % 2 = 0 ∧ k ≤ 7000) (ha : a < 2 ^ (k + n)) :
    Wp c A (call (.ref 42) [.int a ta, .int (2 ^ k : Nat) tb, .int n tn] []) (fun v h' => PairIs v h' (a / 2 ^ k) (a % 2 ^ k) ∧ Ext [] h h' ∧ GG B h') h := by
  by_cases hs : Builtin.Int.intBits (a : Int) ≤ n + 4000
  · exact div2_small T F G (r.le (by decide)) hs (by exact ar58 hk)
  have hb := natBits ha
  obtain ⟨hk2, hk7⟩ : k % 2 = 0 ∧ k ≤ 7000 := by exact ar59 hk hb hs
  obtain ⟨m, hm⟩ : ∃ m, k = 2 * m := ⟨k / 2, by exact ar60 hk2⟩
  have big := big_div a k m hm
  dsimp only at big
  refine Wp.enter (n := 2) T G F.f8 r (by decide) (by decide) (binds := [("a", .int a ta), ("b", .int (2 ^ k : Nat) tb), ("n", .int n tn)]) (fun doc pm tk => BindsTo.of_eq rfl) rfl rfl rfl rfl rfl (fun L h₁ hL S r' => ?_)
  have S := S []
  refine Wp.abs fun Qz kz => ?_
  obtain ⟨tN, hN⟩ := F.cDL
  refine Wp.cons (Wp.ifN (Wp.tCmp (Wp.bin (Wp.meth0 (Wp.nameL S rfl rfl rfl rfl ⟨"int.bit_length", Wp.gmI, Wp.bitlen fun t1 => ?_⟩)))))
  refine Wp.nameL S rfl rfl rfl rfl (Wp.subI fun t2 => Wp.nameG S T rfl rfl rfl hN (Wp.leI (Wp.truB ⟨decide_eq_false (by exact ar61 hs), ?_⟩)))
  -- pad
  refine Wp.cons (Wp.assign (Wp.bin (Wp.nameL S rfl rfl rfl rfl (Wp.cInt fun t3 => Wp.andI fun t4 => ?_))))
  have epad : Builtin.bitAnd (n : Int) 1 = 1 := by rw [bitAnd_m1]; exact ar62 hn hm
  rw [epad]
  refine Wp.storeL S rfl rfl rfl fun h₂ S _ => ?_
  refine Wp.cons (Wp.ifT (Wp.tVal (Wp.nameL S rfl rfl rfl rfl (Wp.truI ⟨rfl, ?_⟩))))
  refine Wp.cons (Wp.aug (Wp.loadL S rfl rfl rfl rfl (Wp.cInt fun t5 => Wp.ishlI (by decide) (by exact ar63 hb hk7 hn) fun t6 => ?_)))
  refine Wp.storeL S rfl rfl rfl fun h₃ S _ => ?_
  have hbk := natBits (x := 2 ^ k) (k := k + 1) (Nat.pow_lt_pow_right (by decide) (Nat.lt_succ_self k))
  refine Wp.cons (Wp.aug (Wp.loadL S rfl rfl rfl rfl (Wp.cInt fun t7 => Wp.ishlI (by decide) (by exact ar64 hbk hk7) fun t8 => ?_)))
  refine Wp.storeL S rfl rfl rfl fun h₄ S _ => ?_
  refine Wp.cons (Wp.aug (Wp.loadL S rfl rfl rfl rfl (Wp.cInt fun t9 => Wp.iaddI fun t10 => ?_)))
  refine Wp.storeL S rfl rfl rfl fun h₅ S _ => Wp.nil ?_
  have eA : (a : Int) * 2 ^ (1 : Int).toNat = ((2 * a : Nat) : Int) := by
    show (a : Int) * 2 ^ 1 = _
    exact ar65
  have eB : ((2 ^ k : Nat) : Int) * 2 ^ (1 : Int).toNat = ((2 ^ (k + 1) : Nat) : Int) := by
    show ((2 ^ k : Nat) : Int) * 2 ^ 1 = _
    rw [Nat.pow_succ]; exact ar66
  have eN : (n : Int) + 1 = ((2 * (m + 1) : Nat) : Int) := by exact ar67 hn hm
  rw [eA, eB, eN] at S
  have hA : 2 * a < 2 ^ (2 * k + 2) := by
    have : (2 : Nat) ^ (2 * k + 2) = 2 * 2 ^ (k + n) := by rw [hn, show 2 * k + 2 = (k + (k + 1)) + 1 by exact ar68, Nat.pow_succ, Nat.mul_comm]
    exact ar69 ha this
  generalize hA0 : 2 * a = a' at S hA big
  generalize hH : m + 1 = H at S big
  -- half_n, mask, b1, b2
  refine Wp.cons (Wp.assign (Wp.bin (Wp.nameL S rfl rfl rfl rfl (Wp.cInt fun u1 => Wp.shrI (by decide) fun u2 => ?_))))
  have eH : Int.fdiv ((2 * H : Nat) : Int) (2 ^ (1 : Int).toNat) = (H : Nat) := by
    show Int.fdiv ((2 * H : Nat) : Int) (2 ^ 1) = _
    rw [fdiv_shift]
    congr 1; omega
  rw [eH]
  refine Wp.storeL S rfl rfl rfl fun h₆ S _ => ?_
  have hb1 : Builtin.Int.intBits (1 : Int) ≤ 1 := by decide
  refine Wp.cons (Wp.assign (Wp.bin (Wp.bin (Wp.cInt fun u3 => Wp.nameL S rfl rfl rfl rfl (Wp.shlI (by exact ar32) (by exact ar70 hH hb1 hm hk7) fun u4 => Wp.cInt fun u5 => Wp.subI fun u6 => ?_)))))
  have eM : (1 : Int) * 2 ^ (H : Int).toNat - 1 = 2 ^ H - 1 := by rw [Int.toNat_natCast, Int.one_mul]
  rw [eM]
  refine Wp.storeL S rfl rfl rfl fun h₇ S _ => ?_
  refine Wp.cons (Wp.unpack2s r'.hh (Wp.tupD (Wp.icons (Wp.bin (Wp.nameL S rfl rfl rfl rfl (Wp.nameL S rfl rfl rfl rfl (Wp.shrI (by exact ar32) fun u7 => Wp.icons (Wp.bin (Wp.nameL S rfl rfl rfl rfl (Wp.nameL S rfl rfl rfl rfl (Wp.andI fun u8 => Wp.inil ⟨show 2 ≤ 2 ^ 24 by decide, ?_⟩)))))))))))
  refine ⟨_, _, _, rfl, Heap.get?_push_size _ rfl, fun h₈ e8 => ?_⟩
  have S := (S.grow (Ext.push _ _)).grow e8
  have eb1 : Int.fdiv ((2 ^ (k + 1) : Nat) : Int) (2 ^ (H : Int).toNat) = ((2 ^ m : Nat) : Int) := by
    rw [Int.toNat_natCast, fdiv_shift, shr_pow (by exact ar71 hH hm), show k + 1 - H = m by exact ar72 hH hm]
  have eb2 : Builtin.bitAnd ((2 ^ (k + 1) : Nat) : Int) (2 ^ H - 1) = ((0 : Nat) : Int) := by rw [mod_2n, mod_pow (by exact ar71 hH hm)]
  rw [eb1, eb2]
  refine Wp.storeL S rfl rfl rfl fun h₉ S _ => Wp.storeL S rfl rfl rfl fun hA1 S _ => ?_
  have ek : k + 1 = m + H := by exact ar73 hH hm
  rw [ek] at S big
  -- the first third
  have g1 : a' / 2 ^ (2 * H) < 2 ^ (m + H) := by
    refine Nat.div_lt_of_lt_mul (Nat.lt_of_lt_of_le hA ?_)
    rw [← Nat.pow_add]
    exact Nat.pow_le_pow_right (by decide) (by exact ar74 hH hm)
  have g2 : ∀ x : Nat, x % 2 ^ H < 2 ^ H := fun x => Nat.mod_lt _ (Nat.two_pow_pos H)
  have g3 : ∀ x : Nat, x % 2 ^ (m + H) < 2 ^ (m + H) := fun x => Nat.mod_lt _ (Nat.two_pow_pos _)
  obtain ⟨fo, fd', hfo, hfd⟩ := F.f9.there S.gg (by decide)
  refine Wp.cons (Wp.unpack2 r'.hh (Wp.callF (o := fo) (fd := fd') (fun Q q => Wp.nameG S T rfl rfl rfl F.n9 q) ?_))
  refine Wp.icons (Wp.bin (Wp.nameL S rfl rfl rfl rfl (Wp.nameL S rfl rfl rfl rfl (Wp.shrI (by exact ar75) fun v1 => ?_))))
  rw [Int.toNat_natCast, fdiv_shift]
  refine Wp.icons (Wp.bin (Wp.bin (Wp.nameL S rfl rfl rfl rfl (Wp.nameL S rfl rfl rfl rfl (Wp.shrI (by exact ar32) fun v2 => Wp.nameL S rfl rfl rfl rfl (Wp.andI fun v3 => ?_))))))
  rw [Int.toNat_natCast, fdiv_shift, mod_2n]
  refine Wp.icons (Wp.nameL S rfl rfl rfl rfl (Wp.icons (Wp.nameL S rfl rfl rfl rfl (Wp.icons (Wp.nameL S rfl rfl rfl rfl (Wp.icons (Wp.nameL S rfl rfl rfl rfl (Wp.inil ⟨⟨hfo, hfd⟩, ?_⟩))))))))
  refine (div3_spec T F S.gg r' (by exact ar76 hm hk7) (by exact ar77 hH hm hk7) g1 (g2 _)).mono fun v hB1 ⟨⟨P, w1, w2, ev, hP⟩, e9, g9⟩ => ?_
  have S := S.grow e9
  refine ⟨P, _, _, ev, hP, fun hB2 e10 => ?_⟩
  have S := S.grow e10
  generalize a' / 2 ^ (2 * H) * 2 ^ H + a' / 2 ^ H % 2 ^ H = u at S big
  refine Wp.storeL S rfl rfl rfl fun hB3 S _ => Wp.storeL S rfl rfl rfl fun hB4 S _ => ?_
  -- the second third
  obtain ⟨fo, fd', hfo, hfd⟩ := F.f9.there S.gg (by decide)
  refine Wp.cons (Wp.unpack2 r'.hh (Wp.callF (o := fo) (fd := fd') (fun Q q => Wp.nameG S T rfl rfl rfl F.n9 q) ?_))
  refine Wp.icons (Wp.nameL S rfl rfl rfl rfl (Wp.icons (Wp.bin (Wp.nameL S rfl rfl rfl rfl (Wp.nameL S rfl rfl rfl rfl (Wp.andI fun v4 => ?_))))))
  rw [mod_2n]
  refine Wp.icons (Wp.nameL S rfl rfl rfl rfl (Wp.icons (Wp.nameL S rfl rfl rfl rfl (Wp.icons (Wp.nameL S rfl rfl rfl rfl (Wp.icons (Wp.nameL S rfl rfl rfl rfl (Wp.inil ⟨⟨hfo, hfd⟩, ?_⟩))))))))
  refine (div3_spec T F S.gg r' (by exact ar76 hm hk7) (by exact ar77 hH hm hk7) (g3 _) (g2 _)).mono fun v hC1 ⟨⟨P, w3, w4, ev, hP⟩, e11, g11⟩ => ?_
  have S := S.grow e11
  refine ⟨P, _, _, ev, hP, fun hC2 e12 => ?_⟩
  have S := S.grow e12
  have hq2 : (u % 2 ^ (m + H) * 2 ^ H + a' % 2 ^ H) / 2 ^ (m + H) < 2 ^ H := by
    refine Nat.div_lt_of_lt_mul ?_
    have h1 := g3 u
    have h2 := g2 a'
    have h3 : (u % 2 ^ (m + H) + 1) * 2 ^ H ≤ 2 ^ (m + H) * 2 ^ H := Nat.mul_le_mul_right _ h1
    rw [Nat.add_mul] at h3
    exact ar78 h3 h2
  have hq1 : u / 2 ^ (m + H) < 2 ^ (m + H) ∨ True := .inr trivial
  generalize hv : u % 2 ^ (m + H) * 2 ^ H + a' % 2 ^ H = v at S big hq2
  refine Wp.storeL S rfl rfl rfl fun hC3 S _ => Wp.storeL S rfl rfl rfl fun hC4 S _ => ?_
  refine Wp.cons (Wp.ifT (Wp.tVal (Wp.nameL S rfl rfl rfl rfl (Wp.truI ⟨rfl, ?_⟩))))
  refine Wp.cons (Wp.aug (Wp.loadL S rfl rfl rfl rfl (Wp.cInt fun v5 => Wp.ishrI (by decide) fun v6 => ?_)))
  refine Wp.storeL S rfl rfl rfl fun hC5 S _ => Wp.nil ?_
  have er : Int.fdiv ((v % 2 ^ (m + H) : Nat) : Int) (2 ^ (1 : Int).toNat) = ((a % 2 ^ k : Nat) : Int) := by
    show Int.fdiv ((v % 2 ^ (m + H) : Nat) : Int) (2 ^ 1) = _
    rw [fdiv_shift, ← big.2]
  rw [er] at S
  have hQ : u / 2 ^ (m + H) * 2 ^ H + v / 2 ^ (m + H) = a / 2 ^ k := big.1
  have hqa : u / 2 ^ (m + H) < 2 ^ (k + n) := by
    have h1 : u / 2 ^ (m + H) ≤ u / 2 ^ (m + H) * 2 ^ H := Nat.le_mul_of_pos_right _ (Nat.two_pow_pos H)
    exact Nat.lt_of_le_of_lt (Nat.le_trans h1 (Nat.le_trans (Nat.le_add_right _ _) (Nat.le_trans (Nat.le_of_eq hQ) (Nat.div_le_self a (2 ^ k))))) ha
  have hbq := natBits hqa
  refine Wp.cons (Wp.ret (Wp.tupD (Wp.icons (Wp.bin (Wp.bin (Wp.nameL S rfl rfl rfl rfl (Wp.nameL S rfl rfl rfl rfl (Wp.shlI (by exact ar32) (by exact ar79 hH hbq hm hk7 hn) fun v7 => Wp.nameL S rfl rfl rfl rfl (Wp.orI fun v8 => Wp.icons (Wp.nameL S rfl rfl rfl rfl (Wp.inil ⟨show 2 ≤ 2 ^ 24 by decide, ?_⟩)))))))))))
  have eo : Builtin.bitOr (((u / 2 ^ (m + H) : Nat) : Int) * 2 ^ ((H : Int)).toNat) ((v / 2 ^ (m + H) : Nat) : Int) = ((a / 2 ^ k : Nat) : Int) := by
    rw [Int.toNat_natCast]
    have : (((u / 2 ^ (m + H) : Nat) : Int) * 2 ^ H) = ((u / 2 ^ (m + H) * 2 ^ H : Nat) : Int) := by simp
    rw [this, bitOr_and, bitAnd_nat, and_low hq2, ← hQ]; exact ar80
  rw [eo]
  have S := S.grow (Ext.push hC5 (tupObj [.int (a / 2 ^ k : Nat) v8, .int (a % 2 ^ k : Nat) v6]))
  exact kz _ _ ⟨⟨_, _, _, rfl, Heap.get?_push_size _ rfl⟩, S.out hL, S.gg⟩
end
end Mine
end

section
open PySem PySem.W PyProof.Rows
set_option maxRecDepth 100000
set_option maxHeartbeats 4000000
namespace Mine
theorem bits_pow (k : Nat) : Builtin.Int.intBits ((2 ^ k : Nat) : Int) = k + 1 := by
  have h1 : Builtin.Int.intBits ((2 ^ k : Nat) : Int) ≤ k + 1 := natBits (Nat.pow_lt_pow_right (by decide) (Nat.lt_succ_self k))
  have h2 := lt_bits (2 ^ k)
  have h3 : k < Builtin.Int.intBits ((2 ^ k : Nat) : Int) := (Nat.pow_lt_pow_iff_right (by decide)).mp h2
  exact ar81 h1 h3
theorem br1 {K i : Nat} (h : i < K) : K - i = K - i - 1 + 1 := by omega
theorem br2 {K i j : Nat} (h : K - i = j + 1) : K - 1 - i = j := by omega
theorem br3 {K i j : Nat} (h : K - i = j + 1) : j < K := by omega
theorem br4 {K i j : Nat} (h : K - i = j + 1) : K - (i + 1) = j := by omega
theorem br5 {x p d z : Nat} (h : x + 1 * p ≤ z) (hd : d < p) : x + d < z := by omega
theorem br7 {b k n : Nat} (h : b ≤ k) (hn : k + 1 = n) (hk : k ≤ 4000 ∨ k % 2 = 0 ∧ k ≤ 7000) : (b : Int) + (n : Int) ≤ 2 ^ 27 := by omega
theorem br8 {K : Nat} : 3 ≤ K + 4 := by omega
theorem br9 {K : Nat} : K + 1 ≤ K + 4 := by omega
theorem br10 {x : Nat} (h : x ≤ 1000) : x < 2 ^ 20 := by omega
theorem br11 {k n : Nat} (hn : k + 1 = n) : 0 < n := by omega
theorem br12 {k n : Nat} (hn : k + 1 = n) (hk : k ≤ 4000 ∨ k % 2 = 0 ∧ k ≤ 7000) : n ≤ 100000 := by omega
theorem br6 {i K x : Nat} (e : x = i) (h : i < K) (hK : K ≤ 1000) : x < 2 ^ 20 := by omega
theorem fp2 {I l n : Nat} (h1 : I < n ∨ n < I) (h2 : l < n ∨ n < l) : ∀ b ∈ [I, l], b ∉ [n] := by
  intro b hb
  simp only [List.mem_cons, List.not_mem_nil, or_false] at hb ⊢
  exact ar82 hb h1 h2
section
variable {c : Cx} {A : Around} {B h : Heap} {mg mb : Str → Option Value}
/-- the loop of _divmod_pos -/
inductive DvJ (B h : Heap) (L : Nat) (St : Nat → Heap → Prop) (K k n lq a i : Nat) (h' : Heap) : Prop
  | mk (m : Str → Option Value) (qs : List Int) (r : Nat) (tr tn tb : Tok) (S : Fm B h tabs L m h') (st : St i h') (le : i ≤ K) (mb : m "b" = some (.int (2 ^ k : Nat) tb)) (mn : m "n" = some (.int (n : Nat) tn)) (mq : m "q_digits" = some (.ref lq)) (mr : m "r" = some (.int r tr))
    (il : IL h' lq qs) (len : qs.length = i) (dig : ∀ d ∈ qs, 0 ≤ d ∧ d < 2 ^ n) (val : undig n qs.reverse = ((a / 2 ^ (n * (K - i)) / 2 ^ k : Nat) : Int)) (rem : r = a / 2 ^ (n * (K - i)) % 2 ^ k) : DvJ B h L St K k n lq a i h'
theorem DvJ.st {B h : Heap} {L : Nat} {St : Nat → Heap → Prop} {K k n lq a i : Nat} {h' : Heap} (x : DvJ B h L St K k n lq a i h') : St i h' := by
  obtain ⟨_, _, _, _, _, _, _, s⟩ := x; exact s
theorem divmodPos_spec (T : TopAt B mg mb) (F : Fns B mg) (G : GG B h) {a k K : Nat} {ta tb : Tok} (r : Room A (K + 5)) (hK : nfig (k + 1) a = K) (hk : k ≤ 4000 ∨ k % 2 = 0 ∧ k ≤ 7000) (hnK : (k + 1) * K ≤ 100000) (hK1 : K ≤ 1000) :
    Wp c A (call (.ref 70) [.int a ta, .int (2 ^ k : Nat) tb] []) (fun v h' => PairIs v h' (a / 2 ^ k) (a % 2 ^ k) ∧ Ext tabs h h' ∧ GG B h') h := by
  refine Wp.enterS (n := K + 4) T G F.f12 r (by decide) (by decide) (binds := [("a", .int a ta), ("b", .int (2 ^ k : Nat) tb)]) (fun doc pm tk => BindsTo.of_eq rfl) rfl rfl rfl rfl rfl (fun L h₁ hL S r' => ?_)
  have S := S tabs
  refine Wp.abs fun Qz kz => ?_
  have L1 : L < h₁.objs.size := S.ns.lt
  refine Wp.cons (Wp.assign (Wp.meth0 (Wp.nameL S rfl rfl rfl rfl ⟨"int.bit_length", Wp.gmI, Wp.bitlen fun t1 => ?_⟩)))
  rw [bits_pow]
  generalize hn : k + 1 = n at hK hnK
  refine Wp.storeL S rfl rfl rfl fun h₂ S e2 => ?_
  have L2 : L < h₂.objs.size := S.ns.lt
  obtain ⟨fo, fd', hfo, hfd⟩ := F.f10.there S.gg (by decide)
  refine Wp.cons (Wp.assign (Wp.callF (o := fo) (fd := fd') (fun Q q => Wp.nameG S T rfl rfl rfl F.n10 q) ?_))
  refine Wp.icons (Wp.nameL S rfl rfl rfl rfl (Wp.icons (Wp.nameL S rfl rfl rfl rfl (Wp.inil ⟨⟨hfo, hfd⟩, ?_⟩))))
  refine (i2d_spec T F S.gg (r'.le (by exact ar83)) (by exact ar84 hn) hK hnK hK1 (by exact ar85 hn hk)).mono fun v h₃ ⟨l0, ev, il, hl, e3, g3⟩ => ?_
  subst ev
  obtain ⟨l, rfl⟩ : ∃ l : Nat, l = l0 := ⟨l0, rfl⟩
  have offL : ∀ {n : Nat}, h.objs.size ≤ n → n ∉ tabs := fun hn => G.offT hn
  have S := S.ext' e3 g3 (fun b hb => .inl hb) (offL hL)
  refine Wp.storeL S rfl rfl rfl fun h₄ S e4 => ?_
  have lL : L < l := Nat.lt_of_lt_of_le L2 hl
  have il := il.ext e4 (off1 (.inr lL))
  refine Wp.cons (Wp.assign (Wp.cInt fun t2 => Wp.storeL S rfl rfl rfl fun h₅ S e5 => ?_))
  have il := il.ext e5 (off1 (.inr lL))
  have hl5 : l < h₅.objs.size := il.lt
  refine Wp.cons (Wp.assign (Wp.listD (Wp.inil ⟨show 0 ≤ 2 ^ 24 by decide, ?_⟩)))
  generalize hlq : h₅.objs.size = lq at hl5
  have ilq : IL (h₅.push (lstObj [] 0)) lq [] := ⟨[], 0, by rw [← hlq]; exact Heap.get?_push_size _ rfl, .nil⟩
  have il := il.ext (Ext.push h₅ (lstObj [] 0)) (fun q => nomatch q)
  have S := S.grow (Ext.push h₅ (lstObj [] 0))
  generalize h₅.push (lstObj [] 0) = h₆ at S il ilq
  refine Wp.storeL S rfl rfl rfl fun h₇ S e7 => ?_
  have il := il.ext e7 (off1 (.inr lL))
  have ilq := ilq.ext e7 (off1 (.inr (Nat.lt_trans lL hl5)))
  have hlq7 : lq < h₇.objs.size := ilq.lt
  have tb : ∀ {h' : Heap} {m : Str → Option Value}, Fm B h tabs L m h' → Ext tabs h h' := fun S => S.out (new_none hL)
  -- the loop
  refine Wp.cons (Wp.forS (Wp.callT (ty := "reversed") (fun Q q => Wp.nameB S T rfl rfl rfl rfl F.bReversed (by decide) (by decide +kernel) q) (Wp.icons (Wp.nameL S rfl rfl rfl rfl (Wp.inil ?_)))))
  refine Wp.iterRev r'.hh il fun h₈ e8 src => ?_
  have S := S.grow e8
  have ilq := ilq.ext e8 (fun q => nomatch q)
  generalize hI : h₇.objs.size = I at src
  refine (src.self (Ext.refl [] h₈)).mono fun it' h₉ ⟨ei, eh⟩ => ?_
  subst ei eh
  obtain ⟨St, W, st, hIlt, hfp, fr, _, hno⟩ := src
  have hlen : ((digs n K a).reverse).length = K := by rw [List.length_reverse, digs_len]
  rw [hlen] at W
  have hlqI : lq < I := by exact hI ▸ hlq7
  have Llq : L < lq := by exact Nat.lt_trans lL hl5
  have LI : L < I := by exact Nat.lt_trans Llq hlqI
  have hhlq : h.objs.size ≤ lq := by exact Nat.le_trans hL (Nat.le_of_lt Llq)
  have hhI : h.objs.size ≤ I := by exact Nat.le_trans hhlq (Nat.le_of_lt hlqI)
  have bI : B.get? I = none := G.new hhI
  have nT : ∀ {b : Nat}, h.objs.size ≤ b → ∀ z ∈ [b], z ∈ tabs ∨ h.get? z = none := fun hb z hz => .inr (by rw [List.mem_singleton.mp hz]; exact new_none hb)
  refine Cp.forIt (n := K) W (DvJ B h L St K k n lq a)
    ⟨_, [], 0, _, _, _, S, st, Nat.zero_le _, rfl, rfl, rfl, rfl, ilq, rfl, by simp, ?_, ?_⟩ (fun i h' q => q.st) ?_ ?_
  · rw [Nat.sub_zero, ← hK, Nat.div_eq_of_lt (nfig_cover (by exact br11 hn))]; simp [undig]
  · rw [Nat.sub_zero, ← hK, Nat.div_eq_of_lt (nfig_cover (by exact br11 hn))]; simp
  · rintro i h' v h'' hi ⟨m, qs, r, tr, tn, tb', S, st, _, mb, mn, mq, mr, ilq, hql, hqd, hqv, hr⟩ ⟨d, td, hd, rfl⟩ st' ex
    obtain ⟨oI, hoI, noI⟩ := hno i h' st
    have S := S.ext' ex (S.gg.turnI ex hoI noI bI (offL hhI)) (nT hhI) (off1 (.inl (by exact LI)))
    have ilq := ilq.ext ex (off1 (.inl hlqI))
    -- the digit
    obtain ⟨j, hj⟩ : ∃ j, K - i = j + 1 := ⟨K - i - 1, by exact br1 hi⟩
    have hdv : d = ((a / 2 ^ (n * j) % 2 ^ n : Nat) : Int) := by
      rw [List.getElem?_reverse (by rw [digs_len]; exact hi), digs_len, show K - 1 - i = j from br2 hj, digs_at n K a j (by exact br3 hj)] at hd
      exact (Option.some.inj hd).symm
    rw [hj] at hqv hr
    have hX := top_step n a j
    generalize hXe : a / 2 ^ (n * (j + 1)) = X at hqv hr hX
    generalize hX'e : a / 2 ^ (n * j) = X' at hX hdv
    generalize hde : X' % 2 ^ n = d' at hX hdv
    have hdlt : d' < 2 ^ n := by rw [← hde]; exact Nat.mod_lt _ (Nat.two_pow_pos n)
    have hrlt : r < 2 ^ k := by rw [hr]; exact Nat.mod_lt _ (Nat.two_pow_pos k)
    subst hdv
    have hY : r * 2 ^ n + d' < 2 ^ (k + n) := by
      have : (r + 1) * 2 ^ n ≤ 2 ^ k * 2 ^ n := Nat.mul_le_mul_right _ hrlt
      rw [Nat.add_mul, ← Nat.pow_add] at this
      exact br5 this hdlt
    have sch := school X d' (2 ^ n) (2 ^ k) (Nat.two_pow_pos k)
    rw [← hX, ← hr] at sch
    have offfp : ∀ b ∈ [I, l], b ∉ [L] := fp2 (.inr (by exact LI)) (.inr (by exact lL))
    refine Wp.absB fun Qy ky => ?_
    refine Wp.asg (Wp.storeL S rfl rfl rfl fun g1 S x1 => ?_)
    have ilq := ilq.ext x1 (off1 (.inr (by exact Llq)))
    have st1 : St (i + 1) g1 := fr _ _ _ st' fun b hb o e => x1.get _ _ (offfp b hb) e
    obtain ⟨fo, fd', hfo, hfd⟩ := F.f8.there S.gg (by decide)
    refine Wp.cons (Wp.unpack2 r'.hh (Wp.callF (o := fo) (fd := fd') (fun Q q => Wp.nameG S T rfl rfl rfl F.n8 q) ?_))
    refine Wp.icons (Wp.bin (Wp.bin (Wp.nameL S rfl rfl rfl mr (Wp.nameL S rfl rfl rfl mn (Wp.shlI (Int.natCast_nonneg _) (by exact br7 (natBits hrlt) hn hk) fun u1 => Wp.nameL S rfl rfl rfl rfl (Wp.addI fun u2 => ?_))))))
    have eY : (r : Int) * 2 ^ ((n : Int)).toNat + (d' : Int) = ((r * 2 ^ n + d' : Nat) : Int) := by rw [Int.toNat_natCast]; simp
    rw [eY]
    refine Wp.icons (Wp.nameL S rfl rfl rfl mb (Wp.icons (Wp.nameL S rfl rfl rfl mn (Wp.inil ⟨⟨hfo, hfd⟩, ?_⟩))))
    refine (div2_spec T F S.gg (r'.le (by exact br8)) hn.symm hk hY).mono fun v g2 ⟨⟨P, w1, w2, ev, hP⟩, x2, _⟩ => ?_
    have S := S.grow x2
    have ilq := ilq.ext x2 (fun q => nomatch q)
    have st2 : St (i + 1) g2 := fr _ _ _ st1 fun b hb o e => x2.all _ _ e
    refine ⟨P, _, _, ev, hP, fun g3 x3 => ?_⟩
    have S := S.grow x3
    have ilq := ilq.ext x3 (fun q => nomatch q)
    have st3 : St (i + 1) g3 := fr _ _ _ st2 fun b hb o e => x3.all _ _ e
    refine Wp.storeL S rfl rfl rfl fun g4 S x4 => Wp.storeL S rfl rfl rfl fun g5 S x5 => ?_
    have ilq := (ilq.ext x4 (off1 (.inr (by exact Llq)))).ext x5 (off1 (.inr (by exact Llq)))
    have st5 : St (i + 1) g5 := fr _ _ _ (fr _ _ _ st3 fun b hb o e => x4.get _ _ (offfp b hb) e) fun b hb o e => x5.get _ _ (offfp b hb) e
    obtain ⟨vq, nq, hoq, hiq⟩ := id ilq
    refine Wp.cons (Wp.expr (Wp.meth (Wp.nameL S rfl rfl rfl mq ⟨"list.append", Wp.gmL hoq PySem.F.slot_list_append PySem.F.type_list_append, Wp.icons (Wp.nameL S rfl rfl rfl rfl (Wp.inil ?_))⟩)))
    refine Wp.appendL ilq (by exact br6 hql hi hK1) fun g6 il6 x6 => ⟨rfl, Wp.nil ?_⟩
    have G6 : GG B g6 := S.gg.turn x6 hoq (fun vs => by nofun) (G.new hhlq)
    have S := S.ext' x6 G6 (nT hhlq) (off1 (.inl (by exact Llq)))
    have hji : K - (i + 1) = j := br4 hj
    have hq : (r * 2 ^ n + d') / 2 ^ k < 2 ^ n := Nat.div_lt_of_lt_mul (by rw [← Nat.pow_add]; exact hY)
    refine ky .next _ ⟨_, _, (r * 2 ^ n + d') % 2 ^ k, w2, tn, tb', S, fr _ _ _ st5 fun b hb o e => x6.get _ _ ?_ e, hi, mb, mn, mq, rfl, il6, by simp [hql], ?_, ?_, ?_⟩
    · exact fp2 (.inr hlqI) (.inl hl5) b hb
    · intro d hd
      rcases List.mem_append.mp hd with hd | hd
      · exact hqd d hd
      · rw [List.mem_singleton.mp hd]
        exact ⟨Int.natCast_nonneg _, by exact_mod_cast hq⟩
    · rw [hji, hX'e, List.reverse_append, List.reverse_singleton, List.singleton_append, undig, hqv, sch.1]
      simp [Int.add_comm]
    · rw [hji, hX'e, sch.2]
  · rintro h' h'' ⟨m, qs, r, tr, tn, tb', S, st, _, mb, mn, mq, mr, ilq, hql, hqd, hqv, hr⟩ ex
    obtain ⟨oI, hoI, noI⟩ := hno K h' st
    have S := S.ext' ex (S.gg.turnI ex hoI noI bI (offL hhI)) (nT hhI) (off1 (.inl (by exact LI)))
    have ilq := ilq.ext ex (off1 (.inl hlqI))
    rw [Nat.sub_self, Nat.mul_zero, Nat.pow_zero, Nat.div_one] at hqv hr
    obtain ⟨vq, nq, hoq, hiq⟩ := id ilq
    refine Wp.cons (Wp.expr (Wp.meth0 (Wp.nameL S rfl rfl rfl mq ⟨"list.reverse", Wp.gmL hoq PySem.F.slot_list_reverse PySem.F.type_list_reverse, ?_⟩)))
    refine Wp.reverseL ilq (by rw [hql]; exact br10 hK1) (fun vs z => z.rev) fun g6 il6 x6 => ⟨rfl, ?_⟩
    have G6 : GG B g6 := S.gg.turn x6 hoq (fun vs => by nofun) (G.new hhlq)
    have S := S.ext' x6 G6 (nT hhlq) (off1 (.inl (by exact Llq)))
    obtain ⟨fo, fd', hfo, hfd⟩ := F.f11.there S.gg (by decide)
    refine Wp.cons (Wp.assign (Wp.callF (o := fo) (fd := fd') (fun Q q => Wp.nameG S T rfl rfl rfl F.n11 q) ?_))
    refine Wp.icons (Wp.nameL S rfl rfl rfl mq (Wp.icons (Wp.nameL S rfl rfl rfl mn (Wp.inil ⟨⟨hfo, hfd⟩, ?_⟩))))
    refine (d2i_spec T F S.gg (r'.le (by rw [List.length_reverse, hql]; exact br9)) il6 (fun d hd => hqd d (List.mem_reverse.mp hd)) (by rw [List.length_reverse, hql]; exact hnK) (by rw [List.length_reverse, hql]; exact hK1) (by exact br12 hn hk)).mono fun v g7 ⟨⟨t7, ev⟩, x7, G7⟩ => ?_
    subst ev
    have S := S.ext' x7 G7 (fun b hb => .inl hb) (offL hL)
    rw [hqv]
    refine Wp.storeL S rfl rfl rfl fun g8 S x8 => ?_
    subst hr
    refine Wp.cons (Wp.ret (Wp.tupD (Wp.icons (Wp.nameL S rfl rfl rfl rfl (Wp.icons (Wp.nameL S rfl rfl rfl mr (Wp.inil ⟨show 2 ≤ 2 ^ 24 by decide, ?_⟩)))))))
    have S := S.grow (Ext.push g8 (tupObj [.int (a / 2 ^ k : Nat) t7, .int (a % 2 ^ k : Nat) tr]))
    exact kz _ _ ⟨⟨_, _, _, rfl, Heap.get?_push_size _ rfl⟩, tb S, S.gg⟩
end
end Mine
end

section
open PySem PySem.W PyProof.Rows
set_option maxRecDepth 100000
set_option maxHeartbeats 4000000
namespace Mine
section
variable {c : Cx} {A : Around} {B h : Heap} {mg mb : Str → Option Value}
theorem intDivmod_spec (T : TopAt B mg mb) (F : Fns B mg) (G : GG B h) {a k K : Nat} {ta tb : Tok} (r : Room A (K + 6)) (hK : nfig (k + 1) a = K) (hk : k ≤ 4000 ∨ k % 2 = 0 ∧ k ≤ 7000) (hnK : (k + 1) * K ≤ 100000) (hK1 : K ≤ 1000) :
    Wp c A (call (.ref 77) [.int a ta, .int (2 ^ k : Nat) tb] []) (fun v h' => PairIs v h' (a / 2 ^ k) (a % 2 ^ k) ∧ Ext tabs h h' ∧ GG B h') h := by
  refine Wp.enterS (n := K + 5) T G F.f13 r (by decide) (by decide) (binds := [("a", .int a ta), ("b", .int (2 ^ k : Nat) tb)]) (fun doc pm tk => BindsTo.of_eq rfl) rfl rfl rfl rfl rfl (fun L h₁ hL S r' => ?_)
  have S := S tabs
  have hp : 0 < 2 ^ k := Nat.two_pow_pos k
  refine Wp.cons (Wp.ifF (Wp.tCmp (Wp.nameL S rfl rfl rfl rfl (Wp.cInt fun t1 => Wp.eqI (Wp.truB ⟨beq_eq_false_iff_ne.mpr (by exact ar86 hp), ?_⟩)))))
  refine Wp.cons (Wp.ifF (Wp.tCmp (Wp.nameL S rfl rfl rfl rfl (Wp.cInt fun t1 => Wp.ltI (Wp.truB ⟨decide_eq_false (by exact ar87), ?_⟩)))))
  refine Wp.cons (Wp.ifF (Wp.tCmp (Wp.nameL S rfl rfl rfl rfl (Wp.cInt fun t1 => Wp.ltI (Wp.truB ⟨decide_eq_false (by exact ar87), ?_⟩)))))
  obtain ⟨fo, fd', hfo, hfd⟩ := F.f12.there S.gg (by decide)
  refine Wp.cons (Wp.ret (Wp.callF (o := fo) (fd := fd') (fun Q q => Wp.nameG S T rfl rfl rfl F.n12 q) ?_))
  refine Wp.icons (Wp.nameL S rfl rfl rfl rfl (Wp.icons (Wp.nameL S rfl rfl rfl rfl (Wp.inil ⟨⟨hfo, hfd⟩, ?_⟩))))
  refine (divmodPos_spec T F S.gg r' hK hk hnK hK1).mono fun v h₂ ⟨p, e, g⟩ => ?_
  have S := S.ext' e g (fun b hb => .inl hb) (G.offT hL)
  exact ⟨p, S.out (new_none hL), g⟩
theorem isNonterminal_spec (T : TopAt B mg mb) (F : Fns B mg) (G : GG B h) (r : Room A 1) (x : Int) (t : Tok) :
    Wp c A (call (.ref 28) [.int x t] []) (fun v h' => v = .bool (decide (x ≥ 256)) ∧ Ext [] h h' ∧ GG B h') h := by
  refine Wp.enter T G F.f4 r (by decide) (by decide) (binds := [("x", .int x t)]) (fun doc pm tk => BindsTo.of_eq rfl) rfl rfl rfl rfl rfl (fun L h₁ hL S r' => ?_)
  have S := S []
  obtain ⟨tN, hN⟩ := F.cNT
  exact Wp.cons (Wp.ret (Wp.cmp (Wp.nameL S rfl rfl rfl rfl (Wp.nameG S T rfl rfl rfl hN (Wp.geI ⟨rfl, S.out hL, S.gg⟩)))))
theorem isEof_spec (T : TopAt B mg mb) (F : Fns B mg) (G : GG B h) (r : Room A 1) (x : Int) (t : Tok) :
    Wp c A (call (.ref 35) [.int x t] []) (fun v h' => v = .bool (x == 0) ∧ Ext [] h h' ∧ GG B h') h := by
  refine Wp.enter T G F.f5 r (by decide) (by decide) (binds := [("x", .int x t)]) (fun doc pm tk => BindsTo.of_eq rfl) rfl rfl rfl rfl rfl (fun L h₁ hL S r' => ?_)
  have S := S []
  obtain ⟨tN, hN⟩ := F.cEM
  exact Wp.cons (Wp.ret (Wp.cmp (Wp.nameL S rfl rfl rfl rfl (Wp.nameG S T rfl rfl rfl hN (Wp.eqI ⟨rfl, S.out hL, S.gg⟩)))))
end
end Mine
end

section
open PySem PySem.W PyProof.Rows
set_option maxRecDepth 100000
namespace Mine
/-- the number of the key at i -/
noncomputable def Kn (num : Value → Int) (xs : Array Keyed) (i : Nat) : Int := match xs[i]? with
  | some p => num p.1
  | none => 0
theorem Kn_congr {num : Value → Int} {xs ys : Array Keyed} {i j : Nat} (h : xs[i]? = ys[j]?) : Kn num xs i = Kn num ys j := by unfold Kn; rw [h]
theorem Kn_bubble {num : Value → Int} {xs : Array Keyed} {src d : Nat} (hs : src < xs.size) (hd : d ≤ src) (k : Nat) :
    Kn num (bubble xs src d) k = if k = src - d then Kn num xs src else if src - d < k ∧ k ≤ src then Kn num xs (k - 1) else Kn num xs k := by
  have e := getElem?_bubble hs d hd k
  by_cases h1 : k = src - d
  · rw [if_pos h1] at e ⊢; exact Kn_congr e
  · rw [if_neg h1] at e ⊢
    by_cases h2 : src - d < k ∧ k ≤ src
    · rw [if_pos h2] at e ⊢; exact Kn_congr e
    · rw [if_neg h2] at e ⊢; exact Kn_congr e
theorem Kn_mirror {num : Value → Int} {xs : Array Keyed} {i j : Nat} (hj : j ≤ xs.size) (k : Nat) :
    Kn num (mirror xs i j ((j - i) / 2)) k = if i ≤ k ∧ k < j then Kn num xs (i + j - 1 - k) else Kn num xs k := by
  have e := getElem?_mirror_all (i := i) hj k
  by_cases h1 : i ≤ k ∧ k < j
  · rw [if_pos h1] at e ⊢; exact Kn_congr e
  · rw [if_neg h1] at e ⊢; exact Kn_congr e
theorem Kn_mirror_equal {num : Value → Int} {xs : Array Keyed} {i j : Nat} (hj : j ≤ xs.size) (heq : ∀ k, i ≤ k → k < j → Kn num xs k = Kn num xs (j - 1)) (k : Nat) :
    Kn num (mirror xs i j ((j - i) / 2)) k = Kn num xs k := by
  rw [Kn_mirror hj]
  split
  · rw [heq _ (by exact ar421 (by assumption)) (by exact ar422 (by assumption)), heq k (by exact ar423 (by assumption)) (by exact ar424 (by assumption))]
  · rfl
structure SB (kd : SortKind) (a₀ : Array Keyed) (st : SortSt) : Prop where
  perm : (arrOf st).Perm a₀
  kind : kindOf st = kd
  failed : failedOf st = none
  pend : pendingOf st = #[]
theorem SB.size {kd : SortKind} {a₀ : Array Keyed} {st : SortSt} (h : SB kd a₀ st) : (arrOf st).size = a₀.size := h.perm.size_eq
theorem SB.setArr {kd : SortKind} {a₀ : Array Keyed} {st : SortSt} (h : SB kd a₀ st) {xs : Array Keyed} (hp : xs.Perm (arrOf st)) : SB kd a₀ (setArr st xs) :=
  ⟨hp.trans h.perm, h.kind, h.failed, h.pend⟩
/-- what a comparison within the sort answers -/
noncomputable def LtOk (prog : Program) (w : World) (A : Around) (E : Value → Shared → Prop) (s : Shared) (num : Value → Int) (kd : SortKind) (a₀ : Array Keyed) : Prop :=
  ∀ (st : SortSt) (i j : Nat) (Q : Option Bool → SortSt → Prop), SB kd a₀ st → i < a₀.size → j < a₀.size → Q (some (decide (Kn num (arrOf st) i < Kn num (arrOf st) j))) st → wpS (model prog w) A E s (ltAt' i j) Q st
/-- the item at i -/
noncomputable def V (xs : Array Keyed) (i : Nat) : Int := match xs[i]? with
  | some p => numOf p.2
  | none => 0
theorem V_congr {xs ys : Array Keyed} {i j : Nat} (h : xs[i]? = ys[j]?) : V xs i = V ys j := by unfold V; rw [h]
theorem V_bubble {xs : Array Keyed} {src d : Nat} (hs : src < xs.size) (hd : d ≤ src) (k : Nat) :
    V (bubble xs src d) k = if k = src - d then V xs src else if src - d < k ∧ k ≤ src then V xs (k - 1) else V xs k := by
  have e := getElem?_bubble hs d hd k
  by_cases h1 : k = src - d
  · rw [if_pos h1] at e ⊢; exact V_congr e
  · rw [if_neg h1] at e ⊢
    by_cases h2 : src - d < k ∧ k ≤ src
    · rw [if_pos h2] at e ⊢; exact V_congr e
    · rw [if_neg h2] at e ⊢; exact V_congr e
theorem V_mirror {xs : Array Keyed} {i j : Nat} (hj : j ≤ xs.size) (k : Nat) :
    V (mirror xs i j ((j - i) / 2)) k = if i ≤ k ∧ k < j then V xs (i + j - 1 - k) else V xs k := by
  have e := getElem?_mirror_all (i := i) hj k
  by_cases h1 : i ≤ k ∧ k < j
  · rw [if_pos h1] at e ⊢; exact V_congr e
  · rw [if_neg h1] at e ⊢; exact V_congr e
/-- in order, like ones as they came -/
noncomputable def St2 (num : Value → Int) (xs : Array Keyed) (k : Nat) : Prop := ∀ i j, i < j → j < k → Kn num xs i < Kn num xs j ∨ (Kn num xs i = Kn num xs j ∧ V xs i < V xs j)
/-- in falling order, like ones the last first -/
noncomputable def Rv2 (num : Value → Int) (xs : Array Keyed) (k : Nat) : Prop := ∀ i j, i < j → j < k → Kn num xs j < Kn num xs i ∨ (Kn num xs i = Kn num xs j ∧ V xs j < V xs i)
/-- from n on the items come as they came, and behind all before them -/
noncomputable def Up (sz : Nat) (xs : Array Keyed) (n : Nat) : Prop := ∀ i j, i < j → n ≤ j → j < sz → V xs i < V xs j
theorem Up.mono {sz : Nat} {xs : Array Keyed} {n m : Nat} (x : Up sz xs n) (h : n ≤ m) : Up sz xs m := fun i j a b c => x i j a (by exact ar174 h b) c
theorem Up.mirror {sz : Nat} {xs : Array Keyed} {i j n : Nat} (x : Up sz xs n) (hj : j ≤ xs.size) (hn : j ≤ n) : Up sz (mirror xs i j ((j - i) / 2)) n := by
  intro a b hab hb hs
  rw [V_mirror hj, V_mirror hj]
  repeat' split
  all_goals first
    | (exfalso; omega)
    | exact x _ _ (by omega) (by exact ar404 hb) (by exact ar173 hs)
section
variable {num : Value → Int} {kd : SortKind} {prog : Program} {w : World} {A : Around} {E : Value → Shared → Prop} {s : Shared} {a₀ : Array Keyed}
theorem asc2 {st : SortSt} {a nrem : Nat} {Q : AscSt → SortSt → Prop} (h0 : LtOk prog w A E s num kd a₀) (hn : nrem ≤ a₀.size) (ha : 1 ≤ a) (han : a ≤ nrem) (hB : SB kd a₀ st)
    (hs : St2 num (arrOf st) a) (hu : Up a₀.size (arrOf st) a)
    (h : ∀ n, a ≤ n → n ≤ nrem → St2 num (arrOf st) n → (n = nrem ∨ Kn num (arrOf st) n < Kn num (arrOf st) (n - 1)) → Q (none, n) st) :
    wpS (model prog w) A E s (ascLoop a nrem) Q st := by
  unfold ascLoop
  refine wpS_forRange (I := fun x c st' => st' = st ∧ c = (none, x) ∧ St2 num (arrOf st) x) ?step ?fin ⟨rfl, rfl, hs⟩
  case fin =>
    rintro c st' ⟨rfl, rfl, hs'⟩
    rw [show max a nrem = nrem by exact ar425 han] at hs' ⊢
    exact h nrem han (Nat.le_refl _) hs' (.inl rfl)
  case step =>
    rintro x c st' hax hxn ⟨rfl, rfl, hs'⟩
    dsimp only
    refine wpS_bind (h0 _ _ _ _ hB (by exact ar156 hxn hn) (by exact ar426 hxn hn) ?_)
    by_cases hless : Kn num (arrOf st') x < Kn num (arrOf st') (x - 1)
    · simp only [hless, decide_true, if_true]
      exact wpS_pure (h x hax (by exact ar99 hxn) hs' (.inr hless))
    · simp only [hless, decide_false, Bool.false_eq_true, if_false]
      refine wpS_pure ⟨rfl, rfl, fun i j hij hj => ?_⟩
      by_cases hjx : j < x
      · exact hs' i j hij hjx
      · have hj' : j = x := by exact ar427 hj hjx
        subst hj'
        have hv := hu i j hij hax (by exact ar156 hxn hn)
        by_cases hi' : i = j - 1
        · subst hi'; exact ar428 hv hless
        · have := hs' i (j - 1) (by exact ar429 hij hi') (by exact ar400 hij)
          exact ar430 this hv hless
theorem tail3_2 {st : SortSt} {n nrem : Nat} {Q : Option Nat → SortSt → Prop} (h0 : LtOk prog w A E s num kd a₀) (hn : nrem ≤ a₀.size) (h1 : 1 ≤ n) (hnn : n ≤ nrem) (hB : SB kd a₀ st)
    (hs : Rv2 num (arrOf st) n) (hu : Up a₀.size (arrOf st) n) (h : ∀ m st', SB kd a₀ st' → 1 ≤ m → m ≤ nrem → St2 num (arrOf st') m → Up a₀.size (arrOf st') m → Q (some m) st') :
    wpS (model prog w) A E s (tail3 n nrem) Q st := by
  unfold tail3
  have hsz : n ≤ (arrOf st).size := by rw [hB.size]; exact ar174 hnn hn
  refine wpS_bind (wpS_reverse ?_)
  have hB' : SB kd a₀ (setArr st (mirror (arrOf st) 0 n ((n - 0) / 2))) := hB.setArr (mirror_perm _ _ _ _)
  have hu' : Up a₀.size (mirror (arrOf st) 0 n ((n - 0) / 2)) n := hu.mirror hsz (Nat.le_refl _)
  refine wpS_bind (asc2 h0 hn h1 hnn hB' ?_ hu' fun m hm1 hm2 hsm _ => wpS_pure (h m _ hB' (by exact ar431 h1 hm1) hm2 hsm (hu'.mono hm1)))
  intro i j hij hj
  show Kn num (mirror (arrOf st) 0 n ((n - 0) / 2)) i < Kn num (mirror (arrOf st) 0 n ((n - 0) / 2)) j ∨ _ ∧ V (mirror (arrOf st) 0 n ((n - 0) / 2)) i < V (mirror (arrOf st) 0 n ((n - 0) / 2)) j
  rw [Kn_mirror hsz, Kn_mirror hsz, V_mirror hsz, V_mirror hsz, if_pos (by exact ar432 hij hj), if_pos (by exact ar433 hj), if_pos (by exact ar432 hij hj), if_pos (by exact ar433 hj)]
  have := hs (0 + n - 1 - j) (0 + n - 1 - i) (by exact ar434 hj hij) (by exact ar435 hj)
  exact ar436 this
/-- the falling part under way: from b on like ones, not yet turned -/
structure Dn (num : Value → Int) (sz : Nat) (xs : Array Keyed) (x b : Nat) : Prop where
  lt : b < x
  one : Rv2 num xs b
  two : ∀ i j, i < b → b ≤ j → j < x → Kn num xs j < Kn num xs i
  eq : ∀ i, b ≤ i → i < x → Kn num xs i = Kn num xs (x - 1)
  up : ∀ i j, b ≤ i → i < j → j < x → V xs i < V xs j
  fre : Up sz xs x
theorem Dn.turned {num : Value → Int} {sz : Nat} {xs : Array Keyed} {x b : Nat} (d : Dn num sz xs x b) (hx : x ≤ xs.size) : Rv2 num (mirror xs b x ((x - b) / 2)) x ∧ Up sz (mirror xs b x ((x - b) / 2)) x ∧ (∀ k, x ≤ k → Kn num (mirror xs b x ((x - b) / 2)) k = Kn num xs k) ∧
    (∀ i, i < x → Kn num xs (x - 1) ≤ Kn num (mirror xs b x ((x - b) / 2)) i) := by
  have hK : ∀ k, Kn num (mirror xs b x ((x - b) / 2)) k = Kn num xs k := Kn_mirror_equal hx d.eq
  refine ⟨fun i j hij hj => ?_, d.fre.mirror hx (Nat.le_refl _), fun k hk => hK k, fun i hi => ?_⟩
  · rw [hK, hK]
    by_cases hjb : j < b
    · rw [V_mirror hx, V_mirror hx, if_neg (by exact ar437 hjb), if_neg (by exact ar438 hij hjb)]
      exact d.one i j hij hjb
    · by_cases hib : i < b
      · exact .inl (d.two i j hib (by exact ar439 hjb) hj)
      · right
        refine ⟨by rw [d.eq i (by exact ar439 hib) (by exact ar440 hij hj), d.eq j (by exact ar439 hjb) hj], ?_⟩
        rw [V_mirror hx, V_mirror hx, if_pos (by exact ar441 hj hjb), if_pos (by exact ar442 hij hj hib)]
        exact d.up _ _ (by exact ar443 hj) (by exact ar444 hj hij) (by exact ar445 hj hib)
  · rw [hK]
    have := d.lt
    by_cases hib : i < b
    · exact Int.le_of_lt (d.two i (x - 1) hib (by exact ar399 this) (by exact ar400 hi))
    · rw [d.eq i (by exact ar439 hib) hi]; exact Int.le_refl _
theorem mirror_id {xs : Array Keyed} {b x : Nat} (h : x = b + 1) : mirror xs b x ((x - b) / 2) = xs := by
  subst h
  rw [show b + 1 - b = 1 by exact ar221]
  rfl
theorem Dn.next {num : Value → Int} {sz : Nat} {xs : Array Keyed} {x : Nat} (hr : Rv2 num xs x) (hu : Up sz xs x) (hl : ∀ i, i < x → Kn num xs x < Kn num xs i) : Dn num sz xs (x + 1) x :=
  ⟨Nat.lt_succ_self _, hr, fun i j hi hj hj' => by rw [show j = x by exact ar446 hj' hj]; exact hl i hi, fun i h1 h2 => by congr 1; exact ar447 h2 h1, fun i j h1 h2 h3 => by exact ar448 h3 h1 h2, hu.mono (Nat.le_succ _)⟩
theorem desc2 {st : SortSt} {n nrem : Nat} {Q : DescSt → SortSt → Prop} (h0 : LtOk prog w A E s num kd a₀) (hn : nrem ≤ a₀.size) (h1 : 1 ≤ n) (hnn : n ≤ nrem) (hB : SB kd a₀ st)
    (hs : Dn num a₀.size (arrOf st) n (n - 1))
    (h : ∀ m neq st', SB kd a₀ st' → n ≤ m → m ≤ nrem → neq + 1 ≤ m → Dn num a₀.size (arrOf st') m (m - (neq + 1)) → Q (none, m, neq) st') :
    wpS (model prog w) A E s (descLoop n nrem) Q st := by
  unfold descLoop
  refine wpS_forRange (I := fun x c st' => ∃ neq, c = (none, x, neq) ∧ SB kd a₀ st' ∧ neq + 1 ≤ x ∧ Dn num a₀.size (arrOf st') x (x - (neq + 1))) ?step ?fin ⟨0, rfl, hB, by exact ar449 h1, hs⟩
  case fin =>
    rintro c st' ⟨neq, rfl, hB', hq, hd⟩
    rw [show max n nrem = nrem by exact ar425 hnn] at hq hd ⊢
    exact h nrem neq st' hB' hnn (Nat.le_refl _) hq hd
  case step =>
    rintro x c st' hax hxn ⟨neq, rfl, hB', hq, hd⟩
    dsimp only
    have hsz : x ≤ (arrOf st').size := by rw [hB'.size]; exact ar206 hxn hn
    refine wpS_bind (h0 _ _ _ _ hB' (by exact ar156 hxn hn) (by exact ar426 hxn hn) ?_)
    obtain ⟨t1, t2, t3, t4⟩ := hd.turned hsz
    by_cases hless : Kn num (arrOf st') x < Kn num (arrOf st') (x - 1)
    · simp only [hless, decide_true, if_true]
      have key := Dn.next t1 t2 (fun i hi => by rw [t3 x (Nat.le_refl _)]; exact Int.lt_of_lt_of_le hless (t4 i hi))
      by_cases hneq : neq > 0
      · rw [if_pos hneq]
        refine wpS_bind (wpS_reverse (wpS_pure ⟨0, rfl, hB'.setArr (mirror_perm _ _ _ _), by exact ar450, key⟩))
      · rw [if_neg hneq]
        rw [mirror_id (by exact ar451 hq hneq)] at key
        exact wpS_pure ⟨0, rfl, hB', by exact ar450, key⟩
    · simp only [hless, decide_false, Bool.false_eq_true, if_false]
      refine wpS_bind (h0 _ _ _ _ hB' (by exact ar426 hxn hn) (by exact ar156 hxn hn) ?_)
      by_cases hlarger : Kn num (arrOf st') (x - 1) < Kn num (arrOf st') x
      · simp only [hlarger, decide_true, if_true]
        exact wpS_pure (h x neq st' hB' hax (by exact ar99 hxn) hq hd)
      · simp only [hlarger, decide_false, Bool.false_eq_true, if_false]
        have heqx : Kn num (arrOf st') x = Kn num (arrOf st') (x - 1) := by exact ar452 hless hlarger
        refine wpS_pure ⟨neq + 1, rfl, hB', by exact ar453 hq, ?_⟩
        rw [show x + 1 - (neq + 1 + 1) = x - (neq + 1) by exact ar454]
        refine ⟨by exact ar455, hd.one, fun i j hi hj hj' => ?_, fun i h1 h2 => ?_, fun i j h1 h2 h3 => ?_, hd.fre.mono (Nat.le_succ _)⟩
        · by_cases hjx : j < x
          · exact hd.two i j hi hj hjx
          · rw [show j = x by exact ar427 hj' hjx, heqx]; exact hd.two i (x - 1) hi (by exact ar456) (by exact ar457 h1 hax)
        · rw [show x + 1 - 1 = x by exact ar458]
          by_cases hix : i = x
          · subst hix; rfl
          · rw [heqx]; exact hd.eq i (by exact ar459 h1) (by exact ar460 h2 hix)
        · by_cases hjx : j < x
          · exact hd.up i j h1 h2 hjx
          · rw [show j = x by exact ar427 h3 hjx]; exact hd.fre i x (by exact ar461 h2 h3) (Nat.le_refl _) (by exact ar156 hxn hn)
theorem descPart2 {st : SortSt} {n nrem : Nat} {Q : Option Nat → SortSt → Prop} (h0 : LtOk prog w A E s num kd a₀) (hn : nrem ≤ a₀.size) (hnn : n + 1 ≤ nrem) (hB : SB kd a₀ st)
    (hs : Dn num a₀.size (arrOf st) (n + 1) n) (h : ∀ m st', SB kd a₀ st' → 1 ≤ m → m ≤ nrem → St2 num (arrOf st') m → Up a₀.size (arrOf st') m → Q (some m) st') :
    wpS (model prog w) A E s (descPart n nrem) Q st := by
  unfold descPart
  refine wpS_bind (wpS_lift (wpAny_rule ⟨rfl, ?_⟩))
  refine wpS_bind (desc2 h0 hn (by exact ar462) hnn hB hs fun m neq st' hB' hm1 hm2 hq hd => ?_)
  dsimp only
  have hsz : m ≤ (arrOf st').size := by rw [hB'.size]; exact ar174 hm2 hn
  obtain ⟨t1, t2, _, _⟩ := hd.turned hsz
  by_cases hneq : neq > 0
  · rw [if_pos hneq]
    exact wpS_bind (wpS_reverse (tail3_2 h0 hn (by exact ar463 hq) hm2 (hB'.setArr (mirror_perm _ _ _ _)) t1 t2 h))
  · rw [if_neg hneq]
    rw [mirror_id (by exact ar451 hq hneq)] at t1 t2
    exact tail3_2 h0 hn (by exact ar463 hq) hm2 hB' t1 t2 h
theorem count2 {st : SortSt} {nrem : Nat} {Q : Option Nat → SortSt → Prop} (h0 : LtOk prog w A E s num kd a₀) (hn : nrem ≤ a₀.size) (h1 : 1 ≤ nrem) (hB : SB kd a₀ st) (hu : Up a₀.size (arrOf st) 1)
    (h : ∀ m st', SB kd a₀ st' → 1 ≤ m → m ≤ nrem → St2 num (arrOf st') m → Up a₀.size (arrOf st') m → Q (some m) st') :
    wpS (model prog w) A E s (countRun' 0 nrem) Q st := by
  rw [countRun0_eq]
  refine wpS_bind (asc2 h0 hn (Nat.le_refl 1) h1 hB (fun i j hij hj => by exact ar464 hj hij) hu fun n hn1 hn2 hsn hor => ?_)
  dsimp only
  by_cases hnn : n = nrem
  · rw [if_pos (by simpa using hnn)]
    exact wpS_pure (h n st hB hn1 hn2 hsn (hu.mono hn1))
  · rw [if_neg (by simpa using hnn)]
    have hlt : Kn num (arrOf st) n < Kn num (arrOf st) (n - 1) := hor.resolve_left hnn
    by_cases hgt : n > 1
    · rw [if_pos hgt]
      refine wpS_bind (h0 _ _ _ _ hB (by exact ar465 h1 hn) (by exact ar466 hgt hn2 hn) ?_)
      by_cases hrose : Kn num (arrOf st) 0 < Kn num (arrOf st) (n - 1)
      · simp only [hrose, decide_true, if_true]
        exact wpS_pure (h n st hB hn1 hn2 hsn (hu.mono hn1))
      · simp only [hrose, decide_false, Bool.false_eq_true, if_false]
        have hsz : n ≤ (arrOf st).size := by rw [hB.size]; exact ar174 hn2 hn
        have hall : ∀ k, 0 ≤ k → k < n → Kn num (arrOf st) k = Kn num (arrOf st) (n - 1) := by
          intro k _ hk
          have a1 : Kn num (arrOf st) 0 ≤ Kn num (arrOf st) k := by
            by_cases h0k : 0 < k
            · have := hsn 0 k h0k hk; exact ar366 this
            · rw [show k = 0 by exact ar467 h0k]; exact Int.le_refl _
          have a2 : Kn num (arrOf st) k ≤ Kn num (arrOf st) (n - 1) := by
            by_cases hkn : k < n - 1
            · have := hsn k (n - 1) hkn (by exact ar468 hgt); exact ar366 this
            · rw [show k = n - 1 by exact ar469 hk hkn]; exact Int.le_refl _
          exact ar470 a2 a1 hrose
        have hK : ∀ k, Kn num (mirror (arrOf st) 0 n ((n - 0) / 2)) k = Kn num (arrOf st) k := Kn_mirror_equal hsz hall
        have hrv : Rv2 num (mirror (arrOf st) 0 n ((n - 0) / 2)) n := by
          intro i j hij hj
          right
          rw [hK, hK, hall i (by exact ar471) (by exact ar440 hij hj), hall j (by exact ar471) (by exact ar173 hj)]
          refine ⟨rfl, ?_⟩
          rw [V_mirror hsz, V_mirror hsz, if_pos (by exact ar433 hj), if_pos (by exact ar432 hij hj)]
          exact hu _ _ (by exact ar434 hj hij) (by exact ar472 hij hj) (by exact ar473 h1 hn2 hn)
        refine wpS_bind (wpS_reverse (descPart2 h0 hn (by exact ar474 hn2 hnn) (hB.setArr (mirror_perm _ _ _ _)) (Dn.next hrv ((hu.mono hn1).mirror hsz (Nat.le_refl _)) fun i hi => ?_) h))
        rw [hK, hK, hall i (by exact ar471) hi]; exact hlt
    · rw [if_neg hgt]
      have hn1' : n = 1 := by exact ar475 hn1 hgt
      subst hn1'
      refine descPart2 h0 hn (by exact ar476 h1 hnn) hB (Dn.next (fun i j hij hj => by exact ar477 hj hij) hu fun i hi => ?_) h
      rw [show i = 0 by exact ar478 hi]; exact hlt
theorem binary2 {st : SortSt} {n ok : Nat} {Q : Bool → SortSt → Prop} (h0 : LtOk prog w A E s num kd a₀) (hn : n ≤ a₀.size) (hok : ok ≤ n) (h1 : 1 ≤ ok) (hB : SB kd a₀ st) (hs : St2 num (arrOf st) ok) (hu : Up a₀.size (arrOf st) ok)
    (h : ∀ st', SB kd a₀ st' → St2 num (arrOf st') n → Q true st') : wpS (model prog w) A E s (binarySort' 0 n ok) Q st := by
  rw [binarySort'_eq]
  simp only [Nat.zero_add]
  refine wpS_bind (wpS_mono (wpS_forRange (I := fun k c st' => c = (none, ()) ∧ SB kd a₀ st' ∧ St2 num (arrOf st') (min k n) ∧ Up a₀.size (arrOf st') (min k n))
    (Q := fun c st' => c = (none, ()) ∧ SB kd a₀ st' ∧ St2 num (arrOf st') n) ?step ?fin ?init) ?post)
  case post =>
    rintro c st' ⟨rfl, hB', hs'⟩
    exact wpS_pure (h st' hB' hs')
  case init =>
    rw [show min (max ok 1) n = ok by exact ar479 h1 hok]
    exact ⟨rfl, hB, hs, hu⟩
  case fin =>
    rintro c st' ⟨hc, hB', hs', _⟩
    refine ⟨hc, hB', ?_⟩
    rwa [show min (max (max ok 1) n) n = n by exact ar480] at hs'
  case step =>
    rintro k c st' hak hkn ⟨rfl, hB', hs', hu'⟩
    rw [show min k n = k by exact ar481 hkn] at hs' hu'
    have hk : k < a₀.size := by exact ar156 hkn hn
    refine wpS_bind (wpS_mono (wpS_forRange (I := fun x c st'' => st'' = st' ∧ ∃ l r, c = (none, l, r) ∧ l ≤ r ∧ r ≤ k ∧ r - l ≤ k - x ∧
        (∀ i, i < l → Kn num (arrOf st') i ≤ Kn num (arrOf st') k) ∧ (∀ i, r ≤ i → i < k → Kn num (arrOf st') k < Kn num (arrOf st') i))
      (Q := fun c st'' => st'' = st' ∧ ∃ l r, c = (none, l, r) ∧ l ≤ k ∧
        (∀ i, i < l → Kn num (arrOf st') i ≤ Kn num (arrOf st') k) ∧ (∀ i, l ≤ i → i < k → Kn num (arrOf st') k < Kn num (arrOf st') i)) ?istep ?ifin ?iinit) ?ipost)
    case iinit => exact ⟨rfl, 0, k, rfl, by exact ar471, by exact ar482, by exact ar483, fun i hi => by exact ar484 hi, fun i h1 h2 => by exact ar485 h2 h1⟩
    case ifin =>
      rintro c st'' ⟨rfl, l, r, rfl, hlr, hrk, hm, hlo, hhi⟩
      have : l = r := by exact ar486 hm hlr
      subst this
      exact ⟨rfl, l, l, rfl, hrk, hlo, hhi⟩
    case istep =>
      rintro x c st'' _ hxk ⟨rfl, l, r, rfl, hlr, hrk, hm, hlo, hhi⟩
      dsimp only
      by_cases hge : l ≥ r
      · rw [if_pos hge]
        have : l = r := by exact ar385 hlr hge
        subst this
        exact wpS_pure ⟨rfl, l, l, rfl, hrk, hlo, hhi⟩
      · rw [if_neg hge]
        refine wpS_bind (h0 _ _ _ _ hB' hk (by exact ar487 hrk hk hge) ?_)
        by_cases hless : Kn num (arrOf st'') k < Kn num (arrOf st'') ((l + r) / 2)
        · simp only [hless, decide_true, if_true]
          refine wpS_pure ⟨rfl, l, (l + r) / 2, rfl, by exact ar488 hge, by exact ar489 hrk hge, by exact ar490 hm, hlo, fun i h1 h2 => ?_⟩
          by_cases he : (l + r) / 2 < i
          · have := hs' _ _ he h2; exact ar491 this hless
          · rw [show i = (l + r) / 2 by exact ar492 h1 he]; exact hless
        · simp only [hless, decide_false, Bool.false_eq_true, if_false]
          refine wpS_pure ⟨rfl, (l + r) / 2 + 1, r, rfl, by exact ar493 hge, by exact ar404 hrk, by exact ar494 hm, fun i h1 => ?_, hhi⟩
          by_cases he : i < (l + r) / 2
          · have := hs' _ _ he (by exact ar495 hrk hge); exact ar496 this hless
          · rw [show i = (l + r) / 2 by exact ar497 h1 he]; exact Int.not_lt.mp hless
    case ipost =>
      rintro c st'' ⟨rfl, l, r, rfl, hlk, hlo, hhi⟩
      show wpS _ _ _ _ (do moveDown' k l; pure (ForInStep.yield (none, ()))) _ _
      rw [moveDown'_eq]
      refine wpS_bind (wpS_modify (wpS_pure ⟨rfl, hB'.setArr (bubble_perm _ _ _), ?_, ?_⟩))
      · rw [show min (k + 1) n = k + 1 by exact ar498 hkn]
        have hks : k < (arrOf st'').size := by rw [hB'.size]; exact hk
        intro i j hij hj
        show Kn num (bubble (arrOf st'') k (k - l)) i < Kn num (bubble (arrOf st'') k (k - l)) j ∨ Kn num (bubble (arrOf st'') k (k - l)) i = Kn num (bubble (arrOf st'') k (k - l)) j ∧ V (bubble (arrOf st'') k (k - l)) i < V (bubble (arrOf st'') k (k - l)) j
        rw [Kn_bubble hks (by exact ar499), Kn_bubble hks (by exact ar499), V_bubble hks (by exact ar499), V_bubble hks (by exact ar499), show k - (k - l) = l by exact ar500 hlk]
        repeat' split
        all_goals first
          | (exfalso; omega)
          | exact hs' _ _ (by omega) (by omega)
          | exact .inl (hhi _ (by exact ar501 hij (by assumption)) (by exact ar502 hj hij))
          | (have h1 := hlo i (by exact ar387 hij (by assumption)); have h2 := hu' i k (by exact ar461 hij hj) (Nat.le_refl _) hk; exact ar503 h1 h2)
      · rw [show min (k + 1) n = k + 1 by exact ar498 hkn]
        have hks : k < (arrOf st'').size := by rw [hB'.size]; exact hk
        intro i j hij hj hjs
        show V (bubble (arrOf st'') k (k - l)) i < V (bubble (arrOf st'') k (k - l)) j
        rw [V_bubble hks (by exact ar499), V_bubble hks (by exact ar499), show k - (k - l) = l by exact ar500 hlk]
        repeat' split
        all_goals first
          | (exfalso; omega)
          | exact hu' _ _ (by omega) (by exact ar504 hj) (by exact ar173 hjs)
noncomputable def SDone2 (num : Value → Int) (a₀ : Array Keyed) (st : SortSt) : Prop :=
  (arrOf st).Perm a₀ ∧ failedOf st = none ∧ pendingOf st = #[(0, a₀.size, 0)] ∧ St2 num (arrOf st) a₀.size
theorem done2 {st : SortSt} (hB : SB kd a₀ st) (hs : St2 num (arrOf st) a₀.size) : SDone2 num a₀ (setPending st ((pendingOf st).push (0, a₀.size, 0))) :=
  ⟨hB.perm, hB.failed, by show (pendingOf st).push _ = _; rw [hB.pend]; rfl, hs⟩
theorem runs2 {st : SortSt} {Q : Unit → SortSt → Prop} (h0 : LtOk prog w A E s num kd a₀) (hB : SB kd a₀ st) (hu : Up a₀.size (arrOf st) 1) (h2 : 2 ≤ a₀.size) (h64 : a₀.size < 64)
    (h : ∀ st', (arrOf st').Perm a₀ → failedOf st' = none → St2 num (arrOf st') a₀.size → Q () st') : wpS (model prog w) A E s sortRuns' Q st := by
  rw [sortRuns'_eq]
  refine wpS_bind (wpS_get ?_)
  dsimp only
  have hmr : minRun' a₀.size a₀.size 0 = a₀.size := by
    obtain ⟨f, hf⟩ : ∃ f, a₀.size = f + 1 := ⟨a₀.size - 1, by exact ar505 h2⟩
    have : minRun' (f + 1) a₀.size 0 = a₀.size := by rw [minRun'_succ, if_pos h64]; rfl
    rwa [← hf] at this
  simp only [hB.size, hmr]
  refine wpS_bind (wpS_mono (wpS_forRange
    (I := fun x c st' => (x = 0 ∧ c = (none, 0) ∧ SB kd a₀ st' ∧ Up a₀.size (arrOf st') 1) ∨ (1 ≤ x ∧ c = (none, a₀.size) ∧ SDone2 num a₀ st'))
    (Q := fun c st' => c = (none, a₀.size) ∧ SDone2 num a₀ st') ?step ?fin (.inl ⟨rfl, rfl, hB, hu⟩)) ?post)
  case fin =>
    rintro c st' (⟨hx, _, _⟩ | ⟨_, hc, hD⟩)
    · exact (ar506 h2 hx).elim
    · exact ⟨hc, hD⟩
  case step =>
    rintro x c st' _ hx (⟨rfl, rfl, hB', hu'⟩ | ⟨hx1, rfl, hD⟩)
    · dsimp only
      rw [if_neg (by exact ar507 h2)]
      simp only [Nat.sub_zero, Nat.min_self, Nat.zero_add]
      refine wpS_bind (count2 h0 (Nat.le_refl _) (by exact ar508 h2) hB' hu' fun m st2 hB2 hm1 hm2 hs2 hu2 => ?_)
      dsimp only
      by_cases hlt : m < a₀.size
      · rw [if_pos hlt]
        refine wpS_bind (wpS_lift (wpAny_rule ⟨rfl, ?_⟩))
        refine wpS_bind (binary2 h0 (Nat.le_refl _) hm2 hm1 hB2 hs2 hu2 fun st3 hB3 hs3 => ?_)
        simp only [Bool.not_true, Bool.false_eq_true, if_false]
        refine wpS_bind (wpS_get ?_)
        have hb : (pendingOf st3).back? = none := by rw [hB3.pend]; rfl
        rw [hb]
        dsimp only
        exact wpS_bind (wpS_modify (wpS_pure (.inr ⟨by exact ar509, rfl, done2 hB3 hs3⟩)))
      · rw [if_neg hlt]
        have hm : m = a₀.size := by exact ar510 hm2 hlt
        subst hm
        refine wpS_bind (wpS_get ?_)
        have hb : (pendingOf st2).back? = none := by rw [hB2.pend]; rfl
        rw [hb]
        dsimp only
        exact wpS_bind (wpS_modify (wpS_pure (.inr ⟨by exact ar509, rfl, done2 hB2 hs2⟩)))
    · dsimp only
      rw [if_pos (Nat.le_refl _)]
      exact wpS_pure ⟨rfl, hD⟩
  case post =>
    rintro c st' ⟨rfl, hD⟩
    dsimp only
    refine wpS_bind (wpS_mono (wpS_forRange (I := fun _ c st'' => st'' = st' ∧ c = (none, ())) (Q := fun c st'' => st'' = st' ∧ c = (none, ())) ?_ (fun _ _ hh => hh) ⟨rfl, rfl⟩) ?_)
    · rintro x c st'' _ _ ⟨rfl, rfl⟩
      refine wpS_bind (wpS_get ?_)
      rw [if_pos (by rw [hD.2.2.1]; exact Nat.le_refl 1)]
      exact wpS_pure ⟨rfl, rfl⟩
    · rintro c st'' ⟨rfl, rfl⟩
      exact wpS_pure (h _ hD.1 hD.2.1 hD.2.2.2)
end
end Mine
end

section
open PySem PySem.W PyProof.Rows
set_option maxRecDepth 100000
set_option maxHeartbeats 4000000
namespace Mine
theorem ints_ramp (a d : Int) (n : Nat) (acc : Array Value) (x : ItemsOf (fun i v => ∃ t, v = .int (a + i * d) t) acc n) : Ints acc.toList (ramp a d n) := by
  obtain ⟨hs, hx⟩ := x
  have key : ∀ (vs : List Value) (ns : List Int), vs.length = ns.length → (∀ (i : Nat) (v : Value) (n : Int), vs[i]? = some v → ns[i]? = some n → ∃ t, v = Value.int n t) → Ints vs ns := by
    intro vs
    induction vs with
    | nil => intro ns h _; cases ns with
      | nil => exact .nil
      | cons _ _ => simp at h
    | cons v vs ih =>
      intro ns h k
      cases ns with
      | nil => simp at h
      | cons n ns =>
        obtain ⟨t, rfl⟩ := k 0 v n rfl rfl
        exact .cons n t (ih ns (by simpa using h) fun i v m e1 e2 => k (i + 1) v m (by simpa using e1) (by simpa using e2))
  refine key _ _ (by rw [ramp_len, Array.length_toList, hs]) fun i v m e1 e2 => ?_
  have hi : i < n := by
    have := (List.getElem?_eq_some_iff.mp e2).1
    rwa [ramp_len] at this
  rw [ramp_at d n a i hi] at e2
  cases e2
  exact hx i v (by simpa using e1)
section
variable {c : Cx} {A : Around} {B h : Heap} {mg mb : Str → Option Value}
theorem Wp.collectR {r : Addr} {a b d : Int} {t u v : Tok} {n : Nat} {Q : List Value → Heap → Prop} (hh : A.handled = none) (hr : IsRange h r a b d t u v) (hsmall : Builtin.Range.small a b d = true) (hn : Builtin.Range.rangeSize a b d = n) (hlen : n ≤ 2 ^ 24)
    (q : ∀ vs h', Ints vs (ramp a d n) → Ext [] h h' → Q vs h') : Wp c A (collect (.ref r)) Q h := by
  refine Wp.sized fun tk => ?_
  unfold collect
  refine wpAny_bind (wpAny_runValue (codeAny_builtin F.entry_proto_collect ?_))
  rw [Around.under_plainId F.plain_proto_collect _]
  show wpAny _ A.in1 (newList [] >>= fun l => again (.builtin "list.__iadd__" ⟨[l, .ref r], []⟩)) _ _ _
  refine wpAny_bind (wpAny_newObj_type ?_)
  refine wpAny_pure ⟨plainId_quiet F.plain_list_iadd _, codeAny_builtin F.entry_list_iadd ?_⟩
  rw [Around.under_plainId F.plain_list_iadd _]
  show wpAny _ A.in1 (Builtin.List.listExtendWith (.ref h.objs.size) (.ref r) (.ref h.objs.size)) _ _ _
  have hS : (h.push { cls := .type "list", data := .seq ([] : List Value).toArray }).get? h.objs.size = some { cls := .type "list", data := .seq #[] 0 } := Heap.get?_push_size _ rfl
  have key := wpAny_extend_range (prog := c.prog) (w := c.w) (A := A) (s := c.at (h.push { cls := .type "list", data := .seq ([] : List Value).toArray }) tk)
    (R := fun r s' => ∃ h' tk' acc' c', r = .ok (.ret (.ref h.objs.size)) ∧ s' = c.at h' tk' ∧ h'.get? h.objs.size = some { cls := .type "list", dict := none, data := .seq acc' c', slots := #[] } ∧ Ints acc'.toList (ramp a d n) ∧ (∀ b o, h.get? b = some o → h'.get? b = some o))
    hh (Heap.get?_push_of_some _ hr) hsmall hn hlen h.objs.size (.ref h.objs.size) 0 hS
    fun h' tk' acc' c' hk hS' hacc => ⟨h', tk', acc', c', rfl, rfl, hS', ints_ramp a d n acc' hacc, fun b o e => hk b o (Nat.ne_of_lt (Heap.lt_size e)) (Heap.get?_push_of_some _ e)⟩
  have fin : ∀ (h' : Heap) (tk' : Nat) (acc' : Array Value) (c' : Nat), h'.get? h.objs.size = some { cls := .type "list", dict := none, data := .seq acc' c', slots := #[] } → Ints acc'.toList (ramp a d n) → (∀ b o, h.get? b = some o → h'.get? b = some o) →
      wpAny (model c.prog c.w) A (load h.objs.size >>= fun o => match o.data with | .seq xs _ => Pure.pure xs.toList | _ => unsupported "internal:collect") (fun v s' => ∃ h' tk', s' = c.at h' tk' ∧ (h.objs.size ≤ h'.objs.size → Q v h')) (fun _ _ => False) (c.at h' tk') := by
    intro h' tk' acc' c' e1 e2 e3
    exact wpAny_bind (wpAny_load e1 (wpAny_pure ⟨h', tk', rfl, fun hs => q _ _ e2 ⟨hs, fun b o _ e => e3 b o e⟩⟩))
  refine wpAny_mono key (fun fn s' k => ?_) (fun e s' k => ?_)
  · cases fn with
    | done f =>
      obtain ⟨h', tk', acc', c', e1, e2, e3, e4, e5⟩ := k
      cases e1; subst e2
      exact fin h' tk' acc' c' e3 e4 e5
    | again cd =>
      refine ⟨k.1, codeAny_mono k.2 fun r s' ⟨h', tk', acc', c', e1, e2, e3, e4, e5⟩ => ?_⟩
      subst e1 e2
      exact fin h' tk' acc' c' e3 e4 e5
  · obtain ⟨h', tk', acc', c', e1, _⟩ := k
    cases e1
end
/-- the order of a stable sort by g -/
noncomputable def Stab (g : Int → Int) (l : List Int) : Prop := l.Pairwise fun x y => g x < g y ∨ (g x = g y ∧ x < y)
theorem Stab.uniq {g : Int → Int} {l l' : List Int} (x : Stab g l) (y : Stab g l') (p : l.Perm l') : l = l' :=
  List.Perm.eq_of_pairwise (fun a b _ _ h1 h2 => by exact ar511 h1 h2) x y p
/-- the keys' numbers -/
noncomputable def KeyNum (num : Value → Int) (keys : List Value) (ns : List Int) (g : Int → Int) : Prop :=
  keys.length = ns.length ∧ ∀ (i : Nat) (v : Value) (n : Int), keys[i]? = some v → ns[i]? = some n → num v = g n
theorem zip_K {num : Value → Int} {keys vs : List Value} {ns : List Int} {g : Int → Int} (hk : KeyNum num keys ns g) (hv : Ints vs ns) {i : Nat} {p : Keyed} (e : (keys.zip vs)[i]? = some p) :
    ∃ n u, ns[i]? = some n ∧ num p.1 = g n ∧ p.2 = .int n u := by
  have h1 : keys[i]? = some p.1 ∧ vs[i]? = some p.2 := by
    rw [List.getElem?_zip_eq_some] at e; exact e
  have l2 := (List.getElem?_eq_some_iff.mp h1.2).1
  rw [hv.len] at l2
  obtain ⟨u, hu⟩ := hv.at (i := i) (n := ns[i]) (by simp)
  rw [h1.2] at hu
  exact ⟨ns[i], u, by simp, hk.2 i _ _ h1.1 (by simp), Option.some.inj hu⟩
/-- what the sorted array gives -/
theorem stab_out {num : Value → Int} {keys vs : List Value} {ns : List Int} {g : Int → Int} (hk : KeyNum num keys ns g) (hv : Ints vs ns) {xs : Array Keyed} (hp : xs.Perm (keys.toArray.zip vs.toArray)) (hs : St2 num xs xs.size) :
    ∃ out, Ints (xs.map (·.2)).toList out ∧ out.Perm ns ∧ Stab g out := by
  have hl : xs.toList.Perm (keys.zip vs) := by have := Array.perm_iff_toList_perm.mp hp; simpa using this
  have hmem : ∀ p, p ∈ xs.toList → ∃ n u, num p.1 = g n ∧ p.2 = .int n u := by
    intro p hp'
    obtain ⟨i, hi, e⟩ := List.mem_iff_getElem.mp (hl.mem_iff.mp hp')
    obtain ⟨n, u, h1, h2, h3⟩ := zip_K hk hv (i := i) (p := p) (by rw [← e]; exact List.getElem?_eq_getElem hi)
    exact ⟨n, u, h2, h3⟩
  refine ⟨xs.toList.map (fun p => numOf p.2), ?_, ?_, ?_⟩
  · rw [Array.toList_map]
    have := intsAre_map (xs.toList.map (·.2)) (by
      intro v hv'
      obtain ⟨p, hp', rfl⟩ := List.mem_map.mp hv'
      obtain ⟨n, u, _, e⟩ := hmem p hp'
      exact ⟨n, u, e⟩)
    rwa [List.map_map] at this
  · have h1 := hl.map (fun p : Keyed => numOf p.2)
    have e2 : (keys.zip vs).map (fun p : Keyed => numOf p.2) = ns := by
      have : (keys.zip vs).map (fun p : Keyed => numOf p.2) = ((keys.zip vs).map Prod.snd).map numOf := by rw [List.map_map]; rfl
      rw [this, List.map_snd_zip (by rw [hk.1, hv.len]; exact Nat.le_refl _), hv.nums]
    rwa [e2] at h1
  · unfold Stab
    rw [List.pairwise_iff_getElem]
    intro i j hi hj hij
    have hi' : i < xs.size := by simpa using hi
    have hj' : j < xs.size := by simpa using hj
    have h1 := hs i j hij hj'
    have eK : ∀ i (h : i < xs.size), Kn num xs i = g (V xs i) := by
      intro i h
      obtain ⟨n, u, e1, e2⟩ := hmem xs[i] (by simp)
      unfold Kn V
      rw [getElem?_pos xs i h]
      show num xs[i].1 = g (numOf xs[i].2)
      rw [e1, e2]; rfl
    have eV : ∀ i (h : i < xs.size), V xs i = numOf xs[i].2 := by
      intro i h
      unfold V
      rw [getElem?_pos xs i h]
    rw [eK i hi', eK j hj', eV i hi', eV j hj'] at h1
    simpa using h1
theorem up_start {keys vs : List Value} {ns : List Int} (hk : keys.length = ns.length) (hv : Ints vs ns) (hns : ns.Pairwise (· < ·)) {sz : Nat} (hsz : sz = ns.length) : Up sz (keys.toArray.zip vs.toArray) 1 := by
  have eV : ∀ i (h : i < ns.length), V (keys.toArray.zip vs.toArray) i = ns[i] := by
    intro i h
    have hl : i < (keys.zip vs).length := by rw [List.length_zip, hk, hv.len]; simp; exact h
    obtain ⟨n, u, h1, _, h3⟩ := zip_K (num := fun _ => 0) (g := fun _ => 0) ⟨hk, fun _ _ _ _ _ => rfl⟩ hv (i := i) (p := (keys.zip vs)[i]) (List.getElem?_eq_getElem hl)
    unfold V
    have : (keys.toArray.zip vs.toArray)[i]? = some (keys.zip vs)[i] := by
      rw [← List.getElem?_eq_getElem hl, ← Array.getElem?_toList]; simp
    rw [this]
    show numOf (keys.zip vs)[i].2 = _
    rw [h3]
    rw [List.getElem?_eq_getElem h] at h1
    exact (Option.some.inj h1).symm
  intro i j hij _ hj
  subst hsz
  rw [eV i (by exact ar440 hij hj), eV j hj]
  exact List.pairwise_iff_getElem.mp hns i j (by exact ar440 hij hj) hj hij
end Mine
end

section
open PySem PySem.W PyProof.Rows
set_option maxRecDepth 100000
set_option maxHeartbeats 4000000
namespace Mine
theorem Room.in1 {A : Around} {n : Nat} (r : Room A (n + 1)) : Room A.in1 n := ⟨by have := r.d; show A.depth + n < 600; exact ar512 this, by have := r.u; show A.units + 1 + 8 * n < 6000; exact ar513 this, r.hh⟩
theorem seq_upd {h : Heap} {a : Nat} {xs : Array Value} {n : Nat} (ho : h.get? a = some (seqObj "list" xs n)) (f : Array Value → Array Value) : ∃ m, (h.update a (Obj.mapSeq f)).get? a = some (seqObj "list" (f xs) m) := ⟨_, get?_update_seq ho f⟩
/-- a new list is turned: the elder heap and the base don't mind -/
theorem upd_new {B h₀ h : Heap} {a : Nat} {xs : Array Value} {n : Nat} {f : Obj → Obj} (G : GG B h) (e : Ext [] h₀ h) (ha : h₀.objs.size ≤ a) (hB : B.get? a = none) (ho : h.get? a = some (seqObj "list" xs n)) : GG B (h.update a f) ∧ Ext [] h₀ (h.update a f) := by
  have x : Ext [a] h (h.update a f) := Ext.same (Heap.SameBut.update ..)
  refine ⟨G.turn x ho (fun vs => by nofun) hB, Nat.le_trans e.size x.size, fun b o _ q => x.get _ _ (nin_new q ha) (e.all _ _ q)⟩
/-- what a kind of keys does in a sort -/
structure KeySort (c : Cx) (ns : List Int) (g : Int → Int) (R : Int → Value → Heap → Prop) (num : Heap → Value → Int) (kd : SortKind) : Prop where
  keep : ∀ y v (h h' : Heap) (b : Addr) xs n, R y v h → h.get? b = some (seqObj "list" xs n) → Ext [b] h h' → R y v h'
  num : ∀ y v h, R y v h → num h v = g y
  kind : ∀ (keys : List Value) (h : Heap), keys.length = ns.length → 2 ≤ keys.length → (∀ (i : Nat) v n, keys[i]? = some v → ns[i]? = some n → R n v h) → ∀ (A : Around) tk (Q : SortKind → Shared → Prop), Q kd (c.at h tk) → wpAny (model c.prog c.w) A (keyKind' keys.toArray) Q (fun _ _ => False) (c.at h tk)
  lt : ∀ (h : Heap) v w n m, n ∈ ns → m ∈ ns → R n v h → R m w h → ∀ (A : Around) tk (Q : Bool → Shared → Prop), Q (decide (g n < g m)) (c.at h tk) → wpAny (model c.prog c.w) A (keyLt' kd v w) Q (fun _ _ => False) (c.at h tk)
/-- a key function whose values are told with the heap -/
noncomputable def KeyOkH (c : Cx) (B h₀ : Heap) (k : Value) (d : Nat) (D : Int → Prop) (R : Int → Value → Heap → Prop) : Prop :=
  ∀ (A : Around) (h : Heap) (y : Int) (t : Tok), Room A d → GG B h → Ext [] h₀ h → D y → Wp c A (call k [.int y t] []) (fun v h' => R y v h' ∧ Ext [] h h' ∧ GG B h') h
section
variable {c : Cx} {A : Around} {B h₀ h : Heap}
theorem KeySort.ltOk {ns : List Int} {g : Int → Int} {R : Int → Value → Heap → Prop} {num : Heap → Value → Int} {kd : SortKind} (K : KeySort c ns g R num kd) {h : Heap} {tk : Nat} {a₀ : Array Keyed} (ha : ∀ p ∈ a₀.toList, ∃ n, n ∈ ns ∧ R n p.1 h) :
    LtOk c.prog c.w A (fun _ _ => False) (c.at h tk) (num h) kd a₀ := by
  intro st i j Q hB hi hj q
  have at' : ∀ i, i < a₀.size → ∃ p n, (arrOf st)[i]? = some p ∧ n ∈ ns ∧ R n p.1 h := by
    intro i hi
    have hi' : i < (arrOf st).size := by rw [hB.size]; exact hi
    obtain ⟨n, h1, h2⟩ := ha (arrOf st)[i] ((Array.perm_iff_toList_perm.mp hB.perm).mem_iff.mp (by simp))
    exact ⟨_, n, getElem?_pos _ i hi', h1, h2⟩
  obtain ⟨p, n, e1, n1, r1⟩ := at' i hi
  obtain ⟨p', n', e2, n2, r2⟩ := at' j hj
  have k1 : Kn (num h) (arrOf st) i = g n := by unfold Kn; rw [e1]; exact K.num _ _ _ r1
  have k2 : Kn (num h) (arrOf st) j = g n' := by unfold Kn; rw [e2]; exact K.num _ _ _ r2
  rw [k1, k2] at q
  rw [ltAt'_eq]
  refine wpS_bind (wpS_get ?_)
  show wpS _ _ _ _ (do let x ← elem' (arrOf st) i; let y ← elem' (arrOf st) j; lt' x y) Q st
  rw [elem'_eq, elem'_eq, e1, e2]
  refine wpS_bind (wpS_pure (wpS_bind (wpS_pure ?_)))
  rw [lt'_eq]
  refine wpS_bind (wpS_get ?_)
  rw [hB.kind]
  refine wpS_bind (wpS_lift (wpAny_attempt (wpAny_mono (K.lt h p.1 p'.1 n n' n1 n2 r1 r2 A tk (fun b s' => b = decide (g n < g n') ∧ s' = c.at h tk) ⟨rfl, rfl⟩) (fun b s' ⟨e, es⟩ => ?_) fun _ _ e => e.elim)))
  subst e es
  exact ⟨rfl, wpS_pure q⟩
theorem bu1 {x j n : Nat} (e : x = j) (h : j < n) (hn : n < 64) : x ≤ 16777216 := by omega
theorem bu2 {x j n : Nat} (e : x = j) (h : j < n) (hn : n < 64) : x + 1 ≤ 16777216 + 1 := by omega
theorem bu3 {k x j : Nat} (h : k - x = 0) (hk : ¬ k < x) (e : x = j) : k = j := by omega
theorem bu4 {n : Nat} (hn : n < 64) : n ≤ 16777216 := by omega
theorem bu5 {i j n v : Nat} (h : i < j) (hj : j < n) (hv : v < 2) (e : v = n) : False := by omega
theorem bu6 {x n v : Nat} (e : x = n) (hv : ¬ v < 2) (e2 : v = n) : 2 ≤ x := by omega
theorem Wp.sortTree {a f d : Nat} {vs : List Value} {n : Nat} {ns : List Int} {g : Int → Int} {R : Int → Value → Heap → Prop} {num : Heap → Value → Int} {kd : SortKind} (K : KeySort c ns g R num kd) (G : GG B h) (ho : h.get? a = some (seqObj "list" vs.toArray n)) (hv : Ints vs ns) (h64 : ns.length < 64) (hns : ns.Pairwise (· < ·)) (r : Room A d)
    (hk : KeyOkH c B h₀ (.ref f) d (· ∈ ns) R) (e0 : Ext [] h₀ h) (ha : h₀.objs.size ≤ a) (hB : B.get? a = none) :
    Wp c A (ksk_tree a (.ref f) false) (fun fin h' => fin = .done (.ret .none) ∧ ∃ out, IL h' a out ∧ out.Perm ns ∧ Stab g out ∧ Ext [] h₀ h' ∧ GG B h') h := fun tk => by
  have hlen := hv.len
  have hal : a < h.objs.size := Heap.lt_size ho
  obtain ⟨e1, ho1⟩ := seq_upd ho fun _ => #[]
  obtain ⟨G1, x1⟩ := upd_new (f := Obj.mapSeq fun _ => (#[] : Array Value)) G e0 ha hB ho
  have sz1 : (h.update a (Obj.mapSeq fun _ => (#[] : Array Value))).objs.size = h.objs.size := Heap.size_update ..
  unfold ksk_tree
  refine wpAny_bind (listItems_at ho rfl ?_)
  refine wpAny_bind (listUpdate_at ho rfl ?_ (by rw [List.size_toArray, sizeLine_eq]; exact ar514 hlen h64) (Nat.zero_le _))
  refine wpAny_bind (seqEpoch_at ho1 rfl ?_)
  generalize h.update a (Obj.mapSeq fun _ => (#[] : Array Value)) = h1 at ho1 G1 x1 sz1
  refine wpAny_bind (wpAny_newTuple ?_ (by show vs.length ≤ _; rw [sizeLine_eq]; exact ar514 hlen h64))
  refine wpAny_bind (wpAny_newList ?_ (Nat.zero_le _))
  refine wpAny_holding ?_
  have eP : Ext [] h1 ((h1.push (seqObj "tuple" vs.toArray 0)).push (seqObj "list" #[] 0)) := (Ext.push _ _).trans (Ext.push _ _)
  have G2 := G1.grow eP
  have x2 := x1.trans eP
  have ho2 := eP.all _ _ ho1
  have hkS : ((h1.push (seqObj "tuple" vs.toArray 0)).push (seqObj "list" #[] 0)).get? (h1.push (seqObj "tuple" vs.toArray 0)).objs.size = some (seqObj "list" #[] 0) := Heap.get?_push_size _ rfl
  have szk : (h1.push (seqObj "tuple" vs.toArray 0)).objs.size = h.objs.size + 1 := by rw [Heap.size_push, sz1]
  show wpAny _ _ (ksk_rest a (.ref f) false vs.toArray e1 (.ref (h1.push (seqObj "tuple" vs.toArray 0)).objs.size)) _ _ (c.at ((h1.push (seqObj "tuple" vs.toArray 0)).push (seqObj "list" #[] 0)) tk)
  generalize ((h1.push (seqObj "tuple" vs.toArray 0)).push (seqObj "list" #[] 0)) = h2 at G2 x2 ho2 hkS
  generalize (h1.push (seqObj "tuple" vs.toArray 0)).objs.size = kS at hkS szk
  have hs0 := e0.size
  have hkS0 : h₀.objs.size ≤ kS := by exact ar515 hs0 szk
  have hkB : B.get? kS = none := G.new (by exact ar516 szk)
  have hak : a ≠ kS := nltg (by exact ar517 hal szk)
  unfold ksk_rest
  refine wpAny_bind (wpAny_rule ?_)
  rw [List.forIn_toArray]
  refine wpAny_bind (ksk_fold (fun i s' => ∃ h' tk kA e, s' = c.at h' tk ∧ h'.get? kS = some (seqObj "list" kA e) ∧ h'.get? a = some (seqObj "list" #[] e1) ∧ (kA.size = i ∧ ∀ (k : Nat) v n, kA.toList[k]? = some v → ns[k]? = some n → R n v h') ∧ GG B h' ∧ Ext [] h₀ h') vs 0 _
    ⟨h2, tk, #[], 0, rfl, hkS, ho2, ⟨rfl, by simp⟩, G2, x2⟩ ?step ?done)
  case step =>
    rintro j x s' hx ⟨h', tk', kA, e, rfl, hk', ha', hi, G', x'⟩
    simp only [Nat.zero_add] at hi ⊢
    have hj : j < vs.length := (List.getElem?_eq_some_iff.mp hx).1
    have hj2 : j < ns.length := by exact ar387 hj hlen
    obtain ⟨t, ht⟩ := hv.at (i := j) (n := ns[j]) (by simp)
    rw [hx] at ht
    cases ht
    refine wpAny_bind (wpAny_attempt (wpAny_mono (hk A h' ns[j] t r G' x' (by simp) tk') (fun v s'' ⟨g1, tk1, es, rv, xg, Gg⟩ => ?_) fun _ _ hF => hF.elim))
    subst es
    have hk1 := xg.all _ _ hk'
    have ha1 := xg.all _ _ ha'
    refine wpAny_bind (listUpdate_at hk1 rfl ?_ (by rw [sizeLine_eq]; exact bu1 hi.1 hj2 h64) (Nat.le_trans (Nat.le_of_eq (Array.size_push ..)) (by rw [sizeLine_eq]; exact bu2 hi.1 hj2 h64)))
    obtain ⟨m, hm⟩ := seq_upd hk1 (·.push v)
    obtain ⟨G3, x3⟩ := upd_new (f := Obj.mapSeq (·.push v)) Gg (x'.trans xg) hkS0 hkB hk1
    have xu : Ext [kS] g1 (g1.update kS (Obj.mapSeq (·.push v))) := Ext.same (Heap.SameBut.update ..)
    refine wpAny_pure ⟨rfl, _, _, _, m, rfl, hm, ?_, ⟨by rw [Array.size_push, hi.1], fun k v' n e1 e2 => ?_⟩, G3, x3⟩
    · exact (Heap.get?_update_other _ _ hak.symm).trans ha1
    · refine K.keep _ _ _ _ kS _ _ ?_ hk1 xu
      rw [Array.toList_push] at e1
      by_cases hkk : k < kA.size
      · rw [List.getElem?_append_left (by rw [Array.length_toList]; exact hkk)] at e1
        exact K.keep _ _ _ _ kS _ _ (hi.2 k v' n e1 e2) hk' xg.of_nil
      · rw [List.getElem?_append_right (by rw [Array.length_toList]; exact Nat.le_of_not_lt hkk)] at e1
        have hk0 : k - kA.toList.length = 0 := by
          cases hz : k - kA.toList.length with
          | zero => rfl
          | succ q => rw [hz] at e1; simp at e1
        rw [hk0] at e1
        have hkj : k = j := by rw [Array.length_toList] at hk0; exact bu3 hk0 hkk hi.1
        subst hkj
        rw [List.getElem?_eq_getElem hj2] at e2
        cases e1; cases e2
        exact rv
  case done =>
    rintro s' ⟨h', tk', kA, e, rfl, hk', ha', hi, G', x'⟩
    rw [Nat.zero_add] at hi
    refine wpAny_bind (listItems_at hk' rfl ?_)
    have hkl : kA.size = ns.length := hi.1.trans hlen
    have hkz : kA.zip vs.toArray = kA.toList.toArray.zip vs.toArray := by simp
    have hzs : (kA.zip vs.toArray).size = ns.length := by rw [Array.size_zip, hkl, List.size_toArray, hlen, Nat.min_self]
    have hKN : KeyNum (num h') kA.toList ns g := ⟨by rw [Array.length_toList, hkl], fun i v n e1 e2 => K.num _ _ _ (hi.2 i v n e1 e2)⟩
    -- the tail
    have tail : ∀ st : SortSt, (arrOf st).Perm (kA.zip vs.toArray) → St2 (num h') (arrOf st) (arrOf st).size → failedOf st = none →
        wpAny (model c.prog c.w) A (ksk_tail a false e1 (.ref kS) st) (fun fin s' => ∃ h' tk', s' = c.at h' tk' ∧ fin = .done (.ret .none) ∧ ∃ out, IL h' a out ∧ out.Perm ns ∧ Stab g out ∧ Ext [] h₀ h' ∧ GG B h') (fun _ _ => False) (c.at h' tk') := by
      intro st hp hs hfl
      have hsz2 : ((arrOf st).map (·.2)).size = ns.length := by rw [Array.size_map, hp.size_eq, hzs]
      unfold ksk_tail
      refine wpAny_bind (listUpdate_at hk' rfl ?_ (by rw [hkl, sizeLine_eq]; exact bu4 h64) (Nat.zero_le _))
      obtain ⟨G3, x3⟩ := upd_new (f := Obj.mapSeq fun _ => (#[] : Array Value)) G' x' hkS0 hkB hk'
      have ha3 : (h'.update kS (Obj.mapSeq fun _ => (#[] : Array Value))).get? a = some (seqObj "list" #[] e1) := (Heap.get?_update_other _ _ hak.symm).trans ha'
      refine wpAny_bind (wpAny_letGo ?_)
      refine wpAny_bind (seqEpoch_at ha3 rfl ?_)
      refine wpAny_bind (listUpdate_at ha3 rfl ?_ (Nat.zero_le _) (by show ((arrOf st).map (·.2)).size ≤ _; rw [hsz2, sizeLine_eq]; exact Nat.le_succ_of_le (bu4 h64)))
      rw [hfl]
      simp only [bne_self_eq_false, Bool.false_eq_true, if_false]
      obtain ⟨m, hm⟩ := seq_upd ha3 fun _ => (arrOf st).map (·.2)
      obtain ⟨G4, x4⟩ := upd_new (f := Obj.mapSeq fun _ => (arrOf st).map (·.2)) G3 x3 ha hB ha3
      rw [hkz] at hp
      obtain ⟨out, o1, o2, o3⟩ := stab_out hKN hv hp hs
      refine wpAny_pure ⟨_, _, rfl, rfl, out, ⟨_, m, ?_, o1⟩, o2, o3, x4, G4⟩
      rw [hm]
    unfold ksk_end
    simp only [Bool.false_eq_true, if_false]
    by_cases h2 : vs.toArray.size < 2
    · rw [if_pos h2, if_pos h2]
      refine wpAny_bind (wpAny_pure ?_)
      rw [StateT.run_pure]
      refine wpAny_bind (wpAny_pure ?_)
      refine tail (SortSt.mk' general' (kA.zip vs.toArray) #[] 7 none) (Array.Perm.refl _) ?_ rfl
      intro i j hij hj
      have hj2 : j < (kA.zip vs.toArray).size := hj
      rw [hzs] at hj2
      rw [List.size_toArray] at h2
      exact (bu5 hij hj2 h2 hlen).elim
    · rw [if_neg h2, if_neg h2]
      rw [List.size_toArray] at h2
      have kk := fun Q q => K.kind kA.toList h' (by rw [Array.length_toList, hkl]) (by rw [Array.length_toList]; exact bu6 hkl h2 hlen) (fun i v n e1 e2 => hi.2 i v n e1 e2) A tk' Q q
      rw [Array.toArray_toList] at kk
      refine wpAny_bind (kk _ ?_)
      refine wpAny_bind (wpAny_mono (runs2 (num := num h') (kd := kd) (a₀ := kA.zip vs.toArray) (st := SortSt.mk' kd (kA.zip vs.toArray) #[] 7 none)
        (Q := fun _ st' => (arrOf st').Perm (kA.zip vs.toArray) ∧ failedOf st' = none ∧ St2 (num h') (arrOf st') (kA.zip vs.toArray).size)
        (K.ltOk fun p hp => ?_) ⟨Array.Perm.refl _, rfl, rfl, rfl⟩ (by show Up _ (kA.zip vs.toArray) 1; rw [hkz]; exact up_start hKN.1 hv hns (by rw [← hkz]; exact hzs)) (by rw [hzs]; exact bu6 rfl h2 hlen) (by rw [hzs]; exact h64) fun st' a1 a2 a3 => ⟨a1, a2, a3⟩) ?_ fun _ _ e => e)
      · rw [ksk_zip] at hp
        obtain ⟨i, hil, e⟩ := List.mem_iff_getElem.mp hp
        have e' : (kA.toList.zip vs)[i]? = some p := by rw [← e]; exact List.getElem?_eq_getElem hil
        have h1 : kA.toList[i]? = some p.1 := (List.getElem?_zip_eq_some.mp e').1
        have hil2 : i < ns.length := by have := (List.getElem?_eq_some_iff.mp h1).1; rw [Array.length_toList] at this; exact hkl ▸ this
        exact ⟨ns[i], by simp, hi.2 i _ _ h1 (by simp)⟩
      rintro ⟨⟨⟩, st'⟩ s' ⟨rfl, hp, hf, hs⟩
      exact tail st' hp (by rw [hp.size_eq]; exact hs) hf
/-- sorted(range(..), key=f): in order by g, like ones as they came -/
theorem Wp.sortedR {rg f d : Nat} {a b : Int} {t u v : Tok} {n : Nat} {g : Int → Int} {R : Int → Value → Heap → Prop} {num : Heap → Value → Int} {kd : SortKind} {Q : Value → Heap → Prop} (K : KeySort c (ramp a 1 n) g R num kd) (G : GG B h) (hr : IsRange h rg a b 1 t u v) (hsmall : Builtin.Range.small a b 1 = true) (hn : Builtin.Range.rangeSize a b 1 = n) (h64 : n < 64)
    (r : Room A (d + 2)) (hk : KeyOkH c B h (.ref f) d (· ∈ ramp a 1 n) R)
    (q : ∀ D out h', h.objs.size ≤ D → IL h' D out → out.Perm (ramp a 1 n) → Stab g out → Ext [] h h' → GG B h' → Q (.ref D) h') :
    Wp c A (call (.builtin "sorted") [.ref rg] [("key", .ref f)]) Q h := fun tk => by
  have hns : (ramp a 1 n).Pairwise (· < ·) := by
    rw [List.pairwise_iff_getElem]
    intro i j hi hj hij
    rw [ramp_len] at hi hj
    have e1 := ramp_at 1 n a i hi
    have e2 := ramp_at 1 n a j hj
    rw [List.getElem?_eq_getElem (by rw [ramp_len]; exact hi)] at e1
    rw [List.getElem?_eq_getElem (by rw [ramp_len]; exact hj)] at e2
    rw [Option.some.inj e1, Option.some.inj e2]
    exact ar518 hij
  refine call_function_entry_kw kind_sorted plain_sorted entry_sorted (ksk_s1 _ _) ?_
  unfold Builtin.«sorted»
  refine wpAny_bind (m := checkCount "sorted" 1 1 _) (wpAny_pure ?_)
  have r1 : Room A.in1 (d + 1) := r.in1
  refine wpAny_bind ((Wp.collectR (c := c) (A := A.in1) (Q := fun vs h' => Ints vs (ramp a 1 n) ∧ Ext [] h h') r1.hh hr hsmall hn (by exact ar519 h64) (fun vs h' i e => ⟨i, e⟩)).go tk (fun vs h1 tk1 ⟨hi, x1⟩ => ?_))
  have hlen := hi.len
  rw [ramp_len] at hlen
  refine wpAny_bind (wpAny_newList ?_ (by rw [sizeLine_eq]; exact ar514 hlen h64))
  have x2 := x1.trans (Ext.push h1 (seqObj "list" vs.toArray 0))
  have ho : (h1.push (seqObj "list" vs.toArray 0)).get? h1.objs.size = some (seqObj "list" vs.toArray 0) := Heap.get?_push_size _ rfl
  show wpAny _ _ (do let _ ← holding [.ref h1.objs.size] (call (.builtin "list.sort") [.ref h1.objs.size] [("key", .ref f)]); PySem.ret (.ref h1.objs.size)) _ _ (c.at (h1.push (seqObj "list" vs.toArray 0)) tk1)
  have hs1 := x1.size
  generalize h1.push (seqObj "list" vs.toArray 0) = h2 at x2 ho
  generalize h1.objs.size = D at ho hs1
  refine wpAny_bind (wpAny_holding (wpAny_call_entry_kw slot_list_sort ⟨_, ho, rfl⟩ entry_list_sort ?body (ksk_l1 _ _)))
  case body =>
    show wpAny (model c.prog c.w) A.in1.in1 (Builtin.«list.sort» ⟨[.ref D], [(Str.ofString "key", .ref f)]⟩) _ _ _
    rw [ksk_t1]
    refine (Wp.sortTree (h₀ := h) (d := d) (A := A.in1.in1) K (G.grow x2) ho hi (by rw [ramp_len]; exact h64) hns r1.in1 hk x2 hs1 (G.new hs1)).go tk1 (fun fin h' tk' ⟨ef, out, o1, o2, o3, o4, o5⟩ => ?_)
    subst ef
    exact ⟨_, rfl, wpAny_pure ⟨_, rfl, h', tk', rfl, q D out h' hs1 o1 o2 o3 o4 o5⟩⟩
end
end Mine
end

section
open PySem PySem.W PyProof.Rows
set_option maxRecDepth 100000
set_option maxHeartbeats 4000000
namespace Mine
theorem ints_of : ∀ (vs : List Value) (ns : List Int), vs.length = ns.length → (∀ (i : Nat) (v : Value) (n : Int), vs[i]? = some v → ns[i]? = some n → ∃ t, v = Value.int n t) → Ints vs ns
  | [], [], _, _ => .nil
  | [], _ :: _, h, _ => by simp at h
  | _ :: _, [], h, _ => by simp at h
  | v :: vs, n :: ns, h, k => by
    obtain ⟨t, rfl⟩ := k 0 v n rfl rfl
    exact .cons n t (ints_of vs ns (by simpa using h) fun i v m e1 e2 => k (i + 1) v m (by simpa using e1) (by simpa using e2))
theorem KeySort.ints (c : Cx) (ns : List Int) (g : Int → Int) : KeySort c ns g (fun y v _ => ∃ t, v = .int (g y) t) (fun _ v => numOf v) oneType' where
  keep := fun y v h h' b xs n r _ _ => r
  num := fun y v h ⟨t, e⟩ => by subst e; rfl
  kind := fun keys h hl h2 hR A tk Q q => by
    have hi : Ints keys (ns.map g) := ints_of _ _ (by simpa using hl) fun i v n e1 e2 => by
      rw [List.getElem?_map] at e2
      obtain ⟨m, em, rfl⟩ := Option.map_eq_some_iff.mp e2
      exact hR i v m e1 em
    refine wpAny_of_eq ?_ q
    match keys, hi, h2 with
    | [], _, h2 => simp at h2
    | [_], _, h2 => simp at h2
    | v₁ :: v₂ :: vs, hi, _ => exact keyKind_ints hi
  lt := fun h v w n m _ _ ⟨t, e1⟩ ⟨u, e2⟩ A tk Q q => by
    subst e1 e2
    rw [keyLt'_oneType]
    exact oneLt_int q
/-- a pair of ints, on the heap -/
noncomputable def PairR (k m : Int → Int) (y : Int) (v : Value) (h : Heap) : Prop := ∃ T t u, v = .ref T ∧ h.get? T = some (tupObj [.int (k y) t, .int (m y) u])
noncomputable def pairNum (h : Heap) (v : Value) : Int := match v with
  | .ref T => match h.get? T with
    | some o => match o.data with
      | .seq xs _ => numOf (xs.getD 0 .none) * 1000 + numOf (xs.getD 1 .none)
      | _ => 0
    | none => 0
  | _ => 0
theorem katTups_of {h : Heap} {k m : Int → Int} : ∀ (keys : List Value) (ns : List Int), keys.length = ns.length → (∀ (i : Nat) v n, keys[i]? = some v → ns[i]? = some n → PairR k m n v h) → ∃ fs, KatTups h keys fs ∧ fs.length = ns.length ∧ ∀ v ∈ fs, ∃ n t, v = .int n t
  | [], [], _, _ => ⟨[], trivial, rfl, by simp⟩
  | [], _ :: _, h, _ => by simp at h
  | _ :: _, [], h, _ => by simp at h
  | v :: vs, n :: ns, hl, hR => by
    obtain ⟨T, t, u, rfl, hT⟩ := hR 0 v n rfl rfl
    obtain ⟨fs, f1, f2, f3⟩ := katTups_of vs ns (by simpa using hl) fun i v m e1 e2 => hR (i + 1) v m (by simpa using e1) (by simpa using e2)
    refine ⟨.int (k n) t :: fs, KatTups.cons hT rfl rfl rfl f1, by simp [f2], fun w hw => ?_⟩
    rcases List.mem_cons.mp hw with rfl | hw
    · exact ⟨_, _, rfl⟩
    · exact f3 w hw
theorem KeySort.pairs (c : Cx) (ns : List Int) (k m : Int → Int) (hm : ∀ y ∈ ns, -500 < m y ∧ m y < 500) : KeySort c ns (fun y => k y * 1000 + m y) (PairR k m) pairNum (tuples' true) where
  keep := fun y v h h' b xs n ⟨T, t, u, e, hT⟩ hb x => ⟨T, t, u, e, x.get _ _ (by
    intro z
    rw [List.mem_singleton.mp z, hb] at hT
    have := congrArg (fun o : Option Obj => o.map (·.cls)) hT
    simp at this) hT⟩
  num := fun y v h ⟨T, t, u, e, hT⟩ => by
    subst e
    simp only [pairNum, hT]
    rfl
  kind := fun keys h hl h2 hR A tk Q q => by
    obtain ⟨fs, f1, f2, f3⟩ := katTups_of keys ns hl hR
    refine kat_kind (T := .type "int") f1 (by exact ar520 h2 f2 hl) (fun v hv => ?_) (by decide) q
    obtain ⟨n, t, rfl⟩ := f3 v hv
    intro A Q E s _ q
    exact wpAny_pure q
  lt := fun h v w n n' hn hn' ⟨T, t, u, e1, hT⟩ ⟨T', t', u', e2, hT'⟩ A tk Q q => by
    subst e1 e2
    have a1 := hm n hn
    have a2 := hm n' hn'
    refine kat_lt hT rfl hT' rfl ?_
    refine kat_cons (wpAny_eqBool_int (kat_go (fun e => kat_yes (kat_cons (wpAny_eqBool_int (kat_go (fun e' => kat_yes (kat_nil ?_)) fun e' => kat_no ?_)))) fun e => kat_no ?_))
    · have e : k n = k n' := by simpa using e
      have e' : m n = m n' := by simpa using e'
      rw [e, e', decide_eq_false (by exact ar521)] at q
      exact q
    · have e : k n = k n' := by simpa using e
      rw [e] at q
      have : decide (k n' * 1000 + m n < k n' * 1000 + m n') = decide (m n < m n') := by
        rw [decide_eq_decide]; exact ar522
      rw [this] at q
      exact kat_one _ _ (PySem.P.lt_int q)
    · have e : k n ≠ k n' := by simpa using e
      have : decide (k n * 1000 + m n < k n' * 1000 + m n') = decide (k n < k n') := by
        rw [decide_eq_decide]; exact ar523 a1 a2 e
      rw [this] at q
      exact oneLt_int q
end Mine
end

section
open PySem PySem.W PyProof.Rows
set_option maxRecDepth 100000
set_option maxHeartbeats 4000000
namespace Mine
section
variable {c : Cx} {A : Around} {B h : Heap} {mg mb : Str → Option Value}
/-- a lambda of one name, as a key -/
theorem lamKey (T : TopAt B mg mb) {f : Addr} {fd : FuncData} {body : Expr} {d : Nat} {D : Int → Prop} {R : Int → Value → Heap → Prop} (x : FnM h f fd) (hbody : fd.body = .expr body)
    (hb : ∀ (y : Int) (t : Tok), bindArgs fd ⟨[Value.int y t], []⟩ = Pure.pure [(("one" : Str), Value.int y t)]) (hcell : fd.scope.names.all (fun x => x.2 != .cell) = true) (hloc : fd.scope.names.lookup ("one" : Str) = some .local)
    (hk : fd.scope.kind = .function) (hco : fd.scope.isCoroutine = false) (hgen : fd.scope.isGenerator = false)
    (ev : ∀ A h₁ L y t m, Ext [] h h₁ → D y → Fm B h [] L m h₁ → m "one" = some (.int y t) → Wp c A (eval body (callEnv fd L f)) (fun v h₂ => R y v h₂ ∧ Ext [] h₁ h₂) h₁) : KeyOkH c B h (.ref f) (d + 1) D R := by
  intro A h' y t r G e dy
  refine Wp.enterE (args := ⟨[.int y t], []⟩) (n := d) T G (x.keeps e.all) hbody r (hb y t) hcell ?_ hk hco hgen fun L h₁ hL S r' => ?_
  · simp [hloc]
  have S1 := S []
  have o1 : Ext [] h' h₁ := S1.out (new_none hL)
  refine (ev _ h₁ L y t _ (e.trans o1) dy ⟨S1.gg, S1.ns, (e.trans o1).size, fun b o _ _ q => (e.trans o1).all _ _ q, S1.new⟩ rfl).mono fun v h₂ ⟨q1, q2⟩ => ⟨q1, o1.trans q2, S1.gg.grow q2⟩
end
end Mine
end

section
open PySem PySem.W PyProof.Rows
set_option maxRecDepth 100000
set_option maxHeartbeats 4000000
namespace Mine
noncomputable abbrev cutEnv (L : Nat) : Env := envX "_law_cut" (fScope (stm 20)) L 118 (.ref 117) (cellsFrom (L + 1) (fScope (stm 20)).names [])
/-- what _law_cut has made before its first loop -/
structure CutE (B h₆ : Heap) (L lf lb lr ll : Nat) (fs bs : List Int) (gap : Nat) : Prop where
  c1 : h₆.IsCell (L + 1) (some (.ref lb))
  c2 : ∃ t, h₆.IsCell (L + 2) (some (.int gap t))
  ilb : IL h₆ lb bs
  ilf : IL h₆ lf fs
  ob : lb < L
  of : lf < L
  olr : L + 2 < lr
  oll : ll = lr + 1
  lt : ll < h₆.objs.size
  tL : ∀ n : Nat, L ≤ n → n ∉ tabs
  tb : lb ∉ tabs
  tf : lf ∉ tabs
  len : bs.length = 2 * gap
  g4 : gap ≤ 4
  newB : ∀ n : Nat, L ≤ n → B.get? n = none
noncomputable abbrev cutW (lr ll : Nat) : List Addr := lr :: ll :: tabs
section
variable {c : Cx} {A : Around} {B h₆ h : Heap} {mg mb m : Str → Option Value} {L lf lb lr ll gap : Nat} {fs bs : List Int}
theorem CutE.nW (E : CutE B h₆ L lf lb lr ll fs bs gap) {n : Nat} (h1 : n < lr) (h2 : n ∉ tabs) : n ∉ cutW lr ll := by
  intro q
  have := E.oll
  rcases List.mem_cons.mp q with e | q
  · have e : n = lr := e; exact ar88 h1 (by assumption)
  · rcases List.mem_cons.mp q with e | q
    · have e : n = ll := e; exact ar89 h1 (by assumption) this
    · exact h2 q
theorem CutE.C1 (E : CutE B h₆ L lf lb lr ll fs bs gap) (S : Fm B h₆ (cutW lr ll) L m h) : h.IsCell (L + 1) (some (.ref lb)) := by
  obtain ⟨o, ho, hd⟩ := E.c1
  exact ⟨o, S.get _ _ (E.nW (by have := E.olr; exact ar90 this) (E.tL _ (by exact ar35))) (nltg (by exact ar10)) ho, hd⟩
theorem CutE.C2 (E : CutE B h₆ L lf lb lr ll fs bs gap) (S : Fm B h₆ (cutW lr ll) L m h) : ∃ t, h.IsCell (L + 2) (some (.int gap t)) := by
  obtain ⟨t, o, ho, hd⟩ := E.c2
  exact ⟨t, o, S.get _ _ (E.nW (by have := E.olr; exact ar91 this) (E.tL _ (by exact ar92))) (nltg (by exact ar19)) ho, hd⟩
theorem CutE.B1 (E : CutE B h₆ L lf lb lr ll fs bs gap) (S : Fm B h₆ (cutW lr ll) L m h) : IL h lb bs :=
  E.ilb.fm S (E.nW (by have := E.olr; have := E.ob; exact ar93 (by assumption) this) E.tb) (Nat.ne_of_lt E.ob)
theorem CutE.F1 (E : CutE B h₆ L lf lb lr ll fs bs gap) (S : Fm B h₆ (cutW lr ll) L m h) : IL h lf fs :=
  E.ilf.fm S (E.nW (by have := E.olr; have := E.of; exact ar93 (by assumption) this) E.tf) (Nat.ne_of_lt E.of)
theorem CutE.new (E : CutE B h₆ L lf lb lr ll fs bs gap) {n : Nat} (hn : h₆.objs.size ≤ n) : ∀ b ∈ [n], b ∈ cutW lr ll ∨ h₆.get? b = none := fun b hb => .inr (new_none (by rw [List.mem_singleton.mp hb]; exact hn))
/-- the tab of the lambdas -/
theorem CutE.tabW : ∀ b ∈ [115], b ∈ cutW lr ll ∨ h₆.get? b = none := fun b hb => .inl (by rw [List.mem_singleton.mp hb]; simp)
/-- the value of the block at an index -/
noncomputable def atB (bs : List Int) (y : Int) : Int := bs.getD y.toNat 0
theorem atB_at {bs : List Int} {y : Int} (h0 : 0 ≤ y) (h1 : y < bs.length) : bs[y.toNat]? = some (atB bs y) := by
  unfold atB
  rw [List.getD_eq_getElem?_getD, List.getElem?_eq_getElem (by exact ar94 h0 h1)]
  rfl
theorem ramp_snoc (d : Int) : ∀ (n : Nat) (a : Int), ramp a d (n + 1) = ramp a d n ++ [a + n * d]
  | 0, a => by simp [ramp]
  | n + 1, a => by
    rw [ramp, ramp_snoc d n (a + d), ramp, List.cons_append]
    congr 2
    push_cast
    rw [Int.add_mul, Int.one_mul, Int.add_assoc, Int.add_comm d]
theorem ramp_mem {a : Int} {n : Nat} {y : Int} (h : y ∈ ramp a 1 n) : a ≤ y ∧ y < a + n := by
  obtain ⟨i, hi⟩ := List.mem_iff_getElem?.mp h
  have hl := (List.getElem?_eq_some_iff.mp hi).1
  rw [ramp_len] at hl
  rw [ramp_at 1 n a i hl] at hi
  cases hi
  exact ar95 hl
/-- the first loop of _law_cut -/
inductive CutJ (B h₆ : Heap) (L lr ll : Nat) (bs : List Int) (gap : Nat) (St : Nat → Heap → Prop) (m : Str → Option Value) (i : Nat) (h' : Heap) : Prop
  | mk (m' : Str → Option Value) (ys zs : List Int) (S : Fm B h₆ (cutW lr ll) L m' h') (st : St i h') (hm : ∀ x : Str, x ≠ "i" → m' x = m x) (ilr : IL h' lr ys) (ill : IL h' ll zs) (py : ys.Perm (ramp 0 1 i))
    (wy : ys.Pairwise (fun x y => atB bs x < atB bs y ∨ (atB bs x = atB bs y ∧ y < x))) (pz : zs.Perm (ramp gap 1 i)) (wz : Stab (fun y => - atB bs y) zs) : CutJ B h₆ L lr ll bs gap St m i h'
theorem CutJ.st {B h₆ : Heap} {L lr ll : Nat} {bs : List Int} {gap : Nat} {St : Nat → Heap → Prop} {m : Str → Option Value} {i : Nat} {h' : Heap} (x : CutJ B h₆ L lr ll bs gap St m i h') : St i h' := by
  obtain ⟨_, _, _, _, s⟩ := x; exact s
theorem cutLoop (T : TopAt B mg mb) (F : Fns B mg) (E : CutE B h₆ L lf lb lr ll fs bs gap) (r : Room A 19) (S : Fm B h₆ (cutW lr ll) L m h) (mr : m "rising" = some (.ref lr)) (ml : m "falling" = some (.ref ll)) (ilr : IL h lr []) (ill : IL h ll [])
    {rest : List Stmt} {Q : Flow → Heap → Prop}
    (k : ∀ h' ys zs m', Fm B h₆ (cutW lr ll) L m' h' → (∀ x : Str, x ≠ "i" → m' x = m x) → IL h' lr ys → IL h' ll zs → ys.Perm (ramp 0 1 gap) → ys.Pairwise (fun x y => atB bs x < atB bs y ∨ (atB bs x = atB bs y ∧ y < x)) →
      zs.Perm (ramp gap 1 gap) → Stab (fun y => - atB bs y) zs → Wp c A (execs rest (cutEnv L)) Q h') :
    Wp c A (execs ((fBody (stm 20)).drop 2 |>.take 1 |> (· ++ rest)) (cutEnv L)) Q h := by
  have hgap := E.g4
  obtain ⟨tg, c2⟩ := E.C2 S
  refine Wp.cons (Wp.forS (Wp.callT (ty := "range") (fun Q q => Wp.nameB S T rfl rfl rfl rfl F.bRange (by decide) (by decide +kernel) q) (Wp.icons (Wp.nameC rfl rfl rfl c2 (Wp.inil (Wp.range1 fun h₁ t1 t2 t3 hr e1 s1 => ?_))))))
  have S := S.grow e1
  have ilr := ilr.ext e1 (fun q => nomatch q)
  have ill := ill.ext e1 (fun q => nomatch q)
  have hs6 := S.size
  refine Wp.iterR (n := gap) r.hh hr (by unfold Builtin.Range.small Builtin.Range.rangeFitsLong; rw [rangeSize_one]; split <;> simp <;> omega) (by rw [rangeSize_one]; split <;> omega) fun h₂ e2 src => ?_
  have S := S.grow e2
  have ilr := ilr.ext e2 (fun q => nomatch q)
  have ill := ill.ext e2 (fun q => nomatch q)
  generalize hI : h₁.objs.size = I at src
  obtain ⟨St, W, st, hIlt, hfp, fr, _, hno⟩ := src
  rw [ramp_len] at W
  have hI6 : h₆.objs.size ≤ I := by exact ar96 hs6 hI
  have hLI : L < I := by have := E.olr; have := E.oll; have := E.lt; exact ar97 (by assumption) this (by assumption) hs6 hI
  have olr := E.olr
  have oll := E.oll
  have olt := E.lt
  have ob := E.ob
  have hlen := E.len
  refine Cp.forIt W (CutJ B h₆ L lr ll bs gap St m) ⟨m, [], [], S, st, fun _ _ => rfl, ilr, ill, List.Perm.nil, List.Pairwise.nil, List.Perm.nil, List.Pairwise.nil⟩ (fun i h' q => q.st) ?_ ?_
  · rintro i h' v h'' hi ⟨m', ys, zs, S, st, hm, ilr, ill, py, wy, pz, wz⟩ ⟨n, tn, hn, rfl⟩ st' ex
    rw [ramp_at 1 gap 0 i hi] at hn
    obtain rfl : n = i := by have := Option.some.inj hn; exact ar98 this
    obtain ⟨oI, hoI, noI⟩ := hno i h' st
    have S := S.ext' ex (S.gg.turnI ex hoI noI (E.newB I (by exact ar99 hLI)) (E.tL I (by exact ar99 hLI))) (E.new hI6) (off1 (.inl hLI))
    have ilr := ilr.ext ex (off1 (.inl (by exact ar100 olt oll hs6 hI)))
    have ill := ill.ext ex (off1 (.inl (by exact ar101 olt hs6 hI)))
    refine Wp.absB fun Qy ky => ?_
    refine Wp.asg (Wp.storeL S rfl rfl rfl fun g1 S x1 => ?_)
    have ilr := ilr.ext x1 (off1 (.inr (by exact ar102 olr)))
    have ill := ill.ext x1 (off1 (.inr (by exact ar103 olr oll)))
    have st1 : St (i + 1) g1 := fr _ _ _ st' fun b hb o e => x1.get _ _ (by rw [List.mem_singleton.mp hb]; exact off1 (.inr hLI)) e
    have hr1 := (hm "rising" (by decide)).trans mr
    have hl1 := (hm "falling" (by decide)).trans ml
    -- the first
    obtain ⟨fo, fd', hfo, hfd⟩ := F.f17.there S.gg (by decide)
    refine Wp.cons (Wp.expr (Wp.callFk (o := fo) (fd := fd') (fun Q q => Wp.nameG S T rfl rfl rfl F.n17 q) (Wp.icons (Wp.nameL S rfl rfl rfl hr1 (Wp.icons (Wp.nameL S rfl rfl rfl rfl (Wp.inil ?_)))))))
    refine Wp.mkLam T S.gg Tb.t3 rfl rfl rfl rfl rfl rfl fun f g2 ct cv G2 x2 hf1 hf2 fm => ⟨⟨x2.get _ _ (by decide) hfo, hfd⟩, ?_⟩
    have o115 : ∀ {n : Nat}, L ≤ n → n ∉ [115] := fun hn q => E.tL _ hn (by rw [List.mem_singleton.mp q]; decide)
    have S := S.ext' x2 G2 CutE.tabW (o115 (Nat.le_refl _))
    have ilr := ilr.ext x2 (o115 (by exact ar104 olr))
    have ill := ill.ext x2 (o115 (by exact ar105 olr oll))
    have st2 : St (i + 1) g2 := fr _ _ _ st1 fun b hb o e => x2.get _ _ (by rw [List.mem_singleton.mp hb]; exact o115 (by exact ar99 hLI)) e
    have D1 : ∀ {y : Int}, y ∈ ramp 0 1 gap → 0 ≤ y ∧ y < bs.length := fun hy => by have := ramp_mem hy; exact ar106 this hlen
    have key : KeyOkH c B g2 (.ref f) 1 (fun y => 0 ≤ y ∧ y < bs.length) (fun y v _ => ∃ t, v = .int (atB bs y) t) := by
      refine lamKey T fm rfl (fun y t => rfl) rfl rfl rfl rfl rfl fun A' h₁ L' y t m₁ e dy Sf mone => ?_
      refine Wp.item (Wp.nameF rfl rfl rfl (ext_cells (E.C1 S) e) (Wp.nameL Sf rfl rfl rfl mone ⟨lb, bs, y, t, atB bs y, rfl, rfl, (E.B1 S).ext e (fun q => nomatch q), dy.1, atB_at dy.1 dy.2, by exact ar107 hlen hgap, fun t => ⟨⟨t, rfl⟩, Ext.refl _ _⟩⟩))
    have wy' : ys.Pairwise (fun a b => decide (atB bs b < atB bs i) = true → decide (atB bs a < atB bs i) = true) := wy.imp fun {a b} h => by simp; omega
    obtain ⟨p, p1, p2, p3⟩ := split_at wy'
    have hyl : ys.length = i := by rw [py.length_eq, ramp_len]
    have ym : ∀ {y : Int}, y ∈ ys → 0 ≤ y ∧ y < i := fun hy => by have := ramp_mem (py.mem_iff.mp hy); exact ar108 this
    refine (insortL_spec T F S.gg (r.le (by decide)) ilr (by exact ar109 hyl hi hgap) (E.newB lr (by exact ar104 olr)) fm.there key ⟨by exact ar32, by exact ar110 hi hlen⟩ (fun j y e => by have := ym (List.mem_of_getElem? e); exact ar111 this hlen hi) p1
      (fun j y hj e => by simpa using p2 j y hj e) (fun j y hj e => by simpa using p3 j y hj e)).mono fun v g3 ⟨ev, il3, x3, G3⟩ => ⟨ev, ?_⟩
    have S := S.ext' x3 G3 (fun b hb => .inl (by rw [List.mem_singleton.mp hb]; simp)) (off1 (.inl (by exact ar102 olr)))
    have ill := ill.ext x3 (off1 (.inr (by exact ar112 oll)))
    have st3 : St (i + 1) g3 := fr _ _ _ st2 fun b hb o e => x3.get _ _ (by rw [List.mem_singleton.mp hb]; exact off1 (.inr (by exact ar100 olt oll hs6 hI))) e
    have py3 := (ins_perm ys i p).trans (py.append_right [(i : Int)])
    have wy3 : (ys.take p ++ (i : Int) :: ys.drop p).Pairwise (fun x y => atB bs x < atB bs y ∨ (atB bs x = atB bs y ∧ y < x)) := by
      refine ins_pair wy (fun y hy => ?_) (fun y hy => ?_)
      · obtain ⟨j, hj, e⟩ := mem_take_at hy
        exact .inl (by simpa using p2 j y hj e)
      · obtain ⟨j, hj, e⟩ := mem_drop_at hy
        have h1 := p3 j y hj e
        have h2 := ym (List.mem_of_getElem? e)
        simp at h1
        exact ar113 h2 h1
    -- the second
    obtain ⟨fo, fd', hfo, hfd⟩ := F.f15.there S.gg (by decide)
    obtain ⟨tg3, c23⟩ := E.C2 S
    refine Wp.cons (Wp.expr (Wp.callFk (o := fo) (fd := fd') (fun Q q => Wp.nameG S T rfl rfl rfl F.n15 q) (Wp.icons (Wp.nameL S rfl rfl rfl hl1 (Wp.icons (Wp.bin (Wp.nameC rfl rfl rfl c23 (Wp.nameL S rfl rfl rfl rfl (Wp.addI fun u1 => Wp.inil ?_)))))))))
    refine Wp.mkLam T S.gg Tb.t3 rfl rfl rfl rfl rfl rfl fun f' g4 ct cv G4 x4 hf1 hf2 fm => ⟨⟨x4.get _ _ (by decide) hfo, hfd⟩, ?_⟩
    have S := S.ext' x4 G4 CutE.tabW (o115 (Nat.le_refl _))
    have il3 := il3.ext x4 (o115 (by exact ar104 olr))
    have ill := ill.ext x4 (o115 (by exact ar105 olr oll))
    have st4 : St (i + 1) g4 := fr _ _ _ st3 fun b hb o e => x4.get _ _ (by rw [List.mem_singleton.mp hb]; exact o115 (by exact ar99 hLI)) e
    have key : KeyOkH c B g4 (.ref f') 1 (fun y => 0 ≤ y ∧ y < bs.length) (fun y v _ => ∃ t, v = .int (- atB bs y) t) := by
      refine lamKey T fm rfl (fun y t => rfl) rfl rfl rfl rfl rfl fun A' h₁ L' y t m₁ e dy Sf mone => ?_
      refine Wp.un (Wp.item (Wp.nameF rfl rfl rfl (ext_cells (E.C1 S) e) (Wp.nameL Sf rfl rfl rfl mone ⟨lb, bs, y, t, atB bs y, rfl, rfl, (E.B1 S).ext e (fun q => nomatch q), dy.1, atB_at dy.1 dy.2, by exact ar107 hlen hgap, fun t => Wp.negI fun t => ⟨⟨t, rfl⟩, Ext.refl _ _⟩⟩)))
    have wz' : zs.Pairwise (fun a b => decide (¬ (- atB bs (gap + i) < - atB bs b)) = true → decide (¬ (- atB bs (gap + i) < - atB bs a)) = true) := wz.imp fun {a b} h => by dsimp only at h; simp; omega
    obtain ⟨p', q1, q2, q3⟩ := split_at wz'
    have hzl : zs.length = i := by rw [pz.length_eq, ramp_len]
    have zm : ∀ {y : Int}, y ∈ zs → (gap : Int) ≤ y ∧ y < gap + i := fun hy => ramp_mem (pz.mem_iff.mp hy)
    refine (insortR_spec (x := (gap : Int) + i) T F S.gg (r.le (by decide)) ill (by exact ar109 hzl hi hgap) (E.newB ll (by exact ar105 olr oll)) fm.there key ⟨by exact ar114, by exact ar115 hi hlen⟩ (fun j y e => by have := zm (List.mem_of_getElem? e); exact ar116 this hlen hi) q1
      (fun j y hj e => by simpa using q2 j y hj e) (fun j y hj e => by simpa using q3 j y hj e)).mono fun v g5 ⟨ev, il5, x5, G5⟩ => ⟨ev, ?_⟩
    have S := S.ext' x5 G5 (fun b hb => .inl (by rw [List.mem_singleton.mp hb]; simp)) (off1 (.inl (by exact ar103 olr oll)))
    have il3 := il3.ext x5 (off1 (.inl (by exact ar112 oll)))
    have st5 : St (i + 1) g5 := fr _ _ _ st4 fun b hb o e => x5.get _ _ (by rw [List.mem_singleton.mp hb]; exact off1 (.inr (by exact ar101 olt hs6 hI))) e
    have pz3 := (ins_perm zs (gap + i) p').trans (pz.append_right [(gap + i : Int)])
    have wz3 : Stab (fun y => - atB bs y) (zs.take p' ++ (gap + i : Int) :: zs.drop p') := by
      refine ins_pair wz (fun y hy => ?_) (fun y hy => ?_)
      · obtain ⟨j, hj, e⟩ := mem_take_at hy
        have h1 := q2 j y hj e
        have h2 := zm (List.mem_of_getElem? e)
        simp at h1
        dsimp only
        exact ar117 h2 h1
      · obtain ⟨j, hj, e⟩ := mem_drop_at hy
        have h1 := q3 j y hj e
        simp at h1
        dsimp only
        exact ar118 h1
    refine Wp.nil (ky .next _ ⟨_, _, _, S, st5, fun x hx => ?_, il3, il5, ?_, wy3, ?_, wz3⟩)
    · rw [upd_ne hx]; exact hm x hx
    · rw [ramp_snoc]; simpa using py3
    · rw [ramp_snoc]; simpa using pz3
  · rintro h' h'' ⟨m', ys, zs, S, st, hm, ilr, ill, py, wy, pz, wz⟩ ex
    obtain ⟨oI, hoI, noI⟩ := hno gap h' st
    have S := S.ext' ex (S.gg.turnI ex hoI noI (E.newB I (by exact ar99 hLI)) (E.tL I (by exact ar99 hLI))) (E.new hI6) (off1 (.inl hLI))
    exact k h'' ys zs m' S hm (ilr.ext ex (off1 (.inl (by exact ar100 olt oll hs6 hI)))) (ill.ext ex (off1 (.inl (by exact ar101 olt hs6 hI)))) py wy pz wz
end
end Mine
end

section
open PySem PySem.W PyProof.Rows
set_option maxRecDepth 100000
set_option maxHeartbeats 4000000
namespace Mine
section
variable {c : Cx} {A : Around} {B h₆ h : Heap} {mg mb m : Str → Option Value} {L lf lb lr ll gap : Nat} {fs bs : List Int}
theorem Wp.nameN {env : Env} {x : Str} {pos : Pos} {v : Value} {Q : Value → Heap → Prop} (hk : env.scope.kind = .function) (hx : env.kindOf x = some .local) (hn : h.Ns env.locals m) (hv : m x = some v) (q : Q v h)
    (hd : (x == ("__debug__" : Str)) = false := by decide) : Wp c A (eval (.Name x pos) env) Q h := fun tk => wpAny_Name (wpAny_loadName_local hk hx hn hv ⟨h, tk, rfl, q⟩) hd
theorem small1 {a b : Nat} (ha : a ≤ 16) (hb : b ≤ 16) : Builtin.Range.small (a : Int) (b : Int) 1 = true := by
  unfold Builtin.Range.small Builtin.Range.rangeFitsLong
  rw [rangeSize_one]
  split <;> simp <;> omega
theorem CutE.o115 (E : CutE B h₆ L lf lb lr ll fs bs gap) {n : Nat} (hn : L ≤ n) : n ∉ [115] := fun q => E.tL _ hn (by rw [List.mem_singleton.mp q]; decide)
theorem cutSort1 (T : TopAt B mg mb) (F : Fns B mg) (E : CutE B h₆ L lf lb lr ll fs bs gap) (r : Room A 19) (S : Fm B h₆ (cutW lr ll) L m h) (mr : m "rising" = some (.ref lr)) {ys zs : List Int} (ilr : IL h lr ys) (ill : IL h ll zs)
    (py : ys.Perm (ramp 0 1 gap)) (wy : ys.Pairwise (fun x y => atB bs x < atB bs y ∨ (atB bs x = atB bs y ∧ y < x))) {rest : List Stmt} {Q : Flow → Heap → Prop}
    (k : ∀ h', Fm B h₆ (cutW lr ll) L m h' → IL h' lr ys → IL h' ll zs → Wp c A (execs rest (cutEnv L)) Q h') :
    Wp c A (execs ((fBody (stm 20)).drop 3 |>.take 1 |> (· ++ rest)) (cutEnv L)) Q h := by
  have hgap := E.g4
  have hlen := E.len
  have olr := E.olr
  have oll := E.oll
  have hs6 := S.size
  have olt := E.lt
  obtain ⟨tg, c2⟩ := E.C2 S
  refine Wp.cons (Wp.ifN (Wp.tCmp (Wp.nameL S rfl rfl rfl mr (Wp.callBk (bi := "sorted") (fun Q q => Wp.nameB S T rfl rfl rfl rfl F.bSorted (by decide) (by decide +kernel) q) (Wp.icons
    (Wp.callT (ty := "range") (fun Q q => Wp.nameB S T rfl rfl rfl rfl F.bRange (by decide) (by decide +kernel) q) (Wp.icons (Wp.nameC rfl rfl rfl c2 (Wp.inil (Wp.range1 fun h₁ t1 t2 t3 hr e1 s1 => Wp.inil ?_))))))))))
  have S := S.grow e1
  have ilr := ilr.ext e1 (fun q => nomatch q)
  have ill := ill.ext e1 (fun q => nomatch q)
  refine Wp.mkLam T S.gg Tb.t3 rfl rfl rfl rfl rfl rfl fun f h₂ ct cv G2 x2 hf1 hf2 fm => ?_
  have S := S.ext' x2 G2 CutE.tabW (E.o115 (Nat.le_refl _))
  have ilr := ilr.ext x2 (E.o115 (by exact ar104 olr))
  have ill := ill.ext x2 (E.o115 (by exact ar105 olr oll))
  have hr : IsRange h₂ h.objs.size 0 gap 1 t1 t2 t3 := x2.get _ _ (E.o115 (by exact ar119 olr olt oll hs6)) hr
  have key : KeyOkH c B h₂ (.ref f) 1 (· ∈ ramp 0 1 gap) (PairR (atB bs) (fun y => -y)) := by
    refine lamKey T fm rfl (fun y t => rfl) rfl rfl rfl rfl rfl fun A' h₁ L' y t m₁ e dy Sf mone => ?_
    have dy := ramp_mem dy
    refine Wp.tupD (Wp.icons (Wp.item (Wp.nameF rfl rfl rfl (ext_cells (E.C1 S) e) (Wp.nameL Sf rfl rfl rfl mone ⟨lb, bs, y, t, atB bs y, rfl, rfl, (E.B1 S).ext e (fun q => nomatch q), dy.1, atB_at dy.1 (by exact ar120 dy hlen), by exact ar107 hlen hgap, fun t => Wp.icons (Wp.un (Wp.nameL Sf rfl rfl rfl mone (Wp.negI fun t' => Wp.inil ⟨show 2 ≤ 2 ^ 24 by decide, ?_⟩)))⟩))))
    exact ⟨⟨_, _, _, rfl, Heap.get?_push_size _ rfl⟩, Ext.push _ _⟩
  refine Wp.sortedR (n := gap) (d := 1) (KeySort.pairs c (ramp 0 1 gap) (atB bs) (fun y => -y) (fun y hy => by have := ramp_mem hy; exact ar121 this hgap)) S.gg hr (small1 (a := 0) (by decide) (by exact ar122 hgap)) (by rw [rangeSize_one]; split <;> omega) (by exact ar123 hgap) (r.le (by decide)) key fun D out h₃ hD ilo po wo e3 G3 => ?_
  have S := S.grow e3
  have ilr := ilr.ext e3 (fun q => nomatch q)
  have ill := ill.ext e3 (fun q => nomatch q)
  have wy' : Stab (fun y => atB bs y * 1000 + -y) ys := by
    refine List.Pairwise.imp_of_mem (fun {a b} ha hb h => ?_) wy
    have h1 := ramp_mem (py.mem_iff.mp ha)
    have h2 := ramp_mem (py.mem_iff.mp hb)
    dsimp only
    exact ar124 h1 h2 h hgap
  have eo : ys = out := wy'.uniq wo (py.trans po.symm)
  refine Wp.neL ilr ilo (by have := r.u; exact ar125 this) (Wp.truB ⟨by simp [eo], k h₃ S ilr ill⟩)
theorem cutSort2 (T : TopAt B mg mb) (F : Fns B mg) (E : CutE B h₆ L lf lb lr ll fs bs gap) (r : Room A 19) (S : Fm B h₆ (cutW lr ll) L m h) (ml : m "falling" = some (.ref ll)) {ys zs : List Int} (ilr : IL h lr ys) (ill : IL h ll zs)
    (pz : zs.Perm (ramp gap 1 gap)) (wz : Stab (fun y => - atB bs y) zs) {rest : List Stmt} {Q : Flow → Heap → Prop}
    (k : ∀ h', Fm B h₆ (cutW lr ll) L m h' → IL h' lr ys → IL h' ll zs → Wp c A (execs rest (cutEnv L)) Q h') :
    Wp c A (execs ((fBody (stm 20)).drop 4 |>.take 1 |> (· ++ rest)) (cutEnv L)) Q h := by
  have hgap := E.g4
  have hlen := E.len
  have olr := E.olr
  have oll := E.oll
  have hs6 := S.size
  have olt := E.lt
  obtain ⟨tg, c2⟩ := E.C2 S
  refine Wp.cons (Wp.ifN (Wp.tCmp (Wp.nameL S rfl rfl rfl ml (Wp.callBk (bi := "sorted") (fun Q q => Wp.nameB S T rfl rfl rfl rfl F.bSorted (by decide) (by decide +kernel) q) (Wp.icons
    (Wp.callT (ty := "range") (fun Q q => Wp.nameB S T rfl rfl rfl rfl F.bRange (by decide) (by decide +kernel) q) (Wp.icons (Wp.nameC rfl rfl rfl c2 (Wp.icons (Wp.bin (Wp.cInt fun t0 => Wp.nameC rfl rfl rfl c2 (Wp.mulI (IntMulOk.of_left (bits_small (by decide) (by decide))) fun t0' => Wp.inil (Wp.range2 fun h₁ t1 t2 t3 hr e1 s1 => Wp.inil ?_)))))))))))))
  have S := S.grow e1
  have ilr := ilr.ext e1 (fun q => nomatch q)
  have ill := ill.ext e1 (fun q => nomatch q)
  refine Wp.mkLam T S.gg Tb.t3 rfl rfl rfl rfl rfl rfl fun f h₂ ct cv G2 x2 hf1 hf2 fm => ?_
  have S := S.ext' x2 G2 CutE.tabW (E.o115 (Nat.le_refl _))
  have ilr := ilr.ext x2 (E.o115 (by exact ar104 olr))
  have ill := ill.ext x2 (E.o115 (by exact ar105 olr oll))
  have e2g : (2 : Int) * (gap : Int) = ((2 * gap : Nat) : Int) := by exact ar126
  rw [e2g] at hr
  have hr : IsRange h₂ h.objs.size (gap : Int) ((2 * gap : Nat) : Int) 1 t1 t2 t3 := x2.get _ _ (E.o115 (by exact ar119 olr olt oll hs6)) hr
  have key : KeyOkH c B h₂ (.ref f) 1 (· ∈ ramp gap 1 gap) (fun y v _ => ∃ t, v = .int (- atB bs y) t) := by
    refine lamKey T fm rfl (fun y t => rfl) rfl rfl rfl rfl rfl fun A' h₁ L' y t m₁ e dy Sf mone => ?_
    have dy := ramp_mem dy
    exact Wp.un (Wp.item (Wp.nameF rfl rfl rfl (ext_cells (E.C1 S) e) (Wp.nameL Sf rfl rfl rfl mone ⟨lb, bs, y, t, atB bs y, rfl, rfl, (E.B1 S).ext e (fun q => nomatch q), by exact ar127 dy, atB_at (by exact ar127 dy) (by exact ar128 dy hlen), by exact ar107 hlen hgap, fun t => Wp.negI fun t => ⟨⟨t, rfl⟩, Ext.refl _ _⟩⟩)))
  refine Wp.sortedR (n := gap) (d := 1) (KeySort.ints c (ramp gap 1 gap) (fun y => - atB bs y)) S.gg hr (small1 (by exact ar122 hgap) (by exact ar129 hgap)) (by rw [rangeSize_one]; split <;> omega) (by exact ar123 hgap) (r.le (by decide)) key fun D out h₃ hD ilo po wo e3 G3 => ?_
  have S := S.grow e3
  have ilr := ilr.ext e3 (fun q => nomatch q)
  have ill := ill.ext e3 (fun q => nomatch q)
  have eo : zs = out := wz.uniq wo (pz.trans po.symm)
  exact Wp.neL ill ilo (by have := r.u; exact ar125 this) (Wp.truB ⟨by simp [eo], k h₃ S ilr ill⟩)
/-- least and ahead -/
theorem cutLeast (T : TopAt B mg mb) (F : Fns B mg) (E : CutE B h₆ L lf lb lr ll fs bs gap) (r : Room A 19) (S : Fm B h₆ (cutW lr ll) L m h) {ys zs : List Int} (ilr : IL h lr ys) (ill : IL h ll zs)
    {rest : List Stmt} {Q : Flow → Heap → Prop}
    (k : ∀ h' m' out t, Fm B h₆ (cutW lr ll) L m' h' → IL h' lr ys → IL h' ll zs → out.Perm (ramp 0 1 (2 * gap)) → Stab (atB bs) out → m' "ahead" = some (.int ((out.take gap).filter (fun x : Int => decide (x < gap))).length t) → (∀ x : Str, x ≠ "least" → x ≠ "ahead" → m' x = m x) →
      Wp c A (execs rest (cutEnv L)) Q h') :
    Wp c A (execs ((fBody (stm 20)).drop 5 |>.take 2 |> (· ++ rest)) (cutEnv L)) Q h := by
  have hgap := E.g4
  have hlen := E.len
  have olr := E.olr
  have oll := E.oll
  have hs6 := S.size
  have olt := E.lt
  obtain ⟨tg, c2⟩ := E.C2 S
  refine Wp.cons (Wp.assign (Wp.slice (Wp.callBk (bi := "sorted") (fun Q q => Wp.nameB S T rfl rfl rfl rfl F.bSorted (by decide) (by decide +kernel) q) (Wp.icons
    (Wp.callT (ty := "range") (fun Q q => Wp.nameB S T rfl rfl rfl rfl F.bRange (by decide) (by decide +kernel) q) (Wp.icons (Wp.bin (Wp.cInt fun t0 => Wp.nameC rfl rfl rfl c2 (Wp.mulI (IntMulOk.of_left (bits_small (by decide) (by decide))) fun t0' => Wp.inil (Wp.range1 fun h₁ t1 t2 t3 hr e1 s1 => Wp.inil ?_))))))))))
  have S := S.grow e1
  have ilr := ilr.ext e1 (fun q => nomatch q)
  have ill := ill.ext e1 (fun q => nomatch q)
  refine Wp.mkLam T S.gg Tb.t3 rfl rfl rfl rfl rfl rfl fun f h₂ ct cv G2 x2 hf1 hf2 fm => ?_
  have S := S.ext' x2 G2 CutE.tabW (E.o115 (Nat.le_refl _))
  have ilr := ilr.ext x2 (E.o115 (by exact ar104 olr))
  have ill := ill.ext x2 (E.o115 (by exact ar105 olr oll))
  have e2g : (2 : Int) * (gap : Int) = ((2 * gap : Nat) : Int) := by exact ar126
  rw [e2g] at hr
  have hr : IsRange h₂ h.objs.size 0 ((2 * gap : Nat) : Int) 1 t1 t2 t3 := x2.get _ _ (E.o115 (by exact ar119 olr olt oll hs6)) hr
  have key : KeyOkH c B h₂ (.ref f) 1 (· ∈ ramp 0 1 (2 * gap)) (fun y v _ => ∃ t, v = .int (atB bs y) t) := by
    refine lamKey T fm rfl (fun y t => rfl) rfl rfl rfl rfl rfl fun A' h₁ L' y t m₁ e dy Sf mone => ?_
    have dy := ramp_mem dy
    exact Wp.item (Wp.nameF rfl rfl rfl (ext_cells (E.C1 S) e) (Wp.nameL Sf rfl rfl rfl mone ⟨lb, bs, y, t, atB bs y, rfl, rfl, (E.B1 S).ext e (fun q => nomatch q), by exact ar130 dy, atB_at (by exact ar130 dy) (by exact ar131 dy hlen), by exact ar107 hlen hgap, fun t => ⟨⟨t, rfl⟩, Ext.refl _ _⟩⟩))
  refine Wp.sortedR (n := 2 * gap) (d := 1) (KeySort.ints c (ramp 0 1 (2 * gap)) (atB bs)) S.gg hr (small1 (a := 0) (by decide) (by exact ar129 hgap)) (by rw [rangeSize_one]; split <;> omega) (by exact ar132 hgap) (r.le (by decide)) key fun D out h₃ hD ilo po wo e3 G3 => ?_
  have S := S.grow e3
  have ilr := ilr.ext e3 (fun q => nomatch q)
  have ill := ill.ext e3 (fun q => nomatch q)
  obtain ⟨tg3, c23⟩ := E.C2 S
  have hol : out.length = 2 * gap := by rw [po.length_eq, ramp_len]
  obtain ⟨vo, hvo, hio⟩ := ilo.isList
  refine Wp.partN (Wp.partS (Wp.nameC rfl rfl rfl c23 ⟨D, vo, out, out.take gap, _, _, rfl, hvo, hio, by exact ar133 hol hgap, .none, .int _ _, pick_upto hio, fun D' h₄ hD' il4 e4 => ?_⟩))
  have S := S.grow e4
  have ilr := ilr.ext e4 (fun q => nomatch q)
  have ill := ill.ext e4 (fun q => nomatch q)
  have hL6 : L < h₆.objs.size := by exact ar134 olr olt oll
  have s3 := e3.size
  have s2 := x2.size
  refine Wp.storeL S rfl rfl rfl fun h₅ S e5 => ?_
  have ilr := ilr.ext e5 (off1 (.inr (by exact ar102 olr)))
  have ill := ill.ext e5 (off1 (.inr (by exact ar103 olr oll)))
  have il5 := il4.ext e5 (off1 (.inr (Nat.lt_of_lt_of_le (show L < h₃.objs.size by exact ar135 olr olt oll hs6 hf2 s3 s1 hf1) hD')))
  obtain ⟨tg5, c25⟩ := E.C2 S
  refine Wp.cons (Wp.assign (Wp.callB (bi := "len") (fun Q q => Wp.nameB S T rfl rfl rfl rfl F.bLen (by decide) (by decide +kernel) q) (Wp.icons (Wp.lcomp rfl rfl rfl (by decide) rfl (Wp.nameL S rfl rfl rfl rfl (Wp.iterL r.hh il5 fun h₆' e6 src => ?_))))))
  refine ⟨_, _, out.take gap, fun x : Int => decide (x < gap), id, rfl, src, by rw [List.length_take]; exact ar136 hgap, fun C h' m₁ v t hC hn hm hv ex => ⟨?_, fun _ => ?_⟩, fun D2 h' hD2 il7 ex => ?_⟩
  · have c27 := cell_ext (ext_cells c25 e6) ex (off1 (.inl (by have := c25.lt; omega)))
    exact Wp.tests1 (Wp.tCmp (Wp.nameN rfl rfl hn hm (Wp.nameC rfl rfl rfl c27 (Wp.ltI (Wp.truB ⟨rfl, rfl⟩)))))
  · exact Wp.nameN rfl rfl hn hm ⟨⟨t, rfl⟩, rfl⟩
  · have ex' : Ext [] h₅ h' := ⟨Nat.le_trans e6.size ex.size, fun b o _ q => ex.get _ _ (nin_new q (Nat.le_refl _)) (e6.all _ _ q)⟩
    have S := S.grow ex'
    have ilr := ilr.ext ex' (fun q => nomatch q)
    have ill := ill.ext ex' (fun q => nomatch q)
    refine Wp.inil (Wp.lenL il7 (by rw [List.length_map]; have := List.length_filter_le (fun x : Int => decide (x < gap)) (out.take gap); rw [List.length_take] at this; exact ar137 this hgap) fun t8 => ?_)
    rw [List.length_map]
    refine Wp.storeL S rfl rfl rfl fun h₈ S e8 => ?_
    have ilr := ilr.ext e8 (off1 (.inr (by exact ar102 olr)))
    have ill := ill.ext e8 (off1 (.inr (by exact ar103 olr oll)))
    refine k h₈ _ out t8 S ilr ill po wo rfl fun x h1 h2 => ?_
    rw [upd_ne h2, upd_ne h1]
end
end Mine
end

section
set_option maxRecDepth 100000
namespace Mine
theorem sorted_uniq {l l' : List Int} (x : l.Pairwise (· ≤ ·)) (y : l'.Pairwise (· ≤ ·)) (p : l.Perm l') : l = l' :=
  List.Perm.eq_of_pairwise (fun a b _ _ h1 h2 => Int.le_antisymm h1 h2) x y p
theorem ramp_app (a : Int) : ∀ n k : Nat, ramp a 1 (n + k) = ramp a 1 n ++ ramp (a + n) 1 k := by
  intro n
  induction n generalizing a with
  | zero => intro k; simp [ramp]
  | succ n ih =>
    intro k
    rw [show n + 1 + k = (n + k) + 1 by exact ar377, ramp, ramp, ih, List.cons_append]
    congr 3
    push_cast
    exact ar384
theorem filter_len_take {A : List Int} {P : Int → Bool} (h : ∀ a ∈ A, P a = true) : (A.filter P).length = A.length := by
  rw [List.filter_eq_self.mpr h]
/-- how many of the first half are among the lesser half -/
theorem ahead_spec {bs ys zs out : List Int} {gap : Nat} (py : ys.Perm (ramp 0 1 gap)) (wy : ys.Pairwise (fun x y => atB bs x < atB bs y ∨ (atB bs x = atB bs y ∧ y < x)))
    (pz : zs.Perm (ramp gap 1 gap)) (wz : Stab (fun y => - atB bs y) zs) (po : out.Perm (ramp 0 1 (2 * gap))) (wo : Stab (atB bs) out) :
    ∃ t, t ≤ gap ∧ ((out.take gap).filter (fun x : Int => decide (x < gap))).length = t ∧ ∀ (i : Nat) a b, ys[i]? = some a → zs[i]? = some b → (atB bs a ≤ atB bs b ↔ i < t) := by
  have hyl : ys.length = gap := by rw [py.length_eq, ramp_len]
  have hzl : zs.length = gap := by rw [pz.length_eq, ramp_len]
  -- monotone values
  have my : ∀ {i j : Nat} {a b : Int}, i ≤ j → ys[i]? = some a → ys[j]? = some b → atB bs a ≤ atB bs b := by
    intro i j a b hij ha hb
    rcases Nat.lt_or_ge i j with h | h
    · obtain ⟨h1, e1⟩ := List.getElem?_eq_some_iff.mp ha
      obtain ⟨h2, e2⟩ := List.getElem?_eq_some_iff.mp hb
      have := List.pairwise_iff_getElem.mp wy i j h1 h2 h
      rw [e1, e2] at this
      exact ar366 this
    · obtain rfl : i = j := by exact ar385 hij h
      rw [ha] at hb; cases hb; exact Int.le_refl _
  have mz : ∀ {i j : Nat} {a b : Int}, i ≤ j → zs[i]? = some a → zs[j]? = some b → atB bs b ≤ atB bs a := by
    intro i j a b hij ha hb
    rcases Nat.lt_or_ge i j with h | h
    · obtain ⟨h1, e1⟩ := List.getElem?_eq_some_iff.mp ha
      obtain ⟨h2, e2⟩ := List.getElem?_eq_some_iff.mp hb
      have := List.pairwise_iff_getElem.mp wz i j h1 h2 h
      rw [e1, e2] at this
      dsimp only at this
      exact ar367 this
    · obtain rfl : i = j := by exact ar385 hij h
      rw [ha] at hb; cases hb; exact Int.le_refl _
  -- the threshold
  obtain ⟨t, ht1, ht2⟩ : ∃ t, t ≤ gap ∧ ∀ (i : Nat) a b, ys[i]? = some a → zs[i]? = some b → (atB bs a ≤ atB bs b ↔ i < t) := by
    have hw : (ramp 0 1 gap).Pairwise (fun a b => decide (atB bs (ys.getD b.toNat 0) ≤ atB bs (zs.getD b.toNat 0)) = true → decide (atB bs (ys.getD a.toNat 0) ≤ atB bs (zs.getD a.toNat 0)) = true) := by
      rw [List.pairwise_iff_getElem]
      intro i j hi hj hij
      rw [ramp_len] at hi hj
      have e1 := ramp_at 1 gap 0 i hi
      have e2 := ramp_at 1 gap 0 j hj
      rw [List.getElem?_eq_getElem (by rw [ramp_len]; exact hi)] at e1
      rw [List.getElem?_eq_getElem (by rw [ramp_len]; exact hj)] at e2
      rw [Option.some.inj e1, Option.some.inj e2]
      have k1 : ((0 : Int) + (i : Int) * 1).toNat = i := by exact ar386
      have k2 : ((0 : Int) + (j : Int) * 1).toNat = j := by exact ar386
      rw [k1, k2]
      have g : ∀ (l : List Int) (i : Nat), i < l.length → l[i]? = some (l.getD i 0) := fun l i h => by rw [List.getD_eq_getElem?_getD, List.getElem?_eq_getElem h]; rfl
      have a1 := my (Nat.le_of_lt hij) (g ys i (by exact ar50 hi hyl)) (g ys j (by exact ar50 hj hyl))
      have a2 := mz (Nat.le_of_lt hij) (g zs i (by exact ar50 hi hzl)) (g zs j (by exact ar50 hj hzl))
      simp only [decide_eq_true_eq]
      omega
    obtain ⟨p, p1, p2, p3⟩ := split_at hw
    rw [ramp_len] at p1
    refine ⟨p, p1, fun i a b ha hb => ?_⟩
    have hi : i < gap := by have := (List.getElem?_eq_some_iff.mp ha).1; exact ar387 this hyl
    have hr : (ramp 0 1 gap)[i]? = some (i : Int) := by rw [ramp_at 1 gap 0 i hi]; congr 1; exact ar388
    have ea : ys.getD (i : Int).toNat 0 = a := by rw [Int.toNat_natCast, List.getD_eq_getElem?_getD, ha]; rfl
    have eb : zs.getD (i : Int).toNat 0 = b := by rw [Int.toNat_natCast, List.getD_eq_getElem?_getD, hb]; rfl
    rcases Nat.lt_or_ge i p with h | h
    · have := p2 i _ h hr
      rw [ea, eb] at this
      simp at this
      exact ⟨fun _ => h, fun _ => this⟩
    · have := p3 i _ h hr
      rw [ea, eb] at this
      simp at this
      constructor
      · intro q; exact ar389 this q
      · intro q; exact ar390 q h
  refine ⟨t, ht1, ?_, ht2⟩
  -- the two halves of out
  have hsplit : ramp 0 1 (2 * gap) = ramp 0 1 gap ++ ramp gap 1 gap := by rw [Nat.two_mul, ramp_app]; simp
  have f1 : (ramp 0 1 gap).filter (fun x : Int => decide (x < gap)) = ramp 0 1 gap := List.filter_eq_self.mpr fun a ha => by have := ramp_mem ha; simp; exact ar391 this
  have f2 : (ramp gap 1 gap).filter (fun x : Int => decide (x < gap)) = [] := List.filter_eq_nil_iff.mpr fun a ha => by have := ramp_mem ha; simp; exact ar392 this
  have f3 : (ramp 0 1 gap).filter (fun x : Int => !decide (x < gap)) = [] := List.filter_eq_nil_iff.mpr fun a ha => by have := ramp_mem ha; simp; exact ar391 this
  have f4 : (ramp gap 1 gap).filter (fun x : Int => !decide (x < gap)) = ramp gap 1 gap := List.filter_eq_self.mpr fun a ha => by have := ramp_mem ha; simp; exact ar392 this
  have pU : (out.filter (fun x : Int => decide (x < gap))).Perm (ramp 0 1 gap) := by
    have := po.filter (fun x : Int => decide (x < gap))
    rw [hsplit, List.filter_append, f1, f2, List.append_nil] at this
    exact this
  have pW : (out.filter (fun x : Int => !decide (x < gap))).Perm (ramp gap 1 gap) := by
    have := po.filter (fun x : Int => !decide (x < gap))
    rw [hsplit, List.filter_append, f3, f4, List.nil_append] at this
    exact this
  have wU : Stab (atB bs) (out.filter (fun x : Int => decide (x < gap))) := List.Pairwise.filter _ wo
  have wW : Stab (atB bs) (out.filter (fun x : Int => !decide (x < gap))) := List.Pairwise.filter _ wo
  have pUW : out.Perm (out.filter (fun x : Int => decide (x < gap)) ++ out.filter (fun x : Int => !decide (x < gap))) := (List.filter_append_perm _ _).symm
  generalize out.filter (fun x : Int => decide (x < gap)) = U at pU wU pUW
  generalize out.filter (fun x : Int => !decide (x < gap)) = W at pW wW pUW
  have hUl : U.length = gap := by rw [pU.length_eq, ramp_len]
  have hWl : W.length = gap := by rw [pW.length_eq, ramp_len]
  have vU : U.map (atB bs) = ys.map (atB bs) := by
    refine sorted_uniq ?_ ?_ ((pU.trans py.symm).map _)
    · rw [List.pairwise_map]; exact wU.imp fun {a b} h => by exact ar366 h
    · rw [List.pairwise_map]; exact wy.imp fun {a b} h => by exact ar366 h
  have vW : W.map (atB bs) = (zs.map (atB bs)).reverse := by
    refine sorted_uniq ?_ ?_ (((pW.trans pz.symm).map _).trans (List.reverse_perm _).symm)
    · rw [List.pairwise_map]; exact wW.imp fun {a b} h => by exact ar366 h
    · rw [List.pairwise_reverse, List.pairwise_map]; exact wz.imp fun {a b} h => by dsimp only at h; exact ar367 h
  have uy : ∀ {i : Nat} {a : Int}, U[i]? = some a → ∃ a', ys[i]? = some a' ∧ atB bs a = atB bs a' := by
    intro i a ha
    have h1 : (U.map (atB bs))[i]? = some (atB bs a) := by rw [List.getElem?_map, ha]; rfl
    rw [vU, List.getElem?_map] at h1
    obtain ⟨a', e1, e2⟩ := Option.map_eq_some_iff.mp h1
    exact ⟨a', e1, e2.symm⟩
  have wz2 : ∀ {i : Nat} {b : Int}, W[i]? = some b → ∃ b', zs[gap - 1 - i]? = some b' ∧ atB bs b = atB bs b' := by
    intro i b hb
    have hi := (List.getElem?_eq_some_iff.mp hb).1
    have h1 : (W.map (atB bs))[i]? = some (atB bs b) := by rw [List.getElem?_map, hb]; rfl
    rw [vW, List.getElem?_reverse (by rw [List.length_map]; exact ar393 hi hzl hWl), List.length_map, List.getElem?_map, hzl] at h1
    obtain ⟨b', e1, e2⟩ := Option.map_eq_some_iff.mp h1
    exact ⟨b', e1, e2.symm⟩
  have Ub : ∀ a ∈ U, a < gap := fun a ha => by have := ramp_mem (pU.mem_iff.mp ha); exact ar391 this
  have Wb : ∀ a ∈ W, (gap : Int) ≤ a := fun a ha => (ramp_mem (pW.mem_iff.mp ha)).1
  have ex : ∀ (l : List Int) (i : Nat), i < l.length → ∃ a, l[i]? = some a := fun l i h => ⟨_, List.getElem?_eq_getElem h⟩
  have key := take_least (R := fun x y => atB bs x < atB bs y ∨ (atB bs x = atB bs y ∧ x < y)) (fun a b h1 h2 => by exact ar394 h1 h2) (out := out) (A := U.take t ++ W.take (gap - t)) (B := U.drop t ++ W.drop (gap - t)) wo ?_ ?_
  · have hA : (U.take t ++ W.take (gap - t)).length = gap := by rw [List.length_append, List.length_take, List.length_take]; exact ar395 hUl hWl
    rw [hA] at key
    have := (key.filter (fun x : Int => decide (x < gap))).length_eq
    rw [this, List.filter_append, List.length_append, filter_len_take (fun a ha => by simpa using Ub a (List.mem_of_mem_take ha)), List.filter_eq_nil_iff.mpr (fun a ha => by have := Wb a (List.mem_of_mem_take ha); simp; exact ar396 this), List.length_take]
    simp; exact ar397 ht1 hUl
  · refine pUW.trans ?_
    have e1 : U ++ W = (U.take t ++ U.drop t) ++ (W.take (gap - t) ++ W.drop (gap - t)) := by rw [List.take_append_drop, List.take_append_drop]
    rw [e1, List.append_assoc, List.append_assoc]
    refine List.Perm.append_left _ ?_
    rw [← List.append_assoc, ← List.append_assoc]
    exact List.Perm.append_right _ List.perm_append_comm
  · intro a ha b hb
    rcases List.mem_append.mp ha with ha | ha
    · obtain ⟨i, hi, ea⟩ := mem_take_at ha
      have hil := (List.getElem?_eq_some_iff.mp ea).1
      rcases List.mem_append.mp hb with hb | hb
      · obtain ⟨j, hj, eb⟩ := mem_drop_at hb
        obtain ⟨h1, e1⟩ := List.getElem?_eq_some_iff.mp ea
        obtain ⟨h2, e2⟩ := List.getElem?_eq_some_iff.mp eb
        have := List.pairwise_iff_getElem.mp wU i j h1 h2 (by exact ar156 hi hj)
        rw [e1, e2] at this
        exact this
      · obtain ⟨j, hj, eb⟩ := mem_drop_at hb
        have hjl := (List.getElem?_eq_some_iff.mp eb).1
        obtain ⟨a', ya, va⟩ := uy ea
        obtain ⟨b', zb, vb⟩ := wz2 eb
        obtain ⟨a1, ya1⟩ := ex ys (t - 1) (by exact ar398 ht1 hyl hi)
        obtain ⟨b1, zb1⟩ := ex zs (t - 1) (by exact ar398 ht1 hzl hi)
        have q1 := my (show i ≤ t - 1 by exact ar399 hi) ya ya1
        have q2 := (ht2 (t - 1) a1 b1 ya1 zb1).mpr (by exact ar400 hi)
        have q3 := mz (show gap - 1 - j ≤ t - 1 by exact ar401 hj) zb zb1
        have := Ub a (List.mem_of_getElem? ea)
        have := Wb b (List.mem_of_getElem? eb)
        exact ar402 this va vb (by assumption) q1 q2 q3
    · obtain ⟨i, hi, ea⟩ := mem_take_at ha
      have hil := (List.getElem?_eq_some_iff.mp ea).1
      rcases List.mem_append.mp hb with hb | hb
      · obtain ⟨j, hj, eb⟩ := mem_drop_at hb
        have hjl := (List.getElem?_eq_some_iff.mp eb).1
        obtain ⟨a', za, va⟩ := wz2 ea
        obtain ⟨b', yb, vb⟩ := uy eb
        obtain ⟨a1, ya1⟩ := ex ys t (by exact ar403 hj hyl hjl hUl)
        obtain ⟨b1, zb1⟩ := ex zs t (by exact ar403 hj hzl hjl hUl)
        have q1 := my (show t ≤ j by exact ar404 hj) ya1 yb
        have q2 := (ht2 t a1 b1 ya1 zb1)
        have q3 := mz (show t ≤ gap - 1 - i by exact ar405 hi) zb1 za
        exact ar406 q2 va vb q1 q3
      · obtain ⟨j, hj, eb⟩ := mem_drop_at hb
        obtain ⟨h1, e1⟩ := List.getElem?_eq_some_iff.mp ea
        obtain ⟨h2, e2⟩ := List.getElem?_eq_some_iff.mp eb
        have := List.pairwise_iff_getElem.mp wW i j h1 h2 (by exact ar407 hj hi)
        rw [e1, e2] at this
        exact this
end Mine
end

section
open PySem PySem.W PyProof.Rows
set_option maxRecDepth 100000
set_option maxHeartbeats 4000000
namespace Mine
/-- the differences of a first round, in rising order of the first half -/
noncomputable def diffs (bs ys zs : List Int) : List Int := List.zipWith (fun a b => 256 + atB bs b - atB bs a) ys zs
theorem diffs_at {bs ys zs : List Int} {i : Nat} {y : Int} (h : (diffs bs ys zs)[i]? = some y) : ∃ a b, ys[i]? = some a ∧ zs[i]? = some b ∧ y = 256 + atB bs b - atB bs a := by
  unfold diffs at h
  rw [List.getElem?_zipWith_eq_some] at h
  obtain ⟨a, b, h1, h2, h3⟩ := h
  exact ⟨a, b, h1, h2, h3.symm⟩
section
variable {c : Cx} {A : Around} {B h₆ h : Heap} {mg mb m : Str → Option Value} {L lf lb lr ll gap : Nat} {fs bs : List Int}
theorem keyNon (T : TopAt B mg mb) (F : Fns B mg) : KeyOk c B h [] (.ref 28) 1 (fun _ => True) (fun y v => LtIs c v (.bool true) (!decide (y ≥ 256))) := fun A h' y t r G e _ =>
  (isNonterminal_spec T F G r y t).mono fun v h₂ ⟨ev, q⟩ => ⟨by
    subst ev
    have := LtIs.bools (c := c) (decide (y ≥ 256)) true
    cases hb : decide (y ≥ 256) <;> rw [hb] at this <;> exact this, q⟩
theorem keyTer (T : TopAt B mg mb) (F : Fns B mg) : KeyOk c B h [] (.ref 21) 1 (fun _ => True) (fun y v => LtIs c v (.bool true) (!decide (y < 256))) := fun A h' y t r G e _ =>
  (isTerminal_spec T F G r y t).mono fun v h₂ ⟨ev, q⟩ => ⟨by
    subst ev
    have := LtIs.bools (c := c) (decide (y < 256)) true
    cases hb : decide (y < 256) <;> rw [hb] at this <;> exact this, q⟩
theorem cutPlace (T : TopAt B mg mb) (F : Fns B mg) (E : CutE B h₆ L lf lb lr ll fs bs gap) (r : Room A 19) (S : Fm B h₆ (cutW lr ll) L m h) {ys zs : List Int} (ilr : IL h lr ys) (ill : IL h ll zs) {start odd t : Nat} {ts to ta : Tok}
    (mf : m "figures" = some (.ref lf)) (ms : m "start" = some (.int start ts)) (mo : m "odd" = some (.int odd to)) (ma : m "ahead" = some (.int t ta)) (ht : t ≤ gap) (hod : odd = 0 ∨ odd = 1)
    (hst : start + gap ≤ fs.length) (hfl : fs.length ≤ 100) (hpart : (fs.drop start).take gap = if odd = 1 then (diffs bs ys zs).reverse else diffs bs ys zs) (hyl : ys.length = gap) (hzl : zs.length = gap)
    (hth : ∀ (i : Nat) a b, ys[i]? = some a → zs[i]? = some b → (atB bs a ≤ atB bs b ↔ i < t)) {rest : List Stmt} {Q : Flow → Heap → Prop}
    (k : ∀ h' m', Fm B h₆ (cutW lr ll) L m' h' → IL h' lr ys → IL h' ll zs → (∀ x : Str, x ≠ "place" → m' x = m x) → Wp c A (execs rest (cutEnv L)) Q h') :
    Wp c A (execs ((fBody (stm 20)).drop 7 |>.take 2 |> (· ++ rest)) (cutEnv L)) Q h := by
  have hgap := E.g4
  have olr := E.olr
  have oll := E.oll
  have hs6 := S.size
  have olt := E.lt
  have hdl : (diffs bs ys zs).length = gap := by unfold diffs; rw [List.length_zipWith, hyl, hzl, Nat.min_self]
  have fat : ∀ {i : Nat} {y : Int}, i < gap → fs[start + i]? = some y → ∃ j a b, j < gap ∧ (if odd = 1 then j = gap - 1 - i else j = i) ∧ ys[j]? = some a ∧ zs[j]? = some b ∧ y = 256 + atB bs b - atB bs a := by
    intro i y hi e
    have e2 : ((fs.drop start).take gap)[i]? = some y := by rw [List.getElem?_take_of_lt hi, List.getElem?_drop]; exact e
    rw [hpart] at e2
    rcases hod with rfl | rfl
    · rw [if_neg (by decide)] at e2
      obtain ⟨a, b, h1, h2, h3⟩ := diffs_at e2
      exact ⟨i, a, b, hi, by simp, h1, h2, h3⟩
    · rw [if_pos rfl, List.getElem?_reverse (by rw [hdl]; exact hi), hdl] at e2
      obtain ⟨a, b, h1, h2, h3⟩ := diffs_at e2
      exact ⟨gap - 1 - i, a, b, by exact ar55 hi, by simp, h1, h2, h3⟩
  obtain ⟨fo, fd', hfo, hfd⟩ := F.f18.there S.gg (by decide)
  obtain ⟨tg, c2⟩ := E.C2 S
  refine Wp.cons (Wp.assign (Wp.callFk (o := fo) (fd := fd') (fun Q q => Wp.nameG S T rfl rfl rfl F.n18 q) (Wp.icons (Wp.nameL S rfl rfl rfl mf (Wp.icons (Wp.cBool (Wp.icons (Wp.nameL S rfl rfl rfl ms (Wp.icons (Wp.bin (Wp.nameL S rfl rfl rfl ms (Wp.nameC rfl rfl rfl c2 (Wp.addI fun t1 => Wp.inil (Wp.ifE (Wp.tVal (Wp.nameL S rfl rfl rfl mo (Wp.truI ?_)))))))))))))))))
  have rest' : ∀ (g : Int → Bool) (f : Nat), (∃ o fd, h.get? f = some o ∧ o.data = .func fd) → KeyOk c B h [] (.ref f) 1 (fun _ => True) (fun y v => LtIs c v (.bool true) (g y)) → (∀ (i : Nat) y, i < gap → fs[start + i]? = some y → g y = decide (i < (if odd = 1 then gap - t else t))) →
      Wp c A (call (.ref 113) [.ref lf, .bool true, .int start ts, .int ((start : Int) + gap) t1] [("key", .ref f)]) (fun v h' => Wp c A (storeName (cutEnv L) "place" v) (fun _ h₂ => Wp c A (execs ((fBody (stm 20)).drop 8 |>.take 1 |> (· ++ rest)) (cutEnv L)) Q h₂) h') h := by
    intro g f hf hk hg
    have esg : (start : Int) + gap = ((start + gap : Nat) : Int) := by exact ar138
    rw [esg]
    have hp : (if odd = 1 then gap - t else t) ≤ gap := by split <;> omega
    generalize hpe : (if odd = 1 then gap - t else t) = p at hg hp
    refine (bisectL_spec (lo := start) (hi := start + gap) (p := start + p) T F S.gg (r.le (by decide)) (E.F1 S) (by exact ar139 hfl) hf hk (.inr ⟨t1, rfl, hst⟩) (by exact ar140) (by exact ar141 hp) (fun _ _ _ _ _ => trivial) (fun i y h1 h2 e => ?_) (fun i y h1 h2 e => ?_)).mono fun v h₂ ⟨⟨tp, ev⟩, e2, G2⟩ => ?_
    · rw [hg (i - start) y (by exact ar142 h2 h1 hp) (by rw [show start + (i - start) = i by exact ar143 h1]; exact e)]
      exact decide_eq_true (by exact ar144 h2 h1)
    · rw [hg (i - start) y (by exact ar145 h1 h2) (by rw [show start + (i - start) = i by exact ar146 h1]; exact e)]
      exact decide_eq_false (by exact ar147 h1)
    subst ev
    have S := S.grow e2
    have ilr := ilr.ext e2 (fun q => nomatch q)
    have ill := ill.ext e2 (fun q => nomatch q)
    refine Wp.storeL S rfl rfl rfl fun h₃ S e3 => ?_
    have ilr := ilr.ext e3 (off1 (.inr (by exact ar102 olr)))
    have ill := ill.ext e3 (off1 (.inr (by exact ar103 olr oll)))
    obtain ⟨tg3, c23⟩ := E.C2 S
    refine Wp.cons (Wp.ifN (Wp.tCmp (Wp.nameL S rfl rfl rfl rfl (Wp.bin (Wp.nameL S rfl rfl rfl ms (Wp.ifE (Wp.tVal (Wp.nameL S rfl rfl rfl mo (Wp.truI ?_)))))))))
    have fin : ∀ x t', x = (p : Int) → Wp c A (binaryOp .Add (.int start ts) (.int x t')) (fun b h₂ => Wp c A (compareOp .NotEq (.int ((start + p : Nat) : Int) tp) b) (fun v h₃ => Wp c A (truthy v) (fun b h' => b = false ∧ Wp c A (execs rest (cutEnv L)) Q h') h₃) h₂) h₃ := by
      intro x t' ex
      subst ex
      refine Wp.addI fun t5 => Wp.neI (Wp.truB ⟨by simp, k h₃ _ S ilr ill fun x hx => ?_⟩)
      rw [upd_ne hx]
    rcases hod with rfl | rfl
    · rw [if_neg (by simp)]
      exact Wp.nameL S rfl rfl rfl ma (fin _ _ (by rw [← hpe]; simp))
    · rw [if_pos (by simp)]
      exact Wp.bin (Wp.nameC rfl rfl rfl c23 (Wp.nameL S rfl rfl rfl ma (Wp.subI fun t6 => fin _ _ (by rw [← hpe]; simp; exact ar148 ht))))
  rcases hod with rfl | rfl
  · rw [if_neg (by simp)]
    refine Wp.nameG S T rfl rfl rfl F.n3 ⟨⟨hfo, hfd⟩, ?_⟩
    refine rest' _ 21 (F.f3.there S.gg (by decide)) (keyTer T F) fun i y hi e => ?_
    obtain ⟨j, a, b, hj, hij, ha, hb, rfl⟩ := fat hi e
    have := hth j a b ha hb
    simp at hij ⊢
    subst hij
    rw [← decide_not, decide_eq_decide]
    exact ar149 this
  · rw [if_pos (by simp)]
    refine Wp.nameG S T rfl rfl rfl F.n4 ⟨⟨hfo, hfd⟩, ?_⟩
    refine rest' _ 28 (F.f4.there S.gg (by decide)) (keyNon T F) fun i y hi e => ?_
    obtain ⟨j, a, b, hj, hij, ha, hb, rfl⟩ := fat hi e
    have := hth j a b ha hb
    simp at hij ⊢
    subst hij
    rw [← decide_not, decide_eq_decide]
    exact ar150 this hi
end
end Mine
end

section
open PySem PySem.W PyProof.Rows
set_option maxRecDepth 100000
set_option maxHeartbeats 4000000
namespace Mine
section
variable {c : Cx} {A : Around} {B h₆ h : Heap} {mg mb m : Str → Option Value} {L lf lb lr ll gap : Nat} {fs bs : List Int}
theorem cutPart (T : TopAt B mg mb) (F : Fns B mg) (E : CutE B h₆ L lf lb lr ll fs bs gap) (r : Room A 19) (S : Fm B h₆ (cutW lr ll) L m h) {ys zs : List Int} (ilr : IL h lr ys) (ill : IL h ll zs) {start odd : Nat} {ts to : Tok}
    (mf : m "figures" = some (.ref lf)) (ms : m "start" = some (.int start ts)) (mo : m "odd" = some (.int odd to)) (mr : m "rising" = some (.ref lr)) (ml : m "falling" = some (.ref ll)) (hod : odd = 0 ∨ odd = 1)
    (hst : start + gap ≤ fs.length) (hfl : fs.length ≤ 100) (hpart : (fs.drop start).take gap = if odd = 1 then (diffs bs ys zs).reverse else diffs bs ys zs) (py : ys.Perm (ramp 0 1 gap)) (pz : zs.Perm (ramp gap 1 gap))
    {rest : List Stmt} {Q : Flow → Heap → Prop}
    (k : ∀ h' m' lp, h₆.objs.size ≤ lp → Fm B h₆ (cutW lr ll) L m' h' → IL h' lr ys → IL h' ll zs → IL h' lp (diffs bs ys zs) → m' "part" = some (.ref lp) → (∀ x : Str, x ≠ "part" → m' x = m x) → Wp c A (execs rest (cutEnv L)) Q h') :
    Wp c A (execs ((fBody (stm 20)).drop 9 |>.take 3 |> (· ++ rest)) (cutEnv L)) Q h := by
  have hgap := E.g4
  have hlen := E.len
  have olr := E.olr
  have oll := E.oll
  have hs6 := S.size
  have olt := E.lt
  have hyl : ys.length = gap := by rw [py.length_eq, ramp_len]
  have hzl : zs.length = gap := by rw [pz.length_eq, ramp_len]
  have hdl : (diffs bs ys zs).length = gap := by unfold diffs; rw [List.length_zipWith, hyl, hzl, Nat.min_self]
  obtain ⟨tg, c2⟩ := E.C2 S
  obtain ⟨vo, hvo, hio⟩ := (E.F1 S).isList
  have esg : (start : Int) + gap = ((start + gap : Nat) : Int) := by exact ar138
  refine Wp.cons (Wp.assign (Wp.slice (Wp.nameL S rfl rfl rfl mf (Wp.partS (Wp.nameL S rfl rfl rfl ms (Wp.partS (Wp.bin (Wp.nameL S rfl rfl rfl ms (Wp.nameC rfl rfl rfl c2 (Wp.addI fun t1 => ?_))))))))))
  rw [esg]
  refine ⟨lf, vo, fs, _, _, _, rfl, hvo, hio, by exact ar151 hfl, .int _ _, .int _ _, pick_run hio (Nat.le_add_right start gap) hst, fun lp h₁ hlp ilp e1 => ?_⟩
  rw [Nat.add_sub_cancel_left, hpart] at ilp
  obtain ⟨lp, rfl⟩ : ∃ l : Nat, l = lp := ⟨lp, rfl⟩
  have hlp6 : h₆.objs.size ≤ lp := Nat.le_trans hs6 hlp
  have S := S.grow e1
  have ilr := ilr.ext e1 (fun q => nomatch q)
  have ill := ill.ext e1 (fun q => nomatch q)
  refine Wp.storeL S rfl rfl rfl fun h₂ S e2 => ?_
  have ilr := ilr.ext e2 (off1 (.inr (by exact ar102 olr)))
  have ill := ill.ext e2 (off1 (.inr (by exact ar103 olr oll)))
  have ilp := ilp.ext e2 (off1 (.inr (by exact ar152 olr olt oll hlp6)))
  -- the comparison
  have cmp : ∀ h₃ m₃, Fm B h₆ (cutW lr ll) L m₃ h₃ → IL h₃ lr ys → IL h₃ ll zs → IL h₃ lp (diffs bs ys zs) → m₃ "part" = some (.ref lp) → (∀ x : Str, x ≠ "part" → m₃ x = m x) →
      Wp c A (execs ((fBody (stm 20)).drop 11 |>.take 1 |> (· ++ rest)) (cutEnv L)) Q h₃ := by
    intro h₃ m₃ S ilr ill ilp mp hm
    refine Wp.cons (Wp.ifN (Wp.tCmp (Wp.nameL S rfl rfl rfl mp (Wp.lcompZ r.hh rfl rfl rfl (by decide) rfl rfl (by decide) (Wp.callT (ty := "zip") (fun Q q => Wp.nameB S T rfl rfl rfl rfl F.bZip (by decide) (by decide +kernel) q) (Wp.icons (Wp.nameL S rfl rfl rfl ((hm _ (by decide)).trans mr) (Wp.icons (Wp.nameL S rfl rfl rfl ((hm _ (by decide)).trans ml) (Wp.inil (Wp.zipL r.hh ilr ill fun z h₄ src => ?_)))))))))))
    refine ⟨h₃, z, ys, zs, fun a b => 256 + atB bs b - atB bs a, rfl, src, by exact ar153 hyl hgap, fun C h' m₁ v u t t' hC hn hx hy hv hu ex => ?_, fun D h' hD ilD ex => ?_⟩
    · have c1 := ext_cells (E.C1 S) ex
      have ib := (E.B1 S).ext ex (fun q => nomatch q)
      have hv := ramp_mem (py.mem_iff.mp hv)
      have hu := ramp_mem (pz.mem_iff.mp hu)
      exact Wp.bin (Wp.bin (Wp.cInt fun t2 => Wp.item (Wp.nameC rfl rfl rfl c1 (Wp.nameN rfl rfl hn hy ⟨lb, bs, u, t', atB bs u, rfl, rfl, ib, by exact ar127 hu, atB_at (by exact ar127 hu) (by exact ar128 hu hlen), by exact ar107 hlen hgap, fun t3 => Wp.addI fun t4 =>
        Wp.item (Wp.nameC rfl rfl rfl c1 (Wp.nameN rfl rfl hn hx ⟨lb, bs, v, t, atB bs v, rfl, rfl, ib, by exact ar154 hv, atB_at (by exact ar154 hv) (by exact ar120 hv hlen), by exact ar107 hlen hgap, fun t5 => Wp.subI fun t6 => ⟨⟨t6, rfl⟩, rfl⟩⟩))⟩))))
    · have S := S.grow ex
      refine Wp.neL (ilp.ext ex (fun q => nomatch q)) ilD (by have := r.u; exact ar125 this) (Wp.truB ⟨by simp [diffs], k h' m₃ lp hlp6 S (ilr.ext ex (fun q => nomatch q)) (ill.ext ex (fun q => nomatch q)) (ilp.ext ex (fun q => nomatch q)) mp hm⟩)
  rcases hod with rfl | rfl
  · refine Wp.cons (Wp.ifN (Wp.tVal (Wp.nameL S rfl rfl rfl mo (Wp.truI ⟨by simp, ?_⟩))))
    rw [if_neg (by decide)] at ilp
    exact cmp h₂ _ S ilr ill ilp rfl fun x hx => upd_ne hx
  · refine Wp.cons (Wp.ifT (Wp.tVal (Wp.nameL S rfl rfl rfl mo (Wp.truI ⟨by simp, ?_⟩))))
    rw [if_pos rfl] at ilp
    obtain ⟨vq, nq, hoq, hiq⟩ := id ilp
    refine Wp.cons (Wp.expr (Wp.meth0 (Wp.nameL S rfl rfl rfl rfl ⟨"list.reverse", Wp.gmL hoq PySem.F.slot_list_reverse PySem.F.type_list_reverse, Wp.reverseL ilp (by rw [List.length_reverse]; exact ar153 hdl hgap) (fun vs z => z.rev) fun h₃ il3 x3 => ⟨rfl, Wp.nil ?_⟩⟩)))
    have G3 : GG B h₃ := S.gg.turn x3 hoq (fun vs => by nofun) (E.newB lp (by exact ar119 olr olt oll hlp6))
    have S := S.ext' x3 G3 (E.new hlp6) (off1 (.inl (by exact ar152 olr olt oll hlp6)))
    rw [List.reverse_reverse] at il3
    exact cmp h₃ _ S (ilr.ext x3 (off1 (.inl (by exact ar155 olt oll hlp6)))) (ill.ext x3 (off1 (.inl (by exact ar156 olt hlp6)))) il3 rfl fun x hx => upd_ne hx
end
end Mine
end

section
open PySem PySem.W PyProof.Rows
set_option maxRecDepth 100000
set_option maxHeartbeats 4000000
namespace Mine
section
variable {c : Cx} {A : Around} {B h₆ h : Heap} {mg mb m : Str → Option Value} {L lf lb lr ll gap : Nat} {fs bs : List Int}
/-- the last loop of _law_cut -/
inductive EndJ (B h₆ : Heap) (L lr ll lp : Nat) (ys zs ds : List Int) (St : Nat → Heap → Prop) (m : Str → Option Value) (i : Nat) (h' : Heap) : Prop
  | mk (m' : Str → Option Value) (S : Fm B h₆ (cutW lr ll) L m' h') (st : St i h') (hm : ∀ x : Str, x ≠ "i" → m' x = m x) (ilr : IL h' lr ys) (ill : IL h' ll zs) (ilp : IL h' lp ds) : EndJ B h₆ L lr ll lp ys zs ds St m i h'
theorem EndJ.st {B h₆ : Heap} {L lr ll lp : Nat} {ys zs ds : List Int} {St : Nat → Heap → Prop} {m : Str → Option Value} {i : Nat} {h' : Heap} (x : EndJ B h₆ L lr ll lp ys zs ds St m i h') : St i h' := by
  obtain ⟨_, _, s⟩ := x; exact s
theorem cutEnd (T : TopAt B mg mb) (F : Fns B mg) (E : CutE B h₆ L lf lb lr ll fs bs gap) (r : Room A 19) (S : Fm B h₆ (cutW lr ll) L m h) {ys zs : List Int} (ilr : IL h lr ys) (ill : IL h ll zs) {t lp : Nat} {ta : Tok}
    (hlp : h₆.objs.size ≤ lp) (ilp : IL h lp (diffs bs ys zs)) (mp : m "part" = some (.ref lp)) (mr : m "rising" = some (.ref lr)) (ml : m "falling" = some (.ref ll)) (ma : m "ahead" = some (.int t ta))
    (py : ys.Perm (ramp 0 1 gap)) (pz : zs.Perm (ramp gap 1 gap)) (hth : ∀ (i : Nat) a b, ys[i]? = some a → zs[i]? = some b → (atB bs a ≤ atB bs b ↔ i < t))
    {Q : Flow → Heap → Prop} (k : ∀ h' m', Fm B h₆ (cutW lr ll) L m' h' → Q (.ret (.bool true)) h') :
    Wp c A (execs ((fBody (stm 20)).drop 12) (cutEnv L)) Q h := by
  have hgap := E.g4
  have hlen := E.len
  have olr := E.olr
  have oll := E.oll
  have hs6 := S.size
  have olt := E.lt
  have hyl : ys.length = gap := by rw [py.length_eq, ramp_len]
  have hzl : zs.length = gap := by rw [pz.length_eq, ramp_len]
  have hdl : (diffs bs ys zs).length = gap := by unfold diffs; rw [List.length_zipWith, hyl, hzl, Nat.min_self]
  obtain ⟨tg, c2⟩ := E.C2 S
  have hlph : lp < h.objs.size := ilp.lt
  refine Wp.cons (Wp.forS (Wp.callT (ty := "range") (fun Q q => Wp.nameB S T rfl rfl rfl rfl F.bRange (by decide) (by decide +kernel) q) (Wp.icons (Wp.nameC rfl rfl rfl c2 (Wp.inil (Wp.range1 fun h₁ t1 t2 t3 hr e1 s1 => ?_))))))
  have S := S.grow e1
  have ilr := ilr.ext e1 (fun q => nomatch q)
  have ill := ill.ext e1 (fun q => nomatch q)
  have ilp := ilp.ext e1 (fun q => nomatch q)
  refine Wp.iterR (n := gap) r.hh hr (small1 (a := 0) (by decide) (by exact ar122 hgap)) (by rw [rangeSize_one]; split <;> omega) fun h₂ e2 src => ?_
  have S := S.grow e2
  have ilr := ilr.ext e2 (fun q => nomatch q)
  have ill := ill.ext e2 (fun q => nomatch q)
  have ilp := ilp.ext e2 (fun q => nomatch q)
  generalize hI : h₁.objs.size = I at src
  obtain ⟨St, W, st, hIlt, hfp, fr, _, hno⟩ := src
  rw [ramp_len] at W
  have hI6 : h₆.objs.size ≤ I := by exact ar157 hs6 s1 hI
  have hLI : L < I := by exact ar158 olr olt oll hlp hlph s1 hI
  refine Cp.forIt W (EndJ B h₆ L lr ll lp ys zs (diffs bs ys zs) St m) ⟨m, S, st, fun _ _ => rfl, ilr, ill, ilp⟩ (fun i h' q => q.st) ?_ ?_
  · rintro i h' v h'' hi ⟨m', S, st, hm, ilr, ill, ilp⟩ ⟨n, tn, hn, rfl⟩ st' ex
    rw [ramp_at 1 gap 0 i hi] at hn
    obtain rfl : n = i := by have := Option.some.inj hn; exact ar98 this
    obtain ⟨oI, hoI, noI⟩ := hno i h' st
    have S := S.ext' ex (S.gg.turnI ex hoI noI (E.newB I (by exact ar99 hLI)) (E.tL I (by exact ar99 hLI))) (E.new hI6) (off1 (.inl hLI))
    have ilr := ilr.ext ex (off1 (.inl (by exact ar159 olt oll hlp hlph s1 hI)))
    have ill := ill.ext ex (off1 (.inl (by exact ar160 olt hlp hlph s1 hI)))
    have ilp := ilp.ext ex (off1 (.inl (by exact ar161 hlph s1 hI)))
    refine Wp.absB fun Qy ky => ?_
    refine Wp.asg (Wp.storeL S rfl rfl rfl fun g1 S x1 => ?_)
    have ilr := ilr.ext x1 (off1 (.inr (by exact ar102 olr)))
    have ill := ill.ext x1 (off1 (.inr (by exact ar103 olr oll)))
    have ilp := ilp.ext x1 (off1 (.inr (by exact ar152 olr olt oll hlp)))
    have st1 : St (i + 1) g1 := fr _ _ _ st' fun b hb o e => x1.get _ _ (by rw [List.mem_singleton.mp hb]; exact off1 (.inr hLI)) e
    have mp := (hm "part" (by decide)).trans mp
    have mr := (hm "rising" (by decide)).trans mr
    have ml := (hm "falling" (by decide)).trans ml
    have ma := (hm "ahead" (by decide)).trans ma
    obtain ⟨a, ya⟩ : ∃ a, ys[i]? = some a := ⟨_, List.getElem?_eq_getElem (by exact ar50 hi hyl)⟩
    obtain ⟨b, zb⟩ : ∃ b, zs[i]? = some b := ⟨_, List.getElem?_eq_getElem (by exact ar50 hi hzl)⟩
    have hd : (diffs bs ys zs)[i]? = some (256 + atB bs b - atB bs a) := by unfold diffs; rw [List.getElem?_zipWith, ya, zb]
    have hab := hth i a b ya zb
    have hav := ramp_mem (py.mem_iff.mp (List.mem_of_getElem? ya))
    have hbv := ramp_mem (pz.mem_iff.mp (List.mem_of_getElem? zb))
    have ii : ((i : Nat) : Int).toNat = i := Int.toNat_natCast i
    -- ISNONTERMINAL and ISTERMINAL
    obtain ⟨fo, fd', hfo, hfd⟩ := F.f4.there S.gg (by decide)
    refine Wp.cons (Wp.ifN (Wp.tNot (Wp.tAnd2 (Wp.tCmp (Wp.callF (o := fo) (fd := fd') (fun Q q => Wp.nameG S T rfl rfl rfl F.n4 q) (Wp.icons (Wp.item (Wp.nameL S rfl rfl rfl mp (Wp.nameL S rfl rfl rfl rfl ⟨lp, _, i, tn, _, rfl, rfl, ilp, by exact ar32, by rw [ii]; exact hd, by exact ar162 hdl hgap, fun u1 => Wp.inil ⟨⟨hfo, hfd⟩, ?_⟩⟩)))))))))
    refine (isNonterminal_spec T F S.gg (r.le (by decide)) _ u1).mono fun v g2 ⟨ev, x2, G2⟩ => ?_
    subst ev
    have S := S.grow x2
    have ilr := ilr.ext x2 (fun q => nomatch q)
    have ill := ill.ext x2 (fun q => nomatch q)
    have ilp := ilp.ext x2 (fun q => nomatch q)
    have st2 : St (i + 1) g2 := fr _ _ _ st1 fun b hb o e => x2.all _ _ e
    refine Wp.cmp (Wp.nameL S rfl rfl rfl rfl (Wp.nameL S rfl rfl rfl ma (Wp.ltI (Wp.isB (Wp.truB ?_)))))
    have q1 : (decide ((256 + atB bs b - atB bs a) ≥ 256) == decide ((i : Int) < (t : Int))) = true := by
      rw [beq_iff_eq, decide_eq_decide]; exact ar163 hab
    rw [q1, if_pos rfl]
    obtain ⟨fo, fd', hfo, hfd⟩ := F.f3.there S.gg (by decide)
    refine Wp.tCmp (Wp.callF (o := fo) (fd := fd') (fun Q q => Wp.nameG S T rfl rfl rfl F.n3 q) (Wp.icons (Wp.item (Wp.nameL S rfl rfl rfl mp (Wp.nameL S rfl rfl rfl rfl ⟨lp, _, i, tn, _, rfl, rfl, ilp, by exact ar32, by rw [ii]; exact hd, by exact ar162 hdl hgap, fun u2 => Wp.inil ⟨⟨hfo, hfd⟩, ?_⟩⟩)))))
    refine (isTerminal_spec T F S.gg (r.le (by decide)) _ u2).mono fun v g3 ⟨ev, x3, G3⟩ => ?_
    subst ev
    have S := S.grow x3
    have ilr := ilr.ext x3 (fun q => nomatch q)
    have ill := ill.ext x3 (fun q => nomatch q)
    have ilp := ilp.ext x3 (fun q => nomatch q)
    have st3 : St (i + 1) g3 := fr _ _ _ st2 fun b hb o e => x3.all _ _ e
    refine Wp.cmp (Wp.nameL S rfl rfl rfl rfl (Wp.nameL S rfl rfl rfl ma (Wp.geI (Wp.isB (Wp.truB ?_)))))
    have q2 : (decide ((256 + atB bs b - atB bs a) < 256) == decide ((i : Int) ≥ (t : Int))) = true := by
      rw [beq_iff_eq, decide_eq_decide]; exact ar164 hab
    rw [q2]
    refine ⟨rfl, ?_⟩
    -- ISEOF
    obtain ⟨fo, fd', hfo, hfd⟩ := F.f5.there S.gg (by decide)
    obtain ⟨tN, hN⟩ := F.cNT
    refine Wp.cons (Wp.ifN (Wp.tCmp (Wp.callF (o := fo) (fd := fd') (fun Q q => Wp.nameG S T rfl rfl rfl F.n5 q) (Wp.icons (Wp.bin (Wp.item (Wp.nameL S rfl rfl rfl mp (Wp.nameL S rfl rfl rfl rfl ⟨lp, _, i, tn, _, rfl, rfl, ilp, by exact ar32, by rw [ii]; exact hd, by exact ar162 hdl hgap, fun u3 => Wp.nameG S T rfl rfl rfl hN (Wp.subI fun u4 => Wp.inil ⟨⟨hfo, hfd⟩, ?_⟩)⟩))))))))
    refine (isEof_spec T F S.gg (r.le (by decide)) _ u4).mono fun v g4 ⟨ev, x4, G4⟩ => ?_
    subst ev
    have S := S.grow x4
    have ilr := ilr.ext x4 (fun q => nomatch q)
    have ill := ill.ext x4 (fun q => nomatch q)
    have ilp := ilp.ext x4 (fun q => nomatch q)
    have st4 : St (i + 1) g4 := fr _ _ _ st3 fun b hb o e => x4.all _ _ e
    have c1 := E.C1 S
    have ib := E.B1 S
    refine Wp.cmp (Wp.item (Wp.nameC rfl rfl rfl c1 (Wp.item (Wp.nameL S rfl rfl rfl mr (Wp.nameL S rfl rfl rfl rfl ⟨lr, ys, i, tn, a, rfl, rfl, ilr, by exact ar32, by rw [ii]; exact ya, by exact ar162 hyl hgap, fun u5 => ⟨lb, bs, a, u5, atB bs a, rfl, rfl, ib, by exact ar154 hav, atB_at (by exact ar154 hav) (by exact ar120 hav hlen), by exact ar107 hlen hgap, fun u6 => ?_⟩⟩)))))
    refine Wp.item (Wp.nameC rfl rfl rfl c1 (Wp.item (Wp.nameL S rfl rfl rfl ml (Wp.nameL S rfl rfl rfl rfl ⟨ll, zs, i, tn, b, rfl, rfl, ill, by exact ar32, by rw [ii]; exact zb, by exact ar162 hzl hgap, fun u7 => ⟨lb, bs, b, u7, atB bs b, rfl, rfl, ib, by exact ar127 hbv, atB_at (by exact ar127 hbv) (by exact ar128 hbv hlen), by exact ar107 hlen hgap, fun u8 => Wp.eqI (Wp.isNotB (Wp.truB ⟨?_, Wp.nil ?_⟩))⟩⟩))))
    · have : ((256 + atB bs b - atB bs a - 256 == 0) == (atB bs a == atB bs b)) = true := by
        rw [beq_iff_eq, Bool.eq_iff_iff, beq_iff_eq, beq_iff_eq]; exact ar165
      rw [this]; rfl
    · exact ky .next _ ⟨_, S, st4, fun x hx => by rw [upd_ne hx]; exact hm x hx, ilr, ill, ilp⟩
  · rintro h' h'' ⟨m', S, st, hm, ilr, ill, ilp⟩ ex
    obtain ⟨oI, hoI, noI⟩ := hno gap h' st
    have S := S.ext' ex (S.gg.turnI ex hoI noI (E.newB I (by exact ar99 hLI)) (E.tL I (by exact ar99 hLI))) (E.new hI6) (off1 (.inl hLI))
    exact Wp.cons (Wp.ret (Wp.cBool (k h'' m' S)))
end
end Mine
end

section
open PySem PySem.W PyProof.Rows
set_option maxRecDepth 100000
set_option maxHeartbeats 4000000
namespace Mine
section
variable {c : Cx} {A : Around} {B h : Heap} {mg mb : Str → Option Value}
theorem cut_spec (T : TopAt B mg mb) (F : Fns B mg) (G : GG B h) (r : Room A 20) {lf lb : Nat} {fs bs : List Int} {gap start odd : Nat} {ts to : Tok} (hf : IL h lf fs) (hb : IL h lb bs) (hg : bs.length = 2 * gap) (hg4 : gap ≤ 4) (hod : odd = 0 ∨ odd = 1) (hst : start + gap ≤ fs.length) (hfl : fs.length ≤ 100)
    (hpart : ∀ ys zs, ys.Perm (ramp 0 1 gap) → ys.Pairwise (fun x y => atB bs x < atB bs y ∨ (atB bs x = atB bs y ∧ y < x)) → zs.Perm (ramp gap 1 gap) → Stab (fun y => - atB bs y) zs → (fs.drop start).take gap = if odd = 1 then (diffs bs ys zs).reverse else diffs bs ys zs) :
    Wp c A (call (.ref 118) [.ref lf, .ref lb, .int start ts, .int odd to] []) (fun v h' => v = .bool true ∧ Ext tabs h h' ∧ GG B h') h := by
  refine Wp.enterC (n := 19) T G F.f20 r (by decide) (by decide) (binds := [("figures", .ref lf), ("block", .ref lb), ("start", .int start ts), ("odd", .int odd to)]) (fun doc pm => rfl) rfl rfl rfl rfl (fun L h₁ hL S C r' => ?_)
  have S := S tabs
  refine Wp.abs fun Qz kz => ?_
  have c1 := C "block" (L + 1) rfl
  have c2 := C "gap" (L + 2) rfl
  have lt2 : L + 2 < h₁.objs.size := c2.lt
  have tb : ∀ {h' : Heap} {m : Str → Option Value}, Fm B h tabs L m h' → Ext tabs h h' := fun S => S.out (new_none hL)
  have hlbL : lb < L := Nat.lt_of_lt_of_le hb.lt hL
  have hlfL : lf < L := Nat.lt_of_lt_of_le hf.lt hL
  have ilb := hb.fm S (hb.notTab G) (Nat.ne_of_lt hlbL)
  have ilf := hf.fm S (hf.notTab G) (Nat.ne_of_lt hlfL)
  refine Wp.cons (Wp.assign (Wp.bin (Wp.callB (bi := "len") (fun Q q => Wp.nameB S T rfl rfl rfl rfl F.bLen (by decide) (by decide +kernel) q) (Wp.icons (Wp.nameC rfl rfl rfl c1 (Wp.inil ?_))))))
  refine Wp.lenL ilb (by exact ar107 hg hg4) fun t1 => Wp.cInt fun t2 => Wp.fdivI (by decide) (by decide +kernel) fun t3 => ?_
  have eg : Int.fdiv (bs.length : Int) 2 = (gap : Nat) := by rw [hg, Int.fdiv_eq_ediv_of_nonneg _ (by decide)]; exact ar166
  rw [eg]
  refine Wp.storeC S.gg (G.new (by exact ar167 hL)) rfl rfl rfl c2 fun h₂ c2 e2 G2 => ?_
  have S := S.ext' e2 G2 (fun b hb => .inr (new_none (by rw [List.mem_singleton.mp hb]; exact ar167 hL))) (off1 (.inl (by exact ar168)))
  have c1 := cell_ext c1 e2 (off1 (.inl (by exact ar169)))
  have ilb := ilb.ext e2 (off1 (.inl (by exact ar170 hlbL)))
  have ilf := ilf.ext e2 (off1 (.inl (by exact ar170 hlfL)))
  refine Wp.cons (Wp.unpack2s r'.hh (Wp.tupD (Wp.icons (Wp.listD (Wp.inil ⟨show 0 ≤ 2 ^ 24 by decide, Wp.icons (Wp.listD (Wp.inil ⟨show 0 ≤ 2 ^ 24 by decide, Wp.inil ⟨show 2 ≤ 2 ^ 24 by decide, ?_⟩⟩))⟩)))))
  generalize hlr : h₂.objs.size = lr
  generalize hll : (h₂.push (lstObj [] 0)).objs.size = ll
  have hll' : ll = lr + 1 := by rw [← hll, Heap.size_push, hlr]
  have e3 : Ext [] h₂ ((h₂.push (lstObj [] 0)).push (lstObj [] 0)) := (Ext.push _ _).trans (Ext.push _ _)
  have ilr : IL ((h₂.push (lstObj [] 0)).push (lstObj [] 0)) lr [] := ⟨[], 0, Heap.get?_push_of_some _ (by rw [← hlr]; exact Heap.get?_push_size _ rfl), .nil⟩
  have ill : IL ((h₂.push (lstObj [] 0)).push (lstObj [] 0)) ll [] := ⟨[], 0, by rw [← hll]; exact Heap.get?_push_size _ rfl, .nil⟩
  generalize (h₂.push (lstObj [] 0)).push (lstObj [] 0) = h₃ at e3 ilr ill
  refine ⟨_, _, _, rfl, Heap.get?_push_size _ rfl, fun h₄ e4 => ?_⟩
  have e34 := (Ext.push h₃ (tupObj [.ref lr, .ref ll])).trans e4
  have S := (S.grow e3).grow e34
  have c1 := ext_cells (ext_cells c1 e3) e34
  have c2 := ext_cells (ext_cells c2 e3) e34
  have ilb := (ilb.ext e3 (fun q => nomatch q)).ext e34 (fun q => nomatch q)
  have ilf := (ilf.ext e3 (fun q => nomatch q)).ext e34 (fun q => nomatch q)
  have ilr := ilr.ext e34 (fun q => nomatch q)
  have ill := ill.ext e34 (fun q => nomatch q)
  have hLlr : L + 2 < lr := by have := e2.size; exact ar171 lt2 this hlr
  refine Wp.storeL S rfl rfl rfl fun h₅ S e5 => Wp.storeL S rfl rfl rfl fun h₆ S e6 => ?_
  have c1 := cell_ext (cell_ext c1 e5 (off1 (.inr (by exact ar172)))) e6 (off1 (.inr (by exact ar172)))
  have c2 := cell_ext (cell_ext c2 e5 (off1 (.inr (by exact ar168)))) e6 (off1 (.inr (by exact ar168)))
  have ilb := (ilb.ext e5 (off1 (.inl (by exact ar173 hlbL)))).ext e6 (off1 (.inl (by exact ar173 hlbL)))
  have ilf := (ilf.ext e5 (off1 (.inl (by exact ar173 hlfL)))).ext e6 (off1 (.inl (by exact ar173 hlfL)))
  have ilr := (ilr.ext e5 (off1 (.inr (by exact ar102 hLlr)))).ext e6 (off1 (.inr (by exact ar102 hLlr)))
  have ill := (ill.ext e5 (off1 (.inr (by exact ar103 hLlr hll')))).ext e6 (off1 (.inr (by exact ar103 hLlr hll')))
  have x6 : Ext tabs h h₆ := tb S
  have S := S.here (lr :: ll :: tabs)
  have olt : ll < h₆.objs.size := by have := e6.size; have := e5.size; have := e34.size; have := ill.lt; omega
  have E : CutE B h₆ L lf lb lr ll fs bs gap := ⟨c1, ⟨_, c2⟩, ilb, ilf, hlbL, hlfL, hLlr, hll', olt, fun n hn => G.offT (by exact ar174 hL hn), hb.notTab G, hf.notTab G, hg, hg4, fun n hn => G.new (by exact ar174 hL hn)⟩
  have fin : ∀ h' m', Fm B h₆ (cutW lr ll) L m' h' → Ext tabs h h' ∧ GG B h' := fun h' m' S => ⟨⟨Nat.le_trans x6.size S.size, fun b o hb q => S.get b o (fun z => by
      rcases List.mem_cons.mp z with z | z
      · exact ne_new q (show h.objs.size ≤ lr by exact ar175 hLlr hL) z
      · rcases List.mem_cons.mp z with z | z
        · exact ne_new q (show h.objs.size ≤ ll by exact ar176 hLlr hL hll') z
        · exact hb z) (ne_new q hL) (x6.get b o hb q)⟩, S.gg⟩
  refine cutLoop (rest := (fBody (stm 20)).drop 3) T F E r' S rfl rfl ilr ill fun h₇ ys zs m₇ S hm ilr ill py wy pz wz => ?_
  refine cutSort1 (rest := (fBody (stm 20)).drop 4) T F E r' S ((hm _ (by decide)).trans rfl) ilr ill py wy fun h₈ S ilr ill => ?_
  refine cutSort2 (rest := (fBody (stm 20)).drop 5) T F E r' S ((hm _ (by decide)).trans rfl) ilr ill pz wz fun h₉ S ilr ill => ?_
  refine cutLeast (rest := (fBody (stm 20)).drop 7) T F E r' S ilr ill fun hA mA out ta S ilr ill po wo ma hmA => ?_
  obtain ⟨t, ht, eahead, hth⟩ := ahead_spec py wy pz wz po wo
  rw [eahead] at ma
  have hyl : ys.length = gap := by rw [py.length_eq, ramp_len]
  have hzl : zs.length = gap := by rw [pz.length_eq, ramp_len]
  have hP := hpart ys zs py wy pz wz
  have nm : ∀ x : Str, x ≠ "i" → x ≠ "least" → x ≠ "ahead" → mA x = _ := fun x h1 h2 h3 => (hmA x h2 h3).trans (hm x h1)
  refine cutPlace (rest := (fBody (stm 20)).drop 9) T F E r' S ilr ill ((nm _ (by decide) (by decide) (by decide)).trans rfl) ((nm _ (by decide) (by decide) (by decide)).trans rfl) ((nm _ (by decide) (by decide) (by decide)).trans rfl) ma ht hod hst hfl hP hyl hzl hth fun hB mB S ilr ill hmB => ?_
  have nmB : ∀ x : Str, x ≠ "i" → x ≠ "least" → x ≠ "ahead" → x ≠ "place" → mB x = _ := fun x h1 h2 h3 h4 => (hmB x h4).trans (nm x h1 h2 h3)
  refine cutPart (rest := (fBody (stm 20)).drop 12) T F E r' S ilr ill ((nmB _ (by decide) (by decide) (by decide) (by decide)).trans rfl) ((nmB _ (by decide) (by decide) (by decide) (by decide)).trans rfl) ((nmB _ (by decide) (by decide) (by decide) (by decide)).trans rfl) ((nmB _ (by decide) (by decide) (by decide) (by decide)).trans rfl) ((nmB _ (by decide) (by decide) (by decide) (by decide)).trans rfl) hod hst hfl hP py pz fun hC mC lp hlp S ilr ill ilp mp hmC => ?_
  refine cutEnd T F E r' S ilr ill hlp ilp mp ((hmC _ (by decide)).trans ((nmB _ (by decide) (by decide) (by decide) (by decide)).trans rfl)) ((hmC _ (by decide)).trans ((nmB _ (by decide) (by decide) (by decide) (by decide)).trans rfl)) ((hmC _ (by decide)).trans ((hmB _ (by decide)).trans ma)) py pz hth fun hD mD S => kz _ _ ⟨rfl, fin hD mD S⟩
end
end Mine
end

section
set_option maxRecDepth 100000
namespace Mine
open PySem
theorem nat_and_split {a b c d n : Nat} (ha : a < 2 ^ n) (hc : c < 2 ^ n) : (a + b * 2 ^ n) &&& (c + d * 2 ^ n) = (a &&& c) + (b &&& d) * 2 ^ n := by
  have h1 : a + b * 2 ^ n = 2 ^ n * b + a := by rw [Nat.mul_comm, Nat.add_comm]
  have h2 : c + d * 2 ^ n = 2 ^ n * d + c := by rw [Nat.mul_comm, Nat.add_comm]
  have h3 : (a &&& c) + (b &&& d) * 2 ^ n = 2 ^ n * (b &&& d) + (a &&& c) := by rw [Nat.mul_comm, Nat.add_comm]
  have h4 : a &&& c < 2 ^ n := Nat.and_lt_two_pow _ hc
  rw [h1, h2, h3]
  apply Nat.eq_of_testBit_eq
  intro i
  rw [Nat.testBit_and, Nat.testBit_two_pow_mul_add _ ha, Nat.testBit_two_pow_mul_add _ hc, Nat.testBit_two_pow_mul_add _ h4]
  split <;> rw [Nat.testBit_and]
theorem and_undig (w : Nat) : ∀ xs ys : List Int, xs.length = ys.length → (∀ d ∈ xs, 0 ≤ d ∧ d < 2 ^ w) → (∀ d ∈ ys, 0 ≤ d ∧ d < 2 ^ w) → Builtin.bitAnd (undig w xs) (undig w ys) = undig w (List.zipWith Builtin.bitAnd xs ys)
  | [], [], _, _, _ => by simp [undig, Builtin.bitAnd]
  | x :: xs, y :: ys, hl, hx, hy => by
    have ih := and_undig w xs ys (by simpa using hl) (fun d hd => hx d (List.mem_cons_of_mem _ hd)) (fun d hd => hy d (List.mem_cons_of_mem _ hd))
    have n1 := undig_nonneg w xs fun d hd => (hx d (List.mem_cons_of_mem _ hd)).1
    have n2 := undig_nonneg w ys fun d hd => (hy d (List.mem_cons_of_mem _ hd)).1
    have x1 := hx x List.mem_cons_self
    have y1 := hy y List.mem_cons_self
    rw [List.zipWith_cons_cons, undig, undig, undig, ← ih]
    obtain ⟨X, eX⟩ := Int.eq_ofNat_of_zero_le n1
    obtain ⟨Y, eY⟩ := Int.eq_ofNat_of_zero_le n2
    obtain ⟨a, ea⟩ := Int.eq_ofNat_of_zero_le x1.1
    obtain ⟨b, eb⟩ := Int.eq_ofNat_of_zero_le y1.1
    rw [eX, eY, ea, eb]
    have ha : a < 2 ^ w := by have := x1.2; rw [ea] at this; exact_mod_cast this
    have hb : b < 2 ^ w := by have := y1.2; rw [eb] at this; exact_mod_cast this
    have e1 : (a : Int) + (X : Int) * 2 ^ w = ((a + X * 2 ^ w : Nat) : Int) := by simp
    have e2 : (b : Int) + (Y : Int) * 2 ^ w = ((b + Y * 2 ^ w : Nat) : Int) := by simp
    rw [e1, e2, bitAnd_nat, bitAnd_nat, bitAnd_nat, nat_and_split ha hb]
    simp
/-- undig is linear -/
theorem undig_add (w : Nat) : ∀ xs ys : List Int, xs.length = ys.length → undig w xs + undig w ys = undig w (List.zipWith (· + ·) xs ys)
  | [], [], _ => by simp [undig]
  | x :: xs, y :: ys, hl => by
    rw [List.zipWith_cons_cons, undig, undig, undig, ← undig_add w xs ys (by simpa using hl), Int.add_mul]; exact ar408
theorem undig_sub (w : Nat) : ∀ xs ys : List Int, xs.length = ys.length → undig w xs - undig w ys = undig w (List.zipWith (· - ·) xs ys)
  | [], [], _ => by simp [undig]
  | x :: xs, y :: ys, hl => by
    rw [List.zipWith_cons_cons, undig, undig, undig, ← undig_sub w xs ys (by simpa using hl), Int.sub_mul]; exact ar409
theorem undig_mul (w : Nat) (k : Int) : ∀ xs : List Int, undig w xs * k = undig w (xs.map (· * k))
  | [] => by simp [undig]
  | x :: xs => by
    rw [List.map_cons, undig, undig, ← undig_mul w k xs, Int.add_mul, Int.mul_right_comm]
theorem undig_shift (w : Nat) : ∀ (g : Nat) (xs : List Int), undig w xs * 2 ^ (w * g) = undig w (List.replicate g 0 ++ xs)
  | 0, xs => by simp
  | g + 1, xs => by
    rw [List.replicate_succ, List.cons_append, undig, ← undig_shift w g xs, Nat.mul_succ, Int.pow_add, Int.zero_add, Int.mul_assoc]
theorem undig_zeros (w : Nat) (xs : List Int) : ∀ k, undig w (xs ++ List.replicate k 0) = undig w xs := by
  intro k
  rw [undig_app]
  have : undig w (List.replicate k 0) = 0 := by
    induction k with
    | zero => rfl
    | succ k ih => rw [List.replicate_succ, undig, ih]; simp
  rw [this]; simp
theorem undig_div {w : Nat} {xs ys : List Int} (hx : ∀ d ∈ xs, 0 ≤ d ∧ d < 2 ^ w) : (undig w (xs ++ ys)) / 2 ^ (w * xs.length) = undig w ys := by
  rw [undig_app]
  have h0 := undig_nonneg w xs fun d hd => (hx d hd).1
  have h1 := undig_lt w xs hx
  have hp : (0 : Int) < 2 ^ (w * xs.length) := Int.pow_pos (by decide)
  rw [Int.add_mul_ediv_right _ _ (Int.ne_of_gt hp), Int.ediv_eq_zero_of_lt h0 h1, Int.zero_add]
end Mine
end

section
set_option maxRecDepth 100000
namespace Mine
open PySem PySem.W PyProof.Rows
/-- k where the mask is set -/
noncomputable def msk (k : Int) (bs : List Bool) : List Int := bs.map fun b => if b then k else 0
/-- the figure where the mask is set -/
noncomputable def sel (xs : List Int) (bs : List Bool) : List Int := List.zipWith (fun x b => if b then x else 0) xs bs
theorem msk_len (k : Int) (bs : List Bool) : (msk k bs).length = bs.length := by simp [msk]
theorem sel_len {xs : List Int} {bs : List Bool} (h : xs.length = bs.length) : (sel xs bs).length = bs.length := by simp [sel, h]
theorem pow_ge {w : Nat} (hw : 9 ≤ w) : (512 : Int) ≤ 2 ^ w := by
  have : (2 : Nat) ^ 9 ≤ 2 ^ w := Nat.pow_le_pow_right (by decide) hw
  have h2 : ((2 ^ 9 : Nat) : Int) ≤ ((2 ^ w : Nat) : Int) := by exact_mod_cast this
  simpa using h2
theorem msk_dig {w : Nat} (hw : 9 ≤ w) {k : Int} (h0 : 0 ≤ k) (h1 : k ≤ 256) (bs : List Bool) : ∀ d ∈ msk k bs, 0 ≤ d ∧ d < 2 ^ w := by
  intro d hd
  have := pow_ge hw
  obtain ⟨b, _, rfl⟩ := List.mem_map.mp hd
  split <;> omega
theorem and255 {x : Int} (h0 : 0 ≤ x) (h1 : x ≤ 255) : Builtin.bitAnd x 255 = x := by
  rw [bitAnd_m8]; exact ar410 h0 h1
theorem and0 (x : Int) (h0 : 0 ≤ x) : Builtin.bitAnd x 0 = 0 := by
  have := bitAnd_range x (y := 0) (Int.le_refl _)
  exact ar411 this
/-- figures under a mask -/
theorem and_sel {w : Nat} (hw : 9 ≤ w) {xs : List Int} {bs : List Bool} (hl : xs.length = bs.length) (hx : ∀ d ∈ xs, 0 ≤ d ∧ d ≤ 255) : Builtin.bitAnd (undig w xs) (undig w (msk 255 bs)) = undig w (sel xs bs) := by
  have hp := pow_ge hw
  rw [and_undig w xs _ (by rw [msk_len, hl]) (fun d hd => ⟨(hx d hd).1, by have := (hx d hd).2; exact ar273 hp this⟩) (msk_dig hw (by decide) (by decide) bs)]
  congr 1
  clear hp
  induction xs generalizing bs with
  | nil => cases bs with
    | nil => rfl
    | cons _ _ => simp at hl
  | cons x xs ih => cases bs with
    | nil => simp at hl
    | cons b bs =>
      have h1 := hx x List.mem_cons_self
      have := ih (by simpa using hl) fun d hd => hx d (List.mem_cons_of_mem _ hd)
      simp only [msk, sel, List.map_cons, List.zipWith_cons_cons] at this ⊢
      rw [this]
      cases b
      · simp [and0 x h1.1]
      · simp [and255 h1.1 h1.2]
/-- NT_OFFSET's bit of each figure -/
theorem and_held {w : Nat} (hw : 9 ≤ w) {xs : List Int} {bs : List Bool} (hl : xs.length = bs.length) (hx : ∀ d ∈ xs, 0 ≤ d ∧ d < 512) :
    Builtin.bitAnd (undig w xs) (undig w (msk 256 bs)) = undig w (msk 256 (List.zipWith (fun x b => b && decide (256 ≤ x)) xs bs)) := by
  have hp := pow_ge hw
  rw [and_undig w xs _ (by rw [msk_len, hl]) (fun d hd => ⟨(hx d hd).1, by have := (hx d hd).2; exact ar340 hp this⟩) (msk_dig hw (by decide) (by decide) bs)]
  congr 1
  clear hp
  induction xs generalizing bs with
  | nil => cases bs with
    | nil => rfl
    | cons _ _ => simp at hl
  | cons x xs ih => cases bs with
    | nil => simp at hl
    | cons b bs =>
      have h1 := hx x List.mem_cons_self
      have := ih (by simpa using hl) fun d hd => hx d (List.mem_cons_of_mem _ hd)
      simp only [msk, List.map_cons, List.zipWith_cons_cons] at this ⊢
      rw [this]
      cases b
      · simp [and0 x h1.1]
      · simp only [if_true, Bool.true_and]
        have e : Builtin.bitAnd x 256 = (x / 2 ^ 8 % 2) * 2 ^ 8 := kbt_bit x 8
        rw [e]
        by_cases h : 256 ≤ x
        · rw [decide_eq_true h, if_pos rfl]; congr 1; omega
        · rw [decide_eq_false h, if_neg (by decide)]; congr 1; omega
end Mine
end

section
set_option maxRecDepth 100000
namespace Mine
open PySem PySem.W PyProof.Rows
theorem msk_mul (w : Nat) (k : Int) (bs : List Bool) : undig w (msk k bs) = undig w (msk 1 bs) * k := by
  rw [undig_mul]
  congr 1
  simp only [msk, List.map_map]
  apply List.map_congr_left
  intro b _
  cases b <;> simp
theorem msk_fdiv (w : Nat) {k : Int} (hk : 0 < k) (bs : List Bool) : Int.fdiv (undig w (msk k bs)) k = undig w (msk 1 bs) := by
  rw [msk_mul, Int.fdiv_eq_ediv_of_nonneg _ (Int.le_of_lt hk), Int.mul_ediv_cancel _ (Int.ne_of_gt hk)]
/-- the masks of the first places of pairs -/
noncomputable def lowB (g : Nat) : List Bool := (List.range 8).map fun i => i / g % 2 == 0
/-- the differences, where the mask is set -/
noncomputable def apD (n o : List Int) (L : List Bool) : List Int := List.zipWith (fun p b => if b then 256 + p.2 - p.1 else 0) (n.zip o) L
/-- compare and change places: gap g -/
noncomputable def cex (g : Nat) (ds : List Int) : List Int := (List.range 8).map fun i => if i / g % 2 == 0 then min (ds.getD i 0) (ds.getD (i + g) 0) else max (ds.getD (i - g) 0) (ds.getD i 0)
theorem apart_eq (w : Nat) {n o : List Int} {L : List Bool} (hn : n.length = L.length) (ho : o.length = L.length) : undig w (sel o L) + undig w (msk 256 L) - undig w (sel n L) = undig w (apD n o L) := by
  rw [undig_add w _ _ (by rw [sel_len ho, msk_len]), undig_sub w _ _ (by rw [List.length_zipWith, sel_len ho, sel_len hn, msk_len]; simp)]
  congr 1
  induction L generalizing n o with
  | nil =>
    obtain rfl : n = [] := List.length_eq_zero_iff.mp hn
    obtain rfl : o = [] := List.length_eq_zero_iff.mp ho
    rfl
  | cons b L ih =>
    cases n with
    | nil => simp at hn
    | cons x n => cases o with
      | nil => simp at ho
      | cons y o =>
        have := ih (n := n) (o := o) (by simpa using hn) (by simpa using ho)
        simp only [sel, msk, apD, List.zipWith_cons_cons, List.map_cons, List.zip_cons_cons] at this ⊢
        rw [this]
        congr 1
        cases b <;> simp <;> exact ar412
/-- the masks of the pairs that stay -/
noncomputable def stay (n o : List Int) (L : List Bool) : List Bool := List.zipWith (fun x b => b && decide (256 ≤ x)) (apD n o L) L
noncomputable def wr (L R : List Bool) : List Bool := List.zipWith (fun l r => l && !r) L R
noncomputable def lo (a b : Int) : Int := (if decide (256 ≤ 256 + b - a) then a else 0) + (if !decide (256 ≤ 256 + b - a) then b else 0)
noncomputable def hi (a b : Int) : Int := (if decide (256 ≤ 256 + b - a) then b else 0) + (if !decide (256 ≤ 256 + b - a) then a else 0)
theorem lo_eq (a b : Int) : lo a b = min a b := by
  unfold lo
  by_cases h : 256 ≤ 256 + b - a
  · rw [decide_eq_true h]; simp; exact ar413 h
  · rw [decide_eq_false h]; simp; exact ar414 h
theorem hi_eq (a b : Int) : hi a b = max a b := by
  unfold hi
  by_cases h : 256 ≤ 256 + b - a
  · rw [decide_eq_true h]; simp; exact ar415 h
  · rw [decide_eq_false h]; simp; exact ar416 h
noncomputable abbrev lhs (g : Nat) (ds : List Int) := List.zipWith (· + ·) (List.zipWith (· + ·) (sel ds (stay ds (ds.drop g ++ List.replicate g 0) (lowB g))) (sel (ds.drop g ++ List.replicate g 0) (wr (lowB g) (stay ds (ds.drop g ++ List.replicate g 0) (lowB g)))) ++ List.replicate g 0)
      (List.replicate g 0 ++ List.zipWith (· + ·) (sel (ds.drop g ++ List.replicate g 0) (stay ds (ds.drop g ++ List.replicate g 0) (lowB g))) (sel ds (wr (lowB g) (stay ds (ds.drop g ++ List.replicate g 0) (lowB g)))))
theorem lhs1 (a b c d e f x y : Int) : lhs 1 [a, b, c, d, e, f, x, y] = [lo a b + 0, 0 + 0 + hi a b, lo c d + (0 + 0), 0 + 0 + hi c d, lo e f + (0 + 0), 0 + 0 + hi e f, lo x y + (0 + 0), 0 + 0 + hi x y, 0 + (0 + 0)] := rfl
theorem lhs2 (a b c d e f x y : Int) : lhs 2 [a, b, c, d, e, f, x, y] = [lo a c + 0, lo b d + 0, 0 + 0 + hi a c, 0 + 0 + hi b d, lo e x + (0 + 0), lo f y + (0 + 0), 0 + 0 + hi e x, 0 + 0 + hi f y, 0 + (0 + 0), 0 + (0 + 0)] := rfl
theorem lhs4 (a b c d e f x y : Int) : lhs 4 [a, b, c, d, e, f, x, y] = [lo a e + 0, lo b f + 0, lo c x + 0, lo d y + 0, 0 + 0 + hi a e, 0 + 0 + hi b f, 0 + 0 + hi c x, 0 + 0 + hi d y, 0 + (0 + 0), 0 + (0 + 0), 0 + (0 + 0), 0 + (0 + 0)] := rfl
theorem round_list {g : Nat} (hg : g = 1 ∨ g = 2 ∨ g = 4) : ∀ {ds : List Int}, ds.length = 8 → lhs g ds = cex g ds ++ List.replicate g 0
  | [a, b, c, d, e, f, x, y], _ => by
    rcases hg with rfl | rfl | rfl
    · rw [lhs1]; simp only [lo_eq, hi_eq, Int.add_zero, Int.zero_add]; rfl
    · rw [lhs2]; simp only [lo_eq, hi_eq, Int.add_zero, Int.zero_add]; rfl
    · rw [lhs4]; simp only [lo_eq, hi_eq, Int.add_zero, Int.zero_add]; rfl
theorem lowB_len (g : Nat) : (lowB g).length = 8 := by simp [lowB]
theorem over_len {g : Nat} (hg : g = 1 ∨ g = 2 ∨ g = 4) {ds : List Int} (hd : ds.length = 8) : (ds.drop g ++ List.replicate g 0).length = 8 := by simp; exact ar417 hg hd
theorem stay_len {n o : List Int} {L : List Bool} (hn : n.length = 8) (ho : o.length = 8) (hL : L.length = 8) : (stay n o L).length = 8 := by simp [stay, apD, hn, ho, hL]
theorem wr_len {L R : List Bool} (hL : L.length = 8) (hR : R.length = 8) : (wr L R).length = 8 := by simp [wr, hL, hR]
theorem round_eq {w g : Nat} (hg : g = 1 ∨ g = 2 ∨ g = 4) {ds o : List Int} {R Wr : List Bool} (hd : ds.length = 8) (ho : o = ds.drop g ++ List.replicate g 0) (hR : R = stay ds o (lowB g)) (hW : Wr = wr (lowB g) R) :
    (undig w (sel ds R) + undig w (sel o Wr)) + (undig w (sel o R) + undig w (sel ds Wr)) * 2 ^ (w * g) = undig w (cex g ds) := by
  have lo : o.length = 8 := by rw [ho]; exact over_len hg hd
  have lR : R.length = 8 := by rw [hR]; exact stay_len hd lo (lowB_len g)
  have lW : Wr.length = 8 := by rw [hW]; exact wr_len (lowB_len g) lR
  have key : List.zipWith _ _ _ = _ := round_list hg hd
  rw [← ho, ← hR, ← hW] at key
  rw [undig_add w _ _ (by rw [sel_len (by exact ar418 hd lR), sel_len (by exact ar418 lo lW)]; exact ar418 lR lW), undig_add w _ _ (by rw [sel_len (by exact ar418 lo lR), sel_len (by exact ar418 hd lW)]; exact ar418 lR lW), undig_shift, ← undig_zeros w (List.zipWith (· + ·) (sel ds R) (sel o Wr)) g,
    undig_add w _ _ (by simp [sel, lo, lR, lW, hd]; exact ar419), ← undig_zeros w (cex g ds) g, key]
end Mine
end

section
set_option maxRecDepth 100000
namespace Mine
open PySem PySem.W PyProof.Rows
/-- the masks of the stretches that are turned over -/
noncomputable def turnB (size : Nat) : List Bool := (List.range 8).map fun i => i / size % 2 == 1
/-- figures turned over -/
noncomputable def flip (bs : List Bool) (ds : List Int) : List Int := List.zipWith (fun x b => if b then 255 - x else x) ds bs
theorem flip_list : ∀ {ds : List Int} {bs : List Bool}, ds.length = bs.length → List.zipWith (· - ·) (List.zipWith (· + ·) ds (msk 255 bs)) ((sel ds bs).map (· * 2)) = flip bs ds
  | [], [], _ => rfl
  | x :: xs, b :: bs, h => by
    have := flip_list (ds := xs) (bs := bs) (by simpa using h)
    simp only [msk, sel, flip, List.map_cons, List.zipWith_cons_cons] at this ⊢
    rw [this]
    congr 1
    cases b <;> simp <;> exact ar420
theorem xor_flip {w : Nat} (hw : 9 ≤ w) {ds : List Int} {bs : List Bool} (hl : ds.length = bs.length) (hd : ∀ d ∈ ds, 0 ≤ d ∧ d ≤ 255) : Builtin.bitXor (undig w ds) (undig w (msk 255 bs)) = undig w (flip bs ds) := by
  rw [bitXor_and, and_sel hw hl hd, undig_add w _ _ (by rw [msk_len, hl]), Int.mul_comm 2, undig_mul, undig_sub w _ _ (by simp [sel, msk, hl]), flip_list hl]
theorem flip_bound {ds : List Int} {bs : List Bool} (hd : ∀ d ∈ ds, 0 ≤ d ∧ d ≤ 255) : ∀ d ∈ flip bs ds, 0 ≤ d ∧ d ≤ 255 := by
  intro d hx
  obtain ⟨i, hi⟩ := List.mem_iff_getElem?.mp hx
  unfold flip at hi
  rw [List.getElem?_zipWith_eq_some] at hi
  obtain ⟨x, b, h1, h2, rfl⟩ := hi
  have := hd x (List.mem_of_getElem? h1)
  cases b <;> simp <;> omega
end Mine
end

section
set_option maxRecDepth 100000
namespace Mine
theorem cex1_eq (a b c d e f x y : Int) : cex 1 [a, b, c, d, e, f, x, y] = [min a b, max a b, min c d, max c d, min e f, max e f, min x y, max x y] := rfl
theorem cex2_eq (a b c d e f x y : Int) : cex 2 [a, b, c, d, e, f, x, y] = [min a c, min b d, max a c, max b d, min e x, min f y, max e x, max f y] := rfl
theorem cex4_eq (a b c d e f x y : Int) : cex 4 [a, b, c, d, e, f, x, y] = [min a e, min b f, min c x, min d y, max a e, max b f, max c x, max d y] := rfl
theorem mm_perm (a b : Int) (l : List Int) : (min a b :: max a b :: l).Perm (a :: b :: l) := by
  rcases Int.le_total a b with h | h
  · rw [Int.min_eq_left h, Int.max_eq_right h]
  · rw [Int.min_eq_right h, Int.max_eq_left h]; exact List.Perm.swap _ _ _
theorem len8 {l : List Int} (h : l.length = 8) : ∃ a b c d e f x y, l = [a, b, c, d, e, f, x, y] := by
  match l, h with
  | [a, b, c, d, e, f, x, y], _ => exact ⟨a, b, c, d, e, f, x, y, rfl⟩
theorem pwc {a b : Int} {l : List Int} (h : a ≤ b) (p : (b :: l).Pairwise (· ≤ ·)) : (a :: b :: l).Pairwise (· ≤ ·) :=
  List.pairwise_cons.mpr ⟨fun x hx => (List.mem_cons.mp hx).elim (fun e => e ▸ h) fun q => Int.le_trans h ((List.pairwise_cons.mp p).1 x q), p⟩
theorem pw1 (a : Int) : [a].Pairwise (· ≤ ·) := List.pairwise_singleton _ _
theorem mml (a b : Int) : min a b ≤ max a b := Int.le_trans (Int.min_le_left a b) (Int.le_max_left a b)
/-- a least below a greatest, by one of each -/
theorem mx {a b c d x y : Int} (h1 : min a b ≤ x) (h2 : x ≤ y) (h3 : y ≤ max c d) : min a b ≤ max c d := Int.le_trans h1 (Int.le_trans h2 h3)
/-- two rising, two falling: in order after the rounds of gaps 2 and 1 -/
theorem merge4 {a b c d : Int} (h1 : a ≤ b) (h2 : d ≤ c) : ∀ p q r s, p = min a c → q = min b d → r = max a c → s = max b d → min p q ≤ max p q ∧ max p q ≤ min r s ∧ min r s ≤ max r s := by
  rintro p q r s rfl rfl rfl rfl
  exact ⟨mml _ _, Int.max_le.mpr ⟨Int.le_min.mpr ⟨mml _ _, mx (Int.min_le_left _ _) h1 (Int.le_max_left _ _)⟩, Int.le_min.mpr ⟨mx (Int.min_le_right _ _) h2 (Int.le_max_right _ _), mml _ _⟩⟩, mml _ _⟩
end Mine
end

section
set_option maxRecDepth 100000
namespace Mine
/-- the lesser half of a bitonic eight is bitonic, and below the other -/
theorem half_low {a0 a1 a2 a3 b0 b1 b2 b3 : Int} (h1 : a0 ≤ a1) (h2 : a1 ≤ a2) (g2 : b2 ≤ b1) (g3 : b3 ≤ b2) :
    max (min (min a0 b0) (min a2 b2)) (min (min a1 b1) (min a3 b3)) ≤ min (max (min a0 b0) (min a2 b2)) (max (min a1 b1) (min a3 b3)) := by
  refine Int.max_le.mpr ⟨Int.le_min.mpr ⟨mml _ _, ?_⟩, Int.le_min.mpr ⟨?_, mml _ _⟩⟩
  · refine Int.le_trans (Int.le_min.mpr ⟨?_, ?_⟩) (Int.le_max_left _ _)
    · exact Int.le_trans (Int.min_le_left _ _) (Int.le_trans (Int.min_le_left _ _) h1)
    · exact Int.le_trans (Int.min_le_right _ _) (Int.le_trans (Int.min_le_right _ _) g2)
  · refine Int.le_trans (Int.le_min.mpr ⟨?_, ?_⟩) (Int.le_max_right _ _)
    · exact Int.le_trans (Int.min_le_left _ _) (Int.le_trans (Int.min_le_left _ _) h2)
    · exact Int.le_trans (Int.min_le_right _ _) (Int.le_trans (Int.min_le_right _ _) g3)
theorem half_high {a0 a1 a2 a3 b0 b1 b2 b3 : Int} (h2 : a1 ≤ a2) (h3 : a2 ≤ a3) (g1 : b1 ≤ b0) (g2 : b2 ≤ b1) :
    max (min (max a0 b0) (max a2 b2)) (min (max a1 b1) (max a3 b3)) ≤ min (max (max a0 b0) (max a2 b2)) (max (max a1 b1) (max a3 b3)) := by
  refine Int.max_le.mpr ⟨Int.le_min.mpr ⟨mml _ _, ?_⟩, Int.le_min.mpr ⟨?_, mml _ _⟩⟩
  · refine Int.le_trans (Int.min_le_right _ _) (Int.max_le.mpr ⟨?_, ?_⟩)
    · exact Int.le_trans h3 (Int.le_trans (Int.le_max_left _ _) (Int.le_max_right _ _))
    · exact Int.le_trans g2 (Int.le_trans (Int.le_max_right _ _) (Int.le_max_left _ _))
  · refine Int.le_trans (Int.min_le_left _ _) (Int.max_le.mpr ⟨?_, ?_⟩)
    · exact Int.le_trans h2 (Int.le_trans (Int.le_max_left _ _) (Int.le_max_right _ _))
    · exact Int.le_trans g1 (Int.le_trans (Int.le_max_right _ _) (Int.le_max_left _ _))
/-- each of the lesser below each of the greater -/
theorem lowhigh {a b a' b' : Int} (h : a ≤ a' ∨ b ≤ b') : min a b ≤ max a' b' := by
  rcases h with h | h
  · exact mx (Int.min_le_left _ _) h (Int.le_max_left _ _)
  · exact mx (Int.min_le_right _ _) h (Int.le_max_right _ _)
end Mine
end

section
set_option maxRecDepth 100000
namespace Mine
theorem chain8 {a b c d e f x y : Int} (h1 : a ≤ b) (h2 : b ≤ c) (h3 : c ≤ d) (h4 : d ≤ e) (h5 : e ≤ f) (h6 : f ≤ x) (h7 : x ≤ y) : [a, b, c, d, e, f, x, y].Pairwise (· ≤ ·) :=
  pwc h1 (pwc h2 (pwc h3 (pwc h4 (pwc h5 (pwc h6 (pwc h7 (pw1 _)))))))
theorem merge8 {a b c d e f x y : Int} (h1 : a ≤ b) (h2 : b ≤ c) (h3 : c ≤ d) (g1 : f ≤ e) (g2 : x ≤ f) (g3 : y ≤ x) : (cex 1 (cex 2 (cex 4 [a, b, c, d, e, f, x, y]))).Pairwise (· ≤ ·) := by
  rw [cex4_eq, cex2_eq, cex1_eq]
  have r := Int.le_refl
  have k : ∀ {p q : Int}, p ≤ min (max a e) (max c x) → p ≤ min (max b f) (max d y) → q ≤ min (max a e) (max c x) → q ≤ min (max b f) (max d y) → max p q ≤ min (min (max a e) (max c x)) (min (max b f) (max d y)) :=
    fun u1 u2 u3 u4 => Int.max_le.mpr ⟨Int.le_min.mpr ⟨u1, u2⟩, Int.le_min.mpr ⟨u3, u4⟩⟩
  refine chain8 (mml _ _) (half_low h1 h2 g2 g3) (mml _ _) (k ?_ ?_ ?_ ?_) (mml _ _) (half_high h2 h3 g1 g2) (mml _ _)
  · exact Int.max_le.mpr ⟨Int.le_min.mpr ⟨lowhigh (.inl (r a)), lowhigh (.inl (Int.le_trans h1 h2))⟩, Int.le_min.mpr ⟨lowhigh (.inr (Int.le_trans g2 g1)), lowhigh (.inl (r c))⟩⟩
  · exact Int.max_le.mpr ⟨Int.le_min.mpr ⟨lowhigh (.inl h1), lowhigh (.inl (Int.le_trans h1 (Int.le_trans h2 h3)))⟩, Int.le_min.mpr ⟨lowhigh (.inr g2), lowhigh (.inl h3)⟩⟩
  · exact Int.max_le.mpr ⟨Int.le_min.mpr ⟨lowhigh (.inr g1), lowhigh (.inl h2)⟩, Int.le_min.mpr ⟨lowhigh (.inr (Int.le_trans g3 (Int.le_trans g2 g1))), lowhigh (.inr g3)⟩⟩
  · exact Int.max_le.mpr ⟨Int.le_min.mpr ⟨lowhigh (.inl (r b)), lowhigh (.inl (Int.le_trans h2 h3))⟩, Int.le_min.mpr ⟨lowhigh (.inr (Int.le_trans g3 g2)), lowhigh (.inl (r d))⟩⟩
end Mine
end

section
set_option maxRecDepth 100000
set_option maxHeartbeats 1000000
namespace Mine
theorem flip2_eq (a b c d e f x y : Int) : flip (turnB 2) [a, b, c, d, e, f, x, y] = [a, b, 255 - c, 255 - d, e, f, 255 - x, 255 - y] := rfl
theorem flip4_eq (a b c d e f x y : Int) : flip (turnB 4) [a, b, c, d, e, f, x, y] = [a, b, c, d, 255 - e, 255 - f, 255 - x, 255 - y] := rfl
theorem flip8_eq (a b c d e f x y : Int) : flip (turnB 8) [a, b, c, d, e, f, x, y] = [a, b, c, d, e, f, x, y] := rfl
end Mine
namespace Mine
/-- stretches of g figures are those of the keys, laid in rising and falling order by turns -/
noncomputable def Inv (g : Nat) (ds keys : List Int) : Prop :=
  ∀ k, (k + 1) * g ≤ 8 → ((ds.drop (k * g)).take g).Perm ((keys.drop (k * g)).take g) ∧ (k % 2 = 0 → ((ds.drop (k * g)).take g).Pairwise (· ≤ ·)) ∧ (k % 2 = 1 → ((ds.drop (k * g)).take g).Pairwise (fun a b => b ≤ a))
noncomputable def st2 (ds : List Int) : List Int := flip (turnB 2) (cex 1 (flip (turnB 2) ds))
noncomputable def st4 (ds : List Int) : List Int := flip (turnB 4) (cex 1 (cex 2 (flip (turnB 4) ds)))
noncomputable def st8 (ds : List Int) : List Int := flip (turnB 8) (cex 1 (cex 2 (cex 4 (flip (turnB 8) ds))))
theorem inv1 {keys : List Int} (h : keys.length = 8) : Inv 1 keys keys := by
  intro k hk
  refine ⟨List.Perm.refl _, fun _ => ?_, fun _ => ?_⟩
  · rw [List.pairwise_iff_getElem]
    intro i j hi hj hij
    rw [List.length_take] at hi hj
    exact ar322 hj hij
  · rw [List.pairwise_iff_getElem]
    intro i j hi hj hij
    rw [List.length_take] at hi hj
    exact ar322 hj hij
theorem flmin (c d : Int) : 255 - min (255 - c) (255 - d) = max c d := by exact ar323
theorem flmax (c d : Int) : 255 - max (255 - c) (255 - d) = min c d := by exact ar324
theorem st2_eq (a b c d e f x y : Int) : st2 [a, b, c, d, e, f, x, y] = [min a b, max a b, max c d, min c d, min e f, max e f, max x y, min x y] := by
  unfold st2
  rw [flip2_eq, cex1_eq, flip2_eq, flmin, flmax, flmin, flmax]
theorem pw2 {a b : Int} (h : a ≤ b) : [a, b].Pairwise (· ≤ ·) := by simp [h]
theorem pw2' {a b : Int} (h : b ≤ a) : [a, b].Pairwise (fun a b => b ≤ a) := by simp [h]
theorem inv2 {keys : List Int} (h : keys.length = 8) : Inv 2 (st2 keys) keys := by
  obtain ⟨a, b, c, d, e, f, x, y, rfl⟩ := len8 h
  rw [st2_eq]
  intro k hk
  have mm := mml
  match k, hk with
  | 0, _ => exact ⟨mm_perm a b [], fun _ => pw2 (mm _ _), fun h => by exact (ar325 h).elim⟩
  | 1, _ => exact ⟨(List.Perm.swap _ _ _).trans (mm_perm c d []), fun h => by exact (ar326 h).elim, fun _ => pw2' (mm _ _)⟩
  | 2, _ => exact ⟨mm_perm e f [], fun _ => pw2 (mm _ _), fun h => by exact (ar327 h).elim⟩
  | 3, _ => exact ⟨(List.Perm.swap _ _ _).trans (mm_perm x y []), fun h => by exact (ar328 h).elim, fun _ => pw2' (mm _ _)⟩
  | n + 4, h => exact (ar329 h).elim
end Mine
end

section
set_option maxRecDepth 100000
set_option maxHeartbeats 1000000
namespace Mine
/-- rounds of gaps 2 and 1 on four -/
noncomputable def so4 (a b c d : Int) : List Int := [min (min a c) (min b d), max (min a c) (min b d), min (max a c) (max b d), max (max a c) (max b d)]
theorem so4_perm (a b c d : Int) : (so4 a b c d).Perm [a, b, c, d] := by
  unfold so4
  have h1 := mm_perm (min a c) (min b d) [min (max a c) (max b d), max (max a c) (max b d)]
  have h2 : [min (max a c) (max b d), max (max a c) (max b d)].Perm [max a c, max b d] := mm_perm _ _ []
  have h3 := h1.trans ((h2.cons (min b d)).cons (min a c))
  -- min a c, min b d, max a c, max b d
  have h4 : [min a c, min b d, max a c, max b d].Perm [min a c, max a c, min b d, max b d] := (List.Perm.swap _ _ _).cons _
  have h5 : [min a c, max a c, min b d, max b d].Perm [a, c, min b d, max b d] := mm_perm a c _
  have h6 : [a, c, min b d, max b d].Perm [a, c, b, d] := ((mm_perm b d []).cons c).cons a
  have h7 : [a, c, b, d].Perm [a, b, c, d] := (List.Perm.swap _ _ _).cons _
  exact h3.trans (h4.trans (h5.trans (h6.trans h7)))
theorem chain4 {a b c d : Int} (h1 : a ≤ b) (h2 : b ≤ c) (h3 : c ≤ d) : [a, b, c, d].Pairwise (· ≤ ·) :=
  pwc h1 (pwc h2 (pwc h3 (pw1 _)))
theorem so4_sorted {a b c d : Int} (h1 : a ≤ b) (h2 : d ≤ c) : (so4 a b c d).Pairwise (· ≤ ·) := by
  obtain ⟨k1, k2, k3⟩ := merge4 h1 h2 _ _ _ _ rfl rfl rfl rfl
  exact chain4 k1 k2 k3
end Mine
namespace Mine
theorem merge4' {a b c d : Int} (h1 : b ≤ a) (h2 : c ≤ d) : ∀ p q r s, p = min a c → q = min b d → r = max a c → s = max b d → min p q ≤ max p q ∧ max p q ≤ min r s ∧ min r s ≤ max r s := by
  rintro p q r s rfl rfl rfl rfl
  exact ⟨mml _ _, Int.max_le.mpr ⟨Int.le_min.mpr ⟨mml _ _, mx (Int.min_le_right _ _) h2 (Int.le_max_right _ _)⟩, Int.le_min.mpr ⟨mx (Int.min_le_left _ _) h1 (Int.le_max_left _ _), mml _ _⟩⟩, mml _ _⟩
theorem so4_sorted' {a b c d : Int} (h1 : b ≤ a) (h2 : c ≤ d) : (so4 a b c d).Pairwise (· ≤ ·) := by
  obtain ⟨k1, k2, k3⟩ := merge4' h1 h2 _ _ _ _ rfl rfl rfl rfl
  exact chain4 k1 k2 k3
theorem st4_eq (a b c d e f x y : Int) : st4 [a, b, c, d, e, f, x, y] = so4 a b c d ++ (so4 (255 - e) (255 - f) (255 - x) (255 - y)).map (255 - ·) := by
  unfold st4
  rw [flip4_eq, cex2_eq, cex1_eq, flip4_eq]
  rfl
theorem inv4 {ds keys : List Int} (hd : ds.length = 8) (hk : keys.length = 8) (h : Inv 2 ds keys) : Inv 4 (st4 ds) keys := by
  obtain ⟨a, b, c, d, e, f, x, y, rfl⟩ := len8 hd
  obtain ⟨k0, k1, k2, k3, k4, k5, k6, k7, rfl⟩ := len8 hk
  obtain ⟨p0, s0, _⟩ := h 0 (by decide)
  obtain ⟨p1, _, s1⟩ := h 1 (by decide)
  obtain ⟨p2, s2, _⟩ := h 2 (by decide)
  obtain ⟨p3, _, s3⟩ := h 3 (by decide)
  have s0 : a ≤ b := by simpa using s0 (by decide)
  have s1 : d ≤ c := by simpa using s1 (by decide)
  have s2 : e ≤ f := by simpa using s2 (by decide)
  have s3 : y ≤ x := by simpa using s3 (by decide)
  have q0 : [a, b, c, d].Perm [k0, k1, k2, k3] := List.Perm.append (l₁ := [a, b]) p0 p1
  have q1 : [e, f, x, y].Perm [k4, k5, k6, k7] := List.Perm.append (l₁ := [e, f]) p2 p3
  rw [st4_eq]
  intro k hk
  match k, hk with
  | 0, _ => exact ⟨(so4_perm a b c d).trans q0, fun _ => so4_sorted s0 s1, fun h => by exact (ar325 h).elim⟩
  | 1, _ =>
    have e1 := (so4_perm (255 - e) (255 - f) (255 - x) (255 - y)).map (255 - ·)
    have e2 : List.map (255 - ·) [255 - e, 255 - f, 255 - x, 255 - y] = [e, f, x, y] := by simp <;> exact ar330
    rw [e2] at e1
    refine ⟨e1.trans q1, fun h => by exact (ar326 h).elim, fun _ => ?_⟩
    have := so4_sorted' (a := 255 - e) (b := 255 - f) (c := 255 - x) (d := 255 - y) (by exact ar331 s2) (by exact ar331 s3)
    show (List.map (255 - ·) (so4 (255 - e) (255 - f) (255 - x) (255 - y))).Pairwise (fun a b => b ≤ a)
    rw [List.pairwise_map]
    exact this.imp fun {u v} h => by exact ar331 h
  | n + 2, h => exact (ar332 h).elim
end Mine
end

section
set_option maxRecDepth 100000
set_option maxHeartbeats 1000000
namespace Mine
theorem mm_mid (a e : Int) (l₁ l₂ : List Int) : (min a e :: (l₁ ++ max a e :: l₂)).Perm (a :: (l₁ ++ e :: l₂)) := by
  rcases Int.le_total a e with h | h
  · rw [Int.min_eq_left h, Int.max_eq_right h]
  · rw [Int.min_eq_right h, Int.max_eq_left h]
    have h1 : (l₁ ++ a :: l₂).Perm (a :: (l₁ ++ l₂)) := List.perm_middle
    have h2 : (l₁ ++ e :: l₂).Perm (e :: (l₁ ++ l₂)) := List.perm_middle
    exact (h1.cons e).trans ((List.Perm.swap _ _ _).trans (h2.symm.cons a))
theorem cex4_perm (a b c d e f x y : Int) : (cex 4 [a, b, c, d, e, f, x, y]).Perm [a, b, c, d, e, f, x, y] := by
  rw [cex4_eq]
  have h1 := mm_mid a e [min b f, min c x, min d y] [max b f, max c x, max d y]
  have h2 := (mm_mid b f [min c x, min d y, e] [max c x, max d y]).cons a
  have h3 := ((mm_mid c x [min d y, e, f] [max d y]).cons b).cons a
  have h4 := (((mm_mid d y [e, f, x] []).cons c).cons b).cons a
  exact h1.trans (h2.trans (h3.trans h4))
theorem cex2_perm (a b c d e f x y : Int) : (cex 2 [a, b, c, d, e, f, x, y]).Perm [a, b, c, d, e, f, x, y] := by
  rw [cex2_eq]
  have h1 := mm_mid a c [min b d] [max b d, min e x, min f y, max e x, max f y]
  have h2 := (mm_mid b d [c] [min e x, min f y, max e x, max f y]).cons a
  have h3 := ((((mm_mid e x [min f y] [max f y]).cons d).cons c).cons b).cons a
  have h4 := (((((mm_mid f y [x] []).cons e).cons d).cons c).cons b).cons a
  exact h1.trans (h2.trans (h3.trans h4))
theorem cex1_perm (a b c d e f x y : Int) : (cex 1 [a, b, c, d, e, f, x, y]).Perm [a, b, c, d, e, f, x, y] := by
  rw [cex1_eq]
  have h1 := mm_perm a b [min c d, max c d, min e f, max e f, min x y, max x y]
  have h2 := ((mm_perm c d [min e f, max e f, min x y, max x y]).cons b).cons a
  have h3 := ((((mm_perm e f [min x y, max x y]).cons d).cons c).cons b).cons a
  have h4 := ((((((mm_perm x y []).cons f).cons e).cons d).cons c).cons b).cons a
  exact h1.trans (h2.trans (h3.trans h4))
theorem cex_len (g : Nat) (ds : List Int) : (cex g ds).length = 8 := by simp [cex]
theorem flip_len {bs : List Bool} {ds : List Int} (hd : ds.length = 8) (hb : bs.length = 8) : (flip bs ds).length = 8 := by simp [flip, hd, hb]
theorem turnB_len (s : Nat) : (turnB s).length = 8 := by simp [turnB]
theorem cex_perm {g : Nat} (hg : g = 1 ∨ g = 2 ∨ g = 4) {ds : List Int} (hd : ds.length = 8) : (cex g ds).Perm ds := by
  obtain ⟨a, b, c, d, e, f, x, y, rfl⟩ := len8 hd
  rcases hg with rfl | rfl | rfl
  · exact cex1_perm ..
  · exact cex2_perm ..
  · exact cex4_perm ..
theorem flip8 {ds : List Int} (hd : ds.length = 8) : flip (turnB 8) ds = ds := by
  obtain ⟨a, b, c, d, e, f, x, y, rfl⟩ := len8 hd
  exact flip8_eq ..
theorem pw4 {a b c d : Int} (h : [a, b, c, d].Pairwise (· ≤ ·)) : a ≤ b ∧ b ≤ c ∧ c ≤ d := by simp at h; exact ar333 h
theorem pw4' {a b c d : Int} (h : [a, b, c, d].Pairwise (fun a b => b ≤ a)) : b ≤ a ∧ c ≤ b ∧ d ≤ c := by simp at h; exact ar334 h
theorem inv8 {ds keys : List Int} (hd : ds.length = 8) (hk : keys.length = 8) (h : Inv 4 ds keys) : (st8 ds).Perm keys ∧ (st8 ds).Pairwise (· ≤ ·) := by
  unfold st8
  rw [flip8 hd, flip8 (cex_len _ _)]
  refine ⟨((cex_perm (.inl rfl) (cex_len _ _)).trans ((cex_perm (.inr (.inl rfl)) (cex_len _ _)).trans (cex_perm (.inr (.inr rfl)) hd))).trans ?_, ?_⟩
  · obtain ⟨p0, _, _⟩ := h 0 (by decide)
    obtain ⟨p1, _, _⟩ := h 1 (by decide)
    obtain ⟨a, b, c, d, e, f, x, y, rfl⟩ := len8 hd
    obtain ⟨k0, k1, k2, k3, k4, k5, k6, k7, rfl⟩ := len8 hk
    exact List.Perm.append (l₁ := [a, b, c, d]) p0 p1
  · obtain ⟨_, s0, _⟩ := h 0 (by decide)
    obtain ⟨_, _, s1⟩ := h 1 (by decide)
    obtain ⟨a, b, c, d, e, f, x, y, rfl⟩ := len8 hd
    obtain ⟨h1, h2, h3⟩ := pw4 (s0 (by decide))
    obtain ⟨g1, g2, g3⟩ := pw4' (s1 (by decide))
    exact merge8 h1 h2 h3 g1 g2 g3
end Mine
end

section
open PySem PySem.W PyProof.Rows
set_option maxRecDepth 100000
set_option maxHeartbeats 4000000
namespace Mine
noncomputable def bodyOf : Stmt → List Stmt
  | .For _ _ b _ _ => b
  | .While _ b _ _ => b
  | .If _ b _ _ => b
  | _ => []
noncomputable def nth (l : List Stmt) (i : Nat) : Stmt := (l[i]?).getD (.Pass ⟨0, 0, 0, 0⟩)
noncomputable def sizeB : List Stmt := bodyOf (nth (fBody (stm 21)) 3)
noncomputable def gapB : List Stmt := bodyOf (nth sizeB 3)
noncomputable def firstB : List Stmt := bodyOf (nth gapB 5)
noncomputable def startB : List Stmt := bodyOf (nth firstB 2)
noncomputable def rowB : List Stmt := bodyOf (nth (fBody (stm 21)) 5)
noncomputable abbrev lawEnv (L : Nat) : Env := envX "law" (fScope (stm 21)) L 123 (.ref 122) (cellsFrom (L + 1) (fScope (stm 21)).names [])
/-- a cell is put -/
noncomputable def updN (i : Nat) (v : Value) (cs : Nat → Option Value) : Nat → Option Value := fun j => if j = i then some v else cs j
theorem updN_ne {i j : Nat} {v : Value} {cs : Nat → Option Value} (h : j ≠ i) : updN i v cs j = cs j := if_neg h
theorem updN_eq {i : Nat} {v : Value} {cs : Nat → Option Value} : updN i v cs i = some v := if_pos rfl
/-- a thing that the law keeps: what it rests on, what is so -/
structure Th where
  fp : List Nat
  P : Heap → Prop
  fr : ∀ h h', P h → (∀ b ∈ fp, ∀ o, h.get? b = some o → h'.get? b = some o) → P h'
noncomputable def Th.il (l : Nat) (ns : List Int) : Th := ⟨[l], fun h => IL h l ns, fun h h' x k => x.get fun o q => k l (List.mem_singleton_self l) o q⟩
/-- the law's frame: cells, things, names -/
structure LS (B h₀ : Heap) (L : Nat) (cs : Nat → Option Value) (ls : List Th) (m : Str → Option Value) (h : Heap) : Prop where
  S : Fm B h₀ tabs L m h
  new : h₀.objs.size ≤ L
  g0 : GG B h₀
  cells : ∀ i : Nat, 1 ≤ i → i ≤ 5 → h.IsCell (L + i) (cs i)
  things : ∀ p ∈ ls, (∀ b ∈ p.fp, L + 5 < b ∧ b < h.objs.size) ∧ p.P h
section
variable {c : Cx} {A : Around} {B h₀ h h' : Heap} {L : Nat} {cs : Nat → Option Value} {ls : List Th} {m mg mb : Str → Option Value}
theorem LS.off (S : LS B h₀ L cs ls m h) {n : Nat} (hn : L ≤ n) : n ∉ tabs := S.g0.offT (Nat.le_trans S.new hn)
theorem LS.newB (S : LS B h₀ L cs ls m h) {n : Nat} (hn : L ≤ n) : B.get? n = none := S.g0.new (Nat.le_trans S.new hn)
theorem LS.up (S : LS B h₀ L cs ls m h) {W : List Addr} (e : Ext W h h') (g : GG B h') (hW : ∀ b : Nat, b ∈ W → b ∈ tabs ∨ (L + 5 < b ∧ ∀ p ∈ ls, b ∉ p.fp)) : LS B h₀ L cs ls m h' where
  S := S.S.ext' e g (fun b hb => by
      rcases hW b hb with x | x
      · exact .inl x
      · obtain ⟨b, rfl⟩ : ∃ n : Nat, n = b := ⟨b, rfl⟩
        have := S.new
        exact .inr (new_none (by have := x.1; omega))) (fun q => by
      rcases hW L q with x | x
      · exact S.off (Nat.le_refl _) x
      · have := x.1; omega)
  new := S.new
  g0 := S.g0
  cells := fun i h1 h5 => cell_ext (S.cells i h1 h5) e (fun q => by
      rcases hW (L + i) q with x | x
      · exact S.off (Nat.le_add_right _ _) x
      · have := x.1; have : i ≤ 5 := h5; omega)
  things := fun p hp => ⟨fun b hb => ⟨((S.things p hp).1 b hb).1, Nat.lt_of_lt_of_le ((S.things p hp).1 b hb).2 e.size⟩, p.fr _ _ (S.things p hp).2 fun b hb o q => e.get b o (fun z => by
      rcases hW b z with x | x
      · have := ((S.things p hp).1 b hb).1
        exact S.off (by exact ar255 this) x
      · exact x.2 p hp hb) q⟩
theorem LS.grow (S : LS B h₀ L cs ls m h) (e : Ext [] h h') : LS B h₀ L cs ls m h' := S.up e (S.S.gg.grow e) fun b hb => nomatch hb
theorem LS.tab (S : LS B h₀ L cs ls m h) (e : Ext tabs h h') (g : GG B h') : LS B h₀ L cs ls m h' := S.up e g fun b hb => .inl hb
theorem LS.tab1 (S : LS B h₀ L cs ls m h) (e : Ext [120] h h') (g : GG B h') : LS B h₀ L cs ls m h' := S.up e g fun b hb => .inl (by rw [List.mem_singleton.mp hb]; decide)
theorem LS.ce (S : LS B h₀ L cs ls m h) (i : Nat) {v : Value} (e : cs i = some v) (a : 1 ≤ i := by decide) (b : i ≤ 5 := by decide) : h.IsCell (L + i) (some v) := e ▸ S.cells i a b
theorem LS.add (S : LS B h₀ L cs ls m h) (p : Th) (hfp : ∀ b ∈ p.fp, L + 5 < b ∧ b < h.objs.size) (x : p.P h) : LS B h₀ L cs (p :: ls) m h :=
  ⟨S.S, S.new, S.g0, S.cells, fun q hq => by
    rcases List.mem_cons.mp hq with rfl | hq
    · exact ⟨hfp, x⟩
    · exact S.things q hq⟩
theorem LS.addL (S : LS B h₀ L cs ls m h) {l : Nat} {ns : List Int} (hl : L + 5 < l) (x : IL h l ns) : LS B h₀ L cs (Th.il l ns :: ls) m h :=
  S.add _ (fun b hb => by rw [List.mem_singleton.mp hb]; exact ⟨hl, x.lt⟩) x
theorem LS.sub (S : LS B h₀ L cs ls m h) {ls' : List Th} (k : ∀ p ∈ ls', p ∈ ls) : LS B h₀ L cs ls' m h := ⟨S.S, S.new, S.g0, S.cells, fun p hp => S.things p (k p hp)⟩
theorem LS.tail {p : Th} (S : LS B h₀ L cs (p :: ls) m h) : LS B h₀ L cs ls m h := S.sub fun q hq => List.mem_cons_of_mem _ hq
theorem LS.il (S : LS B h₀ L cs ls m h) {l : Nat} {ns : List Int} (hp : Th.il l ns ∈ ls) : IL h l ns := (S.things _ hp).2
theorem LS.cellLt (S : LS B h₀ L cs ls m h) : L + 5 < h.objs.size := (S.cells 5 (by decide) (by decide)).lt
theorem LS.storeL {env : Env} {x : Str} {v : Value} {Q : Unit → Heap → Prop} (S : LS B h₀ L cs ls m h) (hL : env.locals = L) (hk : env.scope.kind = .function) (hx : env.kindOf x = some .local)
    (q : ∀ h', LS B h₀ L cs ls (upd x v m) h' → Ext [L] h h' → Q () h') : Wp c A (storeName env x v) Q h :=
  Wp.storeL S.S hL hk hx fun h' S' e => q h' ⟨S', S.new, S.g0, fun i h1 h5 => cell_ext (S.cells i h1 h5) e (off1 (.inr (by exact ar256 h1))), fun p hp => ⟨fun b hb => ⟨((S.things p hp).1 b hb).1, Nat.lt_of_lt_of_le ((S.things p hp).1 b hb).2 e.size⟩,
    p.fr _ _ (S.things p hp).2 fun b hb o z => e.get b o (off1 (.inr (by have := ((S.things p hp).1 b hb).1; exact ar257 this))) z⟩⟩ e
theorem LS.storeC {env : Env} {x : Str} {v : Value} {Q : Unit → Heap → Prop} (S : LS B h₀ L cs ls m h) (i : Nat) (hk : env.scope.kind = .function) (hx : env.kindOf x = some .cell) (hz : env.cells.lookup x = some (L + i))
    (q : ∀ h', LS B h₀ L (updN i v cs) ls m h' → Ext [L + i] h h' → Q () h') (a : 1 ≤ i := by decide) (b : i ≤ 5 := by decide) : Wp c A (storeName env x v) Q h := by
  have a' : 1 ≤ i := a
  have b' : i ≤ 5 := b
  exact
  Wp.storeC S.S.gg (S.newB (Nat.le_add_right _ _)) hk hx hz (S.cells i a b) fun h' c' e g => q h' ⟨S.S.ext' e g (fun b hb => .inr (new_none (by have := S.new; rw [List.mem_singleton.mp hb]; exact ar258 this))) (off1 (.inl (by exact ar256 a))), S.new, S.g0, fun j h1 h5 => by
      by_cases hj : j = i
      · subst hj; rw [updN_eq]; exact c'
      · rw [updN_ne hj]; exact cell_ext (S.cells j h1 h5) e (off1 (by exact ar259 hj)),
    fun p hp => ⟨fun b hb => ⟨((S.things p hp).1 b hb).1, Nat.lt_of_lt_of_le ((S.things p hp).1 b hb).2 e.size⟩, p.fr _ _ (S.things p hp).2 fun b hb o z => e.get b o (off1 (.inr (by have := ((S.things p hp).1 b hb).1; exact ar260 this (by assumption)))) z⟩⟩ e
theorem Wp.loadC {env : Env} {x : Str} {z : Addr} {v : Value} {Q : Value → Heap → Prop} (hk : env.scope.kind = .function) (hx : env.kindOf x = some .cell) (hz : env.cells.lookup x = some z) (hv : h.IsCell z (some v)) (q : Q v h) :
    Wp c A (loadName env x) Q h := fun tk => wpAny_loadName_cell hk hx hz hv ⟨h, tk, rfl, q⟩
/-- an iterator's turn, as a thing -/
noncomputable def Th.st (fp : List Nat) (St : Nat → Heap → Prop) (fr : ∀ i h h', St i h → (∀ b ∈ fp, ∀ o, h.get? b = some o → h'.get? b = some o) → St i h') (i : Nat) : Th := ⟨fp, St i, fr i⟩
end
end Mine
end

section
open PySem PySem.W PyProof.Rows
set_option maxRecDepth 100000
set_option maxHeartbeats 4000000
namespace Mine
theorem log2_small {x : Int} (h : x.natAbs < 2 ^ 30) : x.natAbs.log2 < 9000 := by
  by_cases h0 : x.natAbs = 0
  · rw [h0]; decide +kernel
  · have := (Nat.log2_lt h0).mpr h; exact ar270 this
noncomputable def WOk (w : Nat) : Prop := w = 9 ∨ w = 20 ∨ w = 1400 ∨ w = 11
theorem WOk.ge {w : Nat} (h : WOk w) : 9 ≤ w := by unfold WOk at h; exact ar271 h
theorem WOk.le {w : Nat} (h : WOk w) : w ≤ 1400 := by unfold WOk at h; exact ar272 h
noncomputable def Dig (ds : List Int) : Prop := ds.length = 8 ∧ ∀ d ∈ ds, 0 ≤ d ∧ d ≤ 255
theorem Dig.lt {w : Nat} {ds : List Int} (h : Dig ds) (hw : WOk w) : ∀ d ∈ ds, 0 ≤ d ∧ d < 2 ^ w := fun d hd => ⟨(h.2 d hd).1, by have := pow_ge hw.ge; have := (h.2 d hd).2; exact ar273 (by assumption) this⟩
theorem turn_list {s : Nat} (hs : s = 2 ∨ s = 4 ∨ s = 8) : ((ramp 0 1 8).filter (fun _ => true)).map (fun i => 255 * Int.fmod (Int.fdiv i (s : Int)) 2) = msk 255 (turnB s) := by
  rcases hs with rfl | rfl | rfl <;> decide +kernel
theorem low_list {g : Nat} (hg : g = 1 ∨ g = 2 ∨ g = 4) : ((ramp 0 1 8).filter (fun _ => true)).map (fun i => 255 * (1 - Int.fmod (Int.fdiv i (g : Int)) 2)) = msk 255 (lowB g) := by
  rcases hg with rfl | rfl | rfl <;> decide +kernel
section
variable {c : Cx} {A : Around} {B h₀ h : Heap} {L : Nat} {cs : Nat → Option Value} {ls : List Th} {m mg mb : Str → Option Value}
theorem lawTurn (T : TopAt B mg mb) (F : Fns B mg) (r : Room A 21) (S : LS B h₀ L cs ls m h) {size w : Nat} {ts tw tn : Tok} {ds : List Int} (c1 : cs 1 = some (.int size ts)) (hs : size = 2 ∨ size = 4 ∨ size = 8)
    (mw : m "width" = some (.int w tw)) (hw : WOk w) (mn : m "number" = some (.int (undig w ds) tn)) (hd : Dig ds) {rest : List Stmt} {Q : Flow → Heap → Prop}
    (k : ∀ h' m' cs', LS B h₀ L cs' ls m' h' → (∀ j, j ≠ 2 → cs' j = cs j) → (∃ t, cs' 2 = some (.int (size / 2 : Nat) t)) → (∃ t, m' "turn" = some (.int (undig w (msk 255 (turnB size))) t)) → (∃ t, m' "number" = some (.int (undig w (flip (turnB size) ds)) t)) →
      (∀ x : Str, x ≠ "turn" → x ≠ "number" → m' x = m x) → Wp c A (execs rest (lawEnv L)) Q h') :
    Wp c A (execs (sizeB.take 3 ++ rest) (lawEnv L)) Q h := by
  have hw9 := hw.ge
  have hw14 := hw.le
  obtain ⟨fo, fd', hfo, hfd⟩ := F.f11.there S.S.gg (by decide)
  refine Wp.cons (Wp.assign (Wp.callF (o := fo) (fd := fd') (fun Q q => Wp.nameG S.S T rfl rfl rfl F.n11 q) (Wp.icons (Wp.lcomp rfl rfl rfl (by decide) rfl
    (Wp.callT (ty := "range") (fun Q q => Wp.nameB S.S T rfl rfl rfl rfl F.bRange (by decide) (by decide +kernel) q) (Wp.icons (Wp.cInt fun t0 => Wp.inil (Wp.range1 fun h₁ t1 t2 t3 hr e1 s1 => ?_))))))))
  have S := S.grow e1
  refine Wp.iterR (n := 8) r.hh hr (by decide) (by decide) fun h₂ e2 src => ?_
  refine ⟨_, _, ramp 0 1 8, fun _ => true, fun i => 255 * Int.fmod (Int.fdiv i (size : Int)) 2, rfl, src, by decide, fun C h' m₁ v t hC hn hm hv ex => ⟨Wp.tests0 ⟨rfl, rfl⟩, fun _ => ?_⟩, fun D h' hD il ex => ?_⟩
  · have c1' := cell_ext (ext_cells (S.ce 1 c1) e2) ex (off1 (.inl (by have := S.cellLt; exact ar274 this)))
    exact Wp.bin (Wp.cInt fun t4 => Wp.bin (Wp.bin (Wp.nameN rfl rfl hn hm (Wp.nameC rfl rfl rfl c1' (Wp.fdivI (by exact ar275 hs) (log2_small (by omega)) fun t5 => Wp.cInt fun t6 => Wp.modI (by decide) fun t7 =>
      Wp.mulI (IntMulOk.of_left (bits_small (by decide) (by decide))) fun t8 => ⟨⟨t8, rfl⟩, rfl⟩)))))
  have ex' : Ext [] h₁ h' := ⟨Nat.le_trans e2.size ex.size, fun b o _ q => ex.get _ _ (nin_new q (Nat.le_refl _)) (e2.all _ _ q)⟩
  have S := S.grow ex'
  rw [turn_list hs] at il
  have hL1 : (msk 255 (turnB size)).length = 8 := by rw [msk_len, turnB_len]
  refine Wp.icons (Wp.nameL S.S rfl rfl rfl mw (Wp.inil ⟨⟨(e1.trans ex').all _ _ hfo, hfd⟩, ?_⟩))
  refine (d2i_spec T F S.S.gg (r.le (by rw [hL1]; decide)) il (msk_dig hw9 (by decide) (by decide) _) (by rw [hL1]; exact ar268 hw14) (by rw [hL1]; decide) (by exact ar269 hw14)).mono fun v h₃ ⟨⟨t9, ev⟩, e3, g3⟩ => ?_
  subst ev
  have S := S.tab e3 g3
  refine S.storeL rfl rfl rfl fun h₄ S e4 => ?_
  -- number ^= turn
  refine Wp.cons (Wp.aug (Wp.loadL S.S rfl rfl rfl mn (Wp.nameL S.S rfl rfl rfl rfl (Wp.ixorI fun t10 => ?_))))
  rw [xor_flip hw9 (by rw [hd.1, turnB_len]) hd.2]
  refine S.storeL rfl rfl rfl fun h₅ S e5 => ?_
  -- gap
  refine Wp.cons (Wp.assign (Wp.bin (Wp.nameC rfl rfl rfl (S.ce 1 c1) (Wp.cInt fun t11 => Wp.fdivI (by decide) (by decide +kernel) fun t12 => ?_))))
  have eg : Int.fdiv (size : Int) 2 = ((size / 2 : Nat) : Int) := fdiv_nat size 2
  rw [eg]
  refine S.storeC 2 rfl rfl rfl fun h₆ S e6 => ?_
  refine k h₆ _ _ S (fun j hj => updN_ne hj) ⟨t12, rfl⟩ ⟨t9, rfl⟩ ⟨t10, rfl⟩ fun x h1 h2 => ?_
  rw [upd_ne h2, upd_ne h1]
end
end Mine
end

section
open PySem PySem.W PyProof.Rows
set_option maxRecDepth 100000
set_option maxHeartbeats 4000000
namespace Mine
theorem nfig_le {k w N : Nat} (hN : N < 2 ^ (w * 8)) (hwk : w ≤ k) : nfig (k + 1) N ≤ 8 := by
  have := natBits hN
  unfold nfig
  rw [show Builtin.Int.intBits (N : Int) + (k + 1) - 1 = Builtin.Int.intBits (N : Int) + k by exact ar276]
  exact Nat.le_of_lt_succ ((Nat.div_lt_iff_lt_mul (by exact ar277)).mpr (by exact ar278 this hwk))
theorem Dig.over {g : Nat} {ns : List Int} (h : Dig ns) (hg : g = 1 ∨ g = 2 ∨ g = 4) : Dig (ns.drop g ++ List.replicate g 0) := by
  refine ⟨over_len hg h.1, fun d hd => ?_⟩
  rcases List.mem_append.mp hd with q | q
  · exact h.2 d (List.mem_of_mem_drop q)
  · rw [(List.mem_replicate.mp q).2]; decide
theorem Dig.undig_lt {w : Nat} {ns : List Int} (h : Dig ns) (hw : WOk w) : 0 ≤ undig w ns ∧ (undig w ns).toNat < 2 ^ (w * 8) := by
  have h0 := undig_nonneg w ns fun d hd => (h.2 d hd).1
  have h1 := Mine.undig_lt w ns (h.lt hw)
  rw [h.1] at h1
  refine ⟨h0, ?_⟩
  have : ((undig w ns).toNat : Int) < ((2 ^ (w * 8) : Nat) : Int) := by rw [Int.toNat_of_nonneg h0]; exact_mod_cast h1
  exact_mod_cast this
theorem over_eq {w g : Nat} {ns : List Int} (h : Dig ns) (hw : WOk w) (hg : g = 1 ∨ g = 2 ∨ g = 4) : (((undig w ns).toNat / 2 ^ (w * g) : Nat) : Int) = undig w (ns.drop g ++ List.replicate g 0) := by
  have h0 := (h.undig_lt hw).1
  rw [undig_zeros, Int.natCast_ediv, Int.toNat_of_nonneg h0]
  have hl : (ns.take g).length = g := by rw [List.length_take, h.1]; exact ar279 hg
  have := undig_div (w := w) (xs := ns.take g) (ys := ns.drop g) fun d hd => h.lt hw d (List.mem_of_mem_take hd)
  rw [hl, List.take_append_drop] at this
  rw [← this]
  push_cast
  rfl
section
variable {c : Cx} {A : Around} {B h₀ h : Heap} {L : Nat} {cs : Nat → Option Value} {ls : List Th} {m mg mb : Str → Option Value}
theorem lawApart (T : TopAt B mg mb) (F : Fns B mg) (r : Room A 21) (S : LS B h₀ L cs ls m h) {g w : Nat} {tg tw tn : Tok} {ns : List Int} (c2 : cs 2 = some (.int g tg)) (hg : g = 1 ∨ g = 2 ∨ g = 4)
    (mw : m "width" = some (.int w tw)) (hw : WOk w) (mn : m "number" = some (.int (undig w ns) tn)) (hd : Dig ns) {rest : List Stmt} {Q : Flow → Heap → Prop}
    (k : ∀ h' m', LS B h₀ L cs ls m' h' → (∃ t, m' "low" = some (.int (undig w (msk 255 (lowB g))) t)) → (∃ t, m' "guard" = some (.int (undig w (msk 256 (lowB g))) t)) → (∃ t, m' "over" = some (.int (undig w (ns.drop g ++ List.replicate g 0)) t)) →
      (∃ t, m' "apart" = some (.int (undig w (apD ns (ns.drop g ++ List.replicate g 0) (lowB g))) t)) →
      (∀ x : Str, x ≠ "low" → x ≠ "guard" → x ≠ "over" → x ≠ "under" → x ≠ "apart" → m' x = m x) → Wp c A (execs rest (lawEnv L)) Q h') :
    Wp c A (execs (gapB.take 5 ++ rest) (lawEnv L)) Q h := by
  have hw9 := hw.ge
  have hw14 := hw.le
  obtain ⟨fo, fd', hfo, hfd⟩ := F.f11.there S.S.gg (by decide)
  refine Wp.cons (Wp.assign (Wp.callF (o := fo) (fd := fd') (fun Q q => Wp.nameG S.S T rfl rfl rfl F.n11 q) (Wp.icons (Wp.lcomp rfl rfl rfl (by decide) rfl
    (Wp.callT (ty := "range") (fun Q q => Wp.nameB S.S T rfl rfl rfl rfl F.bRange (by decide) (by decide +kernel) q) (Wp.icons (Wp.cInt fun t0 => Wp.inil (Wp.range1 fun h₁ t1 t2 t3 hr e1 s1 => ?_))))))))
  have S := S.grow e1
  refine Wp.iterR (n := 8) r.hh hr (by decide) (by decide) fun h₂ e2 src => ?_
  refine ⟨_, _, ramp 0 1 8, fun _ => true, fun i => 255 * (1 - Int.fmod (Int.fdiv i (g : Int)) 2), rfl, src, by decide, fun C h' m₁ v t hC hn hm hv ex => ⟨Wp.tests0 ⟨rfl, rfl⟩, fun _ => ?_⟩, fun D h' hD il ex => ?_⟩
  · have c2' := cell_ext (ext_cells (S.ce 2 c2) e2) ex (off1 (.inl (by have := S.cellLt; exact ar280 this)))
    exact Wp.bin (Wp.cInt fun t4 => Wp.bin (Wp.cInt fun t4' => Wp.bin (Wp.bin (Wp.nameN rfl rfl hn hm (Wp.nameC rfl rfl rfl c2' (Wp.fdivI (by exact ar281 hg) (log2_small (by omega)) fun t5 => Wp.cInt fun t6 => Wp.modI (by decide) fun t7 =>
      Wp.subI fun t7' => Wp.mulI (IntMulOk.of_left (bits_small (by decide) (by decide))) fun t8 => ⟨⟨t8, rfl⟩, rfl⟩))))))
  have ex' : Ext [] h₁ h' := ⟨Nat.le_trans e2.size ex.size, fun b o _ q => ex.get _ _ (nin_new q (Nat.le_refl _)) (e2.all _ _ q)⟩
  have S := S.grow ex'
  rw [low_list hg] at il
  have hL1 : (msk 255 (lowB g)).length = 8 := by rw [msk_len, lowB_len]
  refine Wp.icons (Wp.nameL S.S rfl rfl rfl (by exact mw) (Wp.inil ⟨⟨(e1.trans ex').all _ _ hfo, hfd⟩, ?_⟩))
  refine (d2i_spec T F S.S.gg (r.le (by rw [hL1]; decide)) il (msk_dig hw9 (by decide) (by decide) _) (by rw [hL1]; exact ar268 hw14) (by rw [hL1]; decide) (by exact ar269 hw14)).mono fun v h₃ ⟨⟨t9, ev⟩, e3, g3⟩ => ?_
  subst ev
  have S := S.tab e3 g3
  refine S.storeL rfl rfl rfl fun h₄ S e4 => ?_
  -- guard
  obtain ⟨tN, hN⟩ := F.cNT
  refine Wp.cons (Wp.assign (Wp.bin (Wp.bin (Wp.nameL S.S rfl rfl rfl rfl (Wp.cInt fun u1 => Wp.fdivI (by decide) (by decide +kernel) fun u2 => Wp.nameG S.S T rfl rfl rfl hN (Wp.mulI (IntMulOk.of_right (bits_small (by decide) (by decide))) fun u3 => ?_))))))
  rw [msk_fdiv w (by decide), ← msk_mul]
  refine S.storeL rfl rfl rfl fun h₅ S e5 => ?_
  -- over, under
  have h8 := hd.undig_lt hw
  have eN : undig w ns = ((undig w ns).toNat : Int) := (Int.toNat_of_nonneg h8.1).symm
  have eO := over_eq hd hw hg
  have ek : (w : Int) * (g : Int) = ((w * g : Nat) : Int) := by push_cast; rfl
  have hk1 : w * g ≤ 1400 * 4 := Nat.mul_le_mul hw14 (by exact ar282 hg)
  have hk2 : w ≤ w * g := Nat.le_mul_of_pos_right w (by exact ar283 hg)
  have hk3 : w * g ≤ 4000 ∨ w * g % 2 = 0 ∧ w * g ≤ 7000 := by
    unfold WOk at hw
    rcases hw with rfl | rfl | rfl | rfl <;> rcases hg with rfl | rfl | rfl <;> decide
  have e2k : (1 : Int) * 2 ^ (((w * g : Nat) : Int)).toNat = ((2 ^ (w * g) : Nat) : Int) := by rw [Int.one_mul, Int.toNat_natCast]; push_cast; rfl
  have hb1 : Builtin.Int.intBits 1 ≤ 64 := bits_small (by decide) (by decide)
  have hK := nfig_le h8.2 hk2
  have hN1 : m "number" = some (.int ((undig w ns).toNat : Int) tn) := by rw [mn, ← eN]
  clear mn
  generalize hNe : (undig w ns).toNat = N at *
  generalize hke : w * g = k' at *
  obtain ⟨fo, fd', hfo, hfd⟩ := F.f13.there S.S.gg (by decide)
  refine Wp.cons (Wp.unpack2 r.hh (Wp.callF (o := fo) (fd := fd') (fun Q q => Wp.nameG S.S T rfl rfl rfl F.n13 q) (Wp.icons (Wp.nameL S.S rfl rfl rfl (by exact hN1) (Wp.icons (Wp.bin (Wp.cInt fun u4 => Wp.bin (Wp.nameL S.S rfl rfl rfl (by exact mw) (Wp.nameC rfl rfl rfl (S.ce 2 c2)
    (Wp.mulI (IntMulOk.of_left (bits_small (by exact ar32) (by exact ar284 hw14))) fun u5 => ?_))))))))))
  rw [ek]
  refine Wp.shlI (by exact ar32) (by exact ar285 hb1 hk1) fun u6 => Wp.inil ⟨⟨hfo, hfd⟩, ?_⟩
  rw [e2k]
  refine (intDivmod_spec T F S.S.gg (r.le (by exact ar286 hK)) rfl hk3 (Nat.le_trans (Nat.mul_le_mul (show k' + 1 ≤ 5601 by exact ar287 hk1) hK) (by decide)) (by exact ar288 hK)).mono fun v h₆ ⟨p, e6, g6⟩ => ?_
  obtain ⟨Tp, tq, tr, ev, hTp⟩ := p
  subst ev
  have S := S.tab e6 g6
  refine ⟨Tp, _, _, rfl, hTp, fun h₇ e7 => ?_⟩
  have S := S.grow e7
  refine S.storeL rfl rfl rfl fun h₈ S e8 => S.storeL rfl rfl rfl fun h₉ S e9 => ?_
  -- the test
  refine Wp.cons (Wp.ifN (Wp.tCmp (Wp.tupD (Wp.icons (Wp.nameL S.S rfl rfl rfl rfl (Wp.icons (Wp.nameL S.S rfl rfl rfl rfl (Wp.inil ⟨show 2 ≤ 2 ^ 24 by decide, ?_⟩))))))))
  have hp1 : (h₉.push (tupObj [.int ((N / 2 ^ k' : Nat) : Int) tq, .int ((N % 2 ^ k' : Nat) : Int) tr])).get? h₉.objs.size = some _ := Heap.get?_push_size _ rfl
  have S := S.grow (Ext.push h₉ (tupObj [.int ((N / 2 ^ k' : Nat) : Int) tq, .int ((N % 2 ^ k' : Nat) : Int) tr]))
  generalize h₉.push (tupObj [.int ((N / 2 ^ k' : Nat) : Int) tq, .int ((N % 2 ^ k' : Nat) : Int) tr]) = hA at S hp1
  refine Wp.callB (bi := "divmod") (fun Q q => Wp.nameB S.S T rfl rfl rfl rfl F.bDivmod (by decide) (by decide +kernel) q) (Wp.icons (Wp.nameL S.S rfl rfl rfl (by exact hN1) (Wp.icons (Wp.bin (Wp.cInt fun u4 => Wp.bin (Wp.nameL S.S rfl rfl rfl (by exact mw) (Wp.nameC rfl rfl rfl (S.ce 2 c2)
    (Wp.mulI (IntMulOk.of_left (bits_small (by exact ar32) (by exact ar284 hw14))) fun u5 => ?_))))))))
  rw [ek]
  refine Wp.shlI (by exact ar32) (by exact ar285 hb1 hk1) fun u6 => Wp.inil ?_
  rw [e2k]
  have hp0 : 0 < 2 ^ k' := Nat.two_pow_pos k'
  refine Wp.divmodI (by exact ar86 hp0) (PyProof.noPylong_of_log2 (log2_pow_lt (by exact ar289 hk1))) fun u7 u8 => ?_
  rw [fdiv_nat, fmod_nat]
  have e10 := Ext.push hA (tupObj [.int ((N / 2 ^ k' : Nat) : Int) u7, .int ((N % 2 ^ k' : Nat) : Int) u8])
  have S := S.grow e10
  refine Wp.neT (e10.all _ _ hp1) (.cons _ _ (.cons _ _ .nil)) (Heap.get?_push_size _ rfl) (.cons _ _ (.cons _ _ .nil)) (by have := r.u; exact ar290 this) (Wp.truB ⟨by simp, ?_⟩)
  generalize hA.push (tupObj [.int ((N / 2 ^ k' : Nat) : Int) u7, .int ((N % 2 ^ k' : Nat) : Int) u8]) = hB at S
  -- apart
  have dO := hd.over hg
  refine Wp.cons (Wp.assign (Wp.bin (Wp.bin (Wp.bin (Wp.nameL S.S rfl rfl rfl rfl (Wp.nameL S.S rfl rfl rfl rfl (Wp.andI fun v1 => Wp.nameL S.S rfl rfl rfl rfl (Wp.addI fun v2 => Wp.bin (Wp.nameL S.S rfl rfl rfl (by exact hN1) (Wp.nameL S.S rfl rfl rfl rfl (Wp.andI fun v3 => Wp.subI fun v4 => ?_)))))))))))
  rw [eO, ← eN, and_sel hw9 (by rw [dO.1, lowB_len]) dO.2, and_sel hw9 (by rw [hd.1, lowB_len]) hd.2, apart_eq w (by rw [hd.1, lowB_len]) (by rw [dO.1, lowB_len])]
  refine S.storeL rfl rfl rfl fun hC S eC => ?_
  refine k hC _ S ⟨t9, rfl⟩ ⟨u3, rfl⟩ ⟨tq, ?_⟩ ⟨v4, rfl⟩ fun x h1 h2 h3 h4 h5 => ?_
  · rw [← eO]; rfl
  · rw [upd_ne h5, upd_ne h4, upd_ne h3, upd_ne h2, upd_ne h1]
end
end Mine
end

section
set_option maxRecDepth 100000
set_option maxHeartbeats 1000000
namespace Mine
open PySem PySem.W PyProof.Rows
theorem undig_split (w : Nat) (xs ys : List Int) : undig w (xs ++ ys) = undig w xs + undig w ys * 2 ^ (w * xs.length) := undig_app w xs ys
theorem nfig_top {w K : Nat} {xs : List Int} {t : Int} (hw : 0 < w) (hx : ∀ d ∈ xs, 0 ≤ d ∧ d < 2 ^ w) (hlen : xs.length = K) (h0 : 0 < t) (ht : t < 2 ^ w) : nfig w (undig w (xs ++ [t])).toNat = K + 1 := by
  have hall : ∀ d ∈ xs ++ [t], 0 ≤ d ∧ d < 2 ^ w := fun d hd => by
    rcases List.mem_append.mp hd with q | q
    · exact hx d q
    · rw [List.mem_singleton.mp q]; exact ⟨Int.le_of_lt h0, ht⟩
  have n0 := undig_nonneg w (xs ++ [t]) fun d hd => (hall d hd).1
  have n1 := Mine.undig_lt w (xs ++ [t]) hall
  have n2 := undig_nonneg w xs fun d hd => (hx d hd).1
  have n3 := undig_split w xs [t]
  rw [hlen, undig_one] at n3
  rw [List.length_append, hlen, List.length_singleton] at n1
  have hp : (0 : Int) < 2 ^ (w * K) := Int.pow_pos (by decide)
  have n4 : (2 : Int) ^ (w * K) ≤ undig w (xs ++ [t]) := by
    rw [n3]
    have := Int.mul_le_mul_of_nonneg_right (show (1 : Int) ≤ t from h0) (Int.le_of_lt hp)
    exact ar335 this n2
  obtain ⟨a, ea⟩ := Int.eq_ofNat_of_zero_le n0
  rw [ea] at n1 n4 ⊢
  rw [Int.toNat_natCast]
  have m1 : a < 2 ^ (w * (K + 1)) := by exact_mod_cast n1
  have m2 : 2 ^ (w * K) ≤ a := by exact_mod_cast n4
  have b1 := natBits m1
  have b2 : w * K < Builtin.Int.intBits (a : Int) := (Nat.pow_lt_pow_iff_right (by decide)).mp (Nat.lt_of_le_of_lt m2 (lt_bits a))
  unfold nfig
  generalize Builtin.Int.intBits (a : Int) = b at b1 b2
  rw [Nat.mul_succ] at b1
  apply Nat.le_antisymm
  · apply Nat.le_of_lt_succ
    rw [Nat.div_lt_iff_lt_mul hw, Nat.mul_comm, Nat.mul_succ, Nat.mul_succ]
    exact ar336 hw b1
  · rw [Nat.le_div_iff_mul_le hw, Nat.mul_comm, Nat.mul_succ]
    exact ar337 b2
theorem apD1_eq (a b c d e f x y : Int) : apD [a, b, c, d, e, f, x, y] ([a, b, c, d, e, f, x, y].drop 1 ++ List.replicate 1 0) (lowB 1) = [256 + b - a, 0, 256 + d - c, 0, 256 + f - e, 0] ++ [256 + y - x] ++ [0] := rfl
theorem apD2_eq (a b c d e f x y : Int) : apD [a, b, c, d, e, f, x, y] ([a, b, c, d, e, f, x, y].drop 2 ++ List.replicate 2 0) (lowB 2) = [256 + c - a, 256 + d - b, 0, 0, 256 + x - e] ++ [256 + y - f] ++ [0, 0] := rfl
theorem apD4_eq (a b c d e f x y : Int) : apD [a, b, c, d, e, f, x, y] ([a, b, c, d, e, f, x, y].drop 4 ++ List.replicate 4 0) (lowB 4) = [256 + e - a, 256 + f - b, 256 + x - c] ++ [256 + y - d] ++ [0, 0, 0, 0] := rfl
theorem fig_case {w g : Nat} (hw : 9 ≤ w) {xs : List Int} {t : Int} (hx : ∀ d ∈ xs, 0 ≤ d ∧ d < 512) (h0 : 0 < t) (ht : t < 512) (hl : xs.length + 1 + g = 8) :
    nfig w (undig w (xs ++ [t] ++ List.replicate g 0)).toNat = 8 - g ∧ digs w (8 - g) (undig w (xs ++ [t] ++ List.replicate g 0)).toNat = (xs ++ [t] ++ List.replicate g 0).take (8 - g) ∧ (∀ d ∈ xs ++ [t] ++ List.replicate g 0, 0 ≤ d ∧ d < 512) ∧ 0 ≤ undig w (xs ++ [t] ++ List.replicate g 0) := by
  have hp := pow_ge hw
  have hall : ∀ d ∈ xs ++ [t], 0 ≤ d ∧ d < 512 := fun d hd => by
    rcases List.mem_append.mp hd with q | q
    · exact hx d q
    · rw [List.mem_singleton.mp q]; exact ⟨Int.le_of_lt h0, ht⟩
  have hall2 : ∀ d ∈ xs ++ [t], 0 ≤ d ∧ d < 2 ^ w := fun d hd => by have := hall d hd; exact ar338 this hp
  rw [undig_zeros]
  have hl2 : (xs ++ [t]).length = 8 - g := by rw [List.length_append, List.length_singleton]; exact ar339 hl
  refine ⟨?_, ?_, fun d hd => ?_, undig_nonneg w _ fun d hd => (hall d hd).1⟩
  · rw [nfig_top (by exact ar293 hw) (fun d hd => by have := hx d hd; exact ar338 this hp) rfl h0 (by exact ar340 hp ht)]; exact ar339 hl
  · have := digs_undig hall2
    rw [hl2] at this
    rw [this, ← hl2, List.take_left']
    rfl
  · rcases List.mem_append.mp hd with q | q
    · exact hall d q
    · rw [(List.mem_replicate.mp q).2]; decide
theorem fig_spec {w g : Nat} (hw : 9 ≤ w) (hg : g = 1 ∨ g = 2 ∨ g = 4) : ∀ {ns : List Int}, Dig ns →
    nfig w (undig w (apD ns (ns.drop g ++ List.replicate g 0) (lowB g))).toNat = 8 - g ∧ digs w (8 - g) (undig w (apD ns (ns.drop g ++ List.replicate g 0) (lowB g))).toNat = (apD ns (ns.drop g ++ List.replicate g 0) (lowB g)).take (8 - g) ∧
      (∀ d ∈ apD ns (ns.drop g ++ List.replicate g 0) (lowB g), 0 ≤ d ∧ d < 512) ∧ 0 ≤ undig w (apD ns (ns.drop g ++ List.replicate g 0) (lowB g))
  | [a, b, c, d, e, f, x, y], ⟨_, h⟩ => by
    simp only [List.mem_cons, List.not_mem_nil, or_false, forall_eq_or_imp, forall_eq] at h
    rcases hg with rfl | rfl | rfl
    · rw [apD1_eq]
      refine fig_case (g := 1) hw ?_ (by exact ar341 h) (by exact ar342 h) rfl
      simp only [List.mem_cons, List.not_mem_nil, or_false, forall_eq_or_imp, forall_eq]; exact ar343 h
    · rw [apD2_eq]
      refine fig_case (g := 2) hw ?_ (by exact ar344 h) (by exact ar345 h) rfl
      simp only [List.mem_cons, List.not_mem_nil, or_false, forall_eq_or_imp, forall_eq]; exact ar346 h
    · rw [apD4_eq]
      refine fig_case (g := 4) hw ?_ (by exact ar347 h) (by exact ar348 h) rfl
      simp only [List.mem_cons, List.not_mem_nil, or_false, forall_eq_or_imp, forall_eq]; exact ar349 h
end Mine
end

section
set_option maxRecDepth 100000
set_option maxHeartbeats 1000000
namespace Mine
open PySem PySem.W PyProof.Rows
/-- the g figures from place j * g on -/
noncomputable def chunk (g j : Nat) (l : List Int) : List Int := (l.drop (j * g)).take g
theorem chunk_len {g j : Nat} {l : List Int} (h : (j + 1) * g ≤ l.length) : (chunk g j l).length = g := by
  unfold chunk
  rw [List.length_take, List.length_drop]
  rw [Nat.succ_mul] at h
  exact ar350 h
theorem part_xy {g k : Nat} (hg : g = 1 ∨ g = 2 ∨ g = 4) (hk : (k + 1) * (2 * g) ≤ 8) : ∀ {ds : List Int}, ds.length = 8 →
    (((apD (flip (turnB (2 * g)) ds) ((flip (turnB (2 * g)) ds).drop g ++ List.replicate g 0) (lowB g)).take (8 - g)).drop (k * (2 * g))).take g =
      if k % 2 = 1 then List.zipWith (fun a b => 256 + b - a) ((chunk g (2 * k) ds).map (255 - ·)) ((chunk g (2 * k + 1) ds).map (255 - ·)) else List.zipWith (fun a b => 256 + b - a) (chunk g (2 * k) ds) (chunk g (2 * k + 1) ds)
  | [a, b, c, d, e, f, x, y], _ => by
    rcases hg with rfl | rfl | rfl
    · match k, hk with
      | 0, _ => rfl
      | 1, _ => rfl
      | 2, _ => rfl
      | 3, _ => rfl
      | n + 4, h => exact (ar351 h).elim
    · match k, hk with
      | 0, _ => rfl
      | 1, _ => rfl
      | n + 2, h => exact (ar352 h).elim
    · match k, hk with
      | 0, _ => rfl
      | n + 1, h => exact (ar353 h).elim
theorem bitXor255 {x : Int} (h0 : 0 ≤ x) (h1 : x ≤ 255) : Builtin.bitXor x 255 = 255 - x := by
  rw [bitXor_and, and255 h0 h1]; exact ar354
theorem bitXor0 {x : Int} (h0 : 0 ≤ x) : Builtin.bitXor x 0 = x := by
  rw [bitXor_and, and0 x h0]; exact ar355
/-- the keys of a stretch, turned over if odd -/
noncomputable def blockOf (ks : List Int) (g k : Nat) : List Int := ((ks.drop (k * (2 * g))).take (2 * g)).map fun x => Builtin.bitXor x (255 * ((k % 2 : Nat) : Int))
theorem take_two (l : List Int) (a g : Nat) : (l.drop a).take (2 * g) = (l.drop a).take g ++ (l.drop (a + g)).take g := by
  rw [show 2 * g = g + g by exact ar356, List.take_add, List.drop_drop]
theorem blockOf_eq {ks : List Int} {g k : Nat} : blockOf ks g k = (chunk g (2 * k) ks).map (fun x => Builtin.bitXor x (255 * ((k % 2 : Nat) : Int))) ++ (chunk g (2 * k + 1) ks).map (fun x => Builtin.bitXor x (255 * ((k % 2 : Nat) : Int))) := by
  unfold blockOf chunk
  rw [take_two, List.map_append, show k * (2 * g) = 2 * k * g by rw [← Nat.mul_assoc, Nat.mul_comm k 2], show 2 * k * g + g = (2 * k + 1) * g by rw [Nat.add_mul, Nat.one_mul]]
theorem map_at (bs : List Int) : ∀ (g a : Nat), a + g ≤ bs.length → (ramp a 1 g).map (atB bs) = (bs.drop a).take g
  | 0, a, _ => by simp [ramp]
  | g + 1, a, h => by
    have h2 : a < bs.length := by exact ar357 h
    rw [ramp, List.map_cons, show (a : Int) + 1 = ((a + 1 : Nat) : Int) by push_cast; rfl, map_at bs g (a + 1) (by exact ar358 h), List.drop_eq_getElem_cons h2, List.take_succ_cons]
    congr 1
    unfold atB
    rw [Int.toNat_natCast, List.getD_eq_getElem?_getD, List.getElem?_eq_getElem h2]; rfl
theorem falling_uniq {l l' : List Int} (x : l.Pairwise (fun a b => b ≤ a)) (y : l'.Pairwise (fun a b => b ≤ a)) (p : l.Perm l') : l = l' :=
  List.Perm.eq_of_pairwise (fun a b _ _ h1 h2 => Int.le_antisymm h2 h1) x y p
theorem diffs_map (bs ys zs : List Int) : diffs bs ys zs = List.zipWith (fun a b => 256 + b - a) (ys.map (atB bs)) (zs.map (atB bs)) := by
  unfold diffs
  rw [List.zipWith_map]
theorem part_ok {g k : Nat} (hg : g = 1 ∨ g = 2 ∨ g = 4) (hk : (k + 1) * (2 * g) ≤ 8) {ds ks ys zs : List Int} (hd : Dig ds) (hks : Dig ks) (I : Inv g ds ks) (py : ys.Perm (ramp 0 1 g))
    (wy : ys.Pairwise (fun x y => atB (blockOf ks g k) x < atB (blockOf ks g k) y ∨ (atB (blockOf ks g k) x = atB (blockOf ks g k) y ∧ y < x))) (pz : zs.Perm (ramp g 1 g)) (wz : Stab (fun y => - atB (blockOf ks g k) y) zs) :
    (((apD (flip (turnB (2 * g)) ds) ((flip (turnB (2 * g)) ds).drop g ++ List.replicate g 0) (lowB g)).take (8 - g)).drop (k * (2 * g))).take g = if k % 2 = 1 then (diffs (blockOf ks g k) ys zs).reverse else diffs (blockOf ks g k) ys zs := by
  have k1 : (2 * k + 1) * g ≤ 8 := by
    rw [Nat.add_mul, Nat.one_mul, Nat.mul_comm 2 k, Nat.mul_assoc]; rw [Nat.add_mul, Nat.one_mul] at hk; exact ar359 hk
  have k2 : (2 * k + 1 + 1) * g ≤ 8 := by
    rw [Nat.add_mul, Nat.add_mul, Nat.one_mul, Nat.mul_comm 2 k, Nat.mul_assoc]; rw [Nat.add_mul, Nat.one_mul] at hk; exact ar360 hk
  obtain ⟨p1, r1, _⟩ := I (2 * k) k1
  obtain ⟨p2, _, r2⟩ := I (2 * k + 1) k2
  have r1 : (chunk g (2 * k) ds).Pairwise (· ≤ ·) := r1 (by exact ar361)
  have r2 : (chunk g (2 * k + 1) ds).Pairwise (fun a b => b ≤ a) := r2 (by exact ar362)
  have p1 : (chunk g (2 * k) ds).Perm (chunk g (2 * k) ks) := p1
  have p2 : (chunk g (2 * k + 1) ds).Perm (chunk g (2 * k + 1) ks) := p2
  have l1 : (chunk g (2 * k) ks).length = g := chunk_len (by rw [hks.1]; exact k1)
  have l2 : (chunk g (2 * k + 1) ks).length = g := chunk_len (by rw [hks.1]; exact k2)
  have hb := blockOf_eq (ks := ks) (g := g) (k := k)
  rw [part_xy hg hk hd.1, diffs_map]
  generalize hbs : blockOf ks g k = bs at *
  have hbl : bs.length = 2 * g := by rw [hb, List.length_append, List.length_map, List.length_map, l1, l2]; exact ar363
  have m1 := py.map (atB bs)
  have m2 := pz.map (atB bs)
  have a1 := map_at bs g 0 (by exact ar364 hbl)
  have a2 := map_at bs g g (by exact ar365 hbl)
  have a1' : (ramp 0 1 g).map (atB bs) = (chunk g (2 * k) ks).map (fun x => Builtin.bitXor x (255 * ((k % 2 : Nat) : Int))) := by
    rw [show (0 : Int) = ((0 : Nat) : Int) from rfl, a1, hb, List.drop_zero, List.take_left' (by rw [List.length_map, l1])]
  have a2' : (ramp g 1 g).map (atB bs) = (chunk g (2 * k + 1) ks).map (fun x => Builtin.bitXor x (255 * ((k % 2 : Nat) : Int))) := by
    rw [a2, hb, List.drop_left' (by rw [List.length_map, l1]), List.take_of_length_le (by rw [List.length_map, l2]; exact Nat.le_refl _)]
  rw [a1'] at m1
  rw [a2'] at m2
  have s1 : (ys.map (atB bs)).Pairwise (· ≤ ·) := by rw [List.pairwise_map]; exact wy.imp fun {a b} h => by exact ar366 h
  have s2 : (zs.map (atB bs)).Pairwise (fun a b => b ≤ a) := by rw [List.pairwise_map]; exact wz.imp fun {a b} h => by dsimp only at h; exact ar367 h
  have kb : ∀ {j : Nat} {x : Int}, x ∈ chunk g j ks → 0 ≤ x ∧ x ≤ 255 := fun hx => hks.2 _ (List.mem_of_mem_drop (List.mem_of_mem_take hx))
  by_cases ho : k % 2 = 1
  · rw [if_pos ho, if_pos ho]
    rw [ho] at m1 m2
    have e1 : ∀ j, (chunk g j ks).map (fun x => Builtin.bitXor x (255 * ((1 : Nat) : Int))) = (chunk g j ks).map (255 - ·) := fun j => List.map_congr_left fun x hx => bitXor255 (kb hx).1 (kb hx).2
    rw [e1] at m1 m2
    have f1 : ((chunk g (2 * k) ds).map (255 - ·)).reverse = ys.map (atB bs) := by
      refine sorted_uniq ?_ s1 ((List.reverse_perm _).trans ((p1.map _).trans m1.symm))
      rw [List.pairwise_reverse, List.pairwise_map]
      exact r1.imp fun {a b} h => by exact ar331 h
    have f2 : ((chunk g (2 * k + 1) ds).map (255 - ·)).reverse = zs.map (atB bs) := by
      refine falling_uniq ?_ s2 ((List.reverse_perm _).trans ((p2.map _).trans m2.symm))
      rw [List.pairwise_reverse, List.pairwise_map]
      exact r2.imp fun {a b} h => by exact ar331 h
    rw [← f1, ← f2, List.reverse_zipWith (by simp [py.length_eq, pz.length_eq, ramp_len, p1.length_eq, p2.length_eq, l1, l2]), List.reverse_reverse, List.reverse_reverse]
  · rw [if_neg ho, if_neg ho]
    rw [show k % 2 = 0 by exact ar368 ho] at m1 m2
    have e1 : ∀ j, (chunk g j ks).map (fun x => Builtin.bitXor x (255 * ((0 : Nat) : Int))) = chunk g j ks := fun j => by
      rw [show (255 : Int) * ((0 : Nat) : Int) = 0 from rfl]
      have := List.map_congr_left (f := fun x => Builtin.bitXor x 0) (g := id) (l := chunk g j ks) fun x hx => bitXor0 (kb hx).1
      rw [this, List.map_id]
    rw [e1] at m1 m2
    rw [sorted_uniq r1 s1 (p1.trans m1.symm), falling_uniq r2 s2 (p2.trans m2.symm)]
end Mine
end

section
open PySem PySem.W PyProof.Rows
set_option maxRecDepth 100000
set_option maxHeartbeats 4000000
namespace Mine
section
variable {c : Cx} {A : Around} {B h₀ h : Heap} {L : Nat} {cs : Nat → Option Value} {ls : List Th} {m mg mb : Str → Option Value}
theorem LS.fresh (S : LS B h₀ L cs ls m h) {I : Nat} (hI : h.objs.size ≤ I) : ∀ p ∈ ls, I ∉ p.fp := fun p hp q => Nat.lt_irrefl _ (Nat.lt_of_lt_of_le ((S.things p hp).1 I q).2 hI)
/-- a loop of the law over a source of ints -/
theorem LS.forIt {target : Expr} {body : List Stmt} {Q : Flow → Heap → Prop} {I : Nat} {fp : List Nat} {xs : List Int} (src : Src c A h I fp xs) (hfp : ∀ b ∈ fp, L + 5 < b) (hI5 : L + 5 < I)
    (J : Nat → (Nat → Option Value) → (Str → Option Value) → List Th → Prop) (S : LS B h₀ L cs ls m h) (h0 : J 0 cs m ls) (hJ : ∀ i cs m ls, J i cs m ls → ∀ p ∈ ls, I ∉ p.fp)
    (turn : ∀ i h' cs' m' ls' n t p, J i cs' m' ls' → xs[i]? = some n → LS B h₀ L cs' (p :: ls') m' h' → p.fp = fp → Wp c A (PySem.assign target (lawEnv L) (.int n t)) (fun _ h₂ => Wp c A (execs body (lawEnv L)) (fun f h₃ => match f with
      | .next => ∃ cs'' m'' ls'', J (i + 1) cs'' m'' ls'' ∧ LS B h₀ L cs'' (p :: ls'') m'' h₃ | .cont => ∃ cs'' m'' ls'', J (i + 1) cs'' m'' ls'' ∧ LS B h₀ L cs'' (p :: ls'') m'' h₃ | .brk => Q .next h₃ | .ret v => Q (.ret v) h₃) h₂) h')
    (fin : ∀ h' cs' m' ls', J xs.length cs' m' ls' → LS B h₀ L cs' ls' m' h' → Q .next h') (ht : ∀ v, letOwnedTupleGo target (.ref I) v = Pure.pure () := by intro _; rfl) : Cp c A (.forLoop target (.ref I) body [] (lawEnv L)) Q h := by
  obtain ⟨St, W, st, hIlt, hfl, fr, _, hno⟩ := src
  have up : ∀ {i h' h'' cs' m' ls'}, St i h' → J i cs' m' ls' → LS B h₀ L cs' ls' m' h' → Ext [I] h' h'' → LS B h₀ L cs' ls' m' h'' := by
    intro i h' h'' cs' m' ls' st' j S' ex
    obtain ⟨oI, hoI, noI⟩ := hno i h' st'
    refine S'.up ex (S'.S.gg.turnI ex hoI noI (S'.newB (by exact ar255 hI5)) (S'.off (by exact ar255 hI5))) fun b hb => ?_
    have hb : b = I := List.mem_singleton.mp hb
    subst hb
    exact .inr ⟨hI5, hJ _ _ _ _ j⟩
  refine Cp.forIt W (fun i h' => ∃ cs' m' ls', J i cs' m' ls' ∧ LS B h₀ L cs' (Th.st fp St fr i :: ls') m' h') ⟨cs, m, ls, h0, S.add _ (fun b hb => ⟨hfp b hb, hfl b hb⟩) st⟩ (fun i h' ⟨_, _, _, _, s⟩ => (s.things _ List.mem_cons_self).2) ?_ ?_ ht
  · rintro i h' v h'' hi ⟨cs', m', ls', j, S'⟩ ⟨n, t, hn, rfl⟩ st' ex
    have st0 := (S'.things _ List.mem_cons_self)
    have S2 := (up st0.2 j S'.tail ex).add (Th.st fp St fr (i + 1)) (fun b hb => ⟨hfp b hb, Nat.lt_of_lt_of_le (st0.1 b hb).2 ex.size⟩) st'
    refine (turn i h'' cs' m' ls' n t _ j hn S2 rfl).mono fun _ h₂ q => q.mono fun f h₃ q => ?_
    cases f with
    | next => exact q
    | cont => exact q
    | brk => exact q
    | ret v => exact q
  · rintro h' h'' ⟨cs', m', ls', j, S'⟩ ex
    exact fin h'' cs' m' ls' j (up (S'.things _ List.mem_cons_self).2 j S'.tail ex)
end
end Mine
end

section
open PySem PySem.W PyProof.Rows
set_option maxRecDepth 100000
set_option maxHeartbeats 4000000
namespace Mine
theorem range_g {g : Nat} (hg : g = 1 ∨ g = 2 ∨ g = 4) : Builtin.Range.small 0 8 ((2 * g : Nat) : Int) = true ∧ Builtin.Range.rangeSize 0 8 ((2 * g : Nat) : Int) = ((8 / (2 * g) : Nat) : Int) := by
  rcases hg with rfl | rfl | rfl <;> exact ⟨by decide +kernel, by decide +kernel⟩
theorem bs1 {x g : Nat} (h : x = 8 - g) : x < 2 ^ 62 := by omega
theorem bs2 {x g : Nat} (h : x = 8 - g) (hg : g ≤ 4) : (x : Int) = 8 - (g : Int) := by omega
theorem bs3 {g : Nat} (h : 0 < g) : ((2 * g : Nat) : Int) ≠ 0 := by omega
theorem bs4 {g : Nat} (h : g ≤ 4) : ((2 * g : Nat) : Int).natAbs < 2 ^ 30 := by omega
theorem bs5 {g : Nat} (h : g = 1 ∨ g = 2 ∨ g = 4) : 0 < g ∧ g ≤ 4 := by omega
theorem bs6 {g : Nat} (h : 0 < g) : 0 < 2 * g := by omega
theorem bs7 {n x : Int} {i g : Nat} (h : some (x + (i : Int) * ((2 * g : Nat) : Int)) = some n) (hx : x = 0) : n = ((i * (2 * g) : Nat) : Int) := by rw [← Option.some.inj h, hx, Int.zero_add]; push_cast; rfl
theorem bs14 {b g : Nat} (h : g ≤ 4) : min (2 * g) b < 2 ^ 20 := by omega
theorem bs9 {x g : Nat} (h : x + 2 * g ≤ 8) : min (2 * g) (8 - x) = 2 * g := Nat.min_eq_left (Nat.le_sub_of_add_le (by rw [Nat.add_comm]; exact h))
theorem bs10 {x g y : Nat} (h : x + 2 * g ≤ 8) (e : y = 8 - g) : x + g ≤ y := by omega
theorem bs11 {x g : Nat} (e : x = 8 - g) : x ≤ 100 := by omega
theorem bs12 {L n : Nat} (h : L + 5 < n) : L + 3 < n := by omega
theorem bs13 {L n C : Nat} (h : L + 5 < n) (hC : n ≤ C) : L < C := by omega
section
variable {c : Cx} {A : Around} {B h₀ h : Heap} {L : Nat} {cs : Nat → Option Value} {ls : List Th} {m mg mb : Str → Option Value}
theorem lawFirst (T : TopAt B mg mb) (F : Fns B mg) (r : Room A 21) (S : LS B h₀ L cs ls m h) {size g w lk : Nat} {ts tg tw ta : Tok} {ns ks : List Int} (c1 : cs 1 = some (.int size ts)) (c2 : cs 2 = some (.int g tg)) (c5 : cs 5 = some (.ref lk)) (hk : Th.il lk ks ∈ ls) (hks : Dig ks) (hg : g = 1 ∨ g = 2 ∨ g = 4)
    (mw : m "width" = some (.int w tw)) (hw : WOk w) (ma : m "apart" = some (.int (undig w (apD ns (ns.drop g ++ List.replicate g 0) (lowB g))) ta)) (hd : Dig ns)
    (hp : 2 * g = size → ∀ k, (k + 1) * (2 * g) ≤ 8 → ∀ ys zs, ys.Perm (ramp 0 1 g) → ys.Pairwise (fun x y => atB (blockOf ks g k) x < atB (blockOf ks g k) y ∨ (atB (blockOf ks g k) x = atB (blockOf ks g k) y ∧ y < x)) → zs.Perm (ramp g 1 g) → Stab (fun y => - atB (blockOf ks g k) y) zs →
      (((apD ns (ns.drop g ++ List.replicate g 0) (lowB g)).take (8 - g)).drop (k * (2 * g))).take g = if k % 2 = 1 then (diffs (blockOf ks g k) ys zs).reverse else diffs (blockOf ks g k) ys zs)
    {rest : List Stmt} {Q : Flow → Heap → Prop}
    (k : ∀ h' m' cs', LS B h₀ L cs' ls m' h' → (∀ j, j ≠ 3 → cs' j = cs j) → (∀ x : Str, x ≠ "figures" → x ≠ "start" → x ≠ "block" → m' x = m x) → Wp c A (execs rest (lawEnv L)) Q h') :
    Wp c A (execs (nth gapB 5 :: rest) (lawEnv L)) Q h := by
  have hg0 := (bs5 hg).1
  have hg4 := (bs5 hg).2
  have hw9 := hw.ge
  have hw14 := hw.le
  by_cases e : 2 * g = size
  case neg =>
    refine Wp.cons (Wp.ifN (Wp.tCmp (Wp.bin (Wp.cInt fun u1 => Wp.nameC rfl rfl rfl (S.ce 2 c2) (Wp.mulI (IntMulOk.of_left (bits_small (by decide) (by decide))) fun u2 => Wp.nameC rfl rfl rfl (S.ce 1 c1) (Wp.eqI (Wp.truB ⟨beq_eq_false_iff_ne.mpr (by exact ar291 e), ?_⟩)))))))
    exact k h m cs S (fun _ _ => rfl) fun _ _ _ _ => rfl
  subst e
  refine Wp.cons (Wp.ifT (Wp.tCmp (Wp.bin (Wp.cInt fun u1 => Wp.nameC rfl rfl rfl (S.ce 2 c2) (Wp.mulI (IntMulOk.of_left (bits_small (by decide) (by decide))) fun u2 => Wp.nameC rfl rfl rfl (S.ce 1 c1) (Wp.eqI (Wp.truB ⟨beq_iff_eq.mpr (by exact ar126), ?_⟩)))))))
  obtain ⟨f1, f2, f3, f4⟩ := fig_spec hw9 hg hd
  have hDl : (apD ns (ns.drop g ++ List.replicate g 0) (lowB g)).length = 8 := by simp [apD, hd.1, (hd.over hg).1, lowB_len]
  generalize apD ns (ns.drop g ++ List.replicate g 0) (lowB g) = D at *
  have eN : undig w D = ((undig w D).toNat : Int) := (Int.toNat_of_nonneg f4).symm
  rw [eN] at ma
  -- figures
  obtain ⟨fo, fd', hfo, hfd⟩ := F.f10.there S.S.gg (by decide)
  refine Wp.cons (Wp.assign (Wp.callF (o := fo) (fd := fd') (fun Q q => Wp.nameG S.S T rfl rfl rfl F.n10 q) (Wp.icons (Wp.nameL S.S rfl rfl rfl ma (Wp.icons (Wp.nameL S.S rfl rfl rfl mw (Wp.inil ⟨⟨hfo, hfd⟩, ?_⟩)))))))
  refine (i2d_spec T F S.S.gg (r.le (by exact ar292)) (by exact ar293 hw9) f1 (Nat.le_trans (Nat.mul_le_mul hw14 (show 8 - g ≤ 8 by exact ar294)) (by decide)) (by exact ar295) (by exact ar269 hw14)).mono fun v h₁ ⟨lf, ev, ilf, hlf, e1, g1⟩ => ?_
  subst ev
  rw [f2] at ilf
  obtain ⟨lf, rfl⟩ : ∃ l : Nat, l = lf := ⟨lf, rfl⟩
  have hlL := S.cellLt
  have S := (S.tab e1 g1).addL (show L + 5 < lf from Nat.lt_of_lt_of_le hlL hlf) ilf
  clear f1 f2 ilf
  have hfl : (D.take (8 - g)).length = 8 - g := by rw [List.length_take, hDl]; exact Nat.min_eq_left (Nat.sub_le 8 g)
  generalize D.take (8 - g) = fs at *
  refine S.storeL rfl rfl rfl fun h₂ S e2 => ?_
  -- len
  refine Wp.cons (Wp.ifN (Wp.tCmp (Wp.callB (bi := "len") (fun Q q => Wp.nameB S.S T rfl rfl rfl rfl F.bLen (by decide) (by decide +kernel) q) (Wp.icons (Wp.nameL S.S rfl rfl rfl rfl (Wp.inil (Wp.lenL (S.il List.mem_cons_self) (by exact bs1 hfl) fun u3 => Wp.bin (Wp.cInt fun u4 =>
    Wp.nameC rfl rfl rfl (S.ce 2 c2) (Wp.subI fun u5 => Wp.neI (Wp.truB ⟨bne_eq_false_iff_eq.mpr (by exact bs2 hfl hg4), ?_⟩))))))))))
  -- the loop
  refine Wp.cons (Wp.forS (Wp.callT (ty := "range") (fun Q q => Wp.nameB S.S T rfl rfl rfl rfl F.bRange (by decide) (by decide +kernel) q) (Wp.icons (Wp.cInt fun v1 => Wp.icons (Wp.cInt fun v2 => Wp.icons (Wp.nameC rfl rfl rfl (S.ce 1 c1) (Wp.inil (Wp.range3 (by exact bs3 hg0) (by exact bs4 hg4) fun h₃ v3 v4 v5 hr e3 s3 => ?_))))))))
  have S := S.grow e3
  refine Wp.iterR (n := 8 / (2 * g)) r.hh hr (range_g hg).1 (range_g hg).2 fun h₄ e4 src => ?_
  have hI5 : L + 5 < h₃.objs.size := S.cellLt
  have hfr := S.fresh (Nat.le_refl _)
  have S := S.grow e4
  generalize hI : h₃.objs.size = I at *
  generalize hm1 : upd "figures" (Value.ref lf) m = m1 at S
  refine LS.forIt src (fun b hb => by rw [List.mem_singleton.mp hb]; exact hI5) hI5 (fun i cs' m' ls' => ls' = Th.il lf fs :: ls ∧ (∀ j, j ≠ 3 → cs' j = cs j) ∧ (∀ x : Str, x ≠ "start" → x ≠ "block" → m' x = m1 x)) S ⟨rfl, fun _ _ => rfl, fun _ _ _ => rfl⟩ (fun i cs m ls ⟨e, _⟩ => e ▸ hfr) ?_ ?_
  · rintro i h' cs' m' ls' n t p ⟨rfl, hcs, hm⟩ hn S _
    have hi : i < 8 / (2 * g) := by have := (List.getElem?_eq_some_iff.mp hn).1; rwa [ramp_len] at this
    rw [ramp_at _ _ _ _ hi] at hn
    have hi8 : (i + 1) * (2 * g) ≤ 8 := (Nat.le_div_iff_mul_le (bs6 hg0)).mp hi
    obtain rfl : n = ((i * (2 * g) : Nat) : Int) := bs7 hn rfl
    have hst : i * (2 * g) + 2 * g ≤ 8 := by rw [Nat.add_mul, Nat.one_mul] at hi8; exact hi8
    have c1' : cs' 1 = some (.int (2 * g : Nat) ts) := (hcs 1 (by decide)).trans c1
    refine Wp.absB fun Qy ky => ?_
    refine Wp.asg (S.storeL rfl rfl rfl fun g1 S x1 => ?_)
    -- odd
    refine Wp.cons (Wp.assign (Wp.bin (Wp.bin (Wp.nameL S.S rfl rfl rfl rfl (Wp.nameC rfl rfl rfl (S.ce 1 c1') (Wp.fdivI (by exact bs3 hg0) (log2_small (by exact bs4 hg4)) fun w1 => Wp.cInt fun w2 => Wp.modI (by decide) fun w3 => ?_))))))
    have eo : Int.fmod (Int.fdiv ((i * (2 * g) : Nat) : Int) ((2 * g : Nat) : Int)) 2 = ((i % 2 : Nat) : Int) := by
      rw [fdiv_nat, Nat.mul_div_cancel i (bs6 hg0)]; exact fmod_nat i 2
    rw [eo]
    refine S.storeC 3 rfl rfl rfl fun g2 S x2 => ?_
    -- block
    have hkm : Th.il lk ks ∈ p :: Th.il lf fs :: ls := List.mem_cons_of_mem _ (List.mem_cons_of_mem _ hk)
    have c5' : cs' 5 = some (.ref lk) := (hcs 5 (by decide)).trans c5
    obtain ⟨vk, hvk, hik⟩ := (S.il hkm).isList
    have esg : ((i * (2 * g) : Nat) : Int) + ((2 * g : Nat) : Int) = ((i * (2 * g) + 2 * g : Nat) : Int) := by push_cast; rfl
    refine Wp.cons (Wp.lcompA rfl rfl rfl rfl (by decide) rfl (Wp.slice (Wp.nameC rfl rfl rfl (S.ce 5 c5') (Wp.partS (Wp.nameL S.S rfl rfl rfl rfl (Wp.partS (Wp.bin (Wp.nameL S.S rfl rfl rfl rfl (Wp.nameC rfl rfl rfl (S.ce 1 c1') (Wp.addI fun w4 => ?_))))))))))
    rw [esg]
    refine ⟨lk, vk, ks, _, _, _, rfl, hvk, hik, by rw [hks.1]; decide, .int _ _, .int _ _, pick_run hik (Nat.le_add_right _ _) (by rw [hks.1]; exact hst), fun D1 g3 hD1 ilD x3 => ?_⟩
    rw [Nat.add_sub_cancel_left] at ilD
    have S := S.grow x3
    refine Wp.iterL r.hh ilD fun g4 x4 src => ?_
    have fresh3 : ∀ n : Nat, g3.objs.size ≤ n → ∀ q ∈ p :: Th.il lf fs :: ls, n ∉ q.fp := fun n hn => S.fresh hn
    have hL3 := S.cellLt
    refine ⟨_, _, _, fun _ => true, fun x => Builtin.bitXor x (255 * ((i % 2 : Nat) : Int)), rfl, src, by rw [List.length_take]; exact bs14 hg4, fun C h' m₁ v t hC hn hm hv ex => ⟨Wp.tests0 ⟨rfl, rfl⟩, fun _ => ?_⟩, fun D2 g5 hD2 il ex => ?_⟩
    · have c3' := cell_ext (ext_cells (S.ce 3 rfl) x4) ex (off1 (.inl (by exact bs12 hL3)))
      exact Wp.bin (Wp.nameN rfl rfl hn hm (Wp.bin (Wp.cInt fun w5 => Wp.nameC rfl rfl rfl c3' (Wp.mulI (IntMulOk.of_left (bits_small (by decide) (by decide))) fun w6 => Wp.xorI fun w7 => ⟨⟨w7, rfl⟩, rfl⟩))))
    have ex' : Ext [] g3 g5 := ⟨Nat.le_trans x4.size ex.size, fun b o _ q => ex.get _ _ (nin_new q (Nat.le_refl _)) (x4.all _ _ q)⟩
    have S := S.grow ex'
    have s34 := x4.size
    obtain ⟨D2, rfl⟩ : ∃ l : Nat, l = D2 := ⟨D2, rfl⟩
    have hD2 : g3.objs.size ≤ D2 := Nat.le_trans s34 hD2
    have ebs : ((((ks.drop (i * (2 * g))).take (2 * g)).filter (fun _ => true)).map fun x => Builtin.bitXor x (255 * ((i % 2 : Nat) : Int))) = blockOf ks g i := by
      unfold blockOf; rw [List.filter_eq_self.mpr fun _ _ => rfl]
    rw [ebs] at il
    refine S.storeL rfl rfl rfl fun g6 S x6 => fun C mC hC hCD hns => ?_
    obtain ⟨C, rfl⟩ : ∃ l : Nat, l = C := ⟨C, rfl⟩
    have hC : g3.objs.size ≤ C := Nat.le_trans s34 hC
    have LC : L < C := bs13 hL3 hC
    have hns6 : g6.Ns C mC := hns.at' fun o e => x6.get _ _ (off1 (.inr (by exact LC))) e
    refine ⟨⟨mC, hns6⟩, fun g7 hs7 => ?_⟩
    have x7 := Ext.same hs7
    obtain ⟨oC, es, ep, hoC, hdC, _⟩ := id hns6
    have S := S.up x7 (S.S.gg.turn x7 hoC (fun vs => by rw [hdC]; nofun) (S.newB (by exact Nat.le_of_lt LC))) fun b hb => .inr ⟨Nat.lt_of_lt_of_le hL3 (by rw [List.mem_singleton.mp hb]; exact hC), fun q hq => by rw [List.mem_singleton.mp hb]; exact fresh3 C hC q hq⟩
    have hCD : C ≠ D2 := hCD
    have il7 := (il.ext x6 (off1 (.inr (by exact bs13 hL3 hD2)))).ext x7 (off1 (by exact (Nat.lt_or_gt_of_ne hCD).symm))
    have mf : m' "figures" = some (.ref lf) := (hm _ (by decide) (by decide)).trans (by rw [← hm1]; rfl)
    -- the cut
    obtain ⟨fo, fd', hfo, hfd⟩ := F.f20.there S.S.gg (by decide)
    refine Wp.cons (Wp.ifN (Wp.tNot (Wp.tVal (Wp.callF (o := fo) (fd := fd') (fun Q q => Wp.nameG S.S T rfl rfl rfl F.n20 q) (Wp.icons (Wp.nameL S.S rfl rfl rfl (by exact mf) (Wp.icons (Wp.nameL S.S rfl rfl rfl rfl (Wp.icons (Wp.nameL S.S rfl rfl rfl rfl (Wp.icons (Wp.nameC rfl rfl rfl (S.ce 3 rfl) (Wp.inil ⟨⟨hfo, hfd⟩, ?_⟩)))))))))))))
    have hbl : (blockOf ks g i).length = 2 * g := by unfold blockOf; rw [List.length_map, List.length_take, List.length_drop, hks.1]; exact bs9 hst
    refine (cut_spec T F S.S.gg (r.le (by decide)) (S.il (List.mem_cons_of_mem _ List.mem_cons_self)) il7 hbl hg4 (Nat.mod_two_eq_zero_or_one i) (by exact bs10 hst hfl) (by exact bs11 hfl) (hp rfl i hi8)).mono fun v g8 ⟨ev, x8, G8⟩ => ?_
    subst ev
    have S := S.tab x8 G8
    refine Wp.truB ⟨rfl, Wp.nil (ky .next _ ⟨_, _, _, ⟨rfl, fun j hj => ?_, fun x h1 h2 => ?_⟩, S⟩)⟩
    · rw [updN_ne hj]; exact hcs j hj
    · rw [upd_ne h2, upd_ne h1]; exact hm x h1 h2
  · rintro h' cs' m' ls' ⟨rfl, hcs, hm⟩ S
    refine Wp.nil (k h' m' cs' S.tail hcs fun x h1 h2 h3 => ?_)
    rw [hm x h2 h3, ← hm1]
    exact upd_ne h1
end
end Mine
end

section
open PySem PySem.W PyProof.Rows
set_option maxRecDepth 100000
set_option maxHeartbeats 4000000
namespace Mine
theorem right_eq (w : Nat) (R : List Bool) : undig w (msk 256 R) - undig w (msk 1 R) = undig w (msk 255 R) := by
  rw [msk_mul w 256, msk_mul w 255]; exact ar296
theorem wrong_list : ∀ {L : List Bool} {D : List Int} , D.length = L.length → List.zipWith (· - ·) (msk 255 L) (msk 255 (List.zipWith (fun x b => b && decide (256 ≤ x)) D L)) = msk 255 (wr L (List.zipWith (fun x b => b && decide (256 ≤ x)) D L))
  | [], [], _ => rfl
  | b :: L, d :: D, h => by
    have := wrong_list (L := L) (D := D) (by simpa using h)
    simp only [msk, wr, List.zipWith_cons_cons, List.map_cons] at this ⊢
    rw [this]
    congr 1
    cases b <;> cases decide (256 ≤ d) <;> rfl
theorem wrong_eq (w : Nat) {L : List Bool} {D : List Int} (h : D.length = L.length) : undig w (msk 255 L) - undig w (msk 255 (List.zipWith (fun x b => b && decide (256 ≤ x)) D L)) = undig w (msk 255 (wr L (List.zipWith (fun x b => b && decide (256 ≤ x)) D L))) := by
  rw [undig_sub w _ _ (by simp [msk_len, h]), wrong_list h]
theorem sel_lt {w : Nat} (hw : 9 ≤ w) {xs : List Int} {bs : List Bool} (hx : Dig xs) (hb : bs.length = 8) : 0 ≤ undig w (sel xs bs) ∧ undig w (sel xs bs) < 2 ^ (w * 8) := by
  have hp := pow_ge hw
  have hall : ∀ d ∈ sel xs bs, 0 ≤ d ∧ d < 2 ^ w := by
    intro d hd
    obtain ⟨i, hi⟩ := List.mem_iff_getElem?.mp hd
    unfold sel at hi
    rw [List.getElem?_zipWith_eq_some] at hi
    obtain ⟨x, b, h1, h2, rfl⟩ := hi
    have := hx.2 x (List.mem_of_getElem? h1)
    cases b <;> simp <;> omega
  refine ⟨undig_nonneg w _ fun d hd => (hall d hd).1, ?_⟩
  have := undig_lt w _ hall
  rwa [sel_len (by rw [hx.1, hb]), hb] at this
section
variable {c : Cx} {A : Around} {B h₀ h : Heap} {L : Nat} {cs : Nat → Option Value} {ls : List Th} {m mg mb : Str → Option Value}
theorem lawSwap (T : TopAt B mg mb) (F : Fns B mg) (r : Room A 21) (S : LS B h₀ L cs ls m h) {g w : Nat} {tg tw tn ta tl tu to : Tok} {ns : List Int} (c2 : cs 2 = some (.int g tg)) (hg : g = 1 ∨ g = 2 ∨ g = 4)
    (mw : m "width" = some (.int w tw)) (hw : WOk w) (mn : m "number" = some (.int (undig w ns) tn)) (hd : Dig ns) (ml : m "low" = some (.int (undig w (msk 255 (lowB g))) tl)) (mu : m "guard" = some (.int (undig w (msk 256 (lowB g))) tu))
    (mo : m "over" = some (.int (undig w (ns.drop g ++ List.replicate g 0)) to)) (ma : m "apart" = some (.int (undig w (apD ns (ns.drop g ++ List.replicate g 0) (lowB g))) ta)) {rest : List Stmt} {Q : Flow → Heap → Prop}
    (k : ∀ h' m' cs', LS B h₀ L cs' ls m' h' → (∀ j, j ≠ 2 → cs' j = cs j) → (∃ t, cs' 2 = some (.int (g / 2 : Nat) t)) → (∃ t, m' "number" = some (.int (undig w (cex g ns)) t)) →
      (∀ x : Str, x ≠ "held" → x ≠ "right" → x ≠ "wrong" → x ≠ "least" → x ≠ "most" → x ≠ "number" → m' x = m x) → Wp c A (execs rest (lawEnv L)) Q h') :
    Wp c A (execs (gapB.drop 6 ++ rest) (lawEnv L)) Q h := by
  have hw9 := hw.ge
  have hw14 := hw.le
  have dO := hd.over hg
  have hDb := (fig_spec hw9 hg hd).2.2.1
  have key := fun R Wr h1 h2 => round_eq (w := w) (R := R) (Wr := Wr) hg hd.1 rfl h1 h2
  have lR : (stay ns (ns.drop g ++ List.replicate g 0) (lowB g)).length = 8 := stay_len hd.1 dO.1 (lowB_len g)
  have hDl : (apD ns (ns.drop g ++ List.replicate g 0) (lowB g)).length = (lowB g).length := by simp [apD, hd.1, dO.1, lowB_len]
  have key := key _ _ rfl rfl
  have lW : (wr (lowB g) (stay ns (ns.drop g ++ List.replicate g 0) (lowB g))).length = 8 := wr_len (lowB_len g) lR
  have eW := wrong_eq w hDl
  have eR : List.zipWith (fun x b => b && decide (256 ≤ x)) (apD ns (ns.drop g ++ List.replicate g 0) (lowB g)) (lowB g) = stay ns (ns.drop g ++ List.replicate g 0) (lowB g) := rfl
  rw [eR] at eW
  generalize ho : ns.drop g ++ List.replicate g 0 = o at *
  obtain ⟨tN, hN⟩ := F.cNT
  -- held
  refine Wp.cons (Wp.assign (Wp.bin (Wp.nameL S.S rfl rfl rfl ma (Wp.nameL S.S rfl rfl rfl mu (Wp.andI fun t1 => ?_)))))
  rw [and_held hw9 hDl hDb, eR]
  generalize stay ns o (lowB g) = R at *
  clear eR
  refine S.storeL rfl rfl rfl fun h₁ S e1 => ?_
  -- right
  refine Wp.cons (Wp.assign (Wp.bin (Wp.nameL S.S rfl rfl rfl rfl (Wp.bin (Wp.nameL S.S rfl rfl rfl rfl (Wp.nameG S.S T rfl rfl rfl hN (Wp.fdivI (by decide) (by decide +kernel) fun t2 => Wp.subI fun t3 => ?_)))))))
  rw [msk_fdiv w (by decide), right_eq]
  refine S.storeL rfl rfl rfl fun h₂ S e2 => ?_
  -- wrong
  refine Wp.cons (Wp.assign (Wp.bin (Wp.nameL S.S rfl rfl rfl (by exact ml) (Wp.nameL S.S rfl rfl rfl rfl (Wp.subI fun t4 => ?_)))))
  rw [eW]
  generalize wr (lowB g) R = Wr at *
  refine S.storeL rfl rfl rfl fun h₃ S e3 => ?_
  have l1 : ns.length = R.length := by rw [hd.1, lR]
  have l2 : o.length = R.length := by rw [dO.1, lR]
  have l3 : ns.length = Wr.length := by rw [hd.1, lW]
  have l4 : o.length = Wr.length := by rw [dO.1, lW]
  -- least, most
  refine Wp.cons (Wp.unpack2s r.hh (Wp.tupD (Wp.icons (Wp.bin (Wp.bin (Wp.nameL S.S rfl rfl rfl (by exact mn) (Wp.nameL S.S rfl rfl rfl rfl (Wp.andI fun t5 => Wp.bin (Wp.nameL S.S rfl rfl rfl (by exact mo) (Wp.nameL S.S rfl rfl rfl rfl (Wp.andI fun t6 => Wp.addI fun t7 =>
    Wp.icons (Wp.bin (Wp.bin (Wp.nameL S.S rfl rfl rfl (by exact mo) (Wp.nameL S.S rfl rfl rfl rfl (Wp.andI fun t8 => Wp.bin (Wp.nameL S.S rfl rfl rfl (by exact mn) (Wp.nameL S.S rfl rfl rfl rfl (Wp.andI fun t9 => Wp.addI fun t10 => Wp.inil ⟨show 2 ≤ 2 ^ 24 by decide, ?_⟩)))))))))))))))))))
  rw [and_sel hw9 l1 hd.2, and_sel hw9 l4 dO.2, and_sel hw9 l2 dO.2, and_sel hw9 l3 hd.2]
  have b1 := sel_lt hw9 dO lR
  have b2 := sel_lt hw9 hd lW
  refine ⟨_, _, _, rfl, Heap.get?_push_size _ rfl, fun h₄ e4 => ?_⟩
  have S := S.grow ((Ext.push h₃ _).trans e4)
  refine S.storeL rfl rfl rfl fun h₅ S e5 => S.storeL rfl rfl rfl fun h₆ S e6 => ?_
  -- number
  have ek : (w : Int) * (g : Int) = ((w * g : Nat) : Int) := by push_cast; rfl
  have hk1 : w * g ≤ 1400 * 4 := Nat.mul_le_mul hw14 (by exact ar282 hg)
  have hbits : Builtin.Int.intBits (undig w (sel o R) + undig w (sel ns Wr)) ≤ w * 8 + 1 := bits_le (by exact ar297 b1 b2) (by rw [Int.pow_succ]; exact ar298 b1 b2)
  refine Wp.cons (Wp.assign (Wp.bin (Wp.nameL S.S rfl rfl rfl rfl (Wp.bin (Wp.nameL S.S rfl rfl rfl rfl (Wp.bin (Wp.nameL S.S rfl rfl rfl (by exact mw) (Wp.nameC rfl rfl rfl (S.ce 2 c2) (Wp.mulI (IntMulOk.of_left (bits_small (by exact ar32) (by exact ar284 hw14))) fun u1 => ?_)))))))))
  rw [ek]
  refine Wp.shlI (by exact ar299) (by exact ar300 hk1 hbits hw14) fun u2 => Wp.addI fun u3 => ?_
  rw [Int.toNat_natCast, key]
  refine S.storeL rfl rfl rfl fun h₇ S e7 => ?_
  -- gap
  refine Wp.cons (Wp.aug (Wp.loadC rfl rfl rfl (S.ce 2 c2) (Wp.cInt fun u4 => Wp.ifdivI (by decide) (by decide +kernel) fun u5 => ?_)))
  have eg : Int.fdiv (g : Int) 2 = ((g / 2 : Nat) : Int) := fdiv_nat g 2
  rw [eg]
  refine S.storeC 2 rfl rfl rfl fun h₈ S e8 => ?_
  refine k h₈ _ _ S (fun j hj => updN_ne hj) ⟨u5, rfl⟩ ⟨u3, rfl⟩ fun x h1 h2 h3 h4 h5 h6 => ?_
  rw [upd_ne h6, upd_ne h4, upd_ne h5, upd_ne h3, upd_ne h2, upd_ne h1]
end
end Mine
end

section
open PySem PySem.W PyProof.Rows
set_option maxRecDepth 100000
set_option maxHeartbeats 4000000
namespace Mine
/-- the rounds of gap g and below -/
noncomputable def run (g : Nat) (ns : List Int) : List Int := if g = 4 then cex 1 (cex 2 (cex 4 ns)) else if g = 2 then cex 1 (cex 2 ns) else if g = 1 then cex 1 ns else ns
theorem run_step {g : Nat} (hg : g = 1 ∨ g = 2 ∨ g = 4) (ns : List Int) : run (g / 2) (cex g ns) = run g ns := by
  rcases hg with rfl | rfl | rfl <;> rfl
theorem Dig.cex {g : Nat} (hg : g = 1 ∨ g = 2 ∨ g = 4) {ns : List Int} (h : Dig ns) : Dig (cex g ns) := ⟨cex_len _ _, fun d hd => h.2 d ((cex_perm hg h.1).mem_iff.mp hd)⟩
theorem Dig.flip {s : Nat} {ns : List Int} (h : Dig ns) : Dig (flip (turnB s) ns) := ⟨flip_len h.1 (turnB_len s), flip_bound h.2⟩
theorem Dig.run {g : Nat} {ns : List Int} (h : Dig ns) : Dig (run g ns) := by
  unfold Mine.run
  split
  · exact (Dig.cex (.inl rfl) (Dig.cex (.inr (.inl rfl)) (Dig.cex (.inr (.inr rfl)) h)))
  · split
    · exact (Dig.cex (.inl rfl) (Dig.cex (.inr (.inl rfl)) h))
    · split
      · exact Dig.cex (.inl rfl) h
      · exact h
theorem split_nth {l : List Stmt} {n : Nat} (h : n < l.length) : l = l.take n ++ nth l n :: (l.drop (n + 1) ++ []) := by
  have : nth l n = l[n] := by unfold nth; rw [List.getElem?_eq_getElem h]; rfl
  rw [List.append_nil, this, ← List.drop_eq_getElem_cons h, List.take_append_drop]
theorem gapB_split : gapB = gapB.take 5 ++ nth gapB 5 :: (gapB.drop 6 ++ []) := split_nth (by decide +kernel)
theorem sizeB_split : sizeB = sizeB.take 3 ++ sizeB.drop 3 := (List.take_append_drop _ _).symm
noncomputable def stg (size : Nat) (ds : List Int) : List Int := flip (turnB size) (run (size / 2) (flip (turnB size) ds))
theorem stg2 (ds : List Int) : stg 2 ds = st2 ds := rfl
theorem stg4 (ds : List Int) : stg 4 ds = st4 ds := rfl
theorem stg8 (ds : List Int) : stg 8 ds = st8 ds := rfl
section
variable {c : Cx} {A : Around} {B h₀ h : Heap} {L : Nat} {cs : Nat → Option Value} {ls : List Th} {m mg mb : Str → Option Value}
theorem lawRound (T : TopAt B mg mb) (F : Fns B mg) (r : Room A 21) (S : LS B h₀ L cs ls m h) {size g w lk : Nat} {ts tg tw tn : Tok} {ns ks : List Int} (c1 : cs 1 = some (.int size ts)) (c2 : cs 2 = some (.int g tg)) (c5 : cs 5 = some (.ref lk)) (hk : Th.il lk ks ∈ ls) (hks : Dig ks) (hg : g = 1 ∨ g = 2 ∨ g = 4)
    (mw : m "width" = some (.int w tw)) (hw : WOk w) (mn : m "number" = some (.int (undig w ns) tn)) (hd : Dig ns)
    (hp : 2 * g = size → ∀ k, (k + 1) * (2 * g) ≤ 8 → ∀ ys zs, ys.Perm (ramp 0 1 g) → ys.Pairwise (fun x y => atB (blockOf ks g k) x < atB (blockOf ks g k) y ∨ (atB (blockOf ks g k) x = atB (blockOf ks g k) y ∧ y < x)) → zs.Perm (ramp g 1 g) → Stab (fun y => - atB (blockOf ks g k) y) zs →
      (((apD ns (ns.drop g ++ List.replicate g 0) (lowB g)).take (8 - g)).drop (k * (2 * g))).take g = if k % 2 = 1 then (diffs (blockOf ks g k) ys zs).reverse else diffs (blockOf ks g k) ys zs)
    {Q : Flow → Heap → Prop}
    (k : ∀ h' m' cs', LS B h₀ L cs' ls m' h' → (∀ j, j ≠ 2 → j ≠ 3 → cs' j = cs j) → (∃ t, cs' 2 = some (.int (g / 2 : Nat) t)) → (∃ t, m' "number" = some (.int (undig w (cex g ns)) t)) → m' "width" = m "width" → m' "turn" = m "turn" → Q .next h') :
    Wp c A (execs gapB (lawEnv L)) Q h := by
  refine Wp.ofEq (congrArg (fun l => execs l (lawEnv L)) gapB_split) ?_
  refine lawApart (rest := nth gapB 5 :: (gapB.drop 6 ++ [])) T F r S c2 hg mw hw mn hd fun h₁ m₁ S ⟨tl, ml⟩ ⟨tu, mu⟩ ⟨to, mo⟩ ⟨ta, ma⟩ hm1 => ?_
  refine lawFirst (rest := gapB.drop 6 ++ []) T F r S c1 c2 c5 hk hks hg ((hm1 _ (by decide) (by decide) (by decide) (by decide) (by decide)).trans mw) hw ma hd hp fun h₂ m₂ cs₂ S hc2 hm2 => ?_
  have mv : ∀ x : Str, x ≠ "figures" → x ≠ "start" → x ≠ "block" → ∀ {v}, m₁ x = some v → m₂ x = some v := fun x h1 h2 h3 v e => (hm2 x h1 h2 h3).trans e
  refine lawSwap (rest := []) T F r S ((hc2 2 (by decide)).trans c2) hg (mv _ (by decide) (by decide) (by decide) ((hm1 _ (by decide) (by decide) (by decide) (by decide) (by decide)).trans mw)) hw (mv _ (by decide) (by decide) (by decide) ((hm1 _ (by decide) (by decide) (by decide) (by decide) (by decide)).trans mn)) hd
    (mv _ (by decide) (by decide) (by decide) ml) (mv _ (by decide) (by decide) (by decide) mu) (mv _ (by decide) (by decide) (by decide) mo) (mv _ (by decide) (by decide) (by decide) ma) fun h₃ m₃ cs₃ S hc3 hg3 hn3 hm3 => Wp.nil ?_
  refine k h₃ m₃ cs₃ S (fun j h2 h3 => (hc3 j h2).trans (hc2 j h3)) hg3 hn3 ?_ ?_
  · exact (hm3 _ (by decide) (by decide) (by decide) (by decide) (by decide) (by decide)).trans ((hm2 _ (by decide) (by decide) (by decide)).trans (hm1 _ (by decide) (by decide) (by decide) (by decide) (by decide)))
  · exact (hm3 _ (by decide) (by decide) (by decide) (by decide) (by decide) (by decide)).trans ((hm2 _ (by decide) (by decide) (by decide)).trans (hm1 _ (by decide) (by decide) (by decide) (by decide) (by decide)))
/-- the rounds of a stretch -/
inductive SzJ (B h₀ : Heap) (L : Nat) (ls : List Th) (cs₁ : Nat → Option Value) (m₁ : Str → Option Value) (w size : Nat) (n₀ : List Int) (n : Nat) (h' : Heap) : Prop
  | mk (cs' : Nat → Option Value) (m' : Str → Option Value) (ns : List Int) (S : LS B h₀ L cs' ls m' h') (hcs : ∀ j, j ≠ 2 → j ≠ 3 → cs' j = cs₁ j) (c2 : ∃ t, cs' 2 = some (.int (n : Nat) t)) (hn : n = 0 ∨ n = 1 ∨ n = 2 ∨ n = 4) (hw : m' "width" = m₁ "width") (ht : m' "turn" = m₁ "turn")
    (mn : ∃ t, m' "number" = some (.int (undig w ns) t)) (hns : Dig ns) (hrun : run n ns = run (size / 2) n₀) (hf : 2 * n = size → ns = n₀) (hle : 2 * n ≤ size) : SzJ B h₀ L ls cs₁ m₁ w size n₀ n h'
theorem lawSize (T : TopAt B mg mb) (F : Fns B mg) (r : Room A 21) (S : LS B h₀ L cs ls m h) {size w lk : Nat} {ts tw tn : Tok} {ds ks : List Int} (c1 : cs 1 = some (.int size ts)) (c5 : cs 5 = some (.ref lk)) (hk : Th.il lk ks ∈ ls) (hks : Dig ks) (hs : size = 2 ∨ size = 4 ∨ size = 8)
    (mw : m "width" = some (.int w tw)) (hw : WOk w) (mn : m "number" = some (.int (undig w ds) tn)) (hd : Dig ds) (I : Inv (size / 2) ds ks) {Q : Flow → Heap → Prop}
    (k : ∀ h' m' cs', LS B h₀ L cs' ls m' h' → (∀ j, j ≠ 2 → j ≠ 3 → cs' j = cs j) → (∃ t, m' "number" = some (.int (undig w (stg size ds)) t)) → m' "width" = m "width" → Q .next h') :
    Wp c A (execs sizeB (lawEnv L)) Q h := by
  refine Wp.ofEq (congrArg (fun l => execs l (lawEnv L)) sizeB_split) ?_
  refine lawTurn (rest := sizeB.drop 3) T F r S c1 hs mw hw mn hd fun h₁ m₁ cs₁ S hc1 ⟨tg, c2⟩ ⟨tt, mt⟩ ⟨tn', mn⟩ hm1 => ?_
  have mw1 : m₁ "width" = some (.int w tw) := (hm1 _ (by decide) (by decide)).trans mw
  have c1' : cs₁ 1 = some (.int size ts) := (hc1 1 (by decide)).trans c1
  have c5' : cs₁ 5 = some (.ref lk) := (hc1 5 (by decide)).trans c5
  have hd1 : Dig (flip (turnB size) ds) := hd.flip
  refine Wp.cons (Wp.whileS (SzJ B h₀ L ls cs₁ m₁ w size (flip (turnB size) ds)) ?_ (size / 2)
    ⟨cs₁, m₁, _, S, fun _ _ _ => rfl, ⟨tg, c2⟩, by exact ar301 hs, rfl, rfl, ⟨tn', mn⟩, hd1, rfl, fun _ => rfl, by exact ar302⟩)
  rintro n h' ⟨cs', m', ns, S, hcs, ⟨tn2, c2⟩, hn, hmw, hmt, ⟨tn3, mn⟩, hns, hrun, hfst, hle⟩
  refine Wp.tCmp (Wp.nameC rfl rfl rfl (S.ce 2 c2) (Wp.cInt fun u1 => Wp.gtI (Wp.truB ?_)))
  by_cases h0 : n = 0
  · subst h0
    rw [decide_eq_false (by decide), if_neg (by decide)]
    have e0 : ns = run (size / 2) (flip (turnB size) ds) := hrun
    refine Wp.cons (Wp.aug (Wp.loadL S.S rfl rfl rfl mn (Wp.nameL S.S rfl rfl rfl (hmt.trans mt) (Wp.ixorI fun u2 => ?_))))
    rw [xor_flip hw.ge (by rw [hns.1, turnB_len]) hns.2, e0]
    refine S.storeL rfl rfl rfl fun h₂ S e2 => Wp.nil (k h₂ _ cs' S (fun j h2 h3 => (hcs j h2 h3).trans (hc1 j h2)) ⟨u2, rfl⟩ ?_)
    exact hmw.trans (hm1 _ (by decide) (by decide))
  · rw [decide_eq_true (by exact ar303 h0), if_pos rfl]
    have hg : n = 1 ∨ n = 2 ∨ n = 4 := by omega
    refine lawRound T F r S ((hcs 1 (by decide) (by decide)).trans c1') c2 ((hcs 5 (by decide) (by decide)).trans c5') hk hks hg (hmw.trans mw1) hw mn hns (fun e k hk8 ys zs py wy pz wz => ?_) fun h₂ m₂ cs₂ S hc2 hg2 hn2 hw2 ht2 => ?_
    · subst e
      rw [hfst rfl]
      rw [Nat.mul_div_cancel_left n (by decide)] at I
      exact part_ok hg hk8 hd hks I py wy pz wz
    · exact ⟨n / 2, by exact ar304 hg, cs₂, m₂, _, S, fun j h2 h3 => (hc2 j h2 h3).trans (hcs j h2 h3), hg2, by exact ar305 hg, hw2.trans hmw, ht2.trans hmt, hn2, hns.cex hg, (run_step hg ns).trans hrun, fun e => absurd e (by exact ar306 hle hg), by exact ar307 hle⟩
end
end Mine
end

section
set_option maxRecDepth 100000
set_option maxHeartbeats 1000000
namespace Mine
open PySem PySem.W PyProof.Rows
theorem undig_zero (w : Nat) : ∀ xs : List Int, (∀ d ∈ xs, d = 0) → undig w xs = 0
  | [], _ => rfl
  | x :: xs, h => by
    rw [undig, undig_zero w xs fun d hd => h d (List.mem_cons_of_mem _ hd), h x List.mem_cons_self]; simp
theorem map_ramp {ks ys : List Int} (hk : ks.length = 8) (py : ys.Perm (ramp 0 1 8)) : (ys.map (atB ks)).Perm ks := by
  have := py.map (atB ks)
  rwa [show (0 : Int) = ((0 : Nat) : Int) from rfl, map_at ks 8 0 (by exact ar369 hk), List.drop_zero, List.take_of_length_le (by exact ar370 hk)] at this
/-- the figures of the number in order, and the keys in order -/
theorem end_fig {w : Nat} {ds ks ys : List Int} {y : Int} (hw : 9 ≤ w) (hd : Dig ds) (hk : Dig ks) (pd : ds.Perm ks) (sd : ds.Pairwise (· ≤ ·)) (py : ys.Perm (ramp 0 1 8)) (wy : Stab (atB ks) ys) (hy : ys.getLast? = some y) :
    nfig w (undig w ds).toNat ≤ 8 ∧ digs w (nfig w (undig w ds).toNat) (undig w ds).toNat = (ys.filter fun _ => decide (atB ks y > 0)).map (atB ks) := by
  have hp := pow_ge hw
  have sy : (ys.map (atB ks)).Pairwise (· ≤ ·) := by rw [List.pairwise_map]; exact wy.imp fun {a b} h => by exact ar366 h
  have e : ys.map (atB ks) = ds := sorted_uniq sy sd ((map_ramp hk.1 py).trans pd.symm)
  have hl : ds.getLast? = some (atB ks y) := by rw [← e, List.getLast?_map, hy]; rfl
  obtain ⟨xs, hxs⟩ := List.getLast?_eq_some_iff.mp hl
  have hlt : ∀ d ∈ ds, 0 ≤ d ∧ d < 2 ^ w := fun d h => by have := hd.2 d h; exact ar371 this hp
  by_cases h0 : atB ks y > 0
  · rw [List.filter_eq_self.mpr fun _ _ => decide_eq_true h0, e]
    have hxl : xs.length = 7 := by have := hd.1; rw [hxs, List.length_append, List.length_singleton] at this; exact ar372 this
    have n8 : nfig w (undig w ds).toNat = 8 := by
      rw [hxs]
      exact nfig_top (by exact ar293 hw) (fun d h => hlt d (by rw [hxs]; exact List.mem_append_left _ h)) hxl h0 (hlt _ (by rw [hxs]; simp)).2
    rw [n8]
    have := digs_undig hlt
    rw [hd.1] at this
    exact ⟨Nat.le_refl _, this⟩
  · have hz : ∀ d ∈ ds, d = 0 := fun d h => by
      have := hd.2 d h
      rw [hxs] at h sd
      rcases List.mem_append.mp h with q | q
      · have := (List.pairwise_append.mp sd).2.2 d q _ (List.mem_singleton_self _); exact ar373 (by assumption) this h0
      · rw [List.mem_singleton.mp q]
        have := hd.2 (atB ks y) (by rw [hxs]; simp); exact ar374 this h0
    rw [undig_zero w ds hz]
    have : nfig w (0 : Int).toNat = 0 := by
      unfold nfig
      exact Nat.div_eq_of_lt (by simp [Builtin.Int.intBits]; exact ar375 hw)
    rw [this]
    refine ⟨by exact ar376, ?_⟩
    rw [List.filter_eq_nil_iff.mpr fun _ _ => by simpa using h0]
    rfl
end Mine
end

section
open PySem PySem.W PyProof.Rows
set_option maxRecDepth 100000
set_option maxHeartbeats 4000000
namespace Mine
section
variable {c : Cx} {A : Around} {B h₀ h : Heap} {L : Nat} {cs : Nat → Option Value} {ls : List Th} {m mg mb : Str → Option Value}
theorem off120 {B h₀ h : Heap} {L : Nat} {cs : Nat → Option Value} {ls : List Th} {m : Str → Option Value} (S : LS B h₀ L cs ls m h) {n : Nat} (hn : L ≤ n) : n ∉ [120] := fun q => S.off hn (by rw [List.mem_singleton.mp q]; decide)
/-- the lambda of the law as a key -/
theorem lawKey (T : TopAt B mg mb) {f : Addr} {fd : FuncData} (S : LS B h₀ L cs ls m h) {lk : Nat} {ks : List Int} (c5 : cs 5 = some (.ref lk)) (hk : Th.il lk ks ∈ ls) (hks : Dig ks) {body : Expr} (x : FnM h f fd) (hbody : fd.body = .expr body)
    (hb : ∀ (y : Int) (t : Tok), bindArgs fd ⟨[Value.int y t], []⟩ = Pure.pure [(("one" : Str), Value.int y t)]) (hcell : fd.scope.names.all (fun x => x.2 != .cell) = true) (hloc : fd.scope.names.lookup ("one" : Str) = some .local)
    (hkd : fd.scope.kind = .function) (hco : fd.scope.isCoroutine = false) (hgen : fd.scope.isGenerator = false)
    (ev : ∀ A h₁ L' y t m₁ (Q : Value → Heap → Prop), h₁.IsCell (L + 5) (some (.ref lk)) → IL h₁ lk ks → (0 ≤ y ∧ y < 8) → Fm B h [] L' m₁ h₁ → m₁ "one" = some (.int y t) → (∀ t, Q (.int (atB ks y) t) h₁) → Wp c A (eval body (callEnv fd L' f)) Q h₁) :
    KeyOkH c B h (.ref f) 1 (fun y => 0 ≤ y ∧ y < 8) (fun y v _ => ∃ t, v = .int (atB ks y) t) := by
  refine lamKey T x hbody hb hcell hloc hkd hco hgen fun A' h₁ L' y t m₁ e dy Sf mone => ?_
  exact ev A' h₁ L' y t m₁ _ (ext_cells (S.ce 5 c5) e) ((S.il hk).ext e (fun q => nomatch q)) dy Sf mone fun t => ⟨⟨t, rfl⟩, Ext.refl _ _⟩
theorem lawRows (T : TopAt B mg mb) (F : Fns B mg) (r : Room A 21) (S : LS B h₀ L cs ls m h) {lk : Nat} {ks : List Int} (c5 : cs 5 = some (.ref lk)) (hk : Th.il lk ks ∈ ls) (hks : Dig ks) {rest : List Stmt} {Q : Flow → Heap → Prop}
    (k : ∀ h' m' cs' lr ys, LS B h₀ L cs' (Th.il lr ys :: ls) m' h' → cs' 4 = some (.ref lr) → cs' 5 = some (.ref lk) → ys.Perm (ramp 0 1 8) → Stab (atB ks) ys → (∀ x : Str, x ≠ "i" → m' x = m x) → Wp c A (execs rest (lawEnv L)) Q h') :
    Wp c A (execs ((fBody (stm 21)).drop 4 |>.take 2 |> (· ++ rest)) (lawEnv L)) Q h := by
  have hkl := hks.1
  refine Wp.cons (Wp.assign (Wp.listD (Wp.inil ⟨show 0 ≤ 2 ^ 24 by decide, ?_⟩)))
  have hlL := S.cellLt
  have ilr : IL (h.push (lstObj [] 0)) h.objs.size [] := ⟨[], 0, Heap.get?_push_size _ rfl, .nil⟩
  have hfr0 := S.fresh (Nat.le_refl _)
  have S := (S.grow (Ext.push h (lstObj [] 0))).addL hlL ilr
  clear ilr
  generalize hlr : h.objs.size = lr at *
  generalize h.push (lstObj [] 0) = h₁ at *
  refine S.storeC 4 rfl rfl rfl fun h₂ S e2 => ?_
  refine Wp.cons (Wp.forS (Wp.callT (ty := "range") (fun Q q => Wp.nameB S.S T rfl rfl rfl rfl F.bRange (by decide) (by decide +kernel) q) (Wp.icons (Wp.cInt fun t0 => Wp.inil (Wp.range1 fun h₃ t1 t2 t3 hr e3 s3 => ?_)))))
  have S := S.grow e3
  refine Wp.iterR (n := 8) r.hh hr (by decide) (by decide) fun h₄ e4 src => ?_
  have hI5 : L + 5 < h₃.objs.size := S.cellLt
  have hfr := S.fresh (Nat.le_refl _)
  have hlrI : lr ≠ h₃.objs.size := fun q => hfr (Th.il lr []) List.mem_cons_self (by rw [← q]; exact List.mem_singleton_self _)
  have S := S.grow e4
  generalize hI : h₃.objs.size = I at *
  refine LS.forIt src (fun b hb => by rw [List.mem_singleton.mp hb]; exact hI5) hI5 (fun i cs' m' ls' => ∃ ys, ls' = Th.il lr ys :: ls ∧ cs' 4 = some (.ref lr) ∧ cs' 5 = some (.ref lk) ∧ (∀ x : Str, x ≠ "i" → m' x = m x) ∧ ys.Perm (ramp 0 1 i) ∧ Stab (atB ks) ys) S
    ⟨[], rfl, rfl, c5, fun _ _ => rfl, List.Perm.nil, List.Pairwise.nil⟩ ?_ ?_ ?_
  · rintro i cs m ls' ⟨ys, rfl, _⟩ q hq z
    rcases List.mem_cons.mp hq with rfl | hq
    · exact hlrI (List.mem_singleton.mp z).symm
    · exact hfr q (List.mem_cons_of_mem _ hq) z
  · rintro i h' cs' m' ls' n t p ⟨ys, rfl, c4, c5, hm, py, wy⟩ hn S hpf
    have hi : i < 8 := by have := (List.getElem?_eq_some_iff.mp hn).1; rwa [ramp_len] at this
    rw [ramp_at _ _ _ _ hi] at hn
    obtain rfl : n = (i : Int) := by have := Option.some.inj hn; exact ar98 this
    refine Wp.absB fun Qy ky => ?_
    refine Wp.asg (S.storeL rfl rfl rfl fun g1 S x1 => ?_)
    obtain ⟨fo, fd', hfo, hfd⟩ := F.f15.there S.S.gg (by decide)
    refine Wp.cons (Wp.expr (Wp.callFk (o := fo) (fd := fd') (fun Q q => Wp.nameG S.S T rfl rfl rfl F.n15 q) (Wp.icons (Wp.nameC rfl rfl rfl (S.ce 4 c4) (Wp.icons (Wp.nameL S.S rfl rfl rfl rfl (Wp.inil ?_)))))))
    refine Wp.mkLam T S.S.gg Tb.t4 rfl rfl rfl rfl rfl rfl fun f g2 ct cv G2 x2 hf1 hf2 fm => ⟨⟨x2.get _ _ (by decide) hfo, hfd⟩, ?_⟩
    have S := S.tab1 x2 G2
    have hk' : Th.il lk ks ∈ p :: Th.il lr ys :: ls := List.mem_cons_of_mem _ (List.mem_cons_of_mem _ hk)
    have key := lawKey (c := c) T S c5 hk' hks fm rfl (fun y t => rfl) rfl rfl rfl rfl rfl fun A' h₁ L' y t m₁ Q cc il dy Sf mone q =>
      Wp.item (Wp.nameF rfl rfl rfl cc (Wp.nameL Sf rfl rfl rfl mone ⟨lk, ks, y, t, atB ks y, rfl, rfl, il, dy.1, atB_at dy.1 (by exact ar308 dy hkl), by exact ar309 hkl, q⟩))
    have wy' : ys.Pairwise (fun a b => decide (¬ (atB ks i < atB ks b)) = true → decide (¬ (atB ks i < atB ks a)) = true) := wy.imp fun {a b} h => by simp; omega
    obtain ⟨q, q1, q2, q3⟩ := split_at wy'
    have hyl : ys.length = i := by rw [py.length_eq, ramp_len]
    have ym : ∀ {y : Int}, y ∈ ys → 0 ≤ y ∧ y < i := fun hy => by have := ramp_mem (py.mem_iff.mp hy); exact ar108 this
    have hth := S.things (Th.il lr ys) (List.mem_cons_of_mem _ List.mem_cons_self)
    have hlr5 : L + 5 < lr := (hth.1 lr (List.mem_singleton_self _)).1
    refine (insortR_spec (x := (i : Int)) T F S.S.gg (r.le (by decide)) hth.2 (by exact ar310 hyl hi) (S.newB (show L ≤ lr by exact ar255 hlL)) fm.there key ⟨by exact ar32, by exact ar311 hi⟩ (fun j y e => by have := ym (List.mem_of_getElem? e); exact ar312 this hi) q1
      (fun j y hj e => by simpa using q2 j y hj e) (fun j y hj e => by simpa using q3 j y hj e)).mono fun v g3 ⟨ev, il3, x3, G3⟩ => ⟨ev, ?_⟩
    have offp : ∀ q ∈ p :: ls, lr ∉ q.fp := by
      intro q hq z
      rcases List.mem_cons.mp hq with rfl | hq
      · rw [hpf] at z; exact hlrI (List.mem_singleton.mp z)
      · exact hfr0 q hq z
    have S := ((S.sub (ls' := p :: ls) (fun q hq => by
      rcases List.mem_cons.mp hq with rfl | hq
      · exact List.mem_cons_self
      · exact List.mem_cons_of_mem _ (List.mem_cons_of_mem _ hq))).up x3 G3 fun b hb => .inr ⟨by rw [List.mem_singleton.mp hb]; exact hlr5, fun q hq => by rw [List.mem_singleton.mp hb]; exact offp q hq⟩).addL hlr5 il3
    refine Wp.nil (ky .next _ ⟨cs', _, Th.il lr (ys.take q ++ (i : Int) :: ys.drop q) :: ls, ⟨_, rfl, c4, c5, fun x hx => by rw [upd_ne hx]; exact hm x hx, ?_, ?_⟩, S.sub fun q hq => ?_⟩)
    · have := (ins_perm ys i q).trans (py.append_right [(i : Int)])
      rw [ramp_snoc]
      simpa using this
    · refine ins_pair wy (fun y hy => ?_) (fun y hy => ?_)
      · obtain ⟨j, hj, e⟩ := mem_take_at hy
        have h1 := q2 j y hj e
        have h2 := ym (List.mem_of_getElem? e)
        simp at h1
        exact ar113 h2 h1
      · obtain ⟨j, hj, e⟩ := mem_drop_at hy
        have h1 := q3 j y hj e
        simp at h1
        exact ar313 h1
    · rcases List.mem_cons.mp hq with rfl | hq
      · exact List.mem_cons_of_mem _ List.mem_cons_self
      · rcases List.mem_cons.mp hq with rfl | hq
        · exact List.mem_cons_self
        · exact List.mem_cons_of_mem _ (List.mem_cons_of_mem _ hq)
  · rintro h' cs' m' ls' ⟨ys, rfl, c4, c5, hm, py, wy⟩ S
    exact k h' m' cs' lr ys S c4 c5 (by simpa [ramp_len] using py) wy hm
end
end Mine
end

section
open PySem PySem.W PyProof.Rows
set_option maxRecDepth 100000
set_option maxHeartbeats 4000000
namespace Mine
section
variable {c : Cx} {A : Around} {B h₀ h : Heap} {L : Nat} {cs : Nat → Option Value} {ls : List Th} {m mg mb : Str → Option Value}
theorem lawEnd (T : TopAt B mg mb) (F : Fns B mg) (r : Room A 21) {lk lr w : Nat} {ks ys ds : List Int} {tw tn : Tok} (S : LS B h₀ L cs (Th.il lr ys :: ls) m h) (c4 : cs 4 = some (.ref lr)) (c5 : cs 5 = some (.ref lk)) (hk : Th.il lk ks ∈ ls) (hks : Dig ks) (py : ys.Perm (ramp 0 1 8)) (wy : Stab (atB ks) ys)
    (mw : m "width" = some (.int w tw)) (hw : WOk w) (mn : m "number" = some (.int (undig w ds) tn)) (hd : Dig ds) (pd : ds.Perm ks) (sd : ds.Pairwise (· ≤ ·)) {Q : Flow → Heap → Prop}
    (k : ∀ h' m', LS B h₀ L cs (Th.il lr ys :: ls) m' h' → Q (.ret (.bool true)) h') :
    Wp c A (execs ((fBody (stm 21)).drop 6) (lawEnv L)) Q h := by
  have hkl := hks.1
  have hk' : Th.il lk ks ∈ Th.il lr ys :: ls := List.mem_cons_of_mem _ hk
  have hyl : ys.length = 8 := by rw [py.length_eq, ramp_len]
  have ym : ∀ {y : Int}, y ∈ ys → 0 ≤ y ∧ y < 8 := fun hy => by have := ramp_mem (py.mem_iff.mp hy); exact ar314 this
  refine Wp.cons (Wp.ifN (Wp.tCmp (Wp.nameC rfl rfl rfl (S.ce 4 c4) (Wp.callBk (bi := "sorted") (fun Q q => Wp.nameB S.S T rfl rfl rfl rfl F.bSorted (by decide) (by decide +kernel) q) (Wp.icons
    (Wp.callT (ty := "range") (fun Q q => Wp.nameB S.S T rfl rfl rfl rfl F.bRange (by decide) (by decide +kernel) q) (Wp.icons (Wp.cInt fun t0 => Wp.inil (Wp.range1 fun h₁ t1 t2 t3 hr e1 s1 => Wp.inil ?_)))))))))
  have hL5 := S.cellLt
  have S := S.grow e1
  refine Wp.mkLam T S.S.gg Tb.t4 rfl rfl rfl rfl rfl rfl fun f h₂ ct cv G2 x2 hf1 hf2 fm => ?_
  have hr : IsRange h₂ h.objs.size 0 ((8 : Nat) : Int) 1 t1 t2 t3 := x2.get _ _ (off120 S (by exact ar255 hL5)) hr
  have S := S.tab1 x2 G2
  have key0 := lawKey (c := c) T S c5 hk' hks fm rfl (fun y t => rfl) rfl rfl rfl rfl rfl fun A' h₁ L' y t m₁ Q cc il dy Sf mone q =>
      Wp.item (Wp.nameF rfl rfl rfl cc (Wp.nameL Sf rfl rfl rfl mone ⟨lk, ks, y, t, atB ks y, rfl, rfl, il, dy.1, atB_at dy.1 (by exact ar308 dy hkl), by exact ar309 hkl, q⟩))
  have key : KeyOkH c B h₂ (.ref f) 1 (· ∈ ramp 0 1 8) (fun y v _ => ∃ t, v = .int (atB ks y) t) := fun A h y t r G e dy => key0 A h y t r G e (by have := ramp_mem dy; exact ar314 this)
  refine Wp.sortedR (n := 8) (d := 1) (KeySort.ints c (ramp 0 1 8) (atB ks)) S.S.gg hr (small1 (a := 0) (b := 8) (by decide) (by decide)) (by decide) (by exact ar315) (r.le (by decide)) key fun D out h₃ hD ilo po wo e3 G3 => ?_
  have S := S.grow e3
  have eo : ys = out := wy.uniq wo (py.trans po.symm)
  refine Wp.neL (S.il List.mem_cons_self) ilo (by have := r.u; exact ar290 this) (Wp.truB ⟨by simp [eo], ?_⟩)
  -- the end
  obtain ⟨y, hy⟩ : ∃ y, ys.getLast? = some y := by
    cases e : ys.getLast? with
    | none => rw [List.getLast?_eq_none_iff] at e; rw [e] at hyl; cases hyl
    | some y => exact ⟨y, rfl⟩
  have hym := ym (List.mem_of_getLast? hy)
  obtain ⟨f1, f2⟩ := end_fig hw.ge hd hks pd sd py wy hy
  have h8 := hd.undig_lt hw
  have eN : undig w ds = ((undig w ds).toNat : Int) := (Int.toNat_of_nonneg h8.1).symm
  rw [eN] at mn
  have hw14 := hw.le
  have hw9 := hw.ge
  obtain ⟨fo, fd', hfo, hfd⟩ := F.f10.there S.S.gg (by decide)
  refine Wp.cons (Wp.ret (Wp.cmp (Wp.callF (o := fo) (fd := fd') (fun Q q => Wp.nameG S.S T rfl rfl rfl F.n10 q) (Wp.icons (Wp.nameL S.S rfl rfl rfl mn (Wp.icons (Wp.nameL S.S rfl rfl rfl mw (Wp.inil ⟨⟨hfo, hfd⟩, ?_⟩))))))))
  refine (i2d_spec T F S.S.gg (r.le (by exact ar316 f1)) (by exact ar293 hw9) rfl (Nat.le_trans (Nat.mul_le_mul hw14 f1) (by decide)) (by exact ar288 f1) (by exact ar269 hw14)).mono fun v h₄ ⟨lf, ev, ilf, hlf, e4, g4⟩ => ?_
  subst ev
  have S := S.tab e4 g4
  have hfr := S.fresh (Nat.le_refl _)
  have hL4 := S.cellLt
  have nlr : lr ∉ [h₄.objs.size] := fun q => hfr (Th.il lr ys) List.mem_cons_self (by rw [← List.mem_singleton.mp q]; exact List.mem_singleton_self _)
  have nlk : lk ∉ [h₄.objs.size] := fun q => hfr (Th.il lk ks) hk' (by rw [← List.mem_singleton.mp q]; exact List.mem_singleton_self _)
  refine Wp.lcomp rfl rfl rfl (by decide) rfl (Wp.nameC rfl rfl rfl (S.ce 4 c4) (Wp.iterL r.hh (S.il List.mem_cons_self) fun h₅ e5 src => ?_))
  refine ⟨_, _, ys, fun _ => decide (atB ks y > 0), atB ks, rfl, src, by omega, fun C h' m₁ v t hC hn hm hv ex => ?_, fun D' h' hD' il ex => ?_⟩
  · have S := S.grow e5
    have c4' := cell_ext (S.ce 4 c4) ex (off1 (.inl (by omega)))
    have c5' := cell_ext (S.ce 5 c5) ex (off1 (.inl (by omega)))
    have ilr := (S.il List.mem_cons_self).ext ex nlr
    have ilk := (S.il hk').ext ex nlk
    have hvm := ym hv
    obtain ⟨vr, hvr, hir⟩ := ilr.isList
    refine ⟨Wp.tests1 (Wp.tCmp (Wp.item (Wp.nameC rfl rfl rfl c5' (Wp.sub slot_list_getitem.lookup (Wp.nameC rfl rfl rfl c4' (Wp.un (Wp.cInt fun u1 => Wp.negI fun u2 => ⟨isL_type hvr, Wp.getLast ilr hy (by omega) fun u3 =>
      ⟨lk, ks, y, u3, atB ks y, rfl, rfl, ilk, hym.1, atB_at hym.1 (by omega), by omega, fun u4 => Wp.cInt fun u5 => Wp.gtI (Wp.truB ⟨rfl, rfl⟩)⟩⟩))))))), fun _ => ?_⟩
    exact Wp.item (Wp.nameC rfl rfl rfl c5' (Wp.nameN rfl rfl hn hm ⟨lk, ks, v, t, atB ks v, rfl, rfl, ilk, hvm.1, atB_at hvm.1 (by omega), by omega, fun u4 => ⟨⟨u4, rfl⟩, rfl⟩⟩))
  · have ex' : Ext [] h₄ h' := ⟨Nat.le_trans e5.size ex.size, fun b o _ q => ex.get _ _ (nin_new q (Nat.le_refl _)) (e5.all _ _ q)⟩
    have S := S.grow ex'
    refine Wp.eqL (ilf.ext ex' (fun q => nomatch q)) il (by have := r.u; omega) ?_
    rw [decide_eq_true f2]
    exact k h' m S
end
end Mine
end

section
open PySem PySem.W PyProof.Rows
set_option maxRecDepth 100000
set_option maxHeartbeats 4000000
namespace Mine
theorem Dig.stg {s : Nat} {ds : List Int} (h : Dig ds) : Dig (stg s ds) := Dig.flip (Dig.run (Dig.flip h))
noncomputable def Stage : Nat → List Int → List Int → Prop
  | 0, ds, ks => Inv 1 ds ks
  | 1, ds, ks => Inv 2 ds ks
  | 2, ds, ks => Inv 4 ds ks
  | _, ds, ks => ds.Perm ks ∧ ds.Pairwise (· ≤ ·)
theorem inv2' {ds ks : List Int} (hd : Dig ds) (hk : Dig ks) (h : Inv 1 ds ks) : Inv 2 (st2 ds) ks := by
  have e : ds = ks := by
    have key : ∀ k, k < 8 → ds[k]? = ks[k]? := fun k hk8 => by
      have p := (h k (by exact ar261 hk8)).1
      rw [Nat.mul_one] at p
      have l1 : ((ds.drop k).take 1) = [ds[k]'(by rw [hd.1]; exact hk8)] := by rw [List.drop_eq_getElem_cons (by rw [hd.1]; exact hk8)]; rfl
      have l2 : ((ks.drop k).take 1) = [ks[k]'(by rw [hk.1]; exact hk8)] := by rw [List.drop_eq_getElem_cons (by rw [hk.1]; exact hk8)]; rfl
      rw [l1, l2] at p
      have := List.singleton_perm_singleton.mp p
      rw [List.getElem?_eq_getElem (by rw [hd.1]; exact hk8), List.getElem?_eq_getElem (by rw [hk.1]; exact hk8), this]
    apply List.ext_getElem?
    intro i
    rcases Nat.lt_or_ge i 8 with q | q
    · exact key i q
    · rw [List.getElem?_eq_none (by rw [hd.1]; exact q), List.getElem?_eq_none (by rw [hk.1]; exact q)]
  rw [e]; exact inv2 hk.1
theorem stage_step {i : Nat} {n : Int} {ds ks : List Int} (hn : ([2, 4, 8] : List Int)[i]? = some n) (hd : Dig ds) (hk : Dig ks) (s : Stage i ds ks) : ∃ size : Nat, n = size ∧ (size = 2 ∨ size = 4 ∨ size = 8) ∧ Inv (size / 2) ds ks ∧ Stage (i + 1) (stg size ds) ks := by
  match i, hn, s with
  | 0, hn, s => exact ⟨2, (Option.some.inj hn).symm, .inl rfl, s, (stg2 ds).symm ▸ inv2' hd hk s⟩
  | 1, hn, s => exact ⟨4, (Option.some.inj hn).symm, .inr (.inl rfl), s, (stg4 ds).symm ▸ inv4 hd.1 hk.1 s⟩
  | 2, hn, s => exact ⟨8, (Option.some.inj hn).symm, .inr (.inr rfl), s, (stg8 ds).symm ▸ inv8 hd.1 hk.1 s⟩
noncomputable def base : List Int := [200, 7, 31, 31, 0, 255, 64, 200]
noncomputable def keysOf (sc : List Int) : List Int := List.zipWith (fun a b => Int.fmod (a + b) 256) (sc.take 8 ++ List.replicate 8 0) base
theorem keysOf_dig (sc : List Int) : Dig (keysOf sc) := by
  refine ⟨by simp [keysOf, base], fun d hd => ?_⟩
  obtain ⟨i, hi⟩ := List.mem_iff_getElem?.mp hd
  unfold keysOf at hi
  rw [List.getElem?_zipWith_eq_some] at hi
  obtain ⟨x, b, _, _, rfl⟩ := hi
  have h1 := Int.fmod_nonneg_of_pos (x + b) (show (0 : Int) < 256 by decide)
  have h2 := Int.fmod_lt_of_pos (x + b) (show (0 : Int) < 256 by decide)
  exact ar262 h1 h2
theorem width_ok (s : Int) : 0 ≤ Int.fmod s 4 ∧ ∃ w : Nat, WOk w ∧ ([9, 20, 1400, 11] : List Int)[(Int.fmod s 4).toNat]? = some (w : Int) := by
  have h1 := Int.fmod_nonneg_of_pos s (show (0 : Int) < 4 by decide)
  have h2 := Int.fmod_lt_of_pos s (show (0 : Int) < 4 by decide)
  refine ⟨h1, ?_⟩
  obtain ⟨j, hj⟩ := Int.eq_ofNat_of_zero_le h1
  rw [hj] at h2 ⊢
  rw [Int.toNat_natCast]
  match j, h2 with
  | 0, _ => exact ⟨9, .inl rfl, rfl⟩
  | 1, _ => exact ⟨20, .inr (.inl rfl), rfl⟩
  | 2, _ => exact ⟨1400, .inr (.inr (.inl rfl)), rfl⟩
  | 3, _ => exact ⟨11, .inr (.inr (.inr rfl)), rfl⟩
  | n + 4, h => exact (ar263 h).elim
theorem law_split : fBody (stm 21) = (fBody (stm 21)).take 4 ++ (((fBody (stm 21)).drop 4).take 2 ++ (fBody (stm 21)).drop 6) := by
  have : (fBody (stm 21)).drop 6 = ((fBody (stm 21)).drop 4).drop 2 := by rw [List.drop_drop]
  rw [this, List.take_append_drop, List.take_append_drop]
/-- a list of ints lies at l, whatever else its object holds -/
noncomputable def PL (h : Heap) (l : Nat) (ns : List Int) : Prop := ∃ vs : List Value, h.IsList l vs.toArray ∧ Ints vs ns
theorem PL.get {h h' : Heap} {l : Nat} {ns : List Int} (x : PL h l ns) (e : ∀ o, h.get? l = some o → h'.get? l = some o) : PL h' l ns := let ⟨vs, y, z⟩ := x; ⟨vs, y.at e, z⟩
theorem PL.ext {W : List Addr} {h h' : Heap} {l : Nat} {ns : List Int} (x : PL h l ns) (e : Ext W h h') (hl : l ∉ W) : PL h' l ns := x.get fun o q => e.get _ _ hl q
theorem PL.lt {h : Heap} {l : Nat} {ns : List Int} (x : PL h l ns) : l < h.objs.size := let ⟨_, ⟨_, q, _⟩, _⟩ := x; Heap.lt_size q
theorem PL.fm {B h₀ h : Heap} {W : List Addr} {L : Addr} {m : Str → Option Value} {l : Nat} {ns : List Int} (x : PL h₀ l ns) (S : Fm B h₀ W L m h) (hW : l ∉ W) (hL : l ≠ L) : PL h l ns := x.get fun o q => S.get _ _ hW hL q
theorem PL.notTab {B h : Heap} {l : Nat} {ns : List Int} (x : PL h l ns) (G : GG B h) : l ∉ tabs := by
  obtain ⟨vs, ⟨o, ho, hc, n, hd⟩, _⟩ := x
  have key : ∀ {k P : Addr} {q : Str}, TabQ h k P q → l ≠ P := fun t e => by
    obtain ⟨_, ps, hp, _⟩ := t
    rw [← e, ho] at hp; cases hp
    cases hd
  simp only [tabs, List.mem_cons, List.not_mem_nil, or_false, not_or]
  exact ⟨key G.t1, key G.t2, key G.t3, key G.t4⟩
section
variable {c : Cx} {A : Around} {B h : Heap} {mg mb : Str → Option Value}
theorem law_spec (T : TopAt B mg mb) (F : Fns B mg) (G : GG B h) (r : Room A 22) {lsc : Nat} {sc : List Int} (hs : PL h lsc sc) (h63 : sc.length ≤ 1000) :
    Wp c A (call (.ref 123) [.ref lsc] []) (fun v h' => v = .bool true ∧ Ext tabs h h' ∧ GG B h') h := by
  refine Wp.enterC (n := 21) T G F.f21 r (by decide) (by decide) (binds := [("script", .ref lsc)]) (fun doc pm => rfl) rfl rfl rfl rfl (fun L h₁ hL S0 C r' => ?_)
  have hlsc : lsc < L := Nat.lt_of_lt_of_le hs.lt hL
  have ils := hs.fm (S0 tabs) (hs.notTab G) (Nat.ne_of_lt hlsc)
  have S : LS B h L (fun _ => none) [] _ h₁ := ⟨S0 tabs, hL, G, fun i h1 h5 => by
    rcases (show i = 1 ∨ i = 2 ∨ i = 3 ∨ i = 4 ∨ i = 5 by exact ar264 h1 h5) with rfl | rfl | rfl | rfl | rfl
    · exact C "size" (L + 1) rfl
    · exact C "gap" (L + 2) rfl
    · exact C "odd" (L + 3) rfl
    · exact C "row" (L + 4) rfl
    · exact C "keys" (L + 5) rfl, fun p hp => nomatch hp⟩
  clear C
  refine Wp.abs fun Qz kz => ?_
  refine Wp.ofEq (congrArg (fun l => execs l (lawEnv L)) law_split) ?_
  -- keys
  obtain ⟨vs, hvs, his⟩ := id ils
  refine Wp.cons (Wp.assign (Wp.lcompZ r'.hh rfl rfl rfl (by decide) rfl rfl (by decide) (Wp.callT (ty := "zip") (fun Q q => Wp.nameB S.S T rfl rfl rfl rfl F.bZip (by decide) (by decide +kernel) q) (Wp.icons (Wp.bin (Wp.slice (Wp.nameL S.S rfl rfl rfl rfl (Wp.partN (Wp.partS (Wp.cInt fun t1 =>
    ⟨lsc, vs, sc, sc.take 8, _, _, rfl, hvs, his, by exact ar265 h63, .none, .int _ _, pick_upto (y := 8) his, fun D1 h₂ hD1 il1 e2 => ?_⟩))))))))))
  refine Wp.bin (Wp.listD (Wp.icons (Wp.cInt fun t2 => Wp.inil ⟨show 1 ≤ 2 ^ 24 by decide, ?_⟩)))
  refine Wp.cInt fun t3 => Wp.mulL (Heap.get?_push_size _ rfl) (by decide) (by decide) fun h₃ eh => ?_
  have e3 : Ext [] h₂ h₃ := by rw [eh]; exact (Ext.push _ _).trans (Ext.push _ _)
  have il2 : IL h₃ (h₂.push (lstObj [.int 0 t2] 0)).objs.size (List.replicate 8 0) := ⟨_, 0, by rw [eh]; exact Heap.get?_push_size _ rfl, Ints.rep 0 t2 8⟩
  refine Wp.addL (il1.ext e3 (fun q => nomatch q)) il2 (by rw [List.length_take, List.length_replicate]; exact ar266) fun h₄ il4 e4 => ?_
  refine Wp.icons (Wp.listD (Wp.icons (Wp.cInt fun a1 => Wp.icons (Wp.cInt fun a2 => Wp.icons (Wp.cInt fun a3 => Wp.icons (Wp.cInt fun a4 => Wp.icons (Wp.cInt fun a5 => Wp.icons (Wp.cInt fun a6 => Wp.icons (Wp.cInt fun a7 => Wp.icons (Wp.cInt fun a8 => Wp.inil ⟨show 8 ≤ 2 ^ 24 by decide, Wp.inil ?_⟩))))))))))
  have il5 : IL (h₄.push (lstObj [.int 200 a1, .int 7 a2, .int 31 a3, .int 31 a4, .int 0 a5, .int 255 a6, .int 64 a7, .int 200 a8] 0)) h₄.objs.size base :=
    ⟨_, 0, Heap.get?_push_size _ rfl, .cons _ _ (.cons _ _ (.cons _ _ (.cons _ _ (.cons _ _ (.cons _ _ (.cons _ _ (.cons _ _ .nil)))))))⟩
  have e5 := Ext.push h₄ (lstObj [.int 200 a1, .int 7 a2, .int 31 a3, .int 31 a4, .int 0 a5, .int 255 a6, .int 64 a7, .int 200 a8] 0)
  have il4 := il4.ext e5 (fun q => nomatch q)
  generalize h₄.push (lstObj [.int 200 a1, .int 7 a2, .int 31 a3, .int 31 a4, .int 0 a5, .int 255 a6, .int 64 a7, .int 200 a8] 0) = h₅ at *
  refine Wp.zipL r'.hh il4 il5 fun z h₆ src => ⟨h₅, z, _, _, fun a b => Int.fmod (a + b) 256, rfl, src, by rw [List.length_append, List.length_take, List.length_replicate]; exact ar266, fun C h' m₁ v u t t' hC hn hx hy hv hu ex => ?_, fun D h' hD il ex => ?_⟩
  · exact Wp.bin (Wp.bin (Wp.nameN rfl rfl hn hx (Wp.nameN rfl rfl hn hy (Wp.addI fun u1 => Wp.cInt fun u2 => Wp.modI (by decide) fun u3 => ⟨⟨u3, rfl⟩, rfl⟩))))
  have il : IL h' D (keysOf sc) := il
  obtain ⟨lk, rfl⟩ : ∃ l : Nat, l = D := ⟨D, rfl⟩
  have hks := keysOf_dig sc
  generalize keysOf sc = ks at *
  have ex1 : Ext [] h₁ h₅ := e2.trans (e3.trans (e4.trans e5))
  have hL5 := S.cellLt
  have hlk : L + 5 < lk := Nat.lt_of_lt_of_le hL5 (Nat.le_trans ex1.size hD)
  have ils := (ils.ext ex1 (fun q => nomatch q)).ext ex (fun q => nomatch q)
  have S := ((S.grow ex1).grow ex).addL hlk il
  clear il il1 il2 il4 il5 src eh e2 e3 e4 e5 hvs his
  refine S.storeC 5 rfl rfl rfl fun g1 S x1 => ?_
  have ils := ils.ext x1 (off1 (.inl (by exact ar267 hlsc)))
  -- width
  obtain ⟨w0, w, hw, hwe⟩ := width_ok sc.sum
  refine Wp.cons (Wp.assign (Wp.item (Wp.listD (Wp.icons (Wp.cInt fun a1 => Wp.icons (Wp.cInt fun a2 => Wp.icons (Wp.cInt fun a3 => Wp.icons (Wp.cInt fun a4 => Wp.inil ⟨show 4 ≤ 2 ^ 24 by decide, ?_⟩))))))))
  have x2 := Ext.push g1 (lstObj [.int 9 a1, .int 20 a2, .int 1400 a3, .int 11 a4] 0)
  have ilw : IL (g1.push (lstObj [.int 9 a1, .int 20 a2, .int 1400 a3, .int 11 a4] 0)) g1.objs.size [9, 20, 1400, 11] := ⟨_, 0, Heap.get?_push_size _ rfl, .cons _ _ (.cons _ _ (.cons _ _ (.cons _ _ .nil)))⟩
  generalize g1.push (lstObj [.int 9 a1, .int 20 a2, .int 1400 a3, .int 11 a4] 0) = g2 at *
  have S := S.grow x2
  have ils := ils.ext x2 (fun q => nomatch q)
  obtain ⟨vs, hvs, his⟩ := id ils
  refine Wp.bin (Wp.callB (bi := "sum") (fun Q q => Wp.nameB S.S T rfl rfl rfl rfl F.bSum (by decide) (by decide +kernel) q) (Wp.icons (Wp.nameL S.S rfl rfl rfl rfl (Wp.inil (Wp.sumL r'.hh hvs his fun ts g3 x3 => Wp.cInt fun t4 => Wp.modI (by decide) fun t5 =>
    ⟨_, _, _, _, _, rfl, rfl, ilw.ext x3 (fun q => nomatch q), w0, hwe, by decide, fun tw => ?_⟩)))))
  have S := S.grow x3
  refine S.storeL rfl rfl rfl fun g4 S x4 => ?_
  -- number
  obtain ⟨fo, fd', hfo, hfd⟩ := F.f11.there S.S.gg (by decide)
  refine Wp.cons (Wp.assign (Wp.callF (o := fo) (fd := fd') (fun Q q => Wp.nameG S.S T rfl rfl rfl F.n11 q) (Wp.icons (Wp.nameC rfl rfl rfl (S.ce 5 rfl) (Wp.icons (Wp.nameL S.S rfl rfl rfl rfl (Wp.inil ⟨⟨hfo, hfd⟩, ?_⟩)))))))
  have hw14 := hw.le
  refine (d2i_spec T F S.S.gg (r'.le (by rw [hks.1]; decide)) (S.il List.mem_cons_self) (hks.lt hw) (by rw [hks.1]; exact ar268 hw14) (by rw [hks.1]; decide) (by exact ar269 hw14)).mono fun v g5 ⟨⟨tn, ev⟩, x5, g5g⟩ => ?_
  subst ev
  have S := S.tab x5 g5g
  refine S.storeL rfl rfl rfl fun g6 S x6 => ?_
  -- the loop
  refine Wp.cons (Wp.forS (Wp.tupD (Wp.icons (Wp.cInt fun a1 => Wp.icons (Wp.cInt fun a2 => Wp.icons (Wp.cInt fun a3 => Wp.inil ⟨show 3 ≤ 2 ^ 24 by decide, ?_⟩))))))
  have x7 := Ext.push g6 (tupObj [.int 2 a1, .int 4 a2, .int 8 a3])
  have hl6 := S.cellLt
  have htu : (g6.push (tupObj [.int 2 a1, .int 4 a2, .int 8 a3])).get? g6.objs.size = some (tupObj [.int 2 a1, .int 4 a2, .int 8 a3]) := Heap.get?_push_size _ rfl
  generalize g6.push (tupObj [.int 2 a1, .int 4 a2, .int 8 a3]) = g7 at *
  have S := S.grow x7
  refine Wp.iterT r'.hh htu (.cons _ _ (.cons _ _ (.cons _ _ .nil))) fun g8 x8 src => ?_
  have hI5 := S.cellLt
  have hfr := S.fresh (Nat.le_refl _)
  have S := S.grow x8
  generalize hI : g7.objs.size = I at *
  refine LS.forIt src (fun b hb => ?_) hI5 (fun i cs' m' ls' => ls' = [Th.il lk ks] ∧ cs' 5 = some (.ref lk) ∧ m' "width" = some (.int w tw) ∧ ∃ ds t, m' "number" = some (.int (undig w ds) t) ∧ Dig ds ∧ Stage i ds ks) S
    ⟨rfl, rfl, rfl, ks, tn, rfl, hks, inv1 hks.1⟩ (fun i cs m ls ⟨e, _⟩ => e ▸ hfr) ?_ ?_
  · rcases List.mem_cons.mp hb with rfl | hb
    · exact hI5
    · rw [List.mem_singleton.mp hb]; exact hl6
  · rintro i h' cs' m' ls' n t p ⟨rfl, c5, mw, ds, tn, mn, hd, st⟩ hn S _
    obtain ⟨size, rfl, hsz, hinv, hst⟩ := stage_step hn hd hks st
    refine Wp.absB fun Qy ky => ?_
    refine Wp.asg (S.storeC 1 rfl rfl rfl fun g9 S x9 => ?_)
    refine lawSize T F r' S rfl c5 (List.mem_cons_of_mem _ List.mem_cons_self) hks hsz mw hw mn hd hinv fun h2 m2 cs2 S hc hn2 hw2 => ?_
    obtain ⟨t2, hn2⟩ := hn2
    exact ky .next _ ⟨cs2, m2, _, ⟨rfl, (hc 5 (by decide) (by decide)).trans c5, hw2.trans mw, _, t2, hn2, hd.stg, hst⟩, S⟩
  · rintro h' cs' m' ls' ⟨rfl, c5, mw, ds, tn, mn, hd, pd, sd⟩ S
    refine lawRows (rest := (fBody (stm 21)).drop 6) T F r' S c5 List.mem_cons_self hks fun h2 m2 cs2 lr ys S c4 c5 py wy hm => ?_
    refine lawEnd T F r' S c4 c5 List.mem_cons_self hks py wy ((hm _ (by decide)).trans mw) hw ((hm _ (by decide)).trans mn) hd pd sd fun h3 m3 S => kz _ _ ⟨rfl, S.S.out (new_none hL), S.S.gg⟩
end
end Mine
end

section
open PySem PySem.W PyProof.Rows
set_option maxRecDepth 100000
set_option maxHeartbeats 4000000
namespace Mine
noncomputable def fdK (K : Frag) (a : Addr) : FuncData := match K.lookup a with
  | some ⟨_, _, .func fd, _⟩ => fd
  | _ => default
/-- what the written heap must hold for a def -/
structure FK (K : Frag) (a i : Nat) (nm : Str) (dV kV : Value) (cd : Nat) : Prop where
  ns : nm = "law" ∨ nsIn K mainGlobals nm = some (some (.ref a))
  fn : (K.lookup a).map (·.data) = some (.func (fnOf nm nm (fArgs (stm i)) (fBody (stm i)) (fScope (stm i)) dV kV (fdK K a).doc (fdK K a).pyModule none (.ref cd) .none))
  cd : codeIn K (.ref cd) nm = true
noncomputable def intK (K : Frag) (x : Str) (n : Int) : Bool := match nsIn K mainGlobals x with
  | some (some (.int k _)) => k == n
  | _ => false
noncomputable def dflK (K : Frag) (a : Addr) : Bool := match K.lookup a with
  | some ⟨_, _, .seq xs _, _⟩ => (match xs.toList with | [.int k _, .none] => k == 0 | _ => false)
  | _ => false
structure KOk (K : Frag) : Prop where
  f3 : FK K 21 3 "ISTERMINAL" .none .none 20
  f4 : FK K 28 4 "ISNONTERMINAL" .none .none 27
  f5 : FK K 35 5 "ISEOF" .none .none 34
  f8 : FK K 42 8 "_div2n1n" .none .none 41
  f9 : FK K 49 9 "_div3n2n" .none .none 48
  f10 : FK K 56 10 "_int2digits" .none .none 55
  f11 : FK K 63 11 "_digits2int" .none .none 62
  f12 : FK K 70 12 "_divmod_pos" .none .none 69
  f13 : FK K 77 13 "int_divmod" .none .none 76
  f15 : FK K 86 15 "insort_right" (.ref 78) (.ref 79) 85
  f16 : FK K 95 16 "bisect_right" (.ref 87) (.ref 88) 94
  f17 : FK K 104 17 "insort_left" (.ref 96) (.ref 97) 103
  f18 : FK K 113 18 "bisect_left" (.ref 105) (.ref 106) 112
  f20 : FK K 118 20 "_law_cut" .none .none 117
  f21 : FK K 123 21 "law" .none .none 122
  nl : nsIn K mainGlobals "law" = some (some (.ref 123))
  d78 : dflK K 78 = true
  d87 : dflK K 87 = true
  d96 : dflK K 96 = true
  d105 : dflK K 105 = true
  cNT : intK K "NT_OFFSET" 256 = true
  cEM : intK K "ENDMARKER" 0 = true
  cDL : intK K "_DIV_LIMIT" 4000 = true
  bLen : nsIn K mainGlobals "len" = some none
  bRange : nsIn K mainGlobals "range" = some none
  bZip : nsIn K mainGlobals "zip" = some none
  bSorted : nsIn K mainGlobals "sorted" = some none
  bSum : nsIn K mainGlobals "sum" = some none
  bDivmod : nsIn K mainGlobals "divmod" = some none
  bReversed : nsIn K mainGlobals "reversed" = some none
  t1 : codeHdIn K 55 51 = true
  t2 : codeHdIn K 62 58 = true
  t3 : codeHdIn K 117 115 = true
  t4 : codeHdIn K 122 120 = true
theorem fnI_of {K : Frag} {B : Heap} (X : K.In B) {a i : Nat} {nm : Str} {dV kV : Value} {cd : Nat} (f : FK K a i nm dV kV cd) : FnI B a i nm dV kV cd := by
  have e := f.fn
  cases q : K.lookup a with
  | none => rw [q] at e; cases e
  | some o =>
    rw [q] at e
    exact ⟨o, _, _, X _ _ q, Option.some.inj e, codeRec_of X f.cd⟩
theorem int_of {K : Frag} {B : Heap} {mg : Str → Option Value} (X : K.In B) (G : B.Ns mainGlobals mg) {x : Str} {n : Int} (e : intK K x n = true) : ∃ t, mg x = some (.int n t) := by
  unfold intK at e
  split at e
  · rename_i k t hq
    rw [beq_iff_eq] at e
    subst e
    exact ⟨t, mg_of X G hq⟩
  · cases e
theorem dfl_of {K : Frag} {B : Heap} (X : K.In B) {a : Addr} (e : dflK K a = true) : ∃ t n o, B.get? a = some o ∧ o.data = .seq #[.int 0 t, .none] n := by
  unfold dflK at e
  split at e
  · rename_i xs n s hq
    split at e
    · rename_i k t hx
      rw [beq_iff_eq] at e
      subst e
      refine ⟨t, n, _, X _ _ hq, ?_⟩
      have : xs = #[.int 0 t, .none] := by rw [← Array.toArray_toList (xs := xs), hx]
      rw [this]
    · cases e
  · cases e
theorem fns_of {K : Frag} {B : Heap} {mg : Str → Option Value} (X : K.In B) (G : B.Ns mainGlobals mg) (k : KOk K) : Fns B mg where
  n3 := mg_of X G (k.f3.ns.resolve_left (by decide))
  f3 := fnI_of X k.f3
  n4 := mg_of X G (k.f4.ns.resolve_left (by decide))
  f4 := fnI_of X k.f4
  n5 := mg_of X G (k.f5.ns.resolve_left (by decide))
  f5 := fnI_of X k.f5
  n8 := mg_of X G (k.f8.ns.resolve_left (by decide))
  f8 := fnI_of X k.f8
  n9 := mg_of X G (k.f9.ns.resolve_left (by decide))
  f9 := fnI_of X k.f9
  n10 := mg_of X G (k.f10.ns.resolve_left (by decide))
  f10 := fnI_of X k.f10
  n11 := mg_of X G (k.f11.ns.resolve_left (by decide))
  f11 := fnI_of X k.f11
  n12 := mg_of X G (k.f12.ns.resolve_left (by decide))
  f12 := fnI_of X k.f12
  n13 := mg_of X G (k.f13.ns.resolve_left (by decide))
  f13 := fnI_of X k.f13
  n15 := mg_of X G (k.f15.ns.resolve_left (by decide))
  f15 := fnI_of X k.f15
  n16 := mg_of X G (k.f16.ns.resolve_left (by decide))
  f16 := fnI_of X k.f16
  n17 := mg_of X G (k.f17.ns.resolve_left (by decide))
  f17 := fnI_of X k.f17
  n18 := mg_of X G (k.f18.ns.resolve_left (by decide))
  f18 := fnI_of X k.f18
  n20 := mg_of X G (k.f20.ns.resolve_left (by decide))
  f20 := fnI_of X k.f20
  f21 := fnI_of X k.f21
  d78 := dfl_of X k.d78
  d87 := dfl_of X k.d87
  d96 := dfl_of X k.d96
  d105 := dfl_of X k.d105
  cNT := int_of X G k.cNT
  cEM := int_of X G k.cEM
  cDL := int_of X G k.cDL
  bLen := mg_none_of X G k.bLen
  bRange := mg_none_of X G k.bRange
  bZip := mg_none_of X G k.bZip
  bSorted := mg_none_of X G k.bSorted
  bSum := mg_none_of X G k.bSum
  bDivmod := mg_none_of X G k.bDivmod
  bReversed := mg_none_of X G k.bReversed
theorem tabQ_of {K : Frag} {B : Heap} (X : K.In B) {c P : Addr} {q : Str} (e : codeHdIn K c P = true) (hP : B.get? P = some (tabObj #[])) : TabQ B c P q :=
  ⟨codeHd_of_K X e, #[], hP, trivial, fun pos cv y => by simp [codeAmong] at y⟩
theorem gg_of {K : Frag} {B : Heap} (X : K.In B) (k : KOk K) (h8 : ∀ P : Addr, P ∈ [115, 58, 51, 120] → B.get? P = some (tabObj #[])) : GG B B :=
  ⟨Ext.refl _ _, tabQ_of X k.t1 (h8 _ (by decide)), tabQ_of X k.t2 (h8 _ (by decide)), tabQ_of X k.t3 (h8 _ (by decide)), tabQ_of X k.t4 (h8 _ (by decide))⟩
theorem topAt_of {p : Program} {loose : List Str} {mean : ExcName → Option Value} {mg mb : Str → Option Value} {B : Heap} (T : Top p loose mean mg mb B) (h8 : ∀ P : Addr, P ∈ [115, 58, 51, 120] → B.get? P = some (tabObj #[])) : TopAt B mg mb := by
  refine ⟨T.g, T.b, T.builtins, T.nolimit, ?_⟩
  obtain ⟨bm, ob, h1, h2, h3, h4, h5, h6⟩ := T.bmain
  refine ⟨bm, ob, h1, h2, ?_, fun q => ?_, h3, h4, h5, h6⟩
  · rintro rfl
    obtain ⟨o, es, ep, ho, hd, _⟩ := T.g
    rw [h3] at ho; cases ho
    rw [h6] at hd; cases hd
  · have : bm ∈ ([115, 58, 51, 120] : List Addr) := by
      simp only [tabs, List.mem_cons, List.not_mem_nil, or_false] at q ⊢
      rcases q with q | q | q | q <;> simp [q]
    have e := h8 bm this
    rw [h3] at e; cases e
    cases h4
theorem oldK_of {B h' : Heap} (e : Ext tabs B h') (g0 : GG B B) (g : GG B h') (h8 : ∀ P : Addr, P ∈ [115, 58, 51, 120] → B.get? P = some (tabObj #[])) : OldK B h' := by
  have key : ∀ {k P : Addr} {q : Str}, P ∈ ([115, 58, 51, 120] : List Addr) → TabQ B k P q → TabQ h' k P q → ∀ o, B.get? P = some o → asItWas B h' P o ∧ ∃ o', h'.get? P = some o' := by
    intro k P q hP t0 t o ho
    have h0 := h8 P hP
    rw [h0] at ho; cases ho
    obtain ⟨_, ps, hp, _⟩ := t
    refine ⟨.inr (.inl ⟨(t0.1.tab h0).isCodeTable, rfl, #[], ps, rfl, ?_⟩), _, hp⟩
    rw [hp]; simp
  have all : ∀ b o, B.get? b = some o → asItWas B h' b o ∧ ∃ o', h'.get? b = some o' := by
    intro b o ho
    by_cases hb : b ∈ tabs
    · simp only [tabs, List.mem_cons, List.not_mem_nil, or_false] at hb
      rcases hb with rfl | rfl | rfl | rfl
      · exact key (by decide) g0.t1 g.t1 o ho
      · exact key (by decide) g0.t2 g.t2 o ho
      · exact key (by decide) g0.t3 g.t3 o ho
      · exact key (by decide) g0.t4 g.t4 o ho
    · exact ⟨.inl (e.get b o hb ho), o, e.get b o hb ho⟩
  exact ⟨fun b o ho => (all b o ho).1, fun b o ho => (all b o ho).2⟩
theorem law_done {K : Frag} {w : World} {prog p : Program} {loose : List Str} {mean mean' : ExcName → Option Value} {s₁ : Shared} {mg mb : Str → Option Value} {fa l : Addr} {vs : List Value} {ns : List Int} {cc : ClaimW} {cl : Str → Option Addr} {args : List WData}
    (T : Top p loose mean' mg mb s₁.heap) (X : K.In s₁.heap) (k : KOk K) (h8 : ∀ P : Addr, P ∈ [115, 58, 51, 120] → s₁.heap.get? P = some (tabObj #[])) (hmg : mg ("law" : Str) = some (.ref fa)) (hg : s₁.gens = #[])
    (hL : s₁.heap.IsList l vs.toArray) (hI : IntsAre vs ns) (h63 : ¬ ((63 : Nat) : Int) < (ns.length : Int)) (hr : ∀ cls, cc.raises args cls = false) (hp : cc.post args (.bool true) args = true) :
    wpAny (model prog w) callerA (PySem.call (.ref fa) [.ref l] []) (fun v s' => GoodWG cc cl mean args s₁ (.ok (.ret v)) s') (fun e s' => GoodWG cc cl mean args s₁ (.error e) s') s₁ := by
  obtain rfl : fa = 123 := by have := mg_of X T.g k.nl; rw [hmg] at this; cases this; rfl
  have g0 := gg_of X k h8
  obtain ⟨l, rfl⟩ : ∃ n : Nat, n = l := ⟨l, rfl⟩
  have key := law_spec (c := ⟨prog, w, s₁⟩) (A := callerA) (topAt_of T h8) (fns_of X T.g k) g0 ⟨by decide, by decide, rfl⟩ (lsc := l) ⟨vs, hL, hI⟩ (by exact ar1 h63) s₁.toks
  refine wpAny_mono (s := s₁) key (fun v s' ⟨h', tk', e, ev, ex, g⟩ => ?_) fun _ _ e => e.elim
  subst e ev
  exact ⟨.inl ⟨_, _, [], rfl, hr, .bool true, hp, fun _ => ⟨List.nodup_nil, fun a ha => nomatch ha⟩⟩, oldK_of ex g0 g h8, rfl, .of_eq hg⟩
end Mine
end

section
open PySem PySem.W PyProof.Rows
set_option maxRecDepth 100000
namespace Mine
/-- what the top leaves, as far as the law needs it -/
noncomputable def enK (P : Params) (k : Str) (t : Tok) (v : Value) : DictEntry := { hash := PyData.keyHash P k, key := .str k t, val := v }
noncomputable def cdK (nm : Str) (t : Nat) (ln ac kc : Int) (r : Nat) (x y : Value) (q t2 : Nat) : Obj :=
  { cls := .type "code", data := .fields #[.str nm t, .str nm (t + 1), .str "/claim/cut.py" (t + 2), .int ln 0, .int ac 0, .int 0 0, .int kc 0, .int 3 0, .ref r, .bool true, .int 181 0, .ref (r + 1), .none, x, y, .ref q, .int t2 0, .int ln 0, .str "/claim/cut.py" (t2 + 1)] }
noncomputable def fnK (nm : Str) (i : Nat) (dV kV pm cd : Value) : Obj := { cls := .type "function", data := .func (fnOf nm nm (fArgs (stm i)) (fBody (stm i)) (fScope (stm i)) dV kV .none pm none cd .none) }
noncomputable def myK : Params → Frag := fun P => [
  (3, { cls := .type "dict", data := .dict #[enK P "__name__" 165 (.str "law_rs0153_01" 352), enK P "__doc__" 166 (.none), enK P "__package__" 167 (.none), enK P "__loader__" 168 (.builtin "__main__.__loader__#opaque"), enK P "__spec__" 169 (.none), enK P "__annotations__" 170 (.ref 6), enK P "__builtins__" 171 (.ref 4), enK P "__file__" 173 (.str "/claim/cut.py" 172), enK P "__cached__" 174 (.none), enK P "ENDMARKER" 190 (.int 0 189), enK P "NT_OFFSET" 192 (.int 256 191), enK P "ISTERMINAL" 199 (.ref 21), enK P "ISNONTERMINAL" 206 (.ref 28), enK P "ISEOF" 213 (.ref 35), enK P "_DIV_LIMIT" 217 (.int 4000 216), enK P "_div2n1n" 234 (.ref 42), enK P "_div3n2n" 248 (.ref 49), enK P "_int2digits" 259 (.ref 56), enK P "_digits2int" 270 (.ref 63), enK P "_divmod_pos" 285 (.ref 70), enK P "int_divmod" 295 (.ref 77), enK P "insort_right" 310 (.ref 86), enK P "bisect_right" 324 (.ref 95), enK P "insort_left" 337 (.ref 104), enK P "bisect_left" 351 (.ref 113), enK P "_law_cut" 359 (.ref 118), enK P "law" 365 (.ref 123)] 27 }),
  (20, cdK "ISTERMINAL" 193 4 1 0 15 (.ref 17) (.ref 18) 19 197),
  (21, fnK "ISTERMINAL" 3 (.none) (.none) (.str "cpy313.token" 187) (.ref 20)),
  (27, cdK "ISNONTERMINAL" 200 6 1 0 22 (.ref 24) (.ref 25) 26 204),
  (28, fnK "ISNONTERMINAL" 4 (.none) (.none) (.str "cpy313.token" 187) (.ref 27)),
  (34, cdK "ISEOF" 207 8 1 0 29 (.ref 31) (.ref 32) 33 211),
  (35, fnK "ISEOF" 5 (.none) (.none) (.str "cpy313.token" 187) (.ref 34)),
  (41, cdK "_div2n1n" 218 12 3 0 36 (.ref 38) (.ref 39) 40 232),
  (42, fnK "_div2n1n" 8 (.none) (.none) (.str "cpy313._pylong" 214) (.ref 41)),
  (48, cdK "_div3n2n" 235 28 6 0 43 (.ref 45) (.ref 46) 47 246),
  (49, fnK "_div3n2n" 9 (.none) (.none) (.str "cpy313._pylong" 214) (.ref 48)),
  (55, cdK "_int2digits" 249 38 2 0 50 (.ref 52) (.ref 53) 54 257),
  (56, fnK "_int2digits" 10 (.none) (.none) (.str "cpy313._pylong" 214) (.ref 55)),
  (62, cdK "_digits2int" 260 54 2 0 57 (.ref 59) (.ref 60) 61 268),
  (63, fnK "_digits2int" 11 (.none) (.none) (.str "cpy313._pylong" 214) (.ref 62)),
  (69, cdK "_divmod_pos" 271 63 2 0 64 (.ref 66) (.ref 67) 68 283),
  (70, fnK "_divmod_pos" 12 (.none) (.none) (.str "cpy313._pylong" 214) (.ref 69)),
  (76, cdK "int_divmod" 286 74 2 0 71 (.ref 73) (.ref 74) 75 293),
  (77, fnK "int_divmod" 13 (.none) (.none) (.str "cpy313._pylong" 214) (.ref 76)),
  (78, { cls := .type "tuple", data := .seq #[.int 0 298, .none] }),
  (85, cdK "insort_right" 300 86 4 1 80 (.ref 82) (.ref 83) 84 308),
  (86, fnK "insort_right" 15 (.ref 78) (.ref 79) (.str "cpy313.bisect" 296) (.ref 85)),
  (87, { cls := .type "tuple", data := .seq #[.int 0 311, .none] }),
  (94, cdK "bisect_right" 313 92 4 1 89 (.ref 91) (.ref 92) 93 322),
  (95, fnK "bisect_right" 16 (.ref 87) (.ref 88) (.str "cpy313.bisect" 296) (.ref 94)),
  (96, { cls := .type "tuple", data := .seq #[.int 0 325, .none] }),
  (103, cdK "insort_left" 327 112 4 1 98 (.ref 100) (.ref 101) 102 335),
  (104, fnK "insort_left" 17 (.ref 96) (.ref 97) (.str "cpy313.bisect" 296) (.ref 103)),
  (105, { cls := .type "tuple", data := .seq #[.int 0 338, .none] }),
  (112, cdK "bisect_left" 340 118 4 1 107 (.ref 109) (.ref 110) 111 349),
  (113, fnK "bisect_left" 18 (.ref 105) (.ref 106) (.str "cpy313.bisect" 296) (.ref 112)),
  (117, cdK "_law_cut" 354 139 4 0 114 (.none) (.none) 116 357),
  (118, fnK "_law_cut" 20 (.none) (.none) (.str "law_rs0153_01" 352) (.ref 117)),
  (122, cdK "law" 360 165 1 0 119 (.none) (.none) 121 363),
  (123, fnK "law" 21 (.none) (.none) (.str "law_rs0153_01" 352) (.ref 122))]
noncomputable def myAs : List Addr := [3, 20, 21, 27, 28, 34, 35, 41, 42, 48, 49, 55, 56, 62, 63, 69, 70, 76, 77, 78, 85, 86, 87, 94, 95, 96, 103, 104, 105, 112, 113, 117, 118, 122, 123]
end Mine
end

open PySem PySem.W PyProof.Rows
set_option maxRecDepth 100000
theorem Mine.myK_ok (P : Params) : Mine.KOk (Mine.myK P) := by
  constructor
  case f21 => exact ⟨.inl rfl, by kernel_rfl, by kernel_rfl⟩
  all_goals first | kernel_rfl | exact ⟨.inr (by kernel_rfl), by kernel_rfl, by kernel_rfl⟩
set_option maxHeartbeats 8000000 in
theorem PySem.Challenge.cw_rs0153_01_holds : PySem.Challenge.rw_rs0153_01.Holds := by
  w_on
  o_law
  o_head (kmHook Mine.myK Mine.myAs (fun _ => by kernel_rfl) [115, 58, 51, 120])
  (case hw => w_witness2)
  intro w s₀ s₁ mg mb G Y fa o pm cd doc dV kV ho hd hcd hD hmg hg args vals as hpre hlay hrd hwl hlo
  have KX := km_in_of Y
  have hT8 := km_tabs_of Y
  refine Ground.open G ?_
  intro T B D TE TW
  try (refine guard_noD D (by decide +kernel) ?_; clear D)
  wrow_args hpre hlay hrd hwl hlo
  refine Mine.law_done T KX (Mine.myK_ok _) hT8 hmg hg (by assumption) (by assumption) (by assumption) (fun cls => rfl) ?_
  exact postW_of (by wrow_shape) (by wtm_val) (by str_meet; first | done | w_fin)
