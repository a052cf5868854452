import PyProof.Rows.All
import Wide.All
import OpenK.AllK
import Wide.FinOn
import PyProof.CollectWalk
import PyProof.DictIter
import PyProof.FactsAll.set_1
import PyProof.FactsAll.set_2
import PySem.Challenge.RW_sc0060_01
set_option Elab.async false
set_option linter.all false
set_option bootstrap.genMatcherCode false
set_option genSizeOf false
set_option genInjectivity false
set_option tactic.hygienic false
section
open PySem PySem.W PyProof.Rows
set_option autoImplicit false
namespace Mine
theorem om_1 {a0 : Int} (h0 : ((-((2 : Int) ^ (40 : Nat))) < a0)) : ((-((2 : Int) ^ (64 : Nat))) < a0) := by exact Int.lt_trans (by decide) h0
theorem om_2 {a0 : Int} (h0 : (a0 < ((2 : Int) ^ (40 : Nat)))) : (a0 < ((2 : Int) ^ (64 : Nat))) := by exact Int.lt_trans h0 (by decide)
theorem om_7 {a0 : Int} (h0 : (a0 ≤ ((2 : Int) ^ (20 : Nat)))) : (a0 ≤ (((1048576 : Nat) : Nat) : Int)) := by exact Int.le_def.mpr h0
theorem om_8 {a0 : Int} (h0 : ((0 : Int) ≤ a0)) : ((-((2 : Int) ^ (63 : Nat))) ≤ a0) := by exact Int.le_trans (by decide) h0
theorem om_9 {a0 : Nat} (h0 : (a0 < (2 ^ 29))) : (a0 < 1073741824) := by exact Nat.le_trans h0 (Nat.le_add_left _ _)
theorem om_10 {a0 : Int} (h0 : ((0 : Int) ≤ a0)) : (¬ (a0 < (0 : Int))) := by exact Int.not_lt_of_ge h0
theorem om_11 {a1 : Nat} {a0 : Int} (h0 : ((Int.toNat a0) < a1)) : (a0 < ((a1 : Nat) : Int)) := by exact Int.lt_of_toNat_lt h0
theorem om_12 {a0 a1 : Nat} (h0 : ((a0 + 65) < a1)) : ((a0 + 64) < a1) := by exact Nat.lt_of_succ_lt h0
theorem om_13 {a0 a1 a2 a3 : Nat} (h0 : ((a0 + 65) < a3)) (h1 : (a2 ≤ 64)) : (((a0 + 1) + (min a1 a2)) < a3) := by exact Nat.lt_of_le_of_lt (Nat.add_le_add_left (Nat.le_trans (Nat.min_le_right a1 a2) h1) (a0 + 1)) (by rw [Nat.add_assoc]; exact h0)
theorem om_14 {a0 : Int} (h0 : (a0 < ((2 : Int) ^ (62 : Nat)))) : (a0 < ((2 : Int) ^ (63 : Nat))) := by exact Int.lt_trans h0 (by decide)
theorem om_15 {a0 : Int} (h0 : ((0 : Int) ≤ a0)) (h1 : (a0 < ((2 : Int) ^ (62 : Nat)))) : (((-(9223372036854775808 : Int)) ≤ a0) ∧ (a0 < (9223372036854775808 : Int))) := by exact ⟨Int.le_trans (by decide) h0, Int.lt_trans h1 (by decide)⟩
theorem om_16 {a0 a1 : Int} (h0 : (¬ (a1 ≤ a0))) : (a0 ≤ a1) := by exact Int.le_of_not_le h0
theorem om_17 {a0 a1 : Nat} (h0 : (a0 ≤ a1)) (h1 : (a1 < ((2 : Nat) ^ (63 : Nat)))) : (((a0 : Nat) : Int) < ((2 : Int) ^ (63 : Nat))) := by exact Int.lt_of_lt_of_le (Int.ofNat_lt.mpr (Nat.lt_of_le_of_lt h0 h1)) (by decide)
theorem om_18 {a0 a1 : Nat} (h0 : (a0 ≤ a1)) (h1 : (a1 < ((2 : Nat) ^ (63 : Nat)))) : (¬ (((a0 : Nat) : Int) ≥ ((2 : Int) ^ (63 : Nat)))) := by exact Int.not_le.mpr (Int.lt_of_lt_of_le (Int.ofNat_lt.mpr (Nat.lt_of_le_of_lt h0 h1)) (by decide))
theorem om_20 {a0 a1 : Nat} (h0 : (a0 < a1)) : (a0 ≤ (a1 - 1)) := by exact Nat.le_sub_one_of_lt h0
theorem om_21 {a0 a1 a2 a3 : Nat} (h0 : (a1 ≤ a3)) (h1 : ((a0 + a3) < a2)) : ((a0 + a1) < a2) := by exact Nat.lt_of_le_of_lt (Nat.add_le_add_left h0 a0) h1
theorem om_22 {a0 a1 a2 a3 : Nat} (h0 : (a1 ≤ a3)) (h1 : (((a0 + (16 * a3)) + 200) < a2)) : (((a0 + (16 * a1)) + 200) < a2) := by exact Nat.lt_of_le_of_lt (Nat.add_le_add_right (Nat.add_le_add_left (Nat.mul_le_mul_left 16 h0) a0) 200) h1
theorem om_23 {a0 a1 a2 : Nat} (h0 : ((a0 + (a1 + 1)) < a2)) : (((a0 + 1) + a1) < a2) := by rw [Nat.add_right_comm]; exact h0
theorem om_24 {a0 a1 a2 : Nat} (h0 : (((a0 + (16 * (a1 + 1))) + 200) < a2)) : ((((a0 + 3) + (16 * a1)) + 200) < a2) := by exact Nat.lt_of_le_of_lt (Nat.add_le_add_right (by rw [Nat.add_assoc, Nat.add_comm 3]; exact Nat.add_le_add_left (Nat.add_le_add_left (by decide) _) a0) 200) h0
theorem om_25 {a0 a1 a2 : Nat} (h0 : ((a0 + (a1 + 1)) < a2)) : ((a0 + a1) < a2) := by exact Nat.lt_of_succ_lt h0
theorem om_26 {a0 a1 a2 : Nat} (h0 : (((a0 + (16 * (a1 + 1))) + 200) < a2)) : ((((a0 + 1) + (16 * a1)) + 200) < a2) := by exact Nat.lt_of_le_of_lt (Nat.add_le_add_right (by rw [Nat.add_assoc, Nat.add_comm 1]; exact Nat.add_le_add_left (Nat.add_le_add_left (by decide) _) a0) 200) h0
theorem om_27 {a0 a1 : Nat} (h0 : ((a0 + 1) ≤ a1)) : (a0 ≤ a1) := by exact Nat.le_of_succ_le h0
theorem om_28 {a0 a1 : Nat} (h0 : (a1 < a0)) : ((a0 - (a1 + 1)) < (a0 - a1)) := by exact Nat.sub_succ_lt_self a0 a1 h0
theorem om_29 {a0 a1 : Nat} : ((min a0 a1) ≤ a1) := by exact Nat.min_le_right a0 a1
theorem om_30 {a0 a1 a2 a3 a4 a5 : Nat} (h0 : (a2 ≤ a3)) (h1 : (a0 = a4)) (h2 : (a4 ≤ a5)) (h3 : (a5 ≤ a2)) (h4 : (a3 ≤ a1)) : (a0 ≤ a1) := by exact Nat.le_trans (Nat.le_of_eq h1) (Nat.le_trans h2 (Nat.le_trans h3 (Nat.le_trans h0 h4)))
theorem om_31 {a0 a1 : Nat} (h0 : (a0 ≤ a1)) (h1 : (¬ (a0 < a1))) : (a0 = a1) := by exact Nat.le_antisymm h0 (Nat.not_lt.mp h1)
theorem om_32 {a0 a1 : Nat} (h0 : (a1 = (a0 + 1))) : (a0 ≤ (a1 + 1)) := by grind
theorem om_33 {a0 a1 : Nat} (h0 : (a1 = (a0 + 1))) : (a0 ≤ a1) := by exact Nat.le.intro (id (Eq.symm h0))
theorem om_34 {a0 a1 : Nat} (h0 : (a1 = (a0 + 1))) : (a0 < a1) := by exact Nat.le_of_eq h0.symm
theorem om_35 {a0 a1 : Nat} (h0 : (a1 = (a0 + 1))) : (a0 < (a1 + 1)) := by subst h0; exact Nat.le_succ _
theorem om_36 {a0 : Int} (h0 : ((0 : Int) ≤ a0)) : ((0 : Int) ≤ (a0 + (1 : Int))) := by exact Int.le_add_one h0
theorem om_37 : ((0 : Int) ≤ (0 : Int)) := by exact Int.natCast_nonneg _
theorem om_38 {a0 : Int} (h0 : ((0 : Int) ≤ a0)) : (((((Int.toNat a0) : Nat) : Int) - (((0 : Nat) : Nat) : Int)) = a0) := by exact Int.toNat_of_nonneg h0
theorem om_39 {a0 a1 a2 : Nat} (h0 : (((a0 + (16 * a2)) + 200) < a1)) : ((a0 + 65) < a1) := by exact Nat.lt_of_le_of_lt (Nat.add_le_add (Nat.le_add_right _ _) (by decide)) h0
theorem om_40 {a0 : Nat} (h0 : (a0 ≤ 1)) : (a0 < 29) := by exact Nat.lt_of_le_of_lt h0 (by decide)
theorem om_41 {a0 : Nat} (h0 : (((65 ≤ a0) ∧ (a0 ≤ 90)) ∨ ((97 ≤ a0) ∧ (a0 ≤ 122)))) : (a0 < 128) := by exact h0.elim (fun h => Nat.lt_of_le_of_lt h.2 (by decide)) (fun h => Nat.lt_of_le_of_lt h.2 (by decide))
theorem om_42 {a0 : Nat} (h0 : (a0 ≤ 64)) : (a0 ≤ 5592405) := by exact Nat.le_trans h0 (Nat.le_add_left _ _)
theorem om_44 {a0 a1 a2 : Nat} (h0 : ((a0 + (a2 + 1)) < a1)) : (a0 < a1) := by exact Nat.lt_of_add_right_lt h0
theorem om_45 {a0 : Nat} (h0 : (((65 ≤ a0) ∧ (a0 ≤ 90)) ∨ ((97 ≤ a0) ∧ (a0 ≤ 122)))) : ((65 ≤ a0) ∧ (a0 ≤ 122)) := by exact h0.elim (fun h => ⟨h.1, Nat.le_trans h.2 (by decide)⟩) (fun h => ⟨Nat.le_trans (by decide) h.1, h.2⟩)
theorem om_46 {a0 : Nat} (h0 : (65 ≤ a0)) : (¬ ((0 ≤ a0) ∧ (a0 ≤ 31))) := by exact fun h => absurd (Nat.le_trans h0 h.2) (by decide)
theorem om_47 {a0 : Nat} (h0 : (a0 ≤ 122)) : (¬ (a0 = 127)) := by exact (show ∀ a0 : Nat, a0 ≤ 122 → (¬ (a0 = (127 : Nat))) from by decide +kernel) a0 h0
theorem om_48 {a0 : Nat} (h0 : (a0 ≤ 122)) : (a0 < 128) := by exact Nat.lt_of_le_of_lt h0 (by decide)
theorem om_49 {a0 : Nat} (h0 : (a0 ≤ (64 : Nat))) : (a0 ≤ (Int.toNat (((2 : Int) ^ (63 : Nat)) - (1 : Int)))) := by exact Nat.le_trans h0 (Nat.le_add_left _ _)
theorem om_50 {a0 : Nat} (h0 : (a0 ≤ 122)) : (a0 < 1114112) := by exact Nat.lt_of_le_of_lt h0 (by decide)
theorem om_51 {a0 : Nat} (h0 : (a0 ≤ 64)) : (a0 ≤ 1048575) := by exact Nat.le_trans h0 (Nat.le_add_left _ _)
theorem om_52 {a0 a1 : Nat} (h0 : (a0 ≤ (2 ^ 20))) (h1 : (a1 ≤ (2 ^ 20))) : ((a0 + a1) ≤ 16777216) := by grind
theorem om_53 {a0 : Nat} : ((Int.toNat (max (0 : Int) ((a0 : Nat) : Int))) = a0) := by exact Nat.add_zero a0
theorem om_54 {a0 : Nat} (h0 : (a0 ≤ (2 ^ 20))) : (a0 ≤ 16777216) := by exact Nat.le_trans h0 (Nat.le_add_left _ _)
theorem om_55 {a0 : Nat} (h0 : (a0 ≤ (2 ^ 20))) : (a0 ≤ (16777216 + 1)) := by exact Nat.le_trans h0 (Nat.le_add_left _ _)
theorem om_56 {a0 a1 a2 : Nat} (h0 : (a0 ≤ a2)) (h1 : (a1 ≤ a2)) : ((max a0 a1) ≤ a2) := by exact Nat.max_le_of_le_of_le h0 h1
theorem om_57 {a0 : Nat} (h0 : ((a0 + 1) ≤ 0)) : False := by exact Nat.not_succ_le_zero a0 h0
theorem om_58 {a0 a1 : Int} (h0 : (a1 < a0)) : ((0 : Int) ≤ ((a0 - a1) - (1 : Int))) := by grind
theorem om_59 {a0 : Int} (h0 : ((0 : Int) < a0)) : ((0 : Int) ≤ a0) := by exact Int.le_of_lt h0
theorem om_60 {a0 a1 a2 : Int} (h0 : ((0 : Int) ≤ a2)) (h1 : ((0 : Int) ≤ a0)) (h2 : (a0 ≤ ((a1 - a2) - (1 : Int)))) : (((0 : Int) ≤ (a0 + (1 : Int))) ∧ ((a0 + (1 : Int)) ≤ a1)) := by grind
theorem om_61 {a0 : Int} (h0 : ((0 : Int) ≤ a0)) : (((0 : Int) ≤ (0 : Int)) ∧ ((0 : Int) ≤ a0)) := by exact if_false_right.mp h0
theorem om_62 {a0 : Nat} : ((((((a0 : Nat) : Int) - (0 : Int)) - (1 : Int)) + (1 : Int)) = ((a0 : Nat) : Int)) := by exact Int.sub_add_cancel (↑a0 - 0) 1
theorem om_63 {a0 : Nat} : ((0 : Int) ≤ ((a0 : Nat) : Int)) := by exact Int.natCast_nonneg a0
theorem om_64 {a0 : Nat} (h0 : (a0 < ((2 : Nat) ^ (29 : Nat)))) : (((a0 : Nat) : Int) < ((2 : Int) ^ (29 : Nat))) := by exact Int.lt_toNat.mp h0
theorem om_65 {a0 : Nat} : (((0 : Int) + (((a0 : Nat) : Int) * (1 : Int))) = ((a0 : Nat) : Int)) := by simp
theorem om_69 {a0 : Nat} (h0 : (a0 ≤ 63)) : (a0 ≤ 1000000) := by exact Nat.le_trans h0 (Nat.le_add_left _ _)
theorem om_70 {a0 : Nat} (h0 : (a0 < (64 : Nat))) : (((a0 : Nat) : Int) < ((2 : Int) ^ (29 : Nat))) := by exact (show ∀ a0 : Nat, a0 < 64 → (((a0 : Nat) : Int) < ((2 : Int) ^ (29 : Nat))) from by decide +kernel) a0 h0
theorem om_71 {a0 : Nat} (h0 : (a0 ≤ (63 : Nat))) : (((a0 : Nat) : Int) < ((2 : Int) ^ (29 : Nat))) := by exact (show ∀ a0 : Nat, a0 ≤ 63 → (((a0 : Nat) : Int) < ((2 : Int) ^ (29 : Nat))) from by decide +kernel) a0 h0
theorem om_72 {a0 : Nat} (h0 : ((0 : Nat) < a0)) : ((0 : Int) < ((a0 : Nat) : Int)) := by exact Int.natCast_pos.mpr h0
theorem om_73 {a0 : Nat} (h0 : ((0 : Nat) < a0)) : (((a0 : Nat) : Int) ≠ (0 : Int)) := by exact Int.natCast_ne_zero_iff_pos.mpr h0
theorem om_74 {a0 : Nat} (h0 : ((0 : Nat) < a0)) : (((a0 : Nat) : Int) > (0 : Int)) := by exact Int.natCast_pos.mpr h0
theorem om_75 {a0 a1 : Nat} (h0 : (((a1 : Nat) : Int) < ((a0 : Nat) : Int))) : ((0 : Int) ≤ ((((a0 : Nat) : Int) - ((a1 : Nat) : Int)) - (1 : Int))) := by exact Int.le_sub_one_of_lt (Int.sub_pos_of_lt h0)
theorem om_76 {a0 : Nat} {a1 : Int} (h0 : (a0 < (Int.toNat (a1 + (1 : Int))))) : (((a0 : Nat) : Int) ≤ a1) := by grind
theorem om_77 {a0 a1 : Nat} : ((0 : Int) ≤ (((a0 + a1) : Nat) : Int)) := by exact Int.natCast_nonneg (a0 + a1)
theorem om_78 {a0 a1 a2 : Nat} (h0 : (a2 ≤ (63 : Nat))) (h1 : ((a0 + a1) < a2)) : ((((a0 + a1) : Nat) : Int) < ((2 : Int) ^ (62 : Nat))) := by exact Int.lt_trans (Int.ofNat_lt.mpr (Nat.lt_of_lt_of_le h1 h0)) (by decide)
theorem om_79 {a1 : Nat} {a0 : Int} (h0 : ((0 : Int) ≤ a0)) (h1 : (a0 < ((a1 : Nat) : Int))) : ((Int.toNat a0) < a1) := by exact (Int.toNat_lt h0).mpr h1
theorem om_80 {a0 : Int} (h0 : ((0 : Int) ≤ a0)) : (a0 = (((Int.toNat a0) : Nat) : Int)) := by exact Int.eq_natCast_toNat.mpr h0
theorem om_81 {a0 : Nat} (h0 : (a0 ≤ (64 : Nat))) : (((a0 : Nat) : Int) ≤ (64 : Int)) := by exact Int.ofNat_le.mpr h0
theorem om_82 {a0 : Nat} (h0 : (a0 ≤ (1000000 : Nat))) : (((a0 : Nat) : Int) < ((2 : Int) ^ (62 : Nat))) := by exact Int.lt_of_le_of_lt (Int.ofNat_le.mpr h0) (by decide)
theorem om_83 {a0 a1 : Nat} : ((((a0 : Nat) : Int) = ((a1 : Nat) : Int)) ↔ (a0 = a1)) := by exact Int.ofNat_inj
theorem om_86 {a0 a1 : Nat} (h0 : (a1 ≤ a0)) : ((((a0 : Nat) : Int) - ((a1 : Nat) : Int)) = (((a0 - a1) : Nat) : Int)) := by exact Eq.symm (Int.ofNat_sub h0)
theorem om_87 {a0 : Nat} (h0 : (a0 ≤ 1000000)) : (a0 < (2 ^ 29)) := by exact Nat.lt_of_le_of_lt h0 (by decide)
theorem om_88 {a0 a1 a2 : Nat} (h0 : (a1 = (a0 + (a2 + 1)))) : (a0 < a1) := by simp [h0]
theorem om_89 {a0 a1 a2 : Nat} (h0 : (a2 = a0)) (h1 : (a2 < a1)) : (a0 ≤ a1) := by exact Nat.le_of_lt (h0 ▸ h1)
theorem om_90 {a0 a1 : Nat} (h0 : (a0 ≤ a1)) : (((a0 : Nat) : Int) ≤ ((a1 : Nat) : Int)) := by exact Int.ofNat_le.mpr h0
theorem om_91 {a0 a1 : Nat} (h0 : (¬ (a0 ≤ a1))) : (¬ (((a0 : Nat) : Int) ≤ ((a1 : Nat) : Int))) := by simp [h0]
theorem om_92 {a0 a1 a2 : Nat} (h0 : (a2 < a1)) : (a0 ≤ (((a0 + a1) - 1) - a2)) := by exact Nat.le_sub_of_add_le (Nat.le_sub_of_add_le (Nat.add_le_add_left h0 a0))
theorem om_93 {a0 a1 a2 : Nat} (h0 : (a0 ≤ a2)) (h1 : (a2 < a1)) : ((((a0 + a1) - 1) - a2) < a1) := by omega
theorem om_94 {a0 a1 : Nat} (h0 : (a0 < (a1 + 1))) (h1 : (a0 ≥ a1)) : (a0 = a1) := by exact Nat.eq_of_le_of_lt_succ h1 h0
theorem om_95 {a0 : Nat} (h0 : (1 ≤ a0)) : ((a0 - 1) < a0) := by exact Nat.sub_lt h0 (Nat.zero_lt_one)
theorem om_96 {a0 a1 : Nat} (h0 : (a0 ≤ a1)) (h1 : (a0 ≥ a1)) : (a0 = a1) := by exact Nat.le_antisymm h0 h1
theorem om_97 {a0 a1 : Nat} (h0 : (a0 ≤ a1)) (h1 : (a1 < 1)) : (a0 = a1) := by grind
theorem om_98 {a0 a1 : Nat} : (a0 ≤ (a0 + (a1 + 1))) := by exact Nat.le_add_right a0 (a1 + 1)
theorem om_99 {a0 : Nat} : (1 ≤ (a0 + 1)) := by exact Nat.le_add_left 1 a0
theorem om_100 {a0 a1 a2 : Nat} (h0 : (a0 ≤ ((a1 + 1) + a2))) : (a0 ≤ (a1 + (a2 + 1))) := by exact Nat.le_trans h0 (Nat.le_of_eq (Nat.add_right_comm a1 1 a2))
theorem om_101 {a0 a1 a2 : Nat} (h0 : (a0 < (a1 + (a2 + 1)))) : (a0 < ((a1 + 1) + a2)) := by rw [Nat.add_right_comm]; exact h0
theorem om_102 {a0 a1 : Nat} (h0 : ((a0 + 0) = a1)) : (a0 ≤ a1) := by exact Nat.le_of_eq h0
theorem om_103 {a0 a1 : Nat} (h0 : ((a1 + 1) ≤ a0)) : (1 ≤ a0) := by exact Nat.one_le_of_lt h0
theorem om_104 {a0 a1 a2 : Nat} (h0 : ((a0 + (a2 + 1)) = a1)) : (a0 ≤ a1) := by exact Nat.le.intro h0
theorem om_105 {a0 a1 a2 : Nat} (h0 : ((a0 + (a1 + 1)) = a2)) : (((a0 + 1) + a1) = a2) := by rw [Nat.add_right_comm]; exact h0
theorem om_106 {a0 : Nat} : ((0 + 1) ≤ (a0 + 1)) := by exact Nat.le_add_left (0 + 1) a0
theorem om_107 {a0 a1 : Nat} (h0 : (((a1 + 1) - (0 + 1)) ≤ a0)) (h1 : (a0 < (a1 + 1))) : (a0 = a1) := by exact Nat.eq_of_le_of_lt_succ h0 h1
theorem om_108 {a0 a1 : Nat} (h0 : ((a0 + 1) ≤ a1)) : (((a0 + 1) + 1) ≤ (a1 + 1)) := by exact Nat.lt_succ_of_le h0
theorem om_109 {a0 a1 a2 : Nat} (h0 : (((a0 + 1) - ((a1 + 1) + 1)) ≤ a2)) : ((a0 - (a1 + 1)) ≤ a2) := by exact Nat.le_trans (Nat.le_of_eq (Nat.add_sub_add_right a0 1 (a1 + 1)).symm) h0
theorem om_110 {a0 a1 a2 : Nat} (h0 : (a0 ≤ a2)) (h1 : (a2 < a1)) : (a0 < a1) := by exact Nat.lt_of_le_of_lt h0 h1
theorem om_111 {a0 a1 a2 : Nat} (h0 : (a2 ≤ a1)) : ((((0 + a0) - 1) - a1) ≤ (((0 + a0) - 1) - a2)) := by exact Nat.sub_le_sub_left h0 (0 + a0 - 1)
theorem om_112 {a0 a1 a2 : Nat} (h0 : (a2 < a0)) : ((((0 + a0) - 1) - a1) < a0) := by exact Nat.lt_of_le_of_lt (Nat.sub_le _ _) (by rw [Nat.zero_add]; exact Nat.sub_lt (Nat.lt_of_le_of_lt (Nat.zero_le _) h0) Nat.one_pos)
theorem om_113 {a0 a1 : Nat} (h0 : (1 ≤ a1)) (h1 : (a1 ≤ a0)) : (1 ≤ a0) := by exact Nat.le_trans h0 h1
theorem om_114 {a0 a1 a2 : Nat} (h0 : (a2 ≤ a1)) (h1 : (a0 ≤ (a2 + (a1 - a2)))) : (a0 ≤ a1) := by exact Nat.le_trans h1 (Nat.le_of_eq (Nat.add_sub_of_le h0))
theorem om_115 {a0 a1 : Nat} (h0 : (a0 < a1)) : (((a0 + 1) + (a1 - (a0 + 1))) = a1) := by exact Nat.add_sub_of_le h0
theorem om_116 {a0 : Nat} (h0 : (1 < a0)) : (0 < a0) := by exact Nat.zero_lt_of_lt h0
theorem om_117 {a0 a1 : Nat} (h0 : (a0 = a1)) : (a0 ≤ a1) := by exact Nat.le_of_eq h0
theorem om_118 {a0 a1 : Nat} (h0 : (1 < a1)) (h1 : (a0 ≤ (1 + (a1 - 1)))) (h2 : (¬ (a0 = a1))) : (a0 < (1 + (a1 - 1))) := by exact Nat.lt_of_le_of_ne h1 (fun e => h2 (e.trans (Nat.add_sub_of_le (Nat.le_of_lt h0))))
theorem om_119 {a0 a1 : Nat} (h0 : (1 < a1)) (h1 : (a0 ≤ (1 + (a1 - 1)))) : (a0 ≤ a1) := by exact Nat.le_trans h1 (Nat.le_of_eq (Nat.add_sub_of_le (Nat.le_of_lt h0)))
theorem om_120 {a0 : Nat} (h0 : (a0 > 1)) : ((a0 - 1) < a0) := by exact Nat.sub_one_lt_of_lt h0
theorem om_121 {a0 : Nat} (h0 : (1 ≤ a0)) : (1 ≤ a0) := by exact h0
theorem om_122 {a0 a1 : Nat} (h0 : (1 < a1)) (h1 : (a0 ≤ (1 + (a1 - 1)))) (h2 : (¬ (a0 = a1))) : (a0 < a1) := by exact Nat.lt_of_le_of_ne (Nat.le_trans h1 (Nat.le_of_eq (Nat.add_sub_of_le (Nat.le_of_lt h0)))) h2
theorem om_123 {a0 : Nat} : (0 ≤ a0) := by exact Nat.zero_le a0
theorem om_124 {a0 : Nat} (h0 : (1 ≤ a0)) (h1 : (¬ (a0 > 1))) : (a0 = 1) := by grind
theorem om_125 {a0 : Nat} (h0 : (1 < a0)) : (1 < a0) := by exact h0
theorem om_126 {a0 a1 a2 : Nat} (h0 : (a0 ≤ a2)) (h1 : (a2 ≤ a1)) : (a0 ≤ a1) := by exact Nat.le_trans h0 h1
theorem om_127 {a0 a1 a2 : Nat} (h0 : ((a0 - a2) ≤ 0)) (h1 : (a2 ≤ a1)) : (a0 ≤ a1) := by exact Nat.le_trans (Nat.le_of_sub_eq_zero (Nat.le_zero.mp h0)) h1
theorem om_128 {a0 a1 a2 : Nat} (h0 : (a2 ≥ a0)) (h1 : (a2 ≤ a1)) : (a0 ≤ a1) := by exact Nat.le_trans h0 h1
theorem om_129 {a0 a1 : Nat} (h0 : (¬ (a0 ≥ a1))) : (a0 ≤ ((a0 + a1) / 2)) := by exact (Nat.le_div_iff_mul_le (by decide)).mpr (by rw [Nat.mul_two]; exact Nat.add_le_add_left (Nat.le_of_lt (Nat.not_le.mp h0)) a0)
theorem om_130 {a0 a1 a2 : Nat} (h0 : (a1 ≤ a2)) (h1 : (¬ (a0 ≥ a1))) : (((a0 + a1) / 2) ≤ a2) := by exact Nat.le_trans (Nat.le_of_lt (Nat.div_lt_of_lt_mul (by rw [Nat.two_mul]; exact Nat.add_lt_add_right (Nat.not_le.mp h1) a1))) h0
theorem om_131 {a0 a1 a2 : Nat} (h0 : ((a1 - a0) ≤ (a2 + 1))) : ((((a0 + a1) / 2) - a0) ≤ a2) := by omega
theorem om_132 {a0 a1 : Nat} (h0 : (¬ (a0 ≥ a1))) : ((((a0 + a1) / 2) + 1) ≤ a1) := by exact Nat.div_lt_of_lt_mul (by rw [Nat.two_mul]; exact Nat.add_lt_add_right (Nat.not_le.mp h0) a1)
theorem om_133 {a0 a1 a2 : Nat} (h0 : ((a0 - a1) ≤ (a2 + 1))) : ((a0 - (((a1 + a0) / 2) + 1)) ≤ a2) := by omega
theorem om_134 {a0 a1 a2 : Nat} (h0 : (a0 < (((a1 + a2) / 2) + 1))) : (a0 ≤ ((a1 + a2) / 2)) := by exact Nat.le_of_lt_succ h0
theorem om_135 {a0 a1 a2 : Nat} (h0 : (a1 ≤ a2)) (h1 : (¬ (a0 ≥ a1))) : (((a0 + a1) / 2) < a2) := by exact Nat.lt_of_lt_of_le (Nat.div_lt_of_lt_mul (by rw [Nat.two_mul]; exact Nat.add_lt_add_right (Nat.not_le.mp h1) a1)) h0
theorem om_136 {a0 a1 : Nat} (h0 : ((a0 + 0) = a1)) : (a0 = a1) := by exact h0
theorem om_137 {a0 : Nat} : ((a0 - 0) ≤ a0) := by exact Nat.le_refl _
theorem om_138 {a0 a1 a2 : Nat} (h0 : ((a0 + (a2 + 1)) = a1)) : (a0 < a1) := by subst h0; simp
theorem om_139 {a0 a1 : Nat} : ((a0 - a1) ≤ a0) := by exact Nat.sub_le a0 a1
theorem om_140 {a0 a1 : Nat} (h0 : (a1 ≤ a0)) : ((a0 - (a0 - a1)) = a1) := by exact Nat.sub_sub_self h0
theorem om_141 {a0 a1 a2 a3 : Nat} (h0 : (a3 ≤ a1)) (h1 : (a1 < (a2 + 1))) (h2 : (a3 = a0)) (h3 : (¬ (a1 = a0))) : ((a0 < a1) ∧ (a1 ≤ a2)) := by exact ⟨Nat.lt_of_le_of_ne (h2 ▸ h0) (fun e => h3 e.symm), Nat.le_of_lt_succ h1⟩
theorem om_142 {a0 a1 a2 : Nat} (h0 : (a2 ≤ a1)) (h1 : (a2 = a0)) (h2 : (¬ (a1 = a0))) : (a0 ≤ (a1 - 1)) := by exact Nat.le_sub_one_of_lt (Nat.lt_of_le_of_ne (h1 ▸ h0) (fun e => h2 e.symm))
theorem om_143 {a0 a1 : Nat} (h0 : (1 ≤ a1)) (h1 : (a0 < (a1 + 1))) : ((a0 - 1) < a1) := by exact Nat.lt_of_le_of_lt (Nat.sub_le_sub_right (Nat.le_of_lt_succ h1) 1) (Nat.sub_lt h0 Nat.one_pos)
theorem om_144 {a0 a1 a2 a3 : Nat} (h0 : (a1 ≤ a3)) (h1 : (a3 = a0)) : (¬ ((a0 < a1) ∧ (a1 ≤ a2))) := by exact fun h => absurd h.1 (Nat.not_lt.mpr (h1 ▸ h0))
theorem om_145 {a0 a1 a2 : Nat} (h0 : (a0 ≤ a2)) (h1 : (¬ (a0 = a1))) (h2 : (a2 = a1)) : (a0 < a1) := by exact Nat.lt_of_le_of_ne (h2 ▸ h0) h1
theorem om_146 {a0 a1 a2 a3 : Nat} (h0 : (a3 ≤ a1)) (h1 : (a1 < (a2 + 1))) (h2 : (a0 < a3)) : ((a0 < a1) ∧ (a1 ≤ a2)) := by exact ⟨Nat.lt_of_lt_of_le h2 h0, Nat.le_of_lt_succ h1⟩
theorem om_147 {a0 a1 : Nat} (h0 : (a0 ≤ a1)) : ((a0 - 1) ≤ (a1 - 1)) := by exact Nat.sub_le_sub_right h0 1
theorem om_148 {a0 a1 a2 a3 : Nat} (h0 : (a0 < (a1 + 1))) (h1 : (a2 < a3)) (h2 : (a3 ≤ a1)) : ((a0 - 1) < a1) := by exact Nat.lt_of_le_of_lt (Nat.sub_le_sub_right (Nat.le_of_lt_succ h0) 1) (Nat.sub_lt (Nat.lt_of_lt_of_le (Nat.lt_of_le_of_lt (Nat.zero_le _) h1) h2) Nat.one_pos)
theorem om_149 {a0 a1 a2 a3 : Nat} (h0 : (a0 ≤ a1)) (h1 : (¬ ((a2 < a0) ∧ (a0 ≤ a3)))) (h2 : (a2 < a1)) (h3 : (a1 ≤ a3)) : (a0 ≤ (a1 - 1)) := by exact Nat.le_sub_one_of_lt (Nat.lt_of_le_of_lt (Nat.not_lt.mp fun h => h1 ⟨h, Nat.le_trans h0 h3⟩) h2)
theorem om_150 {a0 a1 a2 : Nat} (h0 : (a2 < a0)) (h1 : (a0 ≤ a1)) : ((a0 - 1) < a1) := by exact Nat.lt_of_lt_of_le (Nat.sub_lt (Nat.lt_of_le_of_lt (Nat.zero_le _) h0) Nat.one_pos) h1
theorem om_151 {a0 a1 a2 : Nat} (h0 : (a2 ≤ a1)) (h1 : (a0 < (a1 + 1))) (h2 : (¬ (a0 = a2))) (h3 : (¬ ((a2 < a0) ∧ (a0 ≤ a1)))) : (a0 < a1) := by exact Nat.lt_of_lt_of_le (Nat.lt_of_le_of_ne (Nat.not_lt.mp fun h => h3 ⟨h, Nat.le_of_lt_succ h1⟩) h2) h0
theorem om_152 {a0 : Nat} (h0 : (1 ≤ a0)) : ((max a0 1) = a0) := by exact Nat.max_eq_left h0
theorem om_153 {a0 : Nat} (h0 : (a0 < 64)) : (a0 ≤ 16777216) := by exact Nat.le_of_lt (Nat.lt_of_lt_of_le h0 (by decide))
theorem om_154 {a0 : Nat} (h0 : (a0 ≤ 63)) : (a0 ≤ (16777216 + 1)) := by exact Nat.le_trans h0 (Nat.le_add_left _ _)
theorem om_155 {a0 : Nat} (h0 : (a0 < 2)) : (a0 ≤ 63) := by exact Nat.le_of_lt (Nat.lt_of_lt_of_le h0 (by decide))
theorem om_156 {a0 : Nat} (h0 : (a0 < 2)) : ((a0 = 0) ∨ (a0 = 1)) := by exact (show ∀ a0 : Nat, a0 < 2 → ((a0 = (0 : Nat)) ∨ (a0 = (1 : Nat))) from by decide +kernel) a0 h0
theorem om_157 {a0 a1 : Nat} (h0 : (a1 = a0)) (h1 : (a1 = 0)) : (a0 = 0) := by grind
theorem om_158 {a0 a1 : Nat} (h0 : (a1 = a0)) (h1 : (a1 = 1)) : (a0 = 1) := by grind
theorem om_159 {a0 a1 : Nat} (h0 : (¬ (a1 < 2))) (h1 : (a0 = a1)) : (0 < a0) := by exact Nat.lt_of_lt_of_le (by decide) (h1 ▸ Nat.not_lt.mp h0)
theorem om_160 {a0 : Nat} (h0 : (¬ (a0 < 2))) : (2 ≤ a0) := by exact Nat.le_of_not_lt h0
theorem om_161 {a0 : Nat} (h0 : (¬ (a0 < 2))) : (1 < a0) := by exact Nat.not_lt.mp h0
theorem om_162 {a0 : Nat} (h0 : (a0 < 64)) : (a0 ≤ 63) := by exact Nat.le_of_lt_succ h0
theorem om_163 {a0 a1 : Nat} (h0 : (a0 < a1)) : (a0 ≤ a1) := by exact Nat.le_of_succ_le h0
theorem om_164 {a0 a1 a2 : Nat} (h0 : (a0 < a2)) (h1 : (a2 = a1)) : (a0 < a1) := by exact Nat.lt_of_lt_of_eq h0 h1
theorem om_165 {a0 a1 a2 : Nat} (h0 : (a1 ≤ a2)) (h1 : (a0 < a1)) : (((a0 + a1) / 2) < a2) := by exact Nat.lt_of_lt_of_le (Nat.div_lt_of_lt_mul (by rw [Nat.two_mul]; exact Nat.add_lt_add_right h1 a1)) h0
theorem om_166 {a0 a1 : Nat} (h0 : (a0 < a1)) : ((((a0 + a1) / 2) + 1) ≤ a1) := by exact Nat.div_lt_of_lt_mul (by rw [Nat.two_mul]; exact Nat.add_lt_add_right h0 a1)
theorem om_167 {a0 a1 : Nat} (h0 : (a0 < a1)) : (a0 ≤ ((a0 + a1) / 2)) := by exact (Nat.le_div_iff_mul_le (by decide)).mpr (by rw [Nat.mul_two]; exact Nat.add_le_add_left (Nat.le_of_lt h0) a0)
theorem om_168 {a0 a1 a2 : Nat} (h0 : (((a0 + a1) / 2) < a2)) : (((a0 + a1) / 2) ≤ a2) := by exact Nat.le_of_succ_le h0
theorem om_169 {a0 a1 a2 : Nat} (h0 : (¬ (a2 < a0))) (h1 : (a2 ≤ a1)) : (a0 ≤ a1) := by exact Nat.le_trans (Nat.not_lt.mp h0) h1
theorem om_172 {a0 a1 : Nat} (h0 : (a0 < (a1 + 1))) : (a0 ≤ a1) := by exact Nat.le_of_lt_succ h0
theorem om_173 {a0 a1 a2 : Nat} (h0 : ((a2 + 1) ≤ a2)) : (a0 = (a1 + 1)) := by grind
theorem om_174 {a0 a1 a2 a3 : Nat} (h0 : (a2 < (a3 + 1))) (h1 : (a3 < a2)) : (a0 = (a1 + 1)) := by grind
theorem om_175 {a0 a1 a2 : Nat} (h0 : (a0 ≤ a2)) (h1 : ((a1 + 1) < a0)) (h2 : ((a1 + 1) ≥ a2)) : (a0 = (a1 + 1)) := by exact absurd (Nat.lt_of_lt_of_le h1 (Nat.le_trans h0 h2)) (Nat.lt_irrefl _)
theorem om_176 {a0 a1 a2 : Nat} (h0 : (a0 < a2)) (h1 : (a2 < a1)) : (a0 < a1) := by exact Nat.lt_trans h0 h1
theorem om_177 {a0 a1 : Nat} (h0 : (a0 ≤ a1)) (h1 : (a1 ≠ a0)) : (a0 < a1) := by exact Nat.lt_of_le_of_ne h0 (id (Ne.symm h1))
theorem om_178 {a0 a1 a2 : Nat} (h0 : (a0 < a2)) (h1 : (a2 ≤ a1)) : (a0 < a1) := by exact Nat.lt_of_lt_of_le h0 h1
theorem om_179 {a0 a1 : Nat} : (((min a0 a1) + ((a1 - a0) + 1)) = (a1 + 1)) := by grind
theorem om_180 {a0 : Nat} (h0 : (a0 < 8)) : ((a0 = 0) ∨ ((a0 = 1) ∨ ((a0 = 2) ∨ ((a0 = 3) ∨ ((a0 = 4) ∨ ((a0 = 5) ∨ ((a0 = 6) ∨ (a0 = 7)))))))) := by exact (show ∀ a0 : Nat, a0 < 8 → ((a0 = (0 : Nat)) ∨ ((a0 = (1 : Nat)) ∨ ((a0 = (2 : Nat)) ∨ ((a0 = (3 : Nat)) ∨ ((a0 = (4 : Nat)) ∨ ((a0 = (5 : Nat)) ∨ ((a0 = (6 : Nat)) ∨ (a0 = (7 : Nat))))))))) from by decide +kernel) a0 h0
theorem om_181 {a0 : Nat} (h0 : (a0 ≤ 4)) (h1 : ((Nat.succ 4) ≤ a0)) : False := by grind
theorem om_182 {a0 : Nat} (h0 : (a0 < (16 : Nat))) : ((Int.toNat (((a0 : Nat) : Int) % ((2 : Int) ^ (64 : Nat)))) = a0) := by exact (show ∀ a0 : Nat, a0 < 16 → ((Int.toNat (((a0 : Nat) : Int) % ((2 : Int) ^ (64 : Nat)))) = a0) from by decide +kernel) a0 h0
theorem om_183 {a0 : Nat} (h0 : (a0 ≤ 16)) : (a0 ≤ 31) := by exact Nat.le_trans h0 (Nat.le_add_left _ _)
theorem om_184 {a0 : Nat} (h0 : (a0 ≤ 4)) : ((a0 + 1) ≤ 7) := by exact Nat.lt_of_le_of_lt h0 (by decide)
theorem om_185 {a0 : Nat} (h0 : (a0 < 16)) : ((a0 + 9) ≤ 31) := by exact (show ∀ a0 : Nat, a0 < 16 → ((a0 + (9 : Nat)) ≤ (31 : Nat)) from by decide +kernel) a0 h0
theorem om_186 {a0 : Nat} : ((((a0 + 9) + 1) - a0) = (9 + 1)) := by exact Eq.symm (Nat.eq_sub_of_add_eq' rfl)
theorem om_187 {a0 : Nat} (h0 : (a0 < 16)) : (a0 < 32) := by exact Nat.le_trans h0 (Nat.le_add_left _ _)
theorem om_188 {a0 a1 : Nat} (h0 : (¬ (a0 = a1))) : (¬ (((a0 : Nat) : Int) = ((a1 : Nat) : Int))) := by exact Nat.ToInt.of_diseq rfl rfl h0
theorem om_189 {a0 : Nat} (h0 : (a0 ≤ 5)) : (a0 ≤ 7) := by exact Nat.le_trans h0 (Nat.le_add_left _ _)
theorem om_190 : (16 ≤ 16777216) := by exact Nat.le_add_left _ _
theorem om_191 {a0 a1 : Nat} (h0 : (a1 ≤ 16)) (h1 : (((a1 + 0) * 5) ≥ (31 * 3))) : ((a0 = 7) ∧ (a1 = 5)) := by grind
theorem om_192 {a0 : Nat} (h0 : (a0 < 5)) : (a0 ≤ 4) := by exact Nat.le_of_lt_succ h0
theorem om_193 {a0 : Nat} (h0 : (a0 ≤ 5)) (h1 : (a0 ≥ 5)) : (a0 = 5) := by exact Nat.le_antisymm h0 h1
theorem om_194 {a0 : Nat} (h0 : (a0 ≤ 4)) : (a0 ≤ 5) := by exact Nat.le_succ_of_le h0
theorem om_195 {a0 : Nat} (h0 : (a0 ≤ 16)) : (a0 < 4096) := by exact Nat.lt_of_le_of_lt h0 (by decide)
theorem om_196 {a0 a1 : Nat} (h0 : (a0 = (a1 + 1))) (h1 : (a1 ≤ 4)) : (a0 ≤ 5) := by simp [h0, h1]
theorem om_197 {a0 a1 : Nat} (h0 : ((a1 - a0) = 0)) (h1 : (a0 ≤ a1)) : (a0 = a1) := by exact Nat.le_antisymm h1 (Nat.le_of_sub_eq_zero h0)
theorem om_198 {a0 a1 a2 : Nat} (h0 : ((a1 - a0) = (a2 + 1))) : (a0 < a1) := by exact Nat.lt_of_sub_eq_succ h0
theorem om_199 {a0 a1 a2 : Nat} (h0 : ((a0 - a1) = (a2 + 1))) : ((a0 - (a1 + 1)) = a2) := by rw [Nat.sub_add_eq, h0]; rfl
theorem om_200 {a0 a1 a2 : Nat} (h0 : (a1 = a2)) (h1 : ((a0 + 1) ≤ a2)) : (a0 < a1) := by exact Nat.lt_of_lt_of_eq h1 (id (Eq.symm h0))
theorem om_201 {a0 a1 a2 : Nat} (h0 : (a1 = a2)) (h1 : (a0 < a2)) : (a0 < a1) := by exact Nat.lt_of_lt_of_eq h1 (id (Eq.symm h0))
theorem om_202 {a0 a1 : Nat} (h0 : ((a1 + 1) = a0)) : (0 < a0) := by subst h0; simp
theorem om_203 {a0 a1 : Nat} (h0 : ((a0 + 1) = a1)) : (a0 = (a1 - 1)) := by exact Nat.eq_sub_of_add_eq h0
theorem om_204 {a0 : Nat} (h0 : (a0 ≤ 16)) : (a0 ≤ 16777216) := by exact Nat.le_trans h0 (Nat.le_add_left _ _)
theorem om_205 {a0 : Nat} : ((a0 - 0) = (a0 - 0)) := by exact Nat.sub_zero a0
theorem om_206 {a0 a1 : Nat} (h0 : (a0 ≤ a1)) : (a0 < (a1 + 1)) := by exact Nat.lt_succ_of_le h0
theorem om_207 {a0 a1 : Nat} (h0 : (a0 ≠ a1)) : (((a0 : Nat) : Int) ≠ ((a1 : Nat) : Int)) := by exact Nat.ToInt.of_diseq rfl rfl h0
theorem om_208 {a0 : Nat} (h0 : (a0 ≤ 16)) : (a0 < 64) := by exact Nat.lt_of_le_of_lt h0 (by decide)
theorem om_209 {a0 a1 a2 a3 : Nat} (h0 : (a2 = a1)) (h1 : (a3 = a2)) (h2 : (a0 < a3)) : (a0 < a1) := by exact h0 ▸ h1 ▸ h2
theorem om_210 {a0 : Int} (h0 : ((0 : Int) ≤ a0)) : ((((Int.toNat a0) : Nat) : Int) = a0) := by exact Int.toNat_of_nonneg h0
theorem om_211 {a0 : Int} (h0 : (a0 < (16 : Int))) : ((Int.toNat a0) < (16 : Nat)) := by simp [h0]
theorem om_212 : (((((((((0 + 1) + 1) + 1) + 1) + 1) + 1) + 1) + 1) ≤ 1000000) := by exact Nat.le_add_left _ _
theorem om_213 {a0 : Nat} (h0 : (a0 < 8)) : (a0 ≤ 1000000) := by exact Nat.le_of_lt (Nat.lt_of_lt_of_le h0 (by decide))
theorem om_214 {a0 : Nat} (h0 : (a0 < 8)) : (a0 < 64) := by exact Nat.le_trans h0 (Nat.le_add_left _ _)
theorem om_215 {a0 : Nat} (h0 : (a0 ≤ 100)) : (a0 ≤ 1000000) := by exact Nat.le_trans h0 (Nat.le_add_left _ _)
theorem om_216 {a0 a1 : Nat} (h0 : (a0 = a1)) (h1 : (a1 < 8)) : (a0 ≤ 100) := by exact Nat.le_trans (Nat.le_of_eq h0) (Nat.le_trans (Nat.le_of_lt h1) (by decide))
theorem om_217 {a0 a1 a2 : Nat} (h0 : (a2 ≤ a1)) (h1 : (a0 ≤ a2)) : ((a0 + 1) ≤ (a1 + 1)) := by exact Nat.succ_le_succ (Nat.le_trans h1 h0)
theorem om_218 {a0 : Nat} (h0 : (a0 < (16 : Nat))) : (((0 : Int) ≤ ((a0 : Nat) : Int)) ∧ (((a0 : Nat) : Int) < (16 : Int))) := by exact (show ∀ a0 : Nat, a0 < 16 → (((0 : Int) ≤ ((a0 : Nat) : Int)) ∧ (((a0 : Nat) : Int) < (16 : Int))) from by decide +kernel) a0 h0
theorem om_219 {a0 : Nat} (h0 : (a0 ≤ 16)) : (a0 ≤ 1000000) := by exact Nat.le_trans h0 (Nat.le_add_left _ _)
theorem om_220 {a0 a1 a2 : Nat} (h0 : (a1 = a2)) (h1 : (a1 < 4)) (h2 : (a0 ≤ a2)) : (a0 ≤ 4) := by exact Nat.le_trans h2 (Nat.le_of_lt (h0 ▸ h1))
theorem om_221 {a0 : Nat} (h0 : (a0 ≤ (2 ^ 4))) : (a0 ≤ 1000000) := by exact Nat.le_trans h0 (Nat.le_add_left _ _)
theorem om_222 {a0 a1 : Nat} (h0 : (a1 ≤ 16)) (h1 : (a0 = a1)) : (a0 < 64) := by exact Nat.lt_of_le_of_lt (Nat.le_of_eq h1) (Nat.lt_of_le_of_lt h0 (by decide))
theorem om_223 {a0 a1 a2 : Nat} (h0 : (a1 ≤ 16)) (h1 : (a2 = a1)) (h2 : (a0 ≤ a2)) : (a0 ≤ 1000000) := by exact Nat.le_trans h2 (Nat.le_trans (Nat.le_of_eq h1) (Nat.le_trans h0 (by decide)))
theorem om_224 {a0 : Nat} (h0 : (a0 < 16)) : (a0 ≤ 1000000) := by exact Nat.le_of_lt (Nat.lt_of_lt_of_le h0 (by decide))
theorem om_225 {a0 : Nat} (h0 : (a0 < 4)) : (a0 ≤ 3) := by exact Nat.le_of_lt_succ h0
theorem om_226 {a0 : Nat} (h0 : (a0 < 4)) : (a0 ≤ 64) := by exact Nat.le_of_lt (Nat.lt_of_lt_of_le h0 (by decide))
theorem om_227 {a0 : Nat} (h0 : (a0 ≤ (2 ^ 3))) : (a0 ≤ 15) := by exact Nat.le_trans h0 (Nat.le_add_left _ _)
theorem om_228 {a0 : Nat} (h0 : (a0 < 16)) : (a0 ≤ 15) := by exact Nat.le_of_lt_succ h0
theorem om_229 {a0 a1 : Nat} (h0 : (a0 < 16)) (h1 : (a1 ≤ a0)) : (((15 - a0) + a1) < 16) := by exact (show ∀ a0 : Nat, a0 < 16 → ∀ a1 : Nat, (a1 ≤ a0) → ((((15 : Nat) - a0) + a1) < (16 : Nat)) from by decide +kernel) _ h0 _ h1
theorem om_230 {a0 a1 : Nat} (h0 : (a0 < 16)) : ((15 - ((15 - a0) + a1)) = (a0 - a1)) := by exact (Nat.sub_add_eq _ _ _).trans (congrArg (· - a1) (Nat.sub_sub_self (Nat.le_of_lt_succ h0)))
theorem om_231 {a0 : Nat} (h0 : (a0 < 100)) : (a0 ≤ 1000000) := by exact Nat.le_of_lt (Nat.lt_of_lt_of_le h0 (by decide))
theorem om_232 {a0 : Nat} (h0 : (a0 < 16)) : (a0 < 64) := by exact Nat.le_trans h0 (Nat.le_add_left _ _)
theorem om_233 {a0 a1 : Nat} (h0 : (a0 = a1)) (h1 : (0 < a1)) : (¬ (a0 = 0)) := by grind
theorem om_234 {a0 : Nat} (h0 : (a0 < 13)) : (¬ (a0 = 16)) := by exact (show ∀ a0 : Nat, a0 < 13 → (¬ (a0 = (16 : Nat))) from by decide +kernel) a0 h0
theorem om_235 {a0 : Nat} (h0 : (a0 < 13)) : (¬ (a0 = 15)) := by exact (show ∀ a0 : Nat, a0 < 13 → (¬ (a0 = (15 : Nat))) from by decide +kernel) a0 h0
theorem om_236 {a0 : Nat} (h0 : (a0 < 13)) : (¬ (a0 = 13)) := by exact Nat.ne_of_lt h0
theorem om_237 {a0 a1 : Nat} (h0 : (a0 < 16)) : ((a0 - a1) < 16) := by exact Nat.sub_lt_of_lt h0
theorem om_238 {a0 : Nat} (h0 : (a0 ≤ 100000)) : ((a0 + (1 + 1)) ≤ 1000000) := by grind
theorem om_239 {a0 : Nat} (h0 : (2 ≤ a0)) : (a0 ≠ 0) := by exact Nat.ne_zero_of_lt h0
theorem om_240 {a0 : Nat} (h0 : (a0 ≤ 100000)) : (a0 ≤ 1000000) := by exact Nat.le_trans h0 (Nat.le_add_left _ _)
theorem om_241 {a0 : Nat} (h0 : (2 ≤ a0)) : (a0 ≠ 1) := by exact Nat.ne_of_gt h0
theorem om_242 {a0 : Nat} (h0 : (a0 < 13)) : (¬ (a0 = 18)) := by exact (show ∀ a0 : Nat, a0 < 13 → (¬ (a0 = (18 : Nat))) from by decide +kernel) a0 h0
theorem om_243 : (0 ≠ 1) := by exact Nat.zero_ne_one
theorem om_244 {a0 : Nat} (h0 : (2 ≤ a0)) : (0 ≠ a0) := by exact Ne.symm (Nat.ne_zero_of_lt h0)
theorem om_245 {a0 a1 a2 : Nat} (h0 : (a0 ≤ (a2 + 1))) : ((a0 + (a1 + (1 + 1))) ≤ ((a2 + a1) + 3)) := by grind
theorem om_246 {a0 a1 a2 a3 : Nat} (h0 : (a0 ≤ (a2 + a3))) : ((a0 + a1) ≤ (a2 + (a1 + a3))) := by rw [Nat.add_comm a1, ← Nat.add_assoc]; exact Nat.add_le_add_right h0 a1
theorem om_247 {a0 a1 : Nat} (h0 : (a1 < 16)) : ((a0 + (3 * (a1 + 1))) ≤ (a0 + 48)) := by exact Nat.add_le_add_left (Nat.mul_le_mul_left 3 h0) a0
theorem om_248 {a0 a1 a2 a3 a4 a5 : Nat} (h0 : (a1 ≤ 16)) (h1 : (a2 < a1)) (h2 : (a3 ≤ 90000)) (h3 : (a4 = a5)) (h4 : (a4 < (a2 + 1))) (h5 : (a0 ≤ (a3 + (3 * a5)))) : (a0 ≤ 91000) := by exact Nat.le_trans h5 (Nat.le_trans (Nat.add_le_add h2 (Nat.mul_le_mul_left 3 (h3 ▸ Nat.le_trans (Nat.le_of_lt_succ h4) (Nat.le_of_lt (Nat.lt_of_lt_of_le h1 h0))))) (by decide))
theorem om_249 {a0 a1 : Nat} (h0 : ((a0 + a1) ≤ 91000)) : (a0 ≤ 100000) := by grind
theorem om_250 {a0 a1 : Nat} (h0 : ((a1 + a0) ≤ 91000)) : (a0 ≤ 100000) := by grind
theorem om_251 {a0 a1 a2 : Nat} (h0 : (a2 < a1)) (h1 : (a0 < (a2 + 1))) : (a0 < a1) := by exact Nat.lt_of_lt_of_le h1 h0
theorem om_252 {a0 a1 : Nat} (h0 : (a1 ≤ 16)) (h1 : (a0 < a1)) : (a0 < 100) := by exact Nat.lt_of_lt_of_le h1 (Nat.le_trans h0 (by decide))
theorem om_253 {a0 a1 a2 : Nat} (h0 : (a1 ≤ 16)) (h1 : (a2 < a1)) (h2 : (a0 < (a2 + 1))) : (a0 < 100) := by exact Nat.lt_of_le_of_lt (Nat.le_of_lt_succ h2) (Nat.lt_of_lt_of_le h1 (Nat.le_trans h0 (by decide)))
theorem om_254 {a0 a1 : Nat} (h0 : (a1 ≤ 16)) (h1 : (a0 < a1)) : ((a0 + 1) ≤ 1000000) := by exact Nat.le_trans h1 (Nat.le_trans h0 (by decide))
theorem om_255 {a0 : Nat} (h0 : (a0 < 10)) : (a0 < 13) := by exact Nat.le_trans h0 (Nat.le_add_left _ _)
theorem om_256 {a0 : Nat} (h0 : (a0 < 10)) : (¬ (a0 = 10)) := by exact Nat.ne_of_lt h0
theorem om_257 {a0 a1 a2 : Nat} (h0 : (a1 ≤ 16)) (h1 : (a2 < a1)) (h2 : (a0 < a2)) : (a0 < 16) := by exact Nat.lt_trans h2 (Nat.lt_of_lt_of_le h1 h0)
theorem om_258 {a0 a1 a2 a3 a4 : Nat} (h0 : (a1 ≤ 16)) (h1 : (a2 = a3)) (h2 : (a2 < a1)) (h3 : (a0 ≤ (a4 + (48 * a3)))) (h4 : (a4 ≤ 80000)) : (a0 ≤ 90000) := by exact Nat.le_trans h3 (Nat.le_trans (Nat.add_le_add h4 (Nat.mul_le_mul_left 48 (h1 ▸ Nat.le_of_lt (Nat.lt_of_lt_of_le h2 h0)))) (by decide))
theorem om_259 {a0 a1 a2 : Nat} (h0 : ((a0 + a2) ≤ 1000000)) (h1 : (a1 ≤ a2)) : ((a0 + a1) ≤ 1000000) := by grind
theorem om_260 {a0 : Nat} (h0 : (a0 ≤ 80000)) : (a0 ≤ 1000000) := by exact Nat.le_trans h0 (Nat.le_add_left _ _)
theorem om_261 {a0 : Nat} (h0 : (2 ≤ a0)) : (0 < a0) := by exact Nat.lt_of_succ_lt h0
theorem om_262 {a0 : Nat} (h0 : (2 ≤ a0)) : (1 < a0) := by exact Nat.lt_of_succ_le h0
theorem om_263 {a0 a1 : Nat} (h0 : (a1 ≤ 16)) (h1 : (a0 < a1)) : (a0 < 16) := by exact Nat.lt_of_lt_of_le h1 h0
theorem om_264 {a0 a1 : Nat} (h0 : (a0 ≤ 80000)) (h1 : (a1 ≤ 16)) : (((a0 + 0) + (48 * a1)) ≤ 88800) := by exact Nat.le_trans (Nat.add_le_add h0 (Nat.mul_le_mul_left 48 h1)) (by decide)
theorem om_265 {a0 a1 : Nat} (h0 : ((a0 + a1) ≤ 88800)) : (a0 ≤ 88800) := by exact Nat.le_of_add_right_le h0
theorem om_266 {a0 : Nat} (h0 : (a0 ≤ 88800)) : (a0 ≤ 1000000) := by exact Nat.le_trans h0 (Nat.le_add_left _ _)
theorem om_267 {a0 a1 : Nat} (h0 : (a1 ≤ 16)) (h1 : (a0 ≤ 88800)) : ((a0 + a1) ≤ 1000000) := by grind
theorem om_268 {a0 a1 : Nat} (h0 : (a1 ≤ 16)) (h1 : (a0 ≤ 88800)) : ((a0 + a1) ≤ 100000) := by grind
theorem om_269 {a0 : Nat} (h0 : (a0 ≤ 1000)) : (a0 ≤ 1000000) := by exact Nat.le_trans h0 (Nat.le_add_left _ _)
theorem om_270 {a0 : Nat} (h0 : (a0 < 3)) : (¬ (a0 = 12)) := by exact (show ∀ a0 : Nat, a0 < 3 → (¬ (a0 = (12 : Nat))) from by decide +kernel) a0 h0
theorem om_271 {a0 : Nat} (h0 : (a0 < 3)) : (¬ (a0 = 11)) := by exact (show ∀ a0 : Nat, a0 < 3 → (¬ (a0 = (11 : Nat))) from by decide +kernel) a0 h0
theorem om_272 {a0 : Nat} (h0 : (a0 < 3)) : (¬ (a0 = 9)) := by exact (show ∀ a0 : Nat, a0 < 3 → (¬ (a0 = (9 : Nat))) from by decide +kernel) a0 h0
theorem om_273 {a0 : Nat} (h0 : (a0 < 3)) : (¬ (a0 = 8)) := by exact (show ∀ a0 : Nat, a0 < 3 → (¬ (a0 = (8 : Nat))) from by decide +kernel) a0 h0
theorem om_274 {a0 : Nat} (h0 : (a0 < 3)) : (¬ (a0 = 7)) := by exact (show ∀ a0 : Nat, a0 < 3 → (¬ (a0 = (7 : Nat))) from by decide +kernel) a0 h0
theorem om_275 {a0 : Nat} (h0 : (a0 < 3)) : (¬ (a0 = 6)) := by exact (show ∀ a0 : Nat, a0 < 3 → (¬ (a0 = (6 : Nat))) from by decide +kernel) a0 h0
theorem om_276 {a0 : Nat} (h0 : (a0 < 3)) : (¬ (a0 = 5)) := by exact (show ∀ a0 : Nat, a0 < 3 → (¬ (a0 = (5 : Nat))) from by decide +kernel) a0 h0
theorem om_277 {a0 : Nat} (h0 : (a0 < 3)) : (a0 ≠ 3) := by exact Nat.ne_of_lt h0
theorem om_278 {a0 : Nat} (h0 : (a0 < 3)) : (a0 < 10) := by exact Nat.le_trans h0 (Nat.le_add_left _ _)
theorem om_279 {a0 a1 a2 : Nat} (h0 : (a2 ≠ a1)) (h1 : (a0 = a2)) : (¬ (a0 = a1)) := by exact Eq.mpr_not (congrFun (congrArg Eq h1) a1) h0
theorem om_280 {a0 a1 : Nat} (h0 : (a1 ≠ a0)) : (¬ (a0 = a1)) := by exact Ne.intro (id (Ne.symm h0))
theorem om_281 {a0 : Nat} (h0 : (a0 < 15)) (h1 : (a0 = 15)) : False := by grind
theorem om_282 {a0 a1 : Nat} (h0 : (0 < a1)) : ((a0 + 1) ≤ (a0 + a1)) := by exact Nat.add_le_add_iff_left.mpr h0
theorem om_283 {a0 : Nat} (h0 : (a0 < 16)) (h1 : (a0 ≥ 15)) : (a0 = 15) := by exact Nat.eq_of_le_of_lt_succ h1 h0
theorem om_284 (h0 : (15 < 15)) : False := by exact absurd h0 (by decide)
theorem om_285 {a0 a1 : Nat} (h0 : (a0 < a1)) : (a0 < (a1 + 1)) := by exact Nat.lt_add_right 1 h0
theorem om_286 {a0 a1 : Nat} (h0 : (a0 < a1)) : (a0 ≠ a1) := by exact Nat.ne_of_lt h0
theorem om_287 {a0 a1 a2 : Nat} (h0 : ((a0 + 1) ≤ (a1 + a2))) : (a0 ≤ (a1 + a2)) := by exact Nat.le_of_succ_le h0
theorem om_288 {a0 a1 a2 : Nat} (h0 : (a0 ≤ (a1 + a2))) (h1 : (a0 ≥ (a1 + a2))) : (a0 = (a1 + a2)) := by exact Nat.le_antisymm h0 h1
theorem om_289 {a0 : Nat} (h0 : (a0 < 15)) : (a0 < 16) := by exact Nat.lt_succ_of_lt h0
theorem om_290 {a0 : Nat} (h0 : (a0 < 0)) : False := by exact Nat.not_succ_le_zero a0 h0
theorem om_291 {a0 : Nat} (h0 : (a0 < 15)) : (¬ (15 = a0)) := by exact Nat.ne_of_lt' h0
theorem om_292 {a0 : Nat} (h0 : (a0 < (16 - 0))) : (a0 < 16) := by exact h0
theorem om_293 {a0 a1 : Nat} (h0 : ((16 - 0) ≤ (a0 + a1))) (h1 : ((a0 + a1) < 16)) : False := by exact absurd (Nat.lt_of_le_of_lt h0 h1) (Nat.lt_irrefl _)
theorem om_294 {a0 : Nat} (h0 : (a0 < 16)) : ((16 - a0) = ((15 - a0) + 1)) := by exact (show ∀ a0 : Nat, a0 < 16 → (((16 : Nat) - a0) = (((15 : Nat) - a0) + (1 : Nat))) from by decide +kernel) a0 h0
theorem om_295 {a0 : Nat} : ((15 - a0) < 16) := by exact Nat.sub_lt_succ 15 a0
theorem om_296 {a0 : Nat} (h0 : ((15 - a0) = 15)) : (a0 = 0) := by omega
theorem om_297 {a0 a1 : Nat} (h0 : (a1 ≤ 16)) : (((a0 + 0) + (48 * a1)) ≤ ((a0 + 0) + (48 * 16))) := by grind
theorem om_298 {a0 : Nat} (h0 : ((a0 + 1) = 0)) : False := by grind
theorem om_299 {a0 a1 a2 a3 a4 a5 a6 : Nat} (h0 : (a3 ≤ 16)) (h1 : ((a4 + a5) ≤ ((a6 + 0) + (48 * 16)))) (h2 : (a0 ≤ a4)) (h3 : (a1 ≤ a3)) (h4 : (a6 ≤ (8 + (1000 * a2)))) : ((a0 + a1) ≤ (8 + (1000 * (a2 + 1)))) := by grind
theorem om_300 {a0 : Nat} : ((16 - (a0 + 1)) = (15 - a0)) := by exact Nat.succ_sub_succ_eq_sub 15 a0
theorem om_301 {a0 a1 : Nat} (h0 : (a1 < 16)) (h1 : (a0 < a1)) : ((15 - a0) ≠ (15 - a1)) := by exact (show ∀ a1 : Nat, a1 < 16 → ∀ a0 : Nat, (a0 < a1) → (((15 : Nat) - a0) ≠ ((15 : Nat) - a1)) from by decide +kernel) _ h0 _ h1
theorem om_302 {a0 a1 : Nat} (h0 : (a1 < a0)) : ((15 - a0) ≤ (15 - a1)) := by exact Nat.sub_le_sub_left (Nat.le_of_lt h0) 15
theorem om_303 {a0 : Nat} (h0 : ((a0 + 1) ≤ 16)) : (a0 < 16) := by exact Nat.lt_of_succ_le h0
theorem om_304 {a0 : Nat} (h0 : ((a0 + 1) ≤ 16)) : (a0 ≤ 16) := by exact Nat.le_of_succ_le h0
theorem om_305 {a0 : Nat} (h0 : (a0 ≤ 8)) : (a0 ≤ 1000000) := by exact Nat.le_trans h0 (Nat.le_add_left _ _)
theorem om_306 {a0 : Nat} (h0 : (a0 < 16)) : (a0 ≤ 16) := by exact Nat.le_of_succ_le h0
theorem om_307 {a0 a1 : Nat} (h0 : (a1 < 16)) (h1 : (a0 ≤ (8 + (1000 * a1)))) : (a0 ≤ 80000) := by exact Nat.le_trans h1 (Nat.le_trans (Nat.add_le_add_left (Nat.mul_le_mul_left 1000 (Nat.le_of_lt h0)) 8) (by decide))
theorem om_308 {a0 : Nat} (h0 : (a0 < 16)) : (a0 ≤ 1000) := by exact Nat.le_of_lt (Nat.lt_of_lt_of_le h0 (by decide))
theorem om_309 {a0 : Nat} (h0 : (a0 ≤ (8 + (1000 * 16)))) : (a0 ≤ 1000000) := by exact Nat.le_trans h0 (Nat.le_add_left _ _)
theorem om_310 {a0 a1 : Nat} : (((a0 < a1) ∧ (a0 < (a1 + 1))) ↔ (a0 < a1)) := by omega
theorem om_311 {a0 a1 : Nat} : (((¬ (a0 < a1)) ∧ (a0 < (a1 + 1))) ↔ (a0 = a1)) := by omega
theorem om_312 {a0 : Nat} (h0 : (a0 < 16)) : ((15 - (15 - a0)) = a0) := by exact Nat.sub_sub_self (Nat.le_of_lt_succ h0)
theorem om_313 {a0 a1 a2 a3 : Nat} (h0 : (a0 ≤ a3)) (h1 : ((a1 + a3) = a2)) : ((a0 + a1) ≤ a2) := by grind
theorem om_314 {a0 : Nat} (h0 : (a0 = 8)) : (a0 ≤ 8) := by exact Nat.le_of_eq h0
theorem om_315 {a0 a1 : Nat} (h0 : (a1 = 8)) (h1 : (a0 ≤ a1)) : (a0 ≤ 8) := by exact le_of_le_of_eq h1 h0
theorem om_316 {a0 a1 a2 a3 : Nat} (h0 : ((a0 + a2) ≤ 1000000)) (h1 : (a3 ≤ a2)) (h2 : (a1 ≤ a3)) : ((a0 + a1) ≤ 1000000) := by exact Nat.le_trans (Nat.add_le_add_left (Nat.le_trans h2 h1) a0) h0
theorem om_317 {a0 a1 a2 : Nat} (h0 : (a0 ≤ a2)) (h1 : (a2 ≤ 40)) (h2 : (a1 ≤ 8)) : ((a0 + a1) ≤ 1000000) := by grind
theorem om_318 {a0 : Nat} (h0 : (a0 = 8)) : (a0 < 64) := by subst h0; simp
theorem om_319 {a0 a1 : Nat} (h0 : (a1 = 8)) (h1 : (a0 ≤ a1)) : (a0 ≤ 16) := by exact Nat.le_trans h1 (Nat.le_trans (Nat.le_of_eq h0) (by decide))
theorem om_320 {a0 : Nat} : ((15 - (1 + a0)) < 15) := by exact Nat.sub_lt (by decide) (Nat.lt_of_lt_of_le Nat.one_pos (Nat.le_add_right _ _))
theorem om_321 {a0 : Nat} (h0 : (a0 = 16)) : (a0 ≤ 1000000) := by subst h0; simp
theorem om_322 : ((16 - 1) ≤ 1000000) := by exact Nat.le_add_left _ _
theorem om_323 : (16 ≤ 1000000) := by exact Nat.le_add_left _ _
theorem om_324 {a0 : Nat} (h0 : (a0 ≤ 40)) : (a0 < 64) := by exact Nat.lt_of_le_of_lt h0 (by decide)
theorem oE0_2 {p0 p1 : Prop} {g : Prop} (h : p0 ∧ p1) (k : p0 → p1 → g) : g := k h.1 h.2
theorem oE0_3 {p0 p1 p2 : Prop} {g : Prop} (h : p0 ∧ p1 ∧ p2) (k : p0 → p1 → p2 → g) : g := k h.1 h.2.1 h.2.2
theorem oE0_4 {p0 p1 p2 p3 : Prop} {g : Prop} (h : p0 ∧ p1 ∧ p2 ∧ p3) (k : p0 → p1 → p2 → p3 → g) : g := k h.1 h.2.1 h.2.2.1 h.2.2.2
theorem oE0_5 {p0 p1 p2 p3 p4 : Prop} {g : Prop} (h : p0 ∧ p1 ∧ p2 ∧ p3 ∧ p4) (k : p0 → p1 → p2 → p3 → p4 → g) : g := k h.1 h.2.1 h.2.2.1 h.2.2.2.1 h.2.2.2.2
theorem oE1_1 {α0 : Type} {p0 : α0 → Prop} {g : Prop} (h : ∃ x0, p0 x0) (k : ∀ x0, p0 x0 → g) : g := Exists.elim h fun x0 h => k x0 h
theorem oE1_2 {α0 : Type} {p0 p1 : α0 → Prop} {g : Prop} (h : ∃ x0, p0 x0 ∧ p1 x0) (k : ∀ x0, p0 x0 → p1 x0 → g) : g := Exists.elim h fun x0 h => k x0 h.1 h.2
theorem oE1_3 {α0 : Type} {p0 p1 p2 : α0 → Prop} {g : Prop} (h : ∃ x0, p0 x0 ∧ p1 x0 ∧ p2 x0) (k : ∀ x0, p0 x0 → p1 x0 → p2 x0 → g) : g := Exists.elim h fun x0 h => k x0 h.1 h.2.1 h.2.2
theorem oE1_4 {α0 : Type} {p0 p1 p2 p3 : α0 → Prop} {g : Prop} (h : ∃ x0, p0 x0 ∧ p1 x0 ∧ p2 x0 ∧ p3 x0) (k : ∀ x0, p0 x0 → p1 x0 → p2 x0 → p3 x0 → g) : g := Exists.elim h fun x0 h => k x0 h.1 h.2.1 h.2.2.1 h.2.2.2
theorem oE1_5 {α0 : Type} {p0 p1 p2 p3 p4 : α0 → Prop} {g : Prop} (h : ∃ x0, p0 x0 ∧ p1 x0 ∧ p2 x0 ∧ p3 x0 ∧ p4 x0) (k : ∀ x0, p0 x0 → p1 x0 → p2 x0 → p3 x0 → p4 x0 → g) : g := Exists.elim h fun x0 h => k x0 h.1 h.2.1 h.2.2.1 h.2.2.2.1 h.2.2.2.2
theorem oE2_1 {α0 α1 : Type} {p0 : α0 → α1 → Prop} {g : Prop} (h : ∃ x0 x1, p0 x0 x1) (k : ∀ x0 x1, p0 x0 x1 → g) : g := Exists.elim h fun x0 h => Exists.elim h fun x1 h => k x0 x1 h
theorem oE2_2 {α0 α1 : Type} {p0 p1 : α0 → α1 → Prop} {g : Prop} (h : ∃ x0 x1, p0 x0 x1 ∧ p1 x0 x1) (k : ∀ x0 x1, p0 x0 x1 → p1 x0 x1 → g) : g := Exists.elim h fun x0 h => Exists.elim h fun x1 h => k x0 x1 h.1 h.2
theorem oE2_3 {α0 α1 : Type} {p0 p1 p2 : α0 → α1 → Prop} {g : Prop} (h : ∃ x0 x1, p0 x0 x1 ∧ p1 x0 x1 ∧ p2 x0 x1) (k : ∀ x0 x1, p0 x0 x1 → p1 x0 x1 → p2 x0 x1 → g) : g := Exists.elim h fun x0 h => Exists.elim h fun x1 h => k x0 x1 h.1 h.2.1 h.2.2
theorem oE2_4 {α0 α1 : Type} {p0 p1 p2 p3 : α0 → α1 → Prop} {g : Prop} (h : ∃ x0 x1, p0 x0 x1 ∧ p1 x0 x1 ∧ p2 x0 x1 ∧ p3 x0 x1) (k : ∀ x0 x1, p0 x0 x1 → p1 x0 x1 → p2 x0 x1 → p3 x0 x1 → g) : g := Exists.elim h fun x0 h => Exists.elim h fun x1 h => k x0 x1 h.1 h.2.1 h.2.2.1 h.2.2.2
theorem oE2_10 {α0 α1 : Type} {p0 p1 p2 p3 p4 p5 p6 p7 p8 p9 : α0 → α1 → Prop} {g : Prop} (h : ∃ x0 x1, p0 x0 x1 ∧ p1 x0 x1 ∧ p2 x0 x1 ∧ p3 x0 x1 ∧ p4 x0 x1 ∧ p5 x0 x1 ∧ p6 x0 x1 ∧ p7 x0 x1 ∧ p8 x0 x1 ∧ p9 x0 x1) (k : ∀ x0 x1, p0 x0 x1 → p1 x0 x1 → p2 x0 x1 → p3 x0 x1 → p4 x0 x1 → p5 x0 x1 → p6 x0 x1 → p7 x0 x1 → p8 x0 x1 → p9 x0 x1 → g) : g := Exists.elim h fun x0 h => Exists.elim h fun x1 h => k x0 x1 h.1 h.2.1 h.2.2.1 h.2.2.2.1 h.2.2.2.2.1 h.2.2.2.2.2.1 h.2.2.2.2.2.2.1 h.2.2.2.2.2.2.2.1 h.2.2.2.2.2.2.2.2.1 h.2.2.2.2.2.2.2.2.2
theorem oE3_2 {α0 α1 α2 : Type} {p0 p1 : α0 → α1 → α2 → Prop} {g : Prop} (h : ∃ x0 x1 x2, p0 x0 x1 x2 ∧ p1 x0 x1 x2) (k : ∀ x0 x1 x2, p0 x0 x1 x2 → p1 x0 x1 x2 → g) : g := Exists.elim h fun x0 h => Exists.elim h fun x1 h => Exists.elim h fun x2 h => k x0 x1 x2 h.1 h.2
theorem oE3_3 {α0 α1 α2 : Type} {p0 p1 p2 : α0 → α1 → α2 → Prop} {g : Prop} (h : ∃ x0 x1 x2, p0 x0 x1 x2 ∧ p1 x0 x1 x2 ∧ p2 x0 x1 x2) (k : ∀ x0 x1 x2, p0 x0 x1 x2 → p1 x0 x1 x2 → p2 x0 x1 x2 → g) : g := Exists.elim h fun x0 h => Exists.elim h fun x1 h => Exists.elim h fun x2 h => k x0 x1 x2 h.1 h.2.1 h.2.2
theorem oE3_4 {α0 α1 α2 : Type} {p0 p1 p2 p3 : α0 → α1 → α2 → Prop} {g : Prop} (h : ∃ x0 x1 x2, p0 x0 x1 x2 ∧ p1 x0 x1 x2 ∧ p2 x0 x1 x2 ∧ p3 x0 x1 x2) (k : ∀ x0 x1 x2, p0 x0 x1 x2 → p1 x0 x1 x2 → p2 x0 x1 x2 → p3 x0 x1 x2 → g) : g := Exists.elim h fun x0 h => Exists.elim h fun x1 h => Exists.elim h fun x2 h => k x0 x1 x2 h.1 h.2.1 h.2.2.1 h.2.2.2
theorem oE3_5 {α0 α1 α2 : Type} {p0 p1 p2 p3 p4 : α0 → α1 → α2 → Prop} {g : Prop} (h : ∃ x0 x1 x2, p0 x0 x1 x2 ∧ p1 x0 x1 x2 ∧ p2 x0 x1 x2 ∧ p3 x0 x1 x2 ∧ p4 x0 x1 x2) (k : ∀ x0 x1 x2, p0 x0 x1 x2 → p1 x0 x1 x2 → p2 x0 x1 x2 → p3 x0 x1 x2 → p4 x0 x1 x2 → g) : g := Exists.elim h fun x0 h => Exists.elim h fun x1 h => Exists.elim h fun x2 h => k x0 x1 x2 h.1 h.2.1 h.2.2.1 h.2.2.2.1 h.2.2.2.2
theorem oE4_2 {α0 α1 α2 α3 : Type} {p0 p1 : α0 → α1 → α2 → α3 → Prop} {g : Prop} (h : ∃ x0 x1 x2 x3, p0 x0 x1 x2 x3 ∧ p1 x0 x1 x2 x3) (k : ∀ x0 x1 x2 x3, p0 x0 x1 x2 x3 → p1 x0 x1 x2 x3 → g) : g := Exists.elim h fun x0 h => Exists.elim h fun x1 h => Exists.elim h fun x2 h => Exists.elim h fun x3 h => k x0 x1 x2 x3 h.1 h.2
theorem oE4_3 {α0 α1 α2 α3 : Type} {p0 p1 p2 : α0 → α1 → α2 → α3 → Prop} {g : Prop} (h : ∃ x0 x1 x2 x3, p0 x0 x1 x2 x3 ∧ p1 x0 x1 x2 x3 ∧ p2 x0 x1 x2 x3) (k : ∀ x0 x1 x2 x3, p0 x0 x1 x2 x3 → p1 x0 x1 x2 x3 → p2 x0 x1 x2 x3 → g) : g := Exists.elim h fun x0 h => Exists.elim h fun x1 h => Exists.elim h fun x2 h => Exists.elim h fun x3 h => k x0 x1 x2 x3 h.1 h.2.1 h.2.2
theorem oE4_4 {α0 α1 α2 α3 : Type} {p0 p1 p2 p3 : α0 → α1 → α2 → α3 → Prop} {g : Prop} (h : ∃ x0 x1 x2 x3, p0 x0 x1 x2 x3 ∧ p1 x0 x1 x2 x3 ∧ p2 x0 x1 x2 x3 ∧ p3 x0 x1 x2 x3) (k : ∀ x0 x1 x2 x3, p0 x0 x1 x2 x3 → p1 x0 x1 x2 x3 → p2 x0 x1 x2 x3 → p3 x0 x1 x2 x3 → g) : g := Exists.elim h fun x0 h => Exists.elim h fun x1 h => Exists.elim h fun x2 h => Exists.elim h fun x3 h => k x0 x1 x2 x3 h.1 h.2.1 h.2.2.1 h.2.2.2
theorem oE4_5 {α0 α1 α2 α3 : Type} {p0 p1 p2 p3 p4 : α0 → α1 → α2 → α3 → Prop} {g : Prop} (h : ∃ x0 x1 x2 x3, p0 x0 x1 x2 x3 ∧ p1 x0 x1 x2 x3 ∧ p2 x0 x1 x2 x3 ∧ p3 x0 x1 x2 x3 ∧ p4 x0 x1 x2 x3) (k : ∀ x0 x1 x2 x3, p0 x0 x1 x2 x3 → p1 x0 x1 x2 x3 → p2 x0 x1 x2 x3 → p3 x0 x1 x2 x3 → p4 x0 x1 x2 x3 → g) : g := Exists.elim h fun x0 h => Exists.elim h fun x1 h => Exists.elim h fun x2 h => Exists.elim h fun x3 h => k x0 x1 x2 x3 h.1 h.2.1 h.2.2.1 h.2.2.2.1 h.2.2.2.2
theorem oE5_1 {α0 α1 α2 α3 α4 : Type} {p0 : α0 → α1 → α2 → α3 → α4 → Prop} {g : Prop} (h : ∃ x0 x1 x2 x3 x4, p0 x0 x1 x2 x3 x4) (k : ∀ x0 x1 x2 x3 x4, p0 x0 x1 x2 x3 x4 → g) : g := Exists.elim h fun x0 h => Exists.elim h fun x1 h => Exists.elim h fun x2 h => Exists.elim h fun x3 h => Exists.elim h fun x4 h => k x0 x1 x2 x3 x4 h
theorem oE5_2 {α0 α1 α2 α3 α4 : Type} {p0 p1 : α0 → α1 → α2 → α3 → α4 → Prop} {g : Prop} (h : ∃ x0 x1 x2 x3 x4, p0 x0 x1 x2 x3 x4 ∧ p1 x0 x1 x2 x3 x4) (k : ∀ x0 x1 x2 x3 x4, p0 x0 x1 x2 x3 x4 → p1 x0 x1 x2 x3 x4 → g) : g := Exists.elim h fun x0 h => Exists.elim h fun x1 h => Exists.elim h fun x2 h => Exists.elim h fun x3 h => Exists.elim h fun x4 h => k x0 x1 x2 x3 x4 h.1 h.2
theorem oE5_4 {α0 α1 α2 α3 α4 : Type} {p0 p1 p2 p3 : α0 → α1 → α2 → α3 → α4 → Prop} {g : Prop} (h : ∃ x0 x1 x2 x3 x4, p0 x0 x1 x2 x3 x4 ∧ p1 x0 x1 x2 x3 x4 ∧ p2 x0 x1 x2 x3 x4 ∧ p3 x0 x1 x2 x3 x4) (k : ∀ x0 x1 x2 x3 x4, p0 x0 x1 x2 x3 x4 → p1 x0 x1 x2 x3 x4 → p2 x0 x1 x2 x3 x4 → p3 x0 x1 x2 x3 x4 → g) : g := Exists.elim h fun x0 h => Exists.elim h fun x1 h => Exists.elim h fun x2 h => Exists.elim h fun x3 h => Exists.elim h fun x4 h => k x0 x1 x2 x3 x4 h.1 h.2.1 h.2.2.1 h.2.2.2
theorem oE6_1 {α0 α1 α2 α3 α4 α5 : Type} {p0 : α0 → α1 → α2 → α3 → α4 → α5 → Prop} {g : Prop} (h : ∃ x0 x1 x2 x3 x4 x5, p0 x0 x1 x2 x3 x4 x5) (k : ∀ x0 x1 x2 x3 x4 x5, p0 x0 x1 x2 x3 x4 x5 → g) : g := Exists.elim h fun x0 h => Exists.elim h fun x1 h => Exists.elim h fun x2 h => Exists.elim h fun x3 h => Exists.elim h fun x4 h => Exists.elim h fun x5 h => k x0 x1 x2 x3 x4 x5 h
theorem oE6_2 {α0 α1 α2 α3 α4 α5 : Type} {p0 p1 : α0 → α1 → α2 → α3 → α4 → α5 → Prop} {g : Prop} (h : ∃ x0 x1 x2 x3 x4 x5, p0 x0 x1 x2 x3 x4 x5 ∧ p1 x0 x1 x2 x3 x4 x5) (k : ∀ x0 x1 x2 x3 x4 x5, p0 x0 x1 x2 x3 x4 x5 → p1 x0 x1 x2 x3 x4 x5 → g) : g := Exists.elim h fun x0 h => Exists.elim h fun x1 h => Exists.elim h fun x2 h => Exists.elim h fun x3 h => Exists.elim h fun x4 h => Exists.elim h fun x5 h => k x0 x1 x2 x3 x4 x5 h.1 h.2
theorem oE6_4 {α0 α1 α2 α3 α4 α5 : Type} {p0 p1 p2 p3 : α0 → α1 → α2 → α3 → α4 → α5 → Prop} {g : Prop} (h : ∃ x0 x1 x2 x3 x4 x5, p0 x0 x1 x2 x3 x4 x5 ∧ p1 x0 x1 x2 x3 x4 x5 ∧ p2 x0 x1 x2 x3 x4 x5 ∧ p3 x0 x1 x2 x3 x4 x5) (k : ∀ x0 x1 x2 x3 x4 x5, p0 x0 x1 x2 x3 x4 x5 → p1 x0 x1 x2 x3 x4 x5 → p2 x0 x1 x2 x3 x4 x5 → p3 x0 x1 x2 x3 x4 x5 → g) : g := Exists.elim h fun x0 h => Exists.elim h fun x1 h => Exists.elim h fun x2 h => Exists.elim h fun x3 h => Exists.elim h fun x4 h => Exists.elim h fun x5 h => k x0 x1 x2 x3 x4 x5 h.1 h.2.1 h.2.2.1 h.2.2.2
theorem oE6_5 {α0 α1 α2 α3 α4 α5 : Type} {p0 p1 p2 p3 p4 : α0 → α1 → α2 → α3 → α4 → α5 → Prop} {g : Prop} (h : ∃ x0 x1 x2 x3 x4 x5, p0 x0 x1 x2 x3 x4 x5 ∧ p1 x0 x1 x2 x3 x4 x5 ∧ p2 x0 x1 x2 x3 x4 x5 ∧ p3 x0 x1 x2 x3 x4 x5 ∧ p4 x0 x1 x2 x3 x4 x5) (k : ∀ x0 x1 x2 x3 x4 x5, p0 x0 x1 x2 x3 x4 x5 → p1 x0 x1 x2 x3 x4 x5 → p2 x0 x1 x2 x3 x4 x5 → p3 x0 x1 x2 x3 x4 x5 → p4 x0 x1 x2 x3 x4 x5 → g) : g := Exists.elim h fun x0 h => Exists.elim h fun x1 h => Exists.elim h fun x2 h => Exists.elim h fun x3 h => Exists.elim h fun x4 h => Exists.elim h fun x5 h => k x0 x1 x2 x3 x4 x5 h.1 h.2.1 h.2.2.1 h.2.2.2.1 h.2.2.2.2
theorem oE6_12 {α0 α1 α2 α3 α4 α5 : Type} {p0 p1 p2 p3 p4 p5 p6 p7 p8 p9 p10 p11 : α0 → α1 → α2 → α3 → α4 → α5 → Prop} {g : Prop} (h : ∃ x0 x1 x2 x3 x4 x5, p0 x0 x1 x2 x3 x4 x5 ∧ p1 x0 x1 x2 x3 x4 x5 ∧ p2 x0 x1 x2 x3 x4 x5 ∧ p3 x0 x1 x2 x3 x4 x5 ∧ p4 x0 x1 x2 x3 x4 x5 ∧ p5 x0 x1 x2 x3 x4 x5 ∧ p6 x0 x1 x2 x3 x4 x5 ∧ p7 x0 x1 x2 x3 x4 x5 ∧ p8 x0 x1 x2 x3 x4 x5 ∧ p9 x0 x1 x2 x3 x4 x5 ∧ p10 x0 x1 x2 x3 x4 x5 ∧ p11 x0 x1 x2 x3 x4 x5) (k : ∀ x0 x1 x2 x3 x4 x5, p0 x0 x1 x2 x3 x4 x5 → p1 x0 x1 x2 x3 x4 x5 → p2 x0 x1 x2 x3 x4 x5 → p3 x0 x1 x2 x3 x4 x5 → p4 x0 x1 x2 x3 x4 x5 → p5 x0 x1 x2 x3 x4 x5 → p6 x0 x1 x2 x3 x4 x5 → p7 x0 x1 x2 x3 x4 x5 → p8 x0 x1 x2 x3 x4 x5 → p9 x0 x1 x2 x3 x4 x5 → p10 x0 x1 x2 x3 x4 x5 → p11 x0 x1 x2 x3 x4 x5 → g) : g := Exists.elim h fun x0 h => Exists.elim h fun x1 h => Exists.elim h fun x2 h => Exists.elim h fun x3 h => Exists.elim h fun x4 h => Exists.elim h fun x5 h => k x0 x1 x2 x3 x4 x5 h.1 h.2.1 h.2.2.1 h.2.2.2.1 h.2.2.2.2.1 h.2.2.2.2.2.1 h.2.2.2.2.2.2.1 h.2.2.2.2.2.2.2.1 h.2.2.2.2.2.2.2.2.1 h.2.2.2.2.2.2.2.2.2.1 h.2.2.2.2.2.2.2.2.2.2.1 h.2.2.2.2.2.2.2.2.2.2.2
theorem oE7_1 {α0 α1 α2 α3 α4 α5 α6 : Type} {p0 : α0 → α1 → α2 → α3 → α4 → α5 → α6 → Prop} {g : Prop} (h : ∃ x0 x1 x2 x3 x4 x5 x6, p0 x0 x1 x2 x3 x4 x5 x6) (k : ∀ x0 x1 x2 x3 x4 x5 x6, p0 x0 x1 x2 x3 x4 x5 x6 → g) : g := Exists.elim h fun x0 h => Exists.elim h fun x1 h => Exists.elim h fun x2 h => Exists.elim h fun x3 h => Exists.elim h fun x4 h => Exists.elim h fun x5 h => Exists.elim h fun x6 h => k x0 x1 x2 x3 x4 x5 x6 h
theorem oE7_4 {α0 α1 α2 α3 α4 α5 α6 : Type} {p0 p1 p2 p3 : α0 → α1 → α2 → α3 → α4 → α5 → α6 → Prop} {g : Prop} (h : ∃ x0 x1 x2 x3 x4 x5 x6, p0 x0 x1 x2 x3 x4 x5 x6 ∧ p1 x0 x1 x2 x3 x4 x5 x6 ∧ p2 x0 x1 x2 x3 x4 x5 x6 ∧ p3 x0 x1 x2 x3 x4 x5 x6) (k : ∀ x0 x1 x2 x3 x4 x5 x6, p0 x0 x1 x2 x3 x4 x5 x6 → p1 x0 x1 x2 x3 x4 x5 x6 → p2 x0 x1 x2 x3 x4 x5 x6 → p3 x0 x1 x2 x3 x4 x5 x6 → g) : g := Exists.elim h fun x0 h => Exists.elim h fun x1 h => Exists.elim h fun x2 h => Exists.elim h fun x3 h => Exists.elim h fun x4 h => Exists.elim h fun x5 h => Exists.elim h fun x6 h => k x0 x1 x2 x3 x4 x5 x6 h.1 h.2.1 h.2.2.1 h.2.2.2
theorem oE7_6 {α0 α1 α2 α3 α4 α5 α6 : Type} {p0 p1 p2 p3 p4 p5 : α0 → α1 → α2 → α3 → α4 → α5 → α6 → Prop} {g : Prop} (h : ∃ x0 x1 x2 x3 x4 x5 x6, p0 x0 x1 x2 x3 x4 x5 x6 ∧ p1 x0 x1 x2 x3 x4 x5 x6 ∧ p2 x0 x1 x2 x3 x4 x5 x6 ∧ p3 x0 x1 x2 x3 x4 x5 x6 ∧ p4 x0 x1 x2 x3 x4 x5 x6 ∧ p5 x0 x1 x2 x3 x4 x5 x6) (k : ∀ x0 x1 x2 x3 x4 x5 x6, p0 x0 x1 x2 x3 x4 x5 x6 → p1 x0 x1 x2 x3 x4 x5 x6 → p2 x0 x1 x2 x3 x4 x5 x6 → p3 x0 x1 x2 x3 x4 x5 x6 → p4 x0 x1 x2 x3 x4 x5 x6 → p5 x0 x1 x2 x3 x4 x5 x6 → g) : g := Exists.elim h fun x0 h => Exists.elim h fun x1 h => Exists.elim h fun x2 h => Exists.elim h fun x3 h => Exists.elim h fun x4 h => Exists.elim h fun x5 h => Exists.elim h fun x6 h => k x0 x1 x2 x3 x4 x5 x6 h.1 h.2.1 h.2.2.1 h.2.2.2.1 h.2.2.2.2.1 h.2.2.2.2.2
theorem oE9_4 {α0 α1 α2 α3 α4 α5 α6 α7 α8 : Type} {p0 p1 p2 p3 : α0 → α1 → α2 → α3 → α4 → α5 → α6 → α7 → α8 → Prop} {g : Prop} (h : ∃ x0 x1 x2 x3 x4 x5 x6 x7 x8, p0 x0 x1 x2 x3 x4 x5 x6 x7 x8 ∧ p1 x0 x1 x2 x3 x4 x5 x6 x7 x8 ∧ p2 x0 x1 x2 x3 x4 x5 x6 x7 x8 ∧ p3 x0 x1 x2 x3 x4 x5 x6 x7 x8) (k : ∀ x0 x1 x2 x3 x4 x5 x6 x7 x8, p0 x0 x1 x2 x3 x4 x5 x6 x7 x8 → p1 x0 x1 x2 x3 x4 x5 x6 x7 x8 → p2 x0 x1 x2 x3 x4 x5 x6 x7 x8 → p3 x0 x1 x2 x3 x4 x5 x6 x7 x8 → g) : g := Exists.elim h fun x0 h => Exists.elim h fun x1 h => Exists.elim h fun x2 h => Exists.elim h fun x3 h => Exists.elim h fun x4 h => Exists.elim h fun x5 h => Exists.elim h fun x6 h => Exists.elim h fun x7 h => Exists.elim h fun x8 h => k x0 x1 x2 x3 x4 x5 x6 x7 x8 h.1 h.2.1 h.2.2.1 h.2.2.2
theorem oE13_3 {α0 α1 α2 α3 α4 α5 α6 α7 α8 α9 α10 α11 α12 : Type} {p0 p1 p2 : α0 → α1 → α2 → α3 → α4 → α5 → α6 → α7 → α8 → α9 → α10 → α11 → α12 → Prop} {g : Prop} (h : ∃ x0 x1 x2 x3 x4 x5 x6 x7 x8 x9 x10 x11 x12, p0 x0 x1 x2 x3 x4 x5 x6 x7 x8 x9 x10 x11 x12 ∧ p1 x0 x1 x2 x3 x4 x5 x6 x7 x8 x9 x10 x11 x12 ∧ p2 x0 x1 x2 x3 x4 x5 x6 x7 x8 x9 x10 x11 x12) (k : ∀ x0 x1 x2 x3 x4 x5 x6 x7 x8 x9 x10 x11 x12, p0 x0 x1 x2 x3 x4 x5 x6 x7 x8 x9 x10 x11 x12 → p1 x0 x1 x2 x3 x4 x5 x6 x7 x8 x9 x10 x11 x12 → p2 x0 x1 x2 x3 x4 x5 x6 x7 x8 x9 x10 x11 x12 → g) : g := Exists.elim h fun x0 h => Exists.elim h fun x1 h => Exists.elim h fun x2 h => Exists.elim h fun x3 h => Exists.elim h fun x4 h => Exists.elim h fun x5 h => Exists.elim h fun x6 h => Exists.elim h fun x7 h => Exists.elim h fun x8 h => Exists.elim h fun x9 h => Exists.elim h fun x10 h => Exists.elim h fun x11 h => Exists.elim h fun x12 h => k x0 x1 x2 x3 x4 x5 x6 x7 x8 x9 x10 x11 x12 h.1 h.2.1 h.2.2
theorem byG {p : Prop} (h : ∀ g : Prop, (p → g) → g) : p := h p id
set_option genInjectivity true in
inductive D where
  | none
  | bool (b : Bool)
  | int (i : Int)
  | str (x : Str)
  | tup (ds : List D)
  | lst (ds : List D)
  | hdr (ds : List D)
noncomputable def Keep (h h' : Heap) : Prop := ∀ b o, h.get? b = some o → h'.get? b = some o
theorem keepsE {s : Shared} {motive : (s1 : Shared) → Keeps s s1 → Prop} (mk : ∀ h tk (kk : Keep s.heap h), motive { s with heap := h, toks := tk } ⟨h, tk, rfl, kk⟩) {s1 : Shared} (k : Keeps s s1) : motive s1 k := by
  obtain ⟨h, tk, rfl, kk⟩ := k
  exact mk h tk kk
noncomputable def KeepW (W : Addr → Prop) (h h' : Heap) : Prop := ∀ b o, ¬ W b → h.get? b = some o → h'.get? b = some o
theorem Keep.refl (h : Heap) : Keep h h := fun _ _ e => e
theorem Keep.trans {a b c : Heap} (x : Keep a b) (y : Keep b c) : Keep a c := fun p o e => y p o (x p o e)
theorem Keep.push (h : Heap) (o : Obj) : Keep h (h.push o) := fun _ _ e => Heap.get?_push_of_some _ e
theorem Keep.W {h h' : Heap} (k : Keep h h') (W : Addr → Prop) : KeepW W h h' := fun b o _ e => k b o e
theorem KeepW.mono {W V : Addr → Prop} {h h' : Heap} (k : KeepW W h h') (s : ∀ a, W a → V a) : KeepW V h h' := fun b o n e => k b o (fun x => n (s b x)) e
theorem KeepW.refl (W : Addr → Prop) (h : Heap) : KeepW W h h := fun _ _ _ e => e
theorem KeepW.trans {W : Addr → Prop} {a b c : Heap} (x : KeepW W a b) (y : KeepW W b c) : KeepW W a c := fun p o n e => y p o n (x p o n e)
theorem keepW_of_same {a : Addr} {h h' : Heap} (s : Heap.SameBut a h h') : KeepW (· = a) h h' := fun b o n e => s.extBut b o n e
structure HdrAt (C : Addr) (h : Heap) (x dx l : Addr) (vs : List Value) : Prop where
  obj : h.get? x = some (instObj C dx)
  dict : ∃ es k, h.get? dx = some (dictOf es k) ∧ getL (Str.ofString "_headers") es = some (some (.ref l)) ∧
    ∀ nm ∈ (["_convert_string_type", "add_header", "get_all", "get", "keys", "items", "setdefault", "__setitem__", "__delitem__", "__init__"] : List String), getL (Str.ofString nm) es = some none
  list : h.PlainList l vs.toArray
set_option tactic.hygienic true
mutual
inductive Rp (P : Addr → Prop) (C : Addr) (h : Heap) : Value → D → Prop
  | none : Rp P C h .none .none
  | bool (b : Bool) : Rp P C h (.bool b) (.bool b)
  | int (i : Int) (t : Tok) : Rp P C h (.int i t) (.int i)
  | str (x : Str) (t : Tok) : Rp P C h (.str x t) (.str x)
  | tup {a : Addr} {vs : List Value} {ds : List D} : h.IsTuple a vs.toArray → RpA P C h vs ds → Rp P C h (.ref a) (.tup ds)
  | lst {a : Addr} {vs : List Value} {ds : List D} : P a → h.IsList a vs.toArray → RpA P C h vs ds → Rp P C h (.ref a) (.lst ds)
  | hdr {x dx l : Addr} {vs : List Value} {ds : List D} : P dx → P l → HdrAt C h x dx l vs → RpA P C h vs ds → Rp P C h (.ref x) (.hdr ds)
inductive RpA (P : Addr → Prop) (C : Addr) (h : Heap) : List Value → List D → Prop
  | nil : RpA P C h [] []
  | cons {v : Value} {vs : List Value} {d : D} {ds : List D} : Rp P C h v d → RpA P C h vs ds → RpA P C h (v :: vs) (d :: ds)
end
set_option tactic.hygienic false
noncomputable def KeepP (P : Addr → Prop) (C : Addr) (h h' : Heap) : Prop := ∀ b o, h.get? b = some o → (P b ∨ (o.cls = .type "tuple" ∧ ∃ vs n, o.data = .seq vs n) ∨ ∃ dx, o = instObj C dx) → h'.get? b = some o
theorem isList_keepP {P : Addr → Prop} {C : Addr} {h h' : Heap} (k : KeepP P C h h') {a : Addr} {its : Array Value} (x : h.IsList a its) (p : P a) : h'.IsList a its :=
  let ⟨o, ho, r⟩ := x; ⟨o, k _ _ ho (.inl p), r⟩
theorem plain_keepP {P : Addr → Prop} {C : Addr} {h h' : Heap} (k : KeepP P C h h') {a : Addr} {its : Array Value} (x : h.PlainList a its) (p : P a) : h'.PlainList a its :=
  let ⟨n, e⟩ := x; ⟨n, k _ _ e (.inl p)⟩
theorem isTuple_keepP {P : Addr → Prop} {C : Addr} {h h' : Heap} (k : KeepP P C h h') {a : Addr} {its : Array Value} (x : h.IsTuple a its) : h'.IsTuple a its :=
  let ⟨o, ho, c, n, r⟩ := x; ⟨o, k _ _ ho (.inr (.inl ⟨c, _, n, r⟩)), c, n, r⟩
theorem HdrAt.keepP {P : Addr → Prop} {C : Addr} {h h' : Heap} (k : KeepP P C h h') {x dx l : Addr} {vs : List Value} (pd : P dx) (pl : P l) (H : HdrAt C h x dx l vs) : HdrAt C h' x dx l vs :=
  ⟨k _ _ H.obj (.inr (.inr ⟨_, rfl⟩)), let ⟨es, m, e, r⟩ := H.dict; ⟨es, m, k _ _ e (.inl pd), r⟩, plain_keepP k H.list pl⟩
set_option tactic.hygienic true
mutual
theorem Rp.keepP {P : Addr → Prop} {C : Addr} {h h' : Heap} (k : KeepP P C h h') : ∀ {v : Value} {d : D}, Rp P C h v d → Rp P C h' v d
  | _, _, .none => .none
  | _, _, .bool b => .bool b
  | _, _, .int i t => .int i t
  | _, _, .str x t => .str x t
  | _, _, .tup e r => .tup (isTuple_keepP k e) (RpA.keepP k r)
  | _, _, .lst p e r => .lst p (isList_keepP k e p) (RpA.keepP k r)
  | _, _, .hdr pd pl H r => .hdr pd pl (H.keepP k pd pl) (RpA.keepP k r)
theorem RpA.keepP {P : Addr → Prop} {C : Addr} {h h' : Heap} (k : KeepP P C h h') : ∀ {vs : List Value} {ds : List D}, RpA P C h vs ds → RpA P C h' vs ds
  | _, _, .nil => .nil
  | _, _, .cons a r => .cons (Rp.keepP k a) (RpA.keepP k r)
end
set_option tactic.hygienic false
set_option tactic.hygienic true
mutual
theorem Rp.mono {P P' : Addr → Prop} {C : Addr} {h : Heap} (k : ∀ a o, h.get? a = some o → P a → P' a) : ∀ {v : Value} {d : D}, Rp P C h v d → Rp P' C h v d
  | _, _, .none => .none
  | _, _, .bool b => .bool b
  | _, _, .int i t => .int i t
  | _, _, .str x t => .str x t
  | _, _, .tup e r => .tup e (RpA.mono k r)
  | _, _, .lst p e r => .lst (let ⟨_, ho, _⟩ := e; k _ _ ho p) e (RpA.mono k r)
  | _, _, .hdr pd pl H r => .hdr (let ⟨_, _, e, _⟩ := H.dict; k _ _ e pd) (let ⟨_, ho⟩ := H.list; k _ _ ho pl) H (RpA.mono k r)
theorem RpA.mono {P P' : Addr → Prop} {C : Addr} {h : Heap} (k : ∀ a o, h.get? a = some o → P a → P' a) : ∀ {vs : List Value} {ds : List D}, RpA P C h vs ds → RpA P' C h vs ds
  | _, _, .nil => .nil
  | _, _, .cons a r => .cons (Rp.mono k a) (RpA.mono k r)
end
set_option tactic.hygienic false
section
variable {P : Addr → Prop} {C : Addr} {h h' : Heap} {v : Value} {vs ws : List Value} {d : D} {ds es : List D}
theorem Keep.toP (k : Keep h h') : KeepP P C h h' := fun b o e _ => k b o e
theorem Rp.keeps (r : Rp P C h v d) (k : Keep h h') : Rp P C h' v d := r.keepP k.toP
theorem RpA.keeps (r : RpA P C h vs ds) (k : Keep h h') : RpA P C h' vs ds := r.keepP k.toP
theorem RpA.length (r : RpA P C h vs ds) : vs.length = ds.length := by
  induction vs generalizing ds with
  | nil => cases r; rfl
  | cons v vs ih => cases r with | cons _ r => rw [List.length_cons, List.length_cons, ih r]
theorem RpA.append (r : RpA P C h vs ds) (k : RpA P C h ws es) : RpA P C h (vs ++ ws) (ds ++ es) := by
  induction vs generalizing ds with
  | nil => cases r; exact k
  | cons v vs ih => cases r with | cons a r => exact .cons a (ih r)
theorem RpA.one (r : Rp P C h v d) : RpA P C h [v] [d] := .cons r .nil
theorem RpA.get (r : RpA P C h vs ds) {k : Nat} (hk : ds[k]? = some d) : ∃ v, vs[k]? = some v ∧ Rp P C h v d := by
  induction vs generalizing ds k with
  | nil => cases r; cases hk
  | cons v vs ih =>
    cases r with
    | cons a r =>
      cases k with
      | zero => cases hk; exact ⟨v, rfl, a⟩
      | succ k => exact ih r hk
theorem RpA.getv (r : RpA P C h vs ds) {k : Nat} (hk : vs[k]? = some v) : ∃ d, ds[k]? = some d ∧ Rp P C h v d := by
  induction vs generalizing ds k with
  | nil => cases hk
  | cons v vs ih =>
    cases r with
    | cons a r =>
      cases k with
      | zero => cases hk; exact ⟨_, rfl, a⟩
      | succ k => exact ih r hk
theorem RpA.take (r : RpA P C h vs ds) (k : Nat) : RpA P C h (vs.take k) (ds.take k) := by
  induction vs generalizing ds k with
  | nil => cases r; rw [List.take_nil, List.take_nil]; exact .nil
  | cons v vs ih => cases r with | cons a r => cases k with
    | zero => exact .nil
    | succ k => exact .cons a (ih r k)
theorem RpA.drop (r : RpA P C h vs ds) (k : Nat) : RpA P C h (vs.drop k) (ds.drop k) := by
  induction vs generalizing ds k with
  | nil => cases r; rw [List.drop_nil, List.drop_nil]; exact .nil
  | cons v vs ih => cases r with | cons a r => cases k with
    | zero => exact .cons a r
    | succ k => exact ih r k
end
noncomputable def RpT (t : Bool) (P : Addr → Prop) (C : Addr) (h : Heap) (v : Value) (d : D) : Prop :=
  if t then (match d with
    | .lst ds => ∃ a vs, v = .ref a ∧ h.PlainList a vs.toArray ∧ RpA P C h vs ds
    | .hdr ds => ∃ x dx l vs, v = .ref x ∧ P dx ∧ HdrAt C h x dx l vs ∧ RpA P C h vs ds
    | d => Rp P C h v d)
  else Rp P C h v d
theorem RpT.keeps {P : Addr → Prop} {C : Addr} {h h' : Heap} {v : Value} {d : D} {t : Bool} (r : RpT t P C h v d) (k : Keep h h') : RpT t P C h' v d := by
  cases t with
  | false => exact Rp.keeps r k
  | true =>
    cases d with
    | lst ds => refine oE2_3 r fun a vs e1 e2 e3 => ?_; clear r; exact ⟨a, vs, e1, e2.at (fun o e => k _ _ e), e3.keeps k⟩
    | hdr ds => refine oE4_4 r fun x dx l vs e1 pd H e3 => ?_; clear r; exact ⟨x, dx, l, vs, e1, pd, ⟨k _ _ H.obj, (let ⟨es, m, e, r⟩ := H.dict; ⟨es, m, k _ _ e, r⟩), H.list.at (fun o e => k _ _ e)⟩, e3.keeps k⟩
    | none => exact Rp.keeps (show Rp P C h v _ from r) k
    | bool b => exact Rp.keeps (show Rp P C h v _ from r) k
    | int i => exact Rp.keeps (show Rp P C h v _ from r) k
    | str x => exact Rp.keeps (show Rp P C h v _ from r) k
    | tup ds => exact Rp.keeps (show Rp P C h v _ from r) k
theorem RpT.mono {P P' : Addr → Prop} {C : Addr} {h : Heap} {v : Value} {d : D} {t : Bool} (r : RpT t P C h v d) (k : ∀ a o, h.get? a = some o → P a → P' a) : RpT t P' C h v d := by
  cases t with
  | false => exact Rp.mono k r
  | true =>
    cases d with
    | lst ds => refine oE2_3 r fun a vs e1 e2 e3 => ?_; clear r; exact ⟨a, vs, e1, e2, e3.mono k⟩
    | hdr ds => refine oE4_4 r fun x dx l vs e1 pd H e3 => ?_; clear r; exact ⟨x, dx, l, vs, e1, (let ⟨_, _, e, _⟩ := H.dict; k _ _ e pd), H, e3.mono k⟩
    | none => exact Rp.mono k (show Rp P C h v _ from r)
    | bool b => exact Rp.mono k (show Rp P C h v _ from r)
    | int i => exact Rp.mono k (show Rp P C h v _ from r)
    | str x => exact Rp.mono k (show Rp P C h v _ from r)
    | tup ds => exact Rp.mono k (show Rp P C h v _ from r)
theorem RpT.list {P : Addr → Prop} {C : Addr} {h : Heap} {v : Value} {ds : List D} {t : Bool} (r : RpT t P C h v (.lst ds)) :
    ∃ a vs, v = .ref a ∧ h.IsList a vs.toArray ∧ RpA P C h vs ds := by
  cases t with
  | true => obtain ⟨a, vs, e, x, r⟩ := r; exact ⟨a, vs, e, x.isList, r⟩
  | false => cases (show Rp P C h v _ from r) with | lst p e r => exact ⟨_, _, rfl, e, r⟩
theorem RpT.plain {P : Addr → Prop} {C : Addr} {h : Heap} {v : Value} {ds : List D} (r : RpT true P C h v (.lst ds)) :
    ∃ a vs, v = .ref a ∧ h.PlainList a vs.toArray ∧ RpA P C h vs ds := r
theorem RpT.hdr {P : Addr → Prop} {C : Addr} {h : Heap} {v : Value} {ds : List D} {t : Bool} (r : RpT t P C h v (.hdr ds)) :
    ∃ x dx l vs, v = .ref x ∧ P dx ∧ HdrAt C h x dx l vs ∧ RpA P C h vs ds := by
  cases t with
  | true => exact r
  | false => cases (show Rp P C h v _ from r) with | hdr pd pl H r => exact ⟨_, _, _, _, rfl, pd, H, r⟩
theorem RpT.tup {P : Addr → Prop} {C : Addr} {h : Heap} {v : Value} {ds : List D} {t : Bool} (r : RpT t P C h v (.tup ds)) :
    ∃ a vs, v = .ref a ∧ h.IsTuple a vs.toArray ∧ RpA P C h vs ds := by
  cases t <;> (cases (show Rp P C h v _ from r) with | tup e r => exact ⟨_, _, rfl, e, r⟩)
theorem RpT.int {P : Addr → Prop} {C : Addr} {h : Heap} {v : Value} {i : Int} {t : Bool} (r : RpT t P C h v (.int i)) : ∃ tk, v = .int i tk := by
  cases t <;> (cases (show Rp P C h v _ from r); exact ⟨_, rfl⟩)
theorem RpT.str {P : Addr → Prop} {C : Addr} {h : Heap} {v : Value} {x : Str} {t : Bool} (r : RpT t P C h v (.str x)) : ∃ tk, v = .str x tk := by
  cases t <;> (cases (show Rp P C h v _ from r); exact ⟨_, rfl⟩)
theorem RpT.bool {P : Addr → Prop} {C : Addr} {h : Heap} {v : Value} {b : Bool} {t : Bool} (r : RpT t P C h v (.bool b)) : v = .bool b := by
  cases t <;> (cases (show Rp P C h v _ from r); rfl)
theorem RpT.none {P : Addr → Prop} {C : Addr} {h : Heap} {v : Value} {t : Bool} (r : RpT t P C h v .none) : v = .none := by
  cases t <;> (cases (show Rp P C h v _ from r); rfl)
theorem RpT.all {P : Addr → Prop} {C : Addr} {h : Heap} {v : Value} {d : D} {t : Bool} (r : RpT t P C h v d) : Rp (fun _ => True) C h v d := by
  cases t with
  | false => exact Rp.mono (fun _ _ _ _ => True.intro) r
  | true =>
    cases d with
    | lst ds => refine oE2_3 r fun a vs rq2 e2 e3 => ?_; clear r; subst rq2; exact .lst True.intro e2.isList (e3.mono fun _ _ _ _ => True.intro)
    | hdr ds => refine oE4_4 r fun x dx l vs rq1 pd H e3 => ?_; clear r; subst rq1; exact .hdr True.intro True.intro H (e3.mono fun _ _ _ _ => True.intro)
    | none => exact Rp.mono (fun _ _ _ _ => True.intro) (show Rp P C h v _ from r)
    | bool b => exact Rp.mono (fun _ _ _ _ => True.intro) (show Rp P C h v _ from r)
    | int i => exact Rp.mono (fun _ _ _ _ => True.intro) (show Rp P C h v _ from r)
    | str x => exact Rp.mono (fun _ _ _ _ => True.intro) (show Rp P C h v _ from r)
    | tup ds => exact Rp.mono (fun _ _ _ _ => True.intro) (show Rp P C h v _ from r)
noncomputable def Up (P : Addr → Prop) (h : Heap) : Prop := ∀ a, h.get? a = none → P a
theorem Up.keep {P : Addr → Prop} {h h' : Heap} (u : Up P h) (k : Keep h h') : Up P h' := fun a e => u a (by
  cases q : h.get? a with
  | none => rfl
  | some o => rw [k _ _ q] at e; cases e)
theorem get_size_none (h : Heap) : h.get? h.objs.size = none := by
  cases e : h.get? h.objs.size with
  | none => rfl
  | some o => exact absurd (Heap.lt_size e) (Nat.lt_irrefl _)
theorem Up.new {P : Addr → Prop} {h : Heap} (u : Up P h) : P h.objs.size := u _ (get_size_none h)
noncomputable def D.flat : D → Bool
  | .none | .bool _ | .int _ | .str _ => true
  | _ => false
theorem RpT.flat {P P' : Addr → Prop} {C : Addr} {h h' : Heap} {v : Value} {d : D} {t : Bool} (r : RpT t P C h v d) (f : d.flat = true) : Rp P' C h' v d := by
  cases d with
  | none => rw [r.none]; exact .none
  | bool b => rw [r.bool]; exact .bool b
  | int i => obtain ⟨_, e⟩ := r.int; rw [e]; exact .int _ _
  | str x => obtain ⟨_, e⟩ := r.str; rw [e]; exact .str _ _
  | tup _ => cases f
  | lst _ => cases f
  | hdr _ => cases f
end Mine
end
section
open PySem PySem.W PyProof.Rows
set_option autoImplicit false
namespace Mine
inductive Prim where
  | len | sum | sorted | sortedP | sortedSet | bitLen | join (sep : String) | count
inductive HM where
  | getAll | keys | items
noncomputable def hmName : HM → String
  | .getAll => "get_all"
  | .keys => "keys"
  | .items => "items"
noncomputable def hmKey : HM → String
  | .getAll => ".get_all"
  | .keys => ".keys"
  | .items => ".items"
noncomputable def hmKeys : List String := [".get_all", ".keys", ".items", ".setdefault", ".sortedP", ".sortedSet"]
inductive Tgt where
  | one (x : Nat)
  | many (xs : List Nat)
set_option tactic.hygienic true
mutual
inductive CE where
  | var (x : Nat)
  | cnone
  | cbool (b : Bool)
  | cint (i : Int)
  | cstr (s : String)
  | bin (op : Operator) (a b : CE)
  | cmp (op : CmpOp) (a b : CE)
  | neg (a : CE)
  | ite (c : CT) (a b : CE)
  | idx (a i : CE)
  | take (a : CE) (k : Nat)
  | drop (a : CE) (k : Nat)
  | dlst (es : List CE)
  | dtup (es : List CE)
  | comp (elt : CE) (tgt : Tgt) (it : CI) (conds : List CT)
  | call (f : String) (es : List CE)
  | prim (p : Prim) (es : List CE)
  | meth (m : HM) (o : CE) (es : List CE)
  | low (e : CE)
  | attr (x : Nat)
  | conv (x : Nat) (e : CE) (b : Bool)
  | copy (e : CE)
inductive CT where
  | val (e : CE)
  | not (t : CT)
  | and (ts : List CT)
  | or (ts : List CT)
  | cmp (op : CmpOp) (a b : CE)
inductive CI where
  | ce (e : CE)
  | rng (es : List CE)
end
set_option tactic.hygienic false
inductive CS where
  | asg (x : Nat) (e : CE)
  | asgM (xs : List Nat) (e : CE)
  | own (x : Nat) (e : CE)
  | app (x : Nat) (e : CE)
  | ext (x : Nat) (e : CE)
  | aug (x : Nat) (e : CE)
  | newH (x : Nat) (y : Option Nat)
  | addH (x : Nat) (n v : CE)
  | delH (x : Nat) (n : CE)
  | ifAddH (x : Nat) (n v : CE) (body : List CS)
  | ite (t : CT) (a b : List CS)
  | for_ (tgt : Tgt) (it : CI) (body : List CS)
  | ret (e : CE)
noncomputable abbrev TD := D × Bool
set_option tactic.hygienic true
mutual
noncomputable def toPy : D → PyData
  | .none => .none
  | .bool b => .bool b
  | .int i => .int i
  | .str x => .str x
  | .tup ds => .tuple (toPys ds)
  | .lst ds => .list (toPys ds)
  | .hdr _ => .none
noncomputable def toPys : List D → List PyData
  | [] => []
  | d :: ds => toPy d :: toPys ds
end
set_option tactic.hygienic false
set_option tactic.hygienic true
mutual
noncomputable def D.noHdr : D → Bool
  | .tup ds => noHdrs ds
  | .lst ds => noHdrs ds
  | .hdr _ => false
  | _ => true
noncomputable def noHdrs : List D → Bool
  | [] => true
  | d :: ds => d.noHdr && noHdrs ds
end
set_option tactic.hygienic false
noncomputable def okc (d : D) : Bool := d.noHdr && SeqAt.shaped (toPy d)
noncomputable def eqD (a b : D) : Bool := PyData.eqv (toPy a) (toPy b)
noncomputable def lineN : Nat := 2 ^ 20
noncomputable def smallI (i : Int) : Bool := decide (-(2 ^ 40) < i) && decide (i < 2 ^ 40)
noncomputable def lstD {β : Type} (f : List D → Option β) : D → Option β
  | .lst ds => f ds
  | _ => none
noncomputable def tupD {β : Type} (f : List D → Option β) : D → Option β
  | .tup ds => f ds
  | _ => none
noncomputable def strD {β : Type} (f : Str → Option β) : D → Option β
  | .str x => f x
  | _ => none
noncomputable def intD {β : Type} (f : Int → Option β) : D → Option β
  | .int i => f i
  | _ => none
theorem lstD_ {β : Type} {f : List D → Option β} {a : D} {b : β} (h : lstD f a = some b) : ∃ x, a = .lst x ∧ f x = some b := by
  cases a <;> first | exact ⟨_, rfl, h⟩ | cases h
theorem tupD_ {β : Type} {f : List D → Option β} {a : D} {b : β} (h : tupD f a = some b) : ∃ x, a = .tup x ∧ f x = some b := by
  cases a <;> first | exact ⟨_, rfl, h⟩ | cases h
theorem strD_ {β : Type} {f : Str → Option β} {a : D} {b : β} (h : strD f a = some b) : ∃ x, a = .str x ∧ f x = some b := by
  cases a <;> first | exact ⟨_, rfl, h⟩ | cases h
theorem intD_ {β : Type} {f : Int → Option β} {a : D} {b : β} (h : intD f a = some b) : ∃ x, a = .int x ∧ f x = some b := by
  cases a <;> first | exact ⟨_, rfl, h⟩ | cases h
noncomputable def on1 {α β : Type} (f : α → Option β) : List α → Option β
  | [a] => f a
  | _ => none
noncomputable def on2 {α β : Type} (f : α → α → Option β) : List α → Option β
  | [a, b] => f a b
  | _ => none
theorem on1_ {α β : Type} {f : α → Option β} {l : List α} {b : β} (h : on1 f l = some b) : ∃ x, l = [x] ∧ f x = some b := by
  match l, h with
  | [x], h => exact ⟨x, rfl, h⟩
  | [], h => cases h
  | _ :: _ :: _, h => cases h
theorem on2_ {α β : Type} {f : α → α → Option β} {l : List α} {b : β} (h : on2 f l = some b) : ∃ x y, l = [x, y] ∧ f x y = some b := by
  match l, h with
  | [x, y], h => exact ⟨x, y, rfl, h⟩
  | [], h => cases h
  | [_], h => cases h
  | _ :: _ :: _ :: _, h => cases h
noncomputable def ii (a b : D) (f : Int → Int → Option D) : Option D := intD (fun x => intD (f x) b) a
theorem ii_ {a b d : D} {f : Int → Int → Option D} (h : ii a b f = some d) : ∃ x y, a = .int x ∧ b = .int y ∧ f x y = some d := by
  refine oE1_2 (intD_ h) fun x e h1 => ?_
  refine oE1_2 (intD_ h1) fun y e2 h2 => ?_
  exact ⟨x, y, e, e2, h2⟩
noncomputable def addI (a b : D) : Option D := ii a b fun a b => some (.int (a + b))
noncomputable def addS (a b : D) : Option D := strD (fun a => strD (fun b => if a.length + b.length ≤ lineN then some (.str (a ++ b)) else none) b) a
noncomputable def addL (a b : D) : Option D := lstD (fun a => lstD (fun b => if a.length + b.length ≤ lineN then some (.lst (a ++ b)) else none) b) a
noncomputable def addD (a b : D) : Option D := match a with
  | .int _ => addI a b
  | .str _ => addS a b
  | _ => addL a b
theorem addD_ {a b d : D} (h : addD a b = some d) : addI a b = some d ∨ addS a b = some d ∨ addL a b = some d := by
  cases a <;> first | exact .inl h | exact .inr (.inl h) | exact .inr (.inr h)
noncomputable def mulI (a b : D) : Option D := ii a b fun a b => if smallI a && smallI b then some (.int (a * b)) else none
noncomputable def mulS (a b : D) : Option D := strD (fun a => intD (fun n => if decide (0 ≤ n) && decide (n ≤ 2 ^ 20) && decide (a.length ≤ 16) then some (.str (Txt.mul a n)) else none) b) a
noncomputable def mulD (a b : D) : Option D := match a with
  | .int _ => mulI a b
  | _ => mulS a b
theorem mulD_ {a b d : D} (h : mulD a b = some d) : mulI a b = some d ∨ mulS a b = some d := by
  cases a <;> first | exact .inl h | exact .inr h
noncomputable def binD (op : Operator) (a b : D) : Option D := match op with
  | .Add => addD a b
  | .Sub => ii a b fun a b => some (.int (a - b))
  | .Mult => mulD a b
  | .Mod => ii a b fun a b => if b ≠ 0 then some (.int (a.fmod b)) else none
  | .FloorDiv => ii a b fun a b => if decide (b ≠ 0) && decide (b.natAbs < 2 ^ 29) then some (.int (a.fdiv b)) else none
  | .Pow => ii a b fun a n => if decide (0 ≤ n) && decide (n ≤ 64) && decide (a = 2) then some (.int (a ^ n.toNat)) else none
  | .RShift => ii a b fun a n => if 0 ≤ n then some (.int (a.fdiv (2 ^ n.toNat))) else none
  | .BitAnd => ii a b fun a b => some (.int (Builtin.bitAnd a b))
  | .BitXor => ii a b fun a b => some (.int (Builtin.bitXor a b))
  | _ => none
noncomputable def isN (r : Bool) : D → Option Bool
  | .none => some r
  | _ => none
noncomputable def isB (r : Bool) : D → Option Bool
  | .bool b => some (r == b)
  | _ => none
theorem isN_ {r x : Bool} {d : D} (h : isN r d = some x) : d = .none ∧ r = x := by
  cases d <;> first | exact ⟨rfl, Option.some.inj h⟩ | cases h
theorem isB_ {r x : Bool} {d : D} (h : isB r d = some x) : ∃ b, d = .bool b ∧ (r == b) = x := by
  cases d <;> first | exact ⟨_, rfl, Option.some.inj h⟩ | cases h
noncomputable def isD (a b : D) : Option Bool := match a with
  | .none => isN true b
  | .bool x => isB x b
  | .str _ => isN false b
  | _ => none
noncomputable def jj (a b : D) (f : Int → Int → Bool) : Option Bool := intD (fun x => intD (fun y => some (f x y)) b) a
theorem jj_ {a b : D} {r : Bool} {f : Int → Int → Bool} (h : jj a b f = some r) : ∃ x y, a = .int x ∧ b = .int y ∧ some (f x y) = some r := by
  refine oE1_2 (intD_ h) fun x e h1 => ?_
  refine oE1_2 (intD_ h1) fun y e2 h2 => ?_
  exact ⟨x, y, e, e2, h2⟩
noncomputable def inL (a b : D) : Option Bool := lstD (fun bs => if okc a && okc (.lst bs) then some (bs.any fun b => eqD b a) else none) b
noncomputable def inS (a b : D) : Option Bool := strD (fun b => strD (fun a => some (Txt.contains b a)) a) b
noncomputable def inD (a b : D) : Option Bool := match b with
  | .lst _ => inL a b
  | _ => inS a b
theorem inD_ {a b : D} {r : Bool} (h : inD a b = some r) : inL a b = some r ∨ inS a b = some r := by
  cases b <;> first | exact .inl h | exact .inr h
noncomputable def cmpD (op : CmpOp) (a b : D) : Option Bool := match op with
  | .Eq => if okc a && okc b then some (eqD a b) else none
  | .NotEq => if okc a && okc b then some (!eqD a b) else none
  | .Lt => jj a b fun a b => decide (a < b)
  | .LtE => jj a b fun a b => decide (a ≤ b)
  | .Gt => jj a b fun a b => decide (a > b)
  | .GtE => jj a b fun a b => decide (a ≥ b)
  | .Is => isD a b
  | .IsNot => (isD a b).map (!·)
  | .In => inD a b
  | .NotIn => (inD a b).map (!·)
noncomputable def atI {β : Type} (f : Nat → Option β) (i : D) : Option β := intD (fun i => if decide (0 ≤ i) && decide (i < 2 ^ 62) then f i.toNat else none) i
set_option tactic.hygienic true in
theorem atI_ {β : Type} {f : Nat → Option β} {i : D} {b : β} (h : atI f i = some b) : ∃ n : Int, i = .int n ∧ (0 ≤ n ∧ n < 2 ^ 62) ∧ f n.toNat = some b := by
  refine oE1_2 (intD_ h) fun n e h1 => ?_
  split at h1
  · rename_i q
    simp only [Bool.and_eq_true, decide_eq_true_eq] at q
    exact ⟨n, e, q, h1⟩
  · cases h1
noncomputable def idxD (a i : D) : Option D := match a with
  | .lst ds => atI (ds[·]?) i
  | .tup ds => atI (ds[·]?) i
  | .str x => atI (fun n => (x.cps[n]?).map fun c => .str ⟨#[c]⟩) i
  | _ => none
noncomputable def takeD (k : Nat) : D → Option D
  | .lst ds => if ds.length ≤ lineN then some (.lst (ds.take k)) else none
  | _ => none
noncomputable def dropD (k : Nat) : D → Option D
  | .lst ds => if ds.length ≤ lineN then some (.lst (ds.drop k)) else none
  | _ => none
noncomputable def truD : D → Option Bool
  | .bool b => some b
  | .int i => some (i != 0)
  | _ => none
noncomputable def asInts : List D → Option (List Int)
  | [] => some []
  | .int i :: r => (asInts r).map (i :: ·)
  | _ => none
noncomputable def asStrs : List D → Option (List Str)
  | [] => some []
  | .str i :: r => (asStrs r).map (i :: ·)
  | _ => none
noncomputable def pairOf (d : D) : Option (Str × Str) := tupD (on2 fun a b => strD (fun a => strD (fun b => some (a, b)) b) a) d
noncomputable def asPairs : List D → Option (List (Str × Str))
  | [] => some []
  | d :: r => match pairOf d with
    | some p => (asPairs r).map (p :: ·)
    | none => none
noncomputable def insI (a : Int) : List Int → List Int
  | [] => [a]
  | b :: r => if a ≤ b then a :: b :: r else b :: insI a r
noncomputable def sortI (l : List Int) : List Int := l.foldr insI []
noncomputable def strLe (a b : Str) : Bool := decide (a.cps.toList ≤ b.cps.toList)
noncomputable def pairLe (a b : Str × Str) : Bool := if a.1 = b.1 then strLe a.2 b.2 else strLe a.1 b.1
noncomputable def insP (a : Str × Str) : List (Str × Str) → List (Str × Str)
  | [] => [a]
  | b :: r => if pairLe a b then a :: b :: r else b :: insP a r
noncomputable def sortP (l : List (Str × Str)) : List (Str × Str) := l.foldr insP []
noncomputable def pairD (p : Str × Str) : D := .tup [.str p.1, .str p.2]
noncomputable def bitsI (i : Int) : Int := Builtin.Int.intBits i
noncomputable def lenD (d : D) : Option D := match d with
  | .lst ds => if ds.length ≤ lineN then some (.int ds.length) else none
  | .str x => if x.length ≤ lineN then some (.int x.length) else none
  | _ => none
noncomputable def primD : Prim → List D → Option D
  | .len => on1 lenD
  | .sum => on1 (lstD fun ds => (asInts ds).map fun is => .int is.sum)
  | .sorted => on1 (lstD fun ds => if ds.length < 64 then (asInts ds).map fun is => .lst ((sortI is).map .int) else none)
  | .sortedP => on1 (lstD fun ds => if ds.length < 64 then (asPairs ds).map fun ps => .lst ((sortP ps).map pairD) else none)
  | .sortedSet => on1 (lstD fun ds => if ds.length < 64 then (asInts ds).bind fun is => if is.all fun i => decide (0 ≤ i) && decide (i < 16) then some (.lst ((sortI is.eraseDups).map .int)) else none else none)
  | .bitLen => on1 (intD fun i => if smallI i then some (.int (bitsI i)) else none)
  | .join sep => on1 (lstD fun ds => (asStrs ds).bind fun xs => if (xs.map (·.length)).sum + xs.length ≤ 1048576 ∧ (Str.ofString sep).length ≤ 16 then some (.str (Txt.join (Str.ofString sep) xs)) else none)
  | .count => on2 fun a b => lstD (fun ds => intD (fun k => (asInts ds).map fun is => .int (is.count k)) b) a
noncomputable def Prim.own : Prim → Bool
  | .count => true
  | _ => false
noncomputable def lowL (c : Nat) : Nat := if 65 ≤ c && c ≤ 90 then c + 32 else c
noncomputable def lowS (x : Str) : Str := ⟨x.cps.map lowL⟩
noncomputable def letter (c : Nat) : Bool := (65 ≤ c && c ≤ 90) || (97 ≤ c && c ≤ 122)
noncomputable def plainS (x : Str) : Bool := x.cps.all letter && decide (x.length ≤ 64)
noncomputable def nil0 {α β : Type} (r : Option β) : List α → Option β
  | [] => r
  | _ => none
theorem nil0_ {α β : Type} {r : Option β} {l : List α} {b : β} (h : nil0 r l = some b) : l = [] ∧ r = some b := by
  cases l with
  | nil => exact ⟨rfl, h⟩
  | cons _ _ => cases h
noncomputable def methD (m : HM) (ds : List D) : List D → Option D := match m with
  | .keys => nil0 (if ds.length ≤ lineN then (asPairs ds).map fun ps => .lst (ps.map fun p => .str p.1) else none)
  | .items => nil0 (if ds.length ≤ lineN then some (.lst ds) else none)
  | .getAll => on1 (strD fun x => if plainS x && decide (ds.length ≤ lineN) then (asPairs ds).bind fun ps => if ps.all fun p => plainS p.1 then some (.lst ((ps.filter fun p => decide (lowS p.1 = lowS x)).map fun p => .str p.2)) else none else none)
noncomputable def rngS (a b c : Int) : List D := (List.range (Builtin.Range.rangeSize a b c).toNat).map fun (i : Nat) => .int (a + (i : Int) * c)
noncomputable def on3 {α β : Type} (f : α → Option β) (g : α → α → Option β) (h : α → α → α → Option β) : List α → Option β
  | [a] => f a
  | [a, b] => g a b
  | [a, b, c] => h a b c
  | _ => none
theorem on3_ {α β : Type} {f : α → Option β} {g : α → α → Option β} {h : α → α → α → Option β} {l : List α} {y : β} (e : on3 f g h l = some y) :
    (∃ a, l = [a] ∧ f a = some y) ∨ (∃ a b, l = [a, b] ∧ g a b = some y) ∨ ∃ a b c, l = [a, b, c] ∧ h a b c = some y := by
  match l, e with
  | [a], e => exact .inl ⟨a, rfl, e⟩
  | [a, b], e => exact .inr (.inl ⟨a, b, rfl, e⟩)
  | [a, b, c], e => exact .inr (.inr ⟨a, b, c, rfl, e⟩)
  | [], e => cases e
  | _ :: _ :: _ :: _ :: _, e => cases e
noncomputable def rng3 (a b c : Int) : Option (List D) := if Builtin.Range.small a b c && decide (c ≠ 0) && decide (c.natAbs < 2 ^ 29) then some (rngS a b c) else none
noncomputable def rng2 (a b : Int) : Option (List D) := if Builtin.Range.small a b 1 then some (rngS a b 1) else none
noncomputable def rngD (ds : List D) : Option (List D) := on3 (intD (rng2 0)) (fun a b => intD (fun a => intD (rng2 a) b) a) (fun a b c => intD (fun a => intD (fun b => intD (rng3 a b) c) b) a) ds
noncomputable def itemsD : D → Option (List D)
  | .lst ds => some ds
  | .str x => some (x.cps.toList.map fun c => .str ⟨#[c]⟩)
  | _ => none
noncomputable abbrev Env' := Nat → Option TD
noncomputable def bind1 (ρ : Env') (x : Nat) (d : D) : Env' := fun y => if y = x then some (d, false) else ρ y
noncomputable def bindT (t : Tgt) (d : D) (ρ : Env') : Option Env' := match t with
  | .one x => some (bind1 ρ x d)
  | .many xs => tupD (fun ds => if xs.length = ds.length then some ((xs.zip ds).foldl (fun r p => bind1 r p.1 p.2) ρ) else none) d
noncomputable def emb : TD → Option D
  | (d, t) => if !t || d.flat then some d else none
noncomputable abbrev Fns := String → Option (List D → Option D)
noncomputable def gate (Φ : Fns) : Prim → Bool
  | .sortedP => (Φ ".sortedP").isSome
  | .sortedSet => (Φ ".sortedSet").isSome
  | _ => true
noncomputable def primT (Φ : Fns) (p : Prim) (xs : List (D × Bool)) : Option D := if (p.own && !(xs.head?.any (·.2))) || !gate Φ p then none else primD p (xs.map (·.1))
noncomputable def compL (f : D → Option (Option D)) : List D → Option (List D)
  | [] => some []
  | d :: r => match f d with
    | some (some y) => (compL f r).map (y :: ·)
    | some none => compL f r
    | none => none
set_option tactic.hygienic true
mutual
noncomputable def ev (Φ : Fns) : CE → Env' → Option TD
  | .var x, ρ => ρ x
  | .cnone, _ => some (.none, false)
  | .cbool b, _ => some (.bool b, false)
  | .cint i, _ => some (.int i, false)
  | .cstr s, _ => some (.str (Str.ofString s), false)
  | .bin op a b, ρ => match ev Φ a ρ, ev Φ b ρ with
    | some x, some y => (binD op x.1 y.1).map (·, false)
    | _, _ => none
  | .cmp op a b, ρ => match ev Φ a ρ, ev Φ b ρ with
    | some x, some y => (cmpD op x.1 y.1).map (.bool ·, false)
    | _, _ => none
  | .neg a, ρ => match ev Φ a ρ with
    | some (.int i, _) => some (.int (-i), false)
    | _ => none
  | .ite c a b, ρ => match tr Φ c ρ with
    | some true => ev Φ a ρ
    | some false => ev Φ b ρ
    | none => none
  | .idx a i, ρ => match ev Φ a ρ, ev Φ i ρ with
    | some x, some y => (idxD x.1 y.1).map (·, false)
    | _, _ => none
  | .take a k, ρ => match ev Φ a ρ with
    | some x => (takeD k x.1).map (·, false)
    | none => none
  | .drop a k, ρ => match ev Φ a ρ with
    | some x => (dropD k x.1).map (·, false)
    | none => none
  | .dlst es, ρ => if es.length ≤ lineN then (match evs Φ es ρ with
    | some xs => (xs.mapM emb).map (.lst ·, false)
    | none => none) else none
  | .dtup es, ρ => if es.length ≤ lineN then (match evs Φ es ρ with
    | some xs => (xs.mapM emb).map (.tup ·, false)
    | none => none) else none
  | .comp elt tgt it conds, ρ => match wk Φ it ρ with
    | some ds => if ds.length ≤ lineN then (compL (fun d => match bindT tgt d ρ with
        | some ρ' => (match trAnd Φ conds ρ' with
          | some true => (match ev Φ elt ρ' with
            | some y => (emb y).map some
            | none => none)
          | some false => some none
          | none => none)
        | none => none) ds).map (.lst ·, false) else none
    | none => none
  | .call f es, ρ => match Φ f, evs Φ es ρ with
    | some F, some xs => (match F (xs.map (·.1)) with
      | some d => if xs.all (!·.2) || d.flat then some (d, false) else none
      | none => none)
    | _, _ => none
  | .prim p es, ρ => match evs Φ es ρ with
    | some xs => (primT Φ p xs).map (·, false)
    | none => none
  | .meth m o es, ρ => match Φ (hmKey m), ev Φ o ρ, evs Φ es ρ with
    | some _, some (.hdr ds, _), some xs => (methD m ds (xs.map (·.1))).map (·, false)
    | _, _, _ => none
  | .low e, ρ => match ev Φ e ρ with
    | some (.str x, _) => if plainS x then some (.str (lowS x), false) else none
    | _ => none
  | .attr x, ρ => match ρ x with
    | some (.hdr ds, t) => some (.lst ds, t)
    | _ => none
  | .conv x e _, ρ => match ρ x, ev Φ e ρ with
    | some (.hdr _, _), some (.str y, _) => if plainS y then some (.str y, false) else none
    | _, _ => none
  | .copy e, ρ => match ev Φ e ρ with
    | some (.lst ds, _) => if ds.length ≤ lineN then some (.lst ds, false) else none
    | _ => none
noncomputable def tr (Φ : Fns) : CT → Env' → Option Bool
  | .val e, ρ => match ev Φ e ρ with
    | some x => truD x.1
    | none => none
  | .not t, ρ => (tr Φ t ρ).map (!·)
  | .and ts, ρ => trAnd Φ ts ρ
  | .or ts, ρ => trOr Φ ts ρ
  | .cmp op a b, ρ => match ev Φ a ρ, ev Φ b ρ with
    | some x, some y => cmpD op x.1 y.1
    | _, _ => none
noncomputable def trAnd (Φ : Fns) : List CT → Env' → Option Bool
  | [], _ => some true
  | t :: r, ρ => match tr Φ t ρ with
    | some true => trAnd Φ r ρ
    | some false => some false
    | none => none
noncomputable def trOr (Φ : Fns) : List CT → Env' → Option Bool
  | [], _ => some false
  | t :: r, ρ => match tr Φ t ρ with
    | some true => some true
    | some false => trOr Φ r ρ
    | none => none
noncomputable def wk (Φ : Fns) : CI → Env' → Option (List D)
  | .ce e, ρ => match ev Φ e ρ with
    | some x => itemsD x.1
    | none => none
  | .rng es, ρ => match evs Φ es ρ with
    | some xs => rngD (xs.map (·.1))
    | none => none
noncomputable def evs (Φ : Fns) : List CE → Env' → Option (List TD)
  | [], _ => some []
  | e :: r, ρ => match ev Φ e ρ, evs Φ r ρ with
    | some x, some xs => some (x :: xs)
    | _, _ => none
end
set_option tactic.hygienic false
inductive Slot where
  | val (d : D)
  | own (k : Nat)
  | hob (k : Nat)
  | nest (ks : List Nat)
  | raw (d : D) (a : Nat)
  | fix (a : Nat)
structure St where
  ρ : Nat → Option Slot
  σ : List (List D)
noncomputable def St.view (st : St) : Env' := fun x => match st.ρ x with
  | some (.val d) => some (d, false)
  | some (.own k) => (st.σ[k]?).map fun ds => (.lst ds, true)
  | some (.hob k) => (st.σ[k]?).map fun ds => (.hdr ds, true)
  | some (.raw d _) => some (d, true)
  | _ => none
noncomputable def St.last (st : St) : Env' := fun x => match st.ρ x with
  | some (.val d) => some (d, false)
  | some (.own k) => (st.σ[k]?).map fun ds => (.lst ds, false)
  | some (.hob k) => (st.σ[k]?).map fun ds => (.hdr ds, false)
  | some (.nest ks) => (ks.mapM fun k => (st.σ[k]?).map D.lst).map fun ds => (.lst ds, false)
  | some (.raw d _) => some (d, true)
  | some (.fix _) => none
  | none => none
inductive Fl where
  | next
  | ret (d : D)
noncomputable def St.set (st : St) (x : Nat) (s : Slot) : St := { st with ρ := fun y => if y = x then some s else st.ρ y }
noncomputable def setT (t : Tgt) (d : D) (st : St) : Option St := match t with
  | .one x => some (st.set x (.val d))
  | .many xs => tupD (fun ds => if xs.length = ds.length then some ((xs.zip ds).foldl (fun r p => r.set p.1 (.val p.2)) st) else none) d
noncomputable def St.upd (st : St) (k : Nat) (f : List D → Option (List D)) : Option St := match st.σ[k]? with
  | some ds => (f ds).map fun es => { st with σ := st.σ.set k es }
  | none => none
noncomputable def loopG (f : D → St → Option (St × Fl)) : List D → St → Option (St × Fl)
  | [], st => some (st, .next)
  | d :: r, st => match f d st with
    | some (st', .next) => loopG f r st'
    | o => o
noncomputable def plainP : D → D → Bool
  | .str n, .str v => plainS n && plainS v
  | _, _ => false
noncomputable def addHdr (n v : D) (ds : List D) : Option (List D) := if plainP n v && decide (ds.length ≤ lineN) then some (ds ++ [.tup [n, v]]) else none
noncomputable def nameIs (x : Str) : D → Bool
  | .tup [.str a, .str _] => decide (lowS a = lowS x)
  | _ => false
noncomputable def goodPairs (ds : List D) : Bool := match asPairs ds with
  | some ps => ps.all fun p => plainS p.1
  | none => false
noncomputable def delHdr (n : D) (ds : List D) : Option (List D) := match n with
  | .str x => if plainS x && goodPairs ds && decide (ds.length ≤ lineN) then some (ds.filter fun d => !nameIs x d) else none
  | _ => none
noncomputable def e2 (Φ : Fns) (ρ : Env') (a b : CE) : Option (D × D) := match ev Φ a ρ, ev Φ b ρ with
  | some x, some y => some (x.1, y.1)
  | _, _ => none
set_option tactic.hygienic true
mutual
noncomputable def cx (Φ : Fns) : CS → St → Option (St × Fl)
  | .asg x e, st => match ev Φ e st.view with
    | some y => (emb y).map fun d => (st.set x (.val d), .next)
    | none => none
  | .asgM xs e, st => match ev Φ e st.view with
    | some (d, false) => (setT (.many xs) d st).map (·, .next)
    | _ => none
  | .own x e, st => match ev Φ e st.view with
    | some (.lst ds, false) => some ({ ρ := fun y => if y = x then some (.own st.σ.length) else st.ρ y, σ := st.σ ++ [ds] }, .next)
    | _ => none
  | .app x e, st => match st.ρ x, ev Φ e st.view with
    | some (.own k), some y => (emb y).bind fun d => (st.upd k fun ds => if ds.length ≤ lineN then some (ds ++ [d]) else none).map (·, .next)
    | _, _ => none
  | .ext x e, st => match st.ρ x, ev Φ e st.view with
    | some (.own k), some (.lst es, _) => (st.upd k fun ds => if ds.length + es.length ≤ lineN then some (ds ++ es) else none).map (·, .next)
    | _, _ => none
  | .aug x e, st => match st.view x, ev Φ e st.view with
    | some (.int a, _), some (.int b, _) => some (st.set x (.val (.int (Builtin.bitAnd a b))), .next)
    | _, _ => none
  | .newH x none, st => some ({ ρ := fun y => if y = x then some (.hob st.σ.length) else st.ρ y, σ := st.σ ++ [[]] }, .next)
  | .newH x (some z), st => match st.ρ z with
    | some (.own k) => if (match st.σ[k]? with | some [] => true | _ => false) then some (st.set x (.hob k), .next) else none
    | _ => none
  | .addH x n v, st => match st.ρ x, e2 Φ st.view n v with
    | some (.hob k), some p => (st.upd k (addHdr p.1 p.2)).map (·, .next)
    | _, _ => none
  | .delH x n, st => match st.ρ x, ev Φ n st.view with
    | some (.hob k), some y => (st.upd k (delHdr y.1)).map (·, .next)
    | _, _ => none
  | .ifAddH x n v _, st => match st.ρ x, e2 Φ st.view n v with
    | some (.hob k), some p => (st.upd k (addHdr p.1 p.2)).map (·, .next)
    | _, _ => none
  | .ite t a b, st => match tr Φ t st.view with
    | some true => cxs Φ a st
    | some false => cxs Φ b st
    | none => none
  | .for_ tgt it body, st => match (match it with
      | .ce e => (match ev Φ e st.view with
        | some (d, false) => itemsD d
        | _ => none)
      | it => wk Φ it st.view) with
    | some ds => loopG (fun d s => match setT tgt d s with
      | some s' => cxs Φ body s'
      | none => none) ds st
    | none => none
  | .ret e, st => match ev Φ e st.view with
    | some (d, false) => some (st, .ret d)
    | _ => (match ev Φ e st.last with
      | some (d, false) => some (st, .ret d)
      | _ => none)
noncomputable def cxs (Φ : Fns) : List CS → St → Option (St × Fl)
  | [], st => some (st, .next)
  | c :: r, st => match cx Φ c st with
    | some (st', .next) => cxs Φ r st'
    | o => o
end
set_option tactic.hygienic false
theorem q_var {Φ : Fns} {x ρ} : ev Φ (.var x) ρ = (ρ x) := rfl
theorem q_cnone {Φ : Fns} {ρ} : ev Φ .cnone ρ = (some (.none, false)) := rfl
theorem q_cbool {Φ : Fns} {b ρ} : ev Φ (.cbool b) ρ = (some (.bool b, false)) := rfl
theorem q_cint {Φ : Fns} {i ρ} : ev Φ (.cint i) ρ = (some (.int i, false)) := rfl
theorem q_cstr {Φ : Fns} {s ρ} : ev Φ (.cstr s) ρ = (some (.str (Str.ofString s), false)) := rfl
theorem q_bin {Φ : Fns} {op a b ρ} : ev Φ (.bin op a b) ρ = (match ev Φ a ρ, ev Φ b ρ with
    | some x, some y => (binD op x.1 y.1).map (·, false)
    | _, _ => none) := rfl
theorem q_cmp {Φ : Fns} {op a b ρ} : ev Φ (.cmp op a b) ρ = (match ev Φ a ρ, ev Φ b ρ with
    | some x, some y => (cmpD op x.1 y.1).map (.bool ·, false)
    | _, _ => none) := rfl
theorem q_neg {Φ : Fns} {a ρ} : ev Φ (.neg a) ρ = (match ev Φ a ρ with
    | some (.int i, _) => some (.int (-i), false)
    | _ => none) := rfl
theorem q_ite {Φ : Fns} {c a b ρ} : ev Φ (.ite c a b) ρ = (match tr Φ c ρ with
    | some true => ev Φ a ρ
    | some false => ev Φ b ρ
    | none => none) := rfl
theorem q_idx {Φ : Fns} {a i ρ} : ev Φ (.idx a i) ρ = (match ev Φ a ρ, ev Φ i ρ with
    | some x, some y => (idxD x.1 y.1).map (·, false)
    | _, _ => none) := rfl
theorem q_take {Φ : Fns} {a k ρ} : ev Φ (.take a k) ρ = (match ev Φ a ρ with
    | some x => (takeD k x.1).map (·, false)
    | none => none) := rfl
theorem q_drop {Φ : Fns} {a k ρ} : ev Φ (.drop a k) ρ = (match ev Φ a ρ with
    | some x => (dropD k x.1).map (·, false)
    | none => none) := rfl
theorem q_dlst {Φ : Fns} {es ρ} : ev Φ (.dlst es) ρ = (if es.length ≤ lineN then (match evs Φ es ρ with
    | some xs => (xs.mapM emb).map (.lst ·, false)
    | none => none) else none) := rfl
theorem q_dtup {Φ : Fns} {es ρ} : ev Φ (.dtup es) ρ = (if es.length ≤ lineN then (match evs Φ es ρ with
    | some xs => (xs.mapM emb).map (.tup ·, false)
    | none => none) else none) := rfl
theorem q_comp {Φ : Fns} {elt tgt it conds ρ} : ev Φ (.comp elt tgt it conds) ρ = (match wk Φ it ρ with
    | some ds => if ds.length ≤ lineN then (compL (fun d => match bindT tgt d ρ with
        | some ρ' => (match trAnd Φ conds ρ' with
          | some true => (match ev Φ elt ρ' with
            | some y => (emb y).map some
            | none => none)
          | some false => some none
          | none => none)
        | none => none) ds).map (.lst ·, false) else none
    | none => none) := rfl
theorem q_call {Φ : Fns} {f es ρ} : ev Φ (.call f es) ρ = (match Φ f, evs Φ es ρ with
    | some F, some xs => (match F (xs.map (·.1)) with
      | some d => if xs.all (!·.2) || d.flat then some (d, false) else none
      | none => none)
    | _, _ => none) := rfl
theorem q_prim {Φ : Fns} {p es ρ} : ev Φ (.prim p es) ρ = (match evs Φ es ρ with
    | some xs => (primT Φ p xs).map (·, false)
    | none => none) := rfl
theorem q_meth {Φ : Fns} {m o es ρ} : ev Φ (.meth m o es) ρ = (match Φ (hmKey m), ev Φ o ρ, evs Φ es ρ with
    | some _, some (.hdr ds, _), some xs => (methD m ds (xs.map (·.1))).map (·, false)
    | _, _, _ => none) := rfl
theorem q_low {Φ : Fns} {e ρ} : ev Φ (.low e) ρ = (match ev Φ e ρ with
    | some (.str x, _) => if plainS x then some (.str (lowS x), false) else none
    | _ => none) := rfl
theorem q_attr {Φ : Fns} {x ρ} : ev Φ (.attr x) ρ = (match ρ x with
    | some (.hdr ds, t) => some (.lst ds, t)
    | _ => none) := rfl
theorem q_conv {Φ : Fns} {x e z1 ρ} : ev Φ (.conv x e z1) ρ = (match ρ x, ev Φ e ρ with
    | some (.hdr _, _), some (.str y, _) => if plainS y then some (.str y, false) else none
    | _, _ => none) := rfl
theorem q_copy {Φ : Fns} {e ρ} : ev Φ (.copy e) ρ = (match ev Φ e ρ with
    | some (.lst ds, _) => if ds.length ≤ lineN then some (.lst ds, false) else none
    | _ => none) := rfl
theorem qt_val {Φ : Fns} {e ρ} : tr Φ (.val e) ρ = (match ev Φ e ρ with
    | some x => truD x.1
    | none => none) := rfl
theorem qt_not {Φ : Fns} {t ρ} : tr Φ (.not t) ρ = ((tr Φ t ρ).map (!·)) := rfl
theorem qt_and {Φ : Fns} {ts ρ} : tr Φ (.and ts) ρ = (trAnd Φ ts ρ) := rfl
theorem qt_or {Φ : Fns} {ts ρ} : tr Φ (.or ts) ρ = (trOr Φ ts ρ) := rfl
theorem qt_cmp {Φ : Fns} {op a b ρ} : tr Φ (.cmp op a b) ρ = (match ev Φ a ρ, ev Φ b ρ with
    | some x, some y => cmpD op x.1 y.1
    | _, _ => none) := rfl
theorem qa_nil {Φ : Fns} {ρ} : trAnd Φ [] ρ = (some true) := rfl
theorem qa_cons {Φ : Fns} {t r ρ} : trAnd Φ (t :: r) ρ = (match tr Φ t ρ with
    | some true => trAnd Φ r ρ
    | some false => some false
    | none => none) := rfl
theorem qo_nil {Φ : Fns} {ρ} : trOr Φ [] ρ = (some false) := rfl
theorem qo_cons {Φ : Fns} {t r ρ} : trOr Φ (t :: r) ρ = (match tr Φ t ρ with
    | some true => some true
    | some false => trOr Φ r ρ
    | none => none) := rfl
theorem qw_ce {Φ : Fns} {e ρ} : wk Φ (.ce e) ρ = (match ev Φ e ρ with
    | some x => itemsD x.1
    | none => none) := rfl
theorem qw_rng {Φ : Fns} {es ρ} : wk Φ (.rng es) ρ = (match evs Φ es ρ with
    | some xs => rngD (xs.map (·.1))
    | none => none) := rfl
theorem qs_nil {Φ : Fns} {ρ} : evs Φ [] ρ = (some []) := rfl
theorem qs_cons {Φ : Fns} {e r ρ} : evs Φ (e :: r) ρ = (match ev Φ e ρ, evs Φ r ρ with
    | some x, some xs => some (x :: xs)
    | _, _ => none) := rfl
set_option tactic.hygienic true in
theorem qx_asg {Φ : Fns} {x e st} : cx Φ (.asg x e) st = (match ev Φ e st.view with
    | some y => (emb y).map fun d => (st.set x (.val d), .next)
    | none => none) := rfl
set_option tactic.hygienic true in
theorem qx_asgM {Φ : Fns} {xs e st} : cx Φ (.asgM xs e) st = (match ev Φ e st.view with
    | some (d, false) => (setT (.many xs) d st).map (·, .next)
    | _ => none) := rfl
set_option tactic.hygienic true in
theorem qx_own {Φ : Fns} {x e st} : cx Φ (.own x e) st = (match ev Φ e st.view with
    | some (.lst ds, false) => some ({ ρ := fun y => if y = x then some (.own st.σ.length) else st.ρ y, σ := st.σ ++ [ds] }, .next)
    | _ => none) := rfl
set_option tactic.hygienic true in
theorem qx_app {Φ : Fns} {x e st} : cx Φ (.app x e) st = (match st.ρ x, ev Φ e st.view with
    | some (.own k), some y => (emb y).bind fun d => (st.upd k fun ds => if ds.length ≤ lineN then some (ds ++ [d]) else none).map (·, .next)
    | _, _ => none) := rfl
set_option tactic.hygienic true in
theorem qx_ext {Φ : Fns} {x e st} : cx Φ (.ext x e) st = (match st.ρ x, ev Φ e st.view with
    | some (.own k), some (.lst es, _) => (st.upd k fun ds => if ds.length + es.length ≤ lineN then some (ds ++ es) else none).map (·, .next)
    | _, _ => none) := rfl
set_option tactic.hygienic true in
theorem qx_aug {Φ : Fns} {x e st} : cx Φ (.aug x e) st = (match st.view x, ev Φ e st.view with
    | some (.int a, _), some (.int b, _) => some (st.set x (.val (.int (Builtin.bitAnd a b))), .next)
    | _, _ => none) := rfl
set_option tactic.hygienic true in
theorem qx_newH0 {Φ : Fns} {x st} : cx Φ (.newH x none) st = (some ({ ρ := fun y => if y = x then some (.hob st.σ.length) else st.ρ y, σ := st.σ ++ [[]] }, .next)) := rfl
set_option tactic.hygienic true in
theorem qx_newH1 {Φ : Fns} {x z st} : cx Φ (.newH x (some z)) st = (match st.ρ z with
    | some (.own k) => if (match st.σ[k]? with | some [] => true | _ => false) then some (st.set x (.hob k), .next) else none
    | _ => none) := rfl
set_option tactic.hygienic true in
theorem qx_addH {Φ : Fns} {x n v st} : cx Φ (.addH x n v) st = (match st.ρ x, e2 Φ st.view n v with
    | some (.hob k), some p => (st.upd k (addHdr p.1 p.2)).map (·, .next)
    | _, _ => none) := rfl
set_option tactic.hygienic true in
theorem qx_delH {Φ : Fns} {x n st} : cx Φ (.delH x n) st = (match st.ρ x, ev Φ n st.view with
    | some (.hob k), some y => (st.upd k (delHdr y.1)).map (·, .next)
    | _, _ => none) := rfl
set_option tactic.hygienic true in
theorem qx_ifAddH {Φ : Fns} {x n v z1 st} : cx Φ (.ifAddH x n v z1) st = (match st.ρ x, e2 Φ st.view n v with
    | some (.hob k), some p => (st.upd k (addHdr p.1 p.2)).map (·, .next)
    | _, _ => none) := rfl
theorem qx_ite {Φ : Fns} {t a b st} : cx Φ (.ite t a b) st = (match tr Φ t st.view with
    | some true => cxs Φ a st
    | some false => cxs Φ b st
    | none => none) := rfl
theorem qx_for {Φ : Fns} {tgt it body st} : cx Φ (.for_ tgt it body) st = (match (match it with
      | .ce e => (match ev Φ e st.view with
        | some (d, false) => itemsD d
        | _ => none)
      | it => wk Φ it st.view) with
    | some ds => loopG (fun d s => match setT tgt d s with
      | some s' => cxs Φ body s'
      | none => none) ds st
    | none => none) := rfl
theorem qx_ret {Φ : Fns} {e st} : cx Φ (.ret e) st = (match ev Φ e st.view with
    | some (d, false) => some (st, .ret d)
    | _ => (match ev Φ e st.last with
      | some (d, false) => some (st, .ret d)
      | _ => none)) := rfl
set_option tactic.hygienic true in
theorem qxs_nil {Φ : Fns} {st} : cxs Φ [] st = (some (st, .next)) := rfl
set_option tactic.hygienic true in
theorem qxs_cons {Φ : Fns} {c r st} : cxs Φ (c :: r) st = (match cx Φ c st with
    | some (st', .next) => cxs Φ r st'
    | o => o) := rfl
theorem tp_none : toPy .none = .none := rfl
theorem tp_bool {b} : toPy (.bool b) = .bool b := rfl
theorem tp_int {i} : toPy (.int i) = .int i := rfl
theorem tp_str {x} : toPy (.str x) = .str x := rfl
theorem tp_tup {ds} : toPy (.tup ds) = .tuple (toPys ds) := rfl
theorem tp_lst {ds} : toPy (.lst ds) = .list (toPys ds) := rfl
theorem tps_nil : toPys [] = [] := rfl
theorem tps_cons {d ds} : toPys (d :: ds) = toPy d :: toPys ds := rfl
theorem nh_tup {ds} : D.noHdr (.tup ds) = noHdrs ds := rfl
theorem nh_lst {ds} : D.noHdr (.lst ds) = noHdrs ds := rfl
theorem nh_hdr {ds} : D.noHdr (.hdr ds) = false := rfl
theorem nh_str {x} : D.noHdr (.str x) = true := rfl
theorem nhs_cons {d ds} : noHdrs (d :: ds) = (d.noHdr && noHdrs ds) := rfl
theorem ai_cons {i r} : asInts (.int i :: r) = (asInts r).map (i :: ·) := rfl
theorem as_cons {x r} : asStrs (.str x :: r) = (asStrs r).map (x :: ·) := rfl
theorem ii_cons {a b r} : insI a (b :: r) = if a ≤ b then a :: b :: r else b :: insI a r := rfl
theorem ip_cons {a b r} : insP a (b :: r) = if pairLe a b then a :: b :: r else b :: insP a r := rfl
set_option tactic.hygienic true in
theorem lg_nil {f : D → St → Option (St × Fl)} {st} : loopG f [] st = some (st, .next) := rfl
set_option tactic.hygienic true in
theorem lg_cons {f : D → St → Option (St × Fl)} {d r st} : loopG f (d :: r) st = (match f d st with
    | some (st', .next) => loopG f r st'
    | o => o) := rfl
theorem cl_nil {f : D → Option (Option D)} : compL f [] = some [] := rfl
theorem cl_cons {f : D → Option (Option D)} {d r} : compL f (d :: r) = (match f d with
    | some (some y) => (compL f r).map (y :: ·)
    | some none => compL f r
    | none => none) := rfl
end Mine
end
section
open PySem PySem.W PyProof.Rows
set_option autoImplicit false
namespace Mine
theorem lineN_le : lineN ≤ sizeLine := by rw [sizeLine_eq]; decide
theorem smallI_bits {i : Int} (h : smallI i = true) : Builtin.Int.intBits i ≤ 64 := by
  simp only [smallI, Bool.and_eq_true, decide_eq_true_eq] at h
  exact PySem.intBits_le_64 (by exact om_1 h.1) (by exact om_2 h.2)
section
variable {prog : Program} {w : World} {A : Around} {E : Value → Shared → Prop} {s : Shared} {P : Addr → Prop} {C : Addr} {Q : Value → Shared → Prop} {ta tb : Bool} {va vb : Value}
theorem keeps_toks (s : Shared) (n : Nat) : Keeps s { s with toks := n } := ⟨s.heap, n, rfl, fun _ _ e => e⟩
theorem keeps_push (s : Shared) (o : Obj) : Keeps s { s with heap := s.heap.push o } := ⟨_, s.toks, rfl, fun _ _ e => Heap.get?_push_of_some _ e⟩
theorem keeps_push' (s : Shared) (o : Obj) (n : Nat) : Keeps s { s with heap := s.heap.push o, toks := n } := ⟨_, n, rfl, fun _ _ e => Heap.get?_push_of_some _ e⟩
theorem Keeps.rfl' (s : Shared) : Keeps s s := ⟨s.heap, s.toks, rfl, fun _ _ e => e⟩
theorem Keeps.trans' {a b c : Shared} (x : Keeps a b) (y : Keeps b c) : Keeps a c := by
  refine oE2_2 x fun h1 t1 rq7 k1 => ?_; clear x; subst rq7
  refine oE2_2 y fun h2 t2 rq6 k2 => ?_; clear y; subst rq6
  exact ⟨h2, t2, rfl, fun p o e => k2 p o (k1 p o e)⟩
theorem Keeps.keep {a b : Shared} (x : Keeps a b) : Keep a.heap b.heap := by
  refine oE2_2 x fun h1 t1 rq5 k1 => ?_; clear x; subst rq5
  exact k1
theorem plain_new {P : Addr → Prop} {C : Addr} {h : Heap} {vs : List Value} {ds : List D} (up : Up P h) (r : RpA P C h vs ds) :
    Rp P C (h.push { cls := .type "list", data := .seq vs.toArray }) (.ref h.objs.size) (.lst ds) :=
  .lst up.new ⟨_, Heap.get?_push_size _ rfl, rfl, 0, rfl⟩ (r.keeps (Keep.push _ _))
theorem tuple_new {P : Addr → Prop} {C : Addr} {h : Heap} {vs : List Value} {ds : List D} (r : RpA P C h vs ds) :
    Rp P C (h.push { cls := .type "tuple", data := .seq vs.toArray }) (.ref h.objs.size) (.tup ds) :=
  .tup ⟨_, Heap.get?_push_size _ rfl, rfl, 0, rfl⟩ (r.keeps (Keep.push _ _))
theorem add_lists_raw {l b : Addr} {vs ws : List Value} (hl : s.heap.IsList l vs.toArray) (hb : s.heap.IsList b ws.toArray)
    (h : Q (.ref s.heap.objs.size) { s with heap := s.heap.push { cls := .type "list", data := .seq (vs ++ ws).toArray } })
    (hsz : vs.length + ws.length ≤ sizeLine) : wpAny (model prog w) A (binaryOp .Add (.ref l) (.ref b)) Q E s := by
  obtain ⟨⟨cls, dd, data, sl⟩, ho, hc, n, hd⟩ := id hl
  obtain ⟨⟨cls2, dd2, data2, sl2⟩, ho2, hc2, n2, hd2⟩ := id hb
  simp only at hc hd hc2 hd2
  subst hc hd hc2 hd2
  have e : vs.toArray ++ ws.toArray = (vs ++ ws).toArray := by simp
  refine concat_meets ⟨_, ho, rfl⟩ ⟨_, ho2, rfl⟩ PySem.noFill_list_add PySem.seq_list_add PySem.F.slot_list_add PySem.F.entry_list_add (PySem.F.args_list_add_2 _ _) (list_addW l b vs.toArray ws.toArray n n2 dd dd2 sl sl2 (by simpa using hsz)) ⟨ho, ho2, ?_⟩
  rw [e]
  exact h
theorem str_append_empty {x y : Str} (h : (x.length == 0) = true) : x ++ y = y := by
  have e : x.cps = #[] := Array.eq_empty_of_size_eq_zero (by simpa [Str.length] using h)
  show Str.mk (x.cps ++ y.cps) = y
  rw [e]; simp
theorem str_append_empty' {x y : Str} (h : (y.length == 0) = true) : x ++ y = x := by
  have e : y.cps = #[] := Array.eq_empty_of_size_eq_zero (by simpa [Str.length] using h)
  show Str.mk (x.cps ++ y.cps) = x
  rw [e]; simp
set_option tactic.hygienic true in
theorem bin_sound {op : Operator} {a b d : D} (hd : binD op a b = some d) (ra : RpT ta P C s.heap va a) (rb : RpT tb P C s.heap vb b) (up : Up P s.heap)
    (k : ∀ v s', Keeps s s' → Rp P C s'.heap v d → Q v s') : wpAny (model prog w) A (binaryOp op va vb) Q E s := by
  unfold binD at hd
  split at hd
  · rcases addD_ hd with h1 | h1 | h1 <;> clear hd
    · refine oE2_3 (ii_ h1) fun x y eX eY hd2 => ?_; clear h1; subst eX eY
      obtain ⟨t, rfl⟩ := ra.int; obtain ⟨u, rfl⟩ := rb.int; cases hd2
      exact PySem.P.add_int (k _ _ (keeps_toks _ _) (.int _ _))
    · refine oE1_2 (strD_ h1) fun x eX h2 => ?_; clear h1; subst eX
      refine oE1_2 (strD_ h2) fun y eY hd => ?_; clear h2; subst eY
      obtain ⟨t, rfl⟩ := ra.str; obtain ⟨u, rfl⟩ := rb.str
      split at hd
      · cases hd
        rename_i hl
        refine PySem.P.add_str ?_
        split
        · rename_i h; exact k _ _ (Keeps.rfl' _) (by rw [str_append_empty h]; exact .str _ _)
        · split
          · rename_i h; exact k _ _ (Keeps.rfl' _) (by rw [str_append_empty' h]; exact .str _ _)
          · refine ⟨?_, k _ _ (keeps_toks _ _) (.str _ _)⟩
            refine Nat.le_trans ?_ lineN_le
            show (x.cps ++ y.cps).size ≤ _
            rw [Array.size_append]; exact hl
      · cases hd
    · refine oE1_2 (lstD_ h1) fun x eX h2 => ?_; clear h1; subst eX
      refine oE1_2 (lstD_ h2) fun y eY hd => ?_; clear h2; subst eY
      refine oE2_3 ra.list fun x vs rq4 hx r => ?_; subst rq4; refine oE2_3 rb.list fun y ws rq3 hy r' => ?_; subst rq3
      split at hd
      · cases hd
        rename_i hl
        refine add_lists_raw hx hy (k _ _ (keeps_push _ _) (plain_new up (r.append r'))) (Nat.le_trans ?_ lineN_le)
        rw [r.length, r'.length]; exact hl
      · cases hd
  · refine oE2_3 (ii_ hd) fun x y eX eY hd2 => ?_; clear hd; subst eX eY
    obtain ⟨t, rfl⟩ := ra.int; obtain ⟨u, rfl⟩ := rb.int; cases hd2
    exact PySem.P.sub_int (k _ _ (keeps_toks _ _) (.int _ _))
  · rcases mulD_ hd with h1 | h1 <;> clear hd
    · refine oE2_3 (ii_ h1) fun x y eX eY hd => ?_; clear h1; subst eX eY
      obtain ⟨t, rfl⟩ := ra.int; obtain ⟨u, rfl⟩ := rb.int
      split at hd
      · cases hd
        rename_i h
        exact PySem.P.mul_int (hm := .of_left (smallI_bits (Bool.and_eq_true_iff.mp h).1)) (k _ _ (keeps_toks _ _) (.int _ _))
      · cases hd
    · refine oE1_2 (strD_ h1) fun x eX h2 => ?_; clear h1; subst eX
      refine oE1_2 (intD_ h2) fun y eY hd => ?_; clear h2; subst eY
      obtain ⟨t, rfl⟩ := ra.str; obtain ⟨u, rfl⟩ := rb.int
      split at hd
      · cases hd
        rename_i h
        simp only [Bool.and_eq_true, decide_eq_true_eq] at h
        exact SB.mul (mulOk_of 16 1048576 h.2 (by exact om_7 h.1.2) (by exact om_8 h.1.1) (by decide) (by decide)) fun _ _ => k _ _ (keeps_toks _ _) (.str _ _)
      · cases hd
  · refine oE2_3 (ii_ hd) fun x y eX eY hd2 => ?_; clear hd; subst eX eY
    obtain ⟨t, rfl⟩ := ra.int; obtain ⟨u, rfl⟩ := rb.int
    split at hd2
    · cases hd2
      rename_i h
      exact mod_int' h (k _ _ (keeps_toks _ _) (.int _ _))
    · cases hd2
  · refine oE2_3 (ii_ hd) fun x y eX eY hd2 => ?_; clear hd; subst eX eY
    obtain ⟨t, rfl⟩ := ra.int; obtain ⟨u, rfl⟩ := rb.int
    split at hd2
    · cases hd2
      rename_i h
      simp only [Bool.and_eq_true, decide_eq_true_eq] at h
      exact floordiv_int h.1 (k _ _ (keeps_toks _ _) (.int _ _)) (Or.inl (PyProof.noPylong_small (by have := h.2; exact om_9 h.2)))
    · cases hd2
  · refine oE2_3 (ii_ hd) fun x y eX eY hd2 => ?_; clear hd; subst eX eY
    obtain ⟨t, rfl⟩ := ra.int; obtain ⟨u, rfl⟩ := rb.int
    split at hd2
    · cases hd2
      rename_i h
      simp only [Bool.and_eq_true, decide_eq_true_eq] at h
      refine oE0_2 h fun zq1 rq2 => ?_; clear h; subst rq2; refine oE0_2 zq1 fun h1 h2 => ?_; clear zq1
      exact pow_int h1 (by
        have : Builtin.Int.intBits 2 = 2 := by decide +kernel
        rw [this]; omega) (k _ _ (keeps_toks _ _) (.int _ _))
    · cases hd2
  · refine oE2_3 (ii_ hd) fun x y eX eY hd2 => ?_; clear hd; subst eX eY
    obtain ⟨t, rfl⟩ := ra.int; obtain ⟨u, rfl⟩ := rb.int
    split at hd2
    · cases hd2
      rename_i h
      exact rshift_int h (k _ _ (keeps_toks _ _) (.int _ _))
    · cases hd2
  · refine oE2_3 (ii_ hd) fun x y eX eY hd2 => ?_; clear hd; subst eX eY
    obtain ⟨t, rfl⟩ := ra.int; obtain ⟨u, rfl⟩ := rb.int; cases hd2
    exact and_int (k _ _ (keeps_toks _ _) (.int _ _))
  · refine oE2_3 (ii_ hd) fun x y eX eY hd2 => ?_; clear hd; subst eX eY
    obtain ⟨t, rfl⟩ := ra.int; obtain ⟨u, rfl⟩ := rb.int; cases hd2
    exact xor_int (k _ _ (keeps_toks _ _) (.int _ _))
  · cases hd
end
end Mine
end
section
open PySem PySem.W PyProof.Rows
set_option autoImplicit false
namespace Mine
theorem seqIndex_nn {i : Int} {n : Nat} (h : 0 ≤ i) (hl : i.toNat < n) : seqIndex? i n = some i.toNat := by
  unfold seqIndex?
  have h1 : ¬ i < 0 := by exact om_10 h
  have h2 : i < (n : Int) := by exact om_11 hl
  simp [h1, h, h2]
set_option tactic.hygienic true
mutual
theorem Rp.reads {P : Addr → Prop} {C : Addr} {h : Heap} : ∀ {v : Value} {d : D}, Rp P C h v d → d.noHdr = true → ∃ as, Reads h v (toPy d) as
  | _, _, .none, _ => ⟨_, by rw [tp_none]; exact Reads.none⟩
  | _, _, .bool b, _ => ⟨_, by rw [tp_bool]; exact Reads.bool b⟩
  | _, _, .int i t, _ => ⟨_, by rw [tp_int]; exact Reads.int i t⟩
  | _, _, .str x t, _ => ⟨_, by rw [tp_str]; exact Reads.str x t⟩
  | _, _, .tup e r, q => by
    rw [nh_tup] at q
    obtain ⟨as, ra⟩ := RpA.reads r q
    refine oE1_3 e fun o ho hc zq7 => ?_; refine oE1_1 zq7 fun n hd => ?_; clear zq7; clear e
    exact ⟨_, by rw [tp_tup]; exact Reads.tuple ho hc hd ra⟩
  | _, _, .lst p e r, q => by
    rw [nh_lst] at q
    obtain ⟨as, ra⟩ := RpA.reads r q
    refine oE1_3 e fun o ho hc zq6 => ?_; refine oE1_1 zq6 fun n hd => ?_; clear zq6; clear e
    exact ⟨_, by rw [tp_lst]; exact Reads.list ho hc hd ra⟩
  | _, _, .hdr _ _ _ _, q => by rw [nh_hdr] at q; cases q
theorem RpA.reads {P : Addr → Prop} {C : Addr} {h : Heap} : ∀ {vs : List Value} {ds : List D}, RpA P C h vs ds → noHdrs ds = true → ∃ as, ReadsAll h vs (toPys ds) as
  | _, _, .nil, _ => ⟨_, by rw [tps_nil]; exact ReadsAll.nil⟩
  | _, _, .cons a r, q => by
    rw [nhs_cons, Bool.and_eq_true] at q
    obtain ⟨as, ra⟩ := Rp.reads a q.1
    obtain ⟨bs, rb⟩ := RpA.reads r q.2
    exact ⟨_, by rw [tps_cons]; exact ReadsAll.cons ra rb⟩
end
set_option tactic.hygienic false
theorem RpT.reads {P : Addr → Prop} {C : Addr} {h : Heap} {v : Value} {d : D} {t : Bool} (r : RpT t P C h v d) (q : d.noHdr = true) : ∃ as, Reads h v (toPy d) as := by
  cases t with
  | false => exact Rp.reads r q
  | true =>
    cases d with
    | lst ds =>
      obtain ⟨a, vs, rfl, e, r⟩ := r
      rw [nh_lst] at q
      obtain ⟨as, ra⟩ := r.reads q
      refine oE1_3 e.isList fun o ho hc zq4 => ?_; refine oE1_1 zq4 fun n hd => ?_; clear zq4
      exact ⟨_, by rw [tp_lst]; exact Reads.list ho hc hd ra⟩
    | hdr ds => rw [nh_hdr] at q; cases q
    | none => exact Rp.reads (show Rp P C h v _ from r) q
    | bool b => exact Rp.reads (show Rp P C h v _ from r) q
    | int i => exact Rp.reads (show Rp P C h v _ from r) q
    | str x => exact Rp.reads (show Rp P C h v _ from r) q
    | tup ds => exact Rp.reads (show Rp P C h v _ from r) q
section
variable {prog : Program} {w : World} {A : Around} {E : Value → Shared → Prop} {s : Shared} {P : Addr → Prop} {C : Addr} {Q : Value → Shared → Prop} {ta tb : Bool} {va vb : Value}
theorem toPys_any (d : D) : ∀ bs : List D, (toPys bs).any (fun y => PyData.eqv y (toPy d)) = bs.any fun b => eqD b d
  | [] => by simp [toPys]
  | b :: r => by simp [toPys, toPys_any d r, eqD]
theorem is_sound {a b : D} {r : Bool} (hd : isD a b = some r) (ra : RpT ta P C s.heap va a) (rb : RpT tb P C s.heap vb b) : plainIs va vb = true ∧ (va == vb) = r := by
  cases a with
  | none => obtain ⟨rfl, rfl⟩ := isN_ hd; rw [ra.none, rb.none]; exact ⟨rfl, by decide⟩
  | bool x => refine oE1_2 (isB_ hd) fun y rq2 rq3 => ?_; subst rq2; subst rq3; rw [ra.bool, rb.bool]; exact ⟨rfl, by cases x <;> cases y <;> rfl⟩
  | str x => obtain ⟨rfl, rfl⟩ := isN_ hd; obtain ⟨t, rfl⟩ := ra.str; rw [rb.none]; exact ⟨rfl, by rfl⟩
  | _ => cases hd
set_option tactic.hygienic true in
theorem cmp_sound {op : CmpOp} {a b : D} {r : Bool} (hd : cmpD op a b = some r) (ra : RpT ta P C s.heap va a) (rb : RpT tb P C s.heap vb b) (hu : A.units + 65 < cLine)
    (k : Q (.bool r) s) : wpAny (model prog w) A (compareOp op va vb) Q E s := by
  unfold cmpD at hd
  split at hd
  · split at hd
    · rename_i h
      cases hd
      simp only [okc, Bool.and_eq_true] at h
      obtain ⟨as, qa⟩ := ra.reads h.1.1
      obtain ⟨bs, qb⟩ := rb.reads h.2.1
      exact eq_dataH qa qb h.1.2 h.2.2 (by exact om_12 hu) k
    · cases hd
  · split at hd
    · rename_i h
      cases hd
      simp only [okc, Bool.and_eq_true] at h
      obtain ⟨as, qa⟩ := ra.reads h.1.1
      obtain ⟨bs, qb⟩ := rb.reads h.2.1
      exact ne_dataH qa qb h.1.2 h.2.2 (by exact om_12 hu) k
    · cases hd
  · refine oE2_3 (jj_ hd) fun x y eX eY hd2 => ?_; clear hd; subst eX eY; obtain ⟨t, rfl⟩ := ra.int; obtain ⟨u, rfl⟩ := rb.int; cases hd2; exact PySem.P.lt_int k
  · refine oE2_3 (jj_ hd) fun x y eX eY hd2 => ?_; clear hd; subst eX eY; obtain ⟨t, rfl⟩ := ra.int; obtain ⟨u, rfl⟩ := rb.int; cases hd2; exact PySem.P.le_int k
  · refine oE2_3 (jj_ hd) fun x y eX eY hd2 => ?_; clear hd; subst eX eY; obtain ⟨t, rfl⟩ := ra.int; obtain ⟨u, rfl⟩ := rb.int; cases hd2; exact PySem.P.gt_int k
  · refine oE2_3 (jj_ hd) fun x y eX eY hd2 => ?_; clear hd; subst eX eY; obtain ⟨t, rfl⟩ := ra.int; obtain ⟨u, rfl⟩ := rb.int; cases hd2; exact PySem.P.ge_int k
  · obtain ⟨h1, h2⟩ := is_sound hd ra rb
    exact wpAny_is_plain h1 (by rw [h2]; exact k)
  · cases h : isD a b with
    | none => rw [h] at hd; cases hd
    | some x =>
      rw [h] at hd; cases hd
      obtain ⟨h1, h2⟩ := is_sound h ra rb
      exact wpAny_isNot_plain h1 (by rw [h2]; exact k)
  · rcases inD_ hd with h1 | h1 <;> clear hd
    · refine oE1_2 (lstD_ h1) fun x eX hd => ?_; clear h1; subst eX
      split at hd
      · rename_i h
        cases hd
        simp only [okc, Bool.and_eq_true] at h
        obtain ⟨as, qa⟩ := ra.reads h.1.1
        obtain ⟨bs, qb⟩ := rb.reads h.2.1
        rw [tp_lst] at qb
        have hc := SeqAt.canLay_of_shaped h.2.2
        rw [tp_lst] at hc
        refine PySem.SeqAt.in_list_reads qb qa hc (SeqAt.canLay_of_shaped h.1.2) ?_ (by rw [toPys_any]; exact k)
        have := SeqAt.depth_of_shaped h.1.2
        exact om_13 hu this
      · cases hd
    · refine oE1_2 (strD_ h1) fun x eX h2 => ?_; clear h1; subst eX
      refine oE1_2 (strD_ h2) fun y eY hd => ?_; clear h2; subst eY
      obtain ⟨t, rfl⟩ := ra.str; obtain ⟨u, rfl⟩ := rb.str; cases hd; exact SB.contains k
  · refine oE1_2 (Option.map_eq_some_iff.mp hd) fun r0 hd0 rq1 => ?_; subst rq1; clear hd
    rcases inD_ hd0 with h1 | h1 <;> clear hd0
    · refine oE1_2 (lstD_ h1) fun x eX hd => ?_; clear h1; subst eX
      split at hd
      · rename_i h
        cases hd
        simp only [okc, Bool.and_eq_true] at h
        obtain ⟨as, qa⟩ := ra.reads h.1.1
        obtain ⟨bs, qb⟩ := rb.reads h.2.1
        rw [tp_lst] at qb
        have hc := SeqAt.canLay_of_shaped h.2.2
        rw [tp_lst] at hc
        refine PySem.SeqAt.notIn_list_reads qb qa hc (SeqAt.canLay_of_shaped h.1.2) ?_ (by rw [toPys_any]; exact k)
        have := SeqAt.depth_of_shaped h.1.2
        exact om_13 hu this
      · cases hd
    · refine oE1_2 (strD_ h1) fun x eX h2 => ?_; clear h1; subst eX
      refine oE1_2 (strD_ h2) fun y eY hd => ?_; clear h2; subst eY
      obtain ⟨t, rfl⟩ := ra.str; obtain ⟨u, rfl⟩ := rb.str; cases hd; exact SB.notContains k
theorem idx_sound {a i d : D} (hd : idxD a i = some d) (ra : RpT ta P C s.heap va a) (rb : RpT tb P C s.heap vb i)
    (k : ∀ v s', Keeps s s' → Rp P C s'.heap v d → Q v s') : wpAny (model prog w) A (getItem va vb) Q E s := by
  cases a with
  | lst ds =>
    obtain ⟨i, rfl, h, hd⟩ := atI_ hd
    obtain ⟨x, vs, rfl, hx, r⟩ := ra.list; obtain ⟨u, rfl⟩ := rb.int
    obtain ⟨v, hv, hr⟩ := r.get hd
    exact wpAny_getItem_list hx h.1 (by exact om_14 h.2) (by simpa using hv) (k _ _ (Keeps.rfl' _) hr)
  | tup ds =>
    obtain ⟨i, rfl, h, hd⟩ := atI_ hd
    obtain ⟨x, vs, rfl, hx, r⟩ := ra.tup; obtain ⟨u, rfl⟩ := rb.int
    obtain ⟨v, hv, hr⟩ := r.get hd
    have hl : i.toNat < vs.length := by
      rcases Nat.lt_or_ge i.toNat vs.length with q | q
      · exact q
      · rw [List.getElem?_eq_none q] at hv; cases hv
    refine PyProof.Rows.getItem_tuple hx (by exact om_8 h.1) (by exact om_14 h.2) (j := i.toNat) ?_ (by simpa using hv) (k _ _ (Keeps.rfl' _) hr)
    exact seqIndex_nn h.1 (by simpa using hl)
  | str x =>
    obtain ⟨i, rfl, h, hd⟩ := atI_ (f := fun n => (x.cps[n]?).map fun c => D.str ⟨#[c]⟩) hd
    obtain ⟨t, rfl⟩ := ra.str; obtain ⟨u, rfl⟩ := rb.int
    · cases hc : x.cps[i.toNat]? with
      | none => rw [hc] at hd; cases hd
      | some c =>
        rw [hc] at hd; cases hd
        have hl : i.toNat < x.cps.size := by
          rcases Nat.lt_or_ge i.toNat x.cps.size with q | q
          · exact q
          · rw [Array.getElem?_eq_none q] at hc; cases hc
        refine PySem.P.getItem_str (c := c) (by simp; exact om_15 h.1 h.2) ?_ (k _ _ (keeps_toks _ _) (.str _ _))
        have e : seqIndex? i x.length = some i.toNat := seqIndex_nn h.1 hl
        rw [e]; exact hc
  | _ => cases hd
theorem tru_sound {a : D} {b : Bool} {R : Bool → Shared → Prop} (hd : truD a = some b) (ra : RpT ta P C s.heap va a) (k : R b s) : wpAny (model prog w) A (truthy va) R E s := by
  unfold truD at hd
  split at hd
  · cases hd; rw [ra.bool]; exact wpAny_truthy_bool k
  · cases hd; obtain ⟨t, rfl⟩ := ra.int; exact PySem.P.truthy_int k
  · cases hd
end
end Mine
end
section
open PySem PySem.W PyProof.Rows
set_option autoImplicit false
namespace Mine
set_option tactic.hygienic true in
theorem asInts_are {P : Addr → Prop} {C : Addr} {h : Heap} : ∀ {vs : List Value} {ds : List D} {is : List Int}, RpA P C h vs ds → asInts ds = some is → IntsAre vs is := by
  intro vs
  induction vs with
  | nil => intro ds is r e; cases r; cases e; exact .nil
  | cons v vs ih =>
    intro ds is r e
    cases r with
    | cons a r =>
      rename_i d ds
      cases a with
      | int i t =>
        rw [ai_cons] at e
        cases q : asInts ds with
        | none => rw [q] at e; cases e
        | some js => rw [q] at e; cases e; exact .cons i t (ih r q)
      | _ => cases e
set_option tactic.hygienic true in
theorem asStrs_are {P : Addr → Prop} {C : Addr} {h : Heap} : ∀ {vs : List Value} {ds : List D} {is : List Str}, RpA P C h vs ds → asStrs ds = some is → StrsAre vs is := by
  intro vs
  induction vs with
  | nil => intro ds is r e; cases r; cases e; exact .nil
  | cons v vs ih =>
    intro ds is r e
    cases r with
    | cons a r =>
      rename_i d ds
      cases a with
      | str i t =>
        rw [as_cons] at e
        cases q : asStrs ds with
        | none => rw [q] at e; cases e
        | some js => rw [q] at e; cases e; exact .cons i t (ih r q)
      | _ => cases e
theorem rpA_ints {P : Addr → Prop} {C : Addr} {h : Heap} : ∀ {vs : List Value} {is : List Int}, IntsAre vs is → RpA P C h vs (is.map .int)
  | _, _, .nil => .nil
  | _, _, .cons i t r => .cons (.int i t) (rpA_ints r)
theorem insI_perm (a : Int) : ∀ l, (insI a l).Perm (a :: l)
  | [] => .refl _
  | b :: r => by
    rw [ii_cons]
    split
    · exact .refl _
    · exact ((insI_perm a r).cons b).trans (.swap a b r)
theorem sortI_perm : ∀ l : List Int, (sortI l).Perm l
  | [] => .refl _
  | a :: r => (insI_perm a _).trans ((sortI_perm r).cons a)
set_option tactic.hygienic true in
theorem insI_sorted (a : Int) : ∀ l : List Int, l.Pairwise (· ≤ ·) → (insI a l).Pairwise (· ≤ ·)
  | [], _ => List.pairwise_singleton ..
  | b :: r, h => by
    obtain ⟨h1, h2⟩ := List.pairwise_cons.mp h
    rw [ii_cons]
    split
    · rename_i q
      refine List.pairwise_cons.mpr ⟨fun x hx => ?_, h⟩
      rcases List.mem_cons.mp hx with rfl | hx
      · exact q
      · exact Int.le_trans q (h1 x hx)
    · rename_i q
      refine List.pairwise_cons.mpr ⟨fun x hx => ?_, insI_sorted a r h2⟩
      rcases List.mem_cons.mp ((insI_perm a r).mem_iff.mp hx) with rfl | hx
      · exact om_16 q
      · exact h1 x hx
theorem sortI_sorted : ∀ l : List Int, (sortI l).Pairwise (· ≤ ·)
  | [] => List.Pairwise.nil
  | a :: r => insI_sorted a _ (sortI_sorted r)
theorem sortI_of {l l' : List Int} (p : l'.Perm l) (s : l'.Pairwise (· ≤ ·)) : l' = sortI l :=
  List.Perm.eq_of_pairwise (fun _ _ _ _ h1 h2 => Int.le_antisymm h1 h2) s (sortI_sorted l) (p.trans (sortI_perm l).symm)
section
variable {prog : Program} {w : World} {A : Around} {E : Value → Shared → Prop} {s : Shared} {P : Addr → Prop} {C : Addr} {Q : Value → Shared → Prop} {ta tb : Bool} {va vb : Value} {d : D}
set_option tactic.hygienic true in
theorem len_sound {a : D} (hd : primD .len [a] = some d) (ra : RpT ta P C s.heap va a) (k : ∀ v s', Keeps s s' → Rp P C s'.heap v d → Q v s') :
    wpAny (model prog w) A (call (.builtin "len") [va]) Q E s := by
  replace hd : lenD a = some d := hd
  cases a <;> simp only [lenD] at hd <;> first | (cases hd; done) | skip
  rotate_left
  · refine oE2_3 ra.list fun x vs rq6 hx r => ?_; subst rq6
    split at hd
    · rename_i hl; cases hd
      have e : vs.toArray.size = vs.length := by simp
      refine len_list hx (by rw [e, r.length]; have : lineN < 2 ^ 63 := by decide
                             exact om_17 hl this) (k _ _ (keeps_toks _ _) ?_)
      rw [e, r.length]; exact .int _ _
    · cases hd
  · obtain ⟨t, rfl⟩ := ra.str
    split at hd
    · rename_i hl; cases hd
      exact PySem.P.len_str (by have : lineN < 2 ^ 63 := by decide
                                exact om_18 hl this) (k _ _ (keeps_toks _ _) (.int _ _))
    · cases hd
theorem sum_sound {a : D} (hd : primD .sum [a] = some d) (ra : RpT ta P C s.heap va a) (hh : A.handled = none) (k : ∀ v s', Keeps s s' → Rp P C s'.heap v d → Q v s') :
    wpAny (model prog w) A (call (.builtin "sum") [va]) Q E s := by
  replace hd := lstD_ (show _ = some d from hd)
  obtain ⟨ds, eA, hd⟩ := hd; subst eA
  refine oE2_3 ra.list fun x vs rq5 hx r => ?_; subst rq5
  cases q : asInts ds with
  | none => rw [q] at hd; cases hd
  | some is =>
    rw [q] at hd; cases hd
    have hi := asInts_are r q
    obtain ⟨xs, hxs⟩ := hi.allInts.items
    rw [hxs] at hx
    refine PySem.sum_intListG hh hx fun h' tk t' hk => k _ _ ⟨h', tk, rfl, hk⟩ ?_
    have e : preSum (numAt xs) xs.size = is.sum := by
      have := hi.numsOf
      rw [show vs = vs.toArray.toList from rfl, hxs, nums_intItems] at this
      rw [preSum_eq, List.take_of_length_le (by simp), this]
    rw [e]; exact .int _ _
theorem bitLen_sound {a : D} (hd : primD .bitLen [a] = some d) (ra : RpT ta P C s.heap va a) (k : ∀ v s', Keeps s s' → Rp P C s'.heap v d → Q v s') :
    wpAny (model prog w) A (call (.builtin "int.bit_length") [va]) Q E s ∧ ∃ i t, va = .int i t := by
  replace hd := intD_ (show _ = some d from hd)
  obtain ⟨i, eA, hd⟩ := hd; subst eA
  obtain ⟨t, rfl⟩ := ra.int
  split at hd
  · cases hd
    exact ⟨call_int_bit_length (k _ _ (keeps_toks _ _) (.int _ _)), _, _, rfl⟩
  · cases hd
set_option tactic.hygienic true in
theorem join_sound {a : D} {t0 : Tok} {sep : String} (hd : primD (.join sep) [a] = some d) (ra : RpT ta P C s.heap va a) (k : ∀ v s', Keeps s s' → Rp P C s'.heap v d → Q v s') :
    wpAny (model prog w) A (call (.builtin "str.join") [.str (Str.ofString sep) t0, va]) Q E s := by
  replace hd := lstD_ (show _ = some d from hd)
  obtain ⟨ds, eA, hd⟩ := hd; subst eA
  refine oE2_3 ra.list fun x vs rq3 hx r => ?_; subst rq3
  cases q : asStrs ds with
  | none => rw [q] at hd; cases hd
  | some is =>
    rw [q] at hd
    simp only [Option.bind_some] at hd
    split at hd
    · rename_i hw
      cases hd
      exact join_listW hx (asStrs_are r q) hw.2 hw.1 fun t' n => k _ _ (keeps_toks _ _) (.str _ _)
    · cases hd
theorem count_sound {a b : D} (hd : primD .count [a, b] = some d) (ra : RpT ta P C s.heap va a) (rb : RpT tb P C s.heap vb b) (k : ∀ v s', Keeps s s' → Rp P C s'.heap v d → Q v s') :
    wpAny (model prog w) A (call (.builtin "list.count") [va, vb]) Q E s := by
  replace hd := lstD_ (show _ = some d from hd)
  obtain ⟨ds, eA, hd⟩ := hd; subst eA
  replace hd := intD_ hd
  obtain ⟨kk, eB, hd⟩ := hd; subst eB
  refine oE2_3 ra.list fun x vs rq2 hx r => ?_; subst rq2
  obtain ⟨u, rfl⟩ := rb.int
  cases q : asInts ds with
  | none => rw [q] at hd; cases hd
  | some is =>
    rw [q] at hd; cases hd
    exact count_list_ints hx (asInts_are r q) (k _ _ (keeps_toks _ _) (.int _ _))
theorem sorted_ints_sound {ds : List D} {is : List Int} (ra : RpT ta P C s.heap va (.lst ds)) (q : asInts ds = some is) (h64 : ds.length < 64) (up : Up P s.heap)
    (k : ∀ v s', Keeps s s' → Rp P C s'.heap v (.lst ((sortI is).map .int)) → Q v s') :
    wpAny (model prog w) A (call (.builtin "sorted") [va]) Q E s := by
  refine oE2_3 ra.list fun x vs rq1 hx r => ?_; subst rq1
  refine sorted_ints hx (asInts_are r q) (by rw [r.length]; exact h64) fun out ns' hi hp hs => ?_
  refine k _ _ ⟨_, s.toks, rfl, fun _ _ => sortedAll_old⟩ ?_
  obtain ⟨e, he⟩ := sortedAll_at s.heap vs out
  rw [sortI_of hp hs] at hi
  refine .lst (up _ ?_) ⟨_, he, rfl, e, by simp [seqObj]⟩ (rpA_ints hi)
  exact Heap.get?_none_of_le (Nat.le_succ _)
end
end Mine
end
section
open PySem PySem.W PyProof.Rows
set_option autoImplicit false
namespace Mine
noncomputable def isVar (sc : Scope) (x : Str) : Bool := match sc.names.lookup x with
  | some .local | some .cell | some .free => true
  | _ => false
noncomputable def isGlob (sc : Scope) (x : Str) : Bool := decide (sc.names.lookup x = some .globalImplicit)
noncomputable def okName (x : Str) : Bool := !(x == ("__debug__" : Str)) && !(x == ("__classdict__" : Str))
noncomputable def relabelS (scope sc : Scope) : Scope :=
  { scope with names := scope.names.map fun (n, k) => if (k == .free && sc.kind == .function && sc.names.lookup n == some .cell) then (n, .cell) else (n, k) }
noncomputable def notSlice (e : Expr) : Bool := !(e.ctorIdx == 26)
noncomputable def notStar (e : Expr) : Bool := !(e.ctorIdx == 22)
noncomputable def plainTest (e : Expr) : Bool := !(e.ctorIdx == 3) && (!(e.ctorIdx == 0) && (!(e.ctorIdx == 5) && !(e.ctorIdx == 15)))
noncomputable def notSet (e : Expr) : Bool := !(e.ctorIdx == 7)
noncomputable def one {α : Type} (l : List α) (f : α → Bool) : Bool := match l with
  | [a] => f a
  | _ => false
theorem one_ {α : Type} {l : List α} {f : α → Bool} (h : one l f = true) : ∃ a, l = [a] ∧ f a = true := by
  match l with
  | [] => exact absurd h Bool.false_ne_true
  | [a] => exact ⟨a, rfl, h⟩
  | _ :: _ :: _ => exact absurd h Bool.false_ne_true
noncomputable def two {α : Type} (l : List α) (f : α → α → Bool) : Bool := match l with
  | [] => false
  | a :: r => one r (f a)
theorem two_ {α : Type} {l : List α} {f : α → α → Bool} (h : two l f = true) : ∃ a b, l = [a, b] ∧ f a b = true := by
  cases l with
  | nil => exact absurd h Bool.false_ne_true
  | cons a r => refine oE1_2 (one_ h) fun b rq22 h => ?_; subst rq22; exact ⟨a, b, rfl, h⟩
noncomputable def three {α : Type} (l : List α) (f : α → α → α → Bool) : Bool := match l with
  | [] => false
  | a :: r => two r (f a)
theorem three_ {α : Type} {l : List α} {f : α → α → α → Bool} (h : three l f = true) : ∃ a b c, l = [a, b, c] ∧ f a b c = true := by
  cases l with
  | nil => exact absurd h Bool.false_ne_true
  | cons a r => refine oE2_2 (two_ h) fun b c rq21 h => ?_; subst rq21; exact ⟨a, b, c, rfl, h⟩
noncomputable def four {α : Type} (l : List α) (f : α → α → α → α → Bool) : Bool := match l with
  | [] => false
  | a :: r => three r (f a)
theorem four_ {α : Type} {l : List α} {f : α → α → α → α → Bool} (h : four l f = true) : ∃ a b c d, l = [a, b, c, d] ∧ f a b c d = true := by
  cases l with
  | nil => exact absurd h Bool.false_ne_true
  | cons a r => refine oE3_2 (three_ h) fun b c d rq20 h => ?_; subst rq20; exact ⟨a, b, c, d, rfl, h⟩
noncomputable def nul {α : Type} (l : List α) (b : Bool) : Bool := match l with
  | [] => b
  | _ :: _ => false
theorem nul_ {α : Type} {l : List α} {b : Bool} (h : nul l b = true) : l = [] ∧ b = true := by
  cases l with
  | nil => exact ⟨rfl, h⟩
  | cons _ _ => exact absurd h Bool.false_ne_true
noncomputable def non {α : Type} (o : Option α) (b : Bool) : Bool := match o with
  | none => b
  | some _ => false
theorem non_ {α : Type} {o : Option α} {b : Bool} (h : non o b = true) : o = none ∧ b = true := by
  cases o with
  | none => exact ⟨rfl, h⟩
  | some _ => exact absurd h Bool.false_ne_true
noncomputable def som {α : Type} (o : Option α) (f : α → Bool) : Bool := match o with
  | none => false
  | some a => f a
theorem som_ {α : Type} {o : Option α} {f : α → Bool} (h : som o f = true) : ∃ a, o = some a ∧ f a = true := by
  cases o with
  | none => exact absurd h Bool.false_ne_true
  | some a => exact ⟨a, rfl, h⟩
theorem and_ {a b : Bool} (h : (a && b) = true) : a = true ∧ b = true := by rwa [Bool.and_eq_true] at h
noncomputable def cns {α : Type} (l : List α) (f : α → List α → Bool) : Bool := match l with
  | [] => false
  | a :: r => f a r
noncomputable def isName (e : Expr) (f : Str → Pos → Bool) : Bool := if h : e.ctorIdx = 23 then Expr.Name.elim (motive_1 := fun _ => Bool) e h fun x p => f x p else false
theorem isName_ {e : Expr} {f : Str → Pos → Bool} (h : isName e f = true) : ∃ x p, e = .Name x p ∧ f x p = true := by
  by_cases hc : e.ctorIdx = 23
  · exact Expr.Name.elim (motive_1 := fun e => isName e f = true → ∃ x p, e = .Name x p ∧ f x p = true) e hc (fun x p h => ⟨x, p, rfl, h⟩) h
  · unfold isName at h; rw [dif_neg hc] at h; cases h
noncomputable def isConst (e : Expr) (f : Const → Bool) : Bool := if h : e.ctorIdx = 19 then Expr.Constant.elim (motive_1 := fun _ => Bool) e h fun c _ _ => f c else false
theorem isConst_ {e : Expr} {f : Const → Bool} (h : isConst e f = true) : ∃ c k p, e = .Constant c k p ∧ f c = true := by
  by_cases hc : e.ctorIdx = 19
  · exact Expr.Constant.elim (motive_1 := fun e => isConst e f = true → ∃ c k p, e = .Constant c k p ∧ f c = true) e hc (fun c k p h => ⟨c, k, p, rfl, h⟩) h
  · unfold isConst at h; rw [dif_neg hc] at h; cases h
noncomputable def isBin (e : Expr) (f : Expr → Operator → Expr → Bool) : Bool := if h : e.ctorIdx = 2 then Expr.BinOp.elim (motive_1 := fun _ => Bool) e h fun l o r _ => f l o r else false
theorem isBin_ {e : Expr} {f : Expr → Operator → Expr → Bool} (h : isBin e f = true) : ∃ l o r p, e = .BinOp l o r p ∧ f l o r = true := by
  by_cases hc : e.ctorIdx = 2
  · exact Expr.BinOp.elim (motive_1 := fun e => isBin e f = true → ∃ l o r p, e = .BinOp l o r p ∧ f l o r = true) e hc (fun l o r p h => ⟨l, o, r, p, rfl, h⟩) h
  · unfold isBin at h; rw [dif_neg hc] at h; cases h
noncomputable def isCmp (e : Expr) (f : Expr → List CmpOp → List Expr → Bool) : Bool := if h : e.ctorIdx = 15 then Expr.Compare.elim (motive_1 := fun _ => Bool) e h fun l o r _ => f l o r else false
theorem isCmp_ {e : Expr} {f : Expr → List CmpOp → List Expr → Bool} (h : isCmp e f = true) : ∃ l o r p, e = .Compare l o r p ∧ f l o r = true := by
  by_cases hc : e.ctorIdx = 15
  · exact Expr.Compare.elim (motive_1 := fun e => isCmp e f = true → ∃ l o r p, e = .Compare l o r p ∧ f l o r = true) e hc (fun l o r p h => ⟨l, o, r, p, rfl, h⟩) h
  · unfold isCmp at h; rw [dif_neg hc] at h; cases h
noncomputable def isUn (e : Expr) (f : UnaryOp → Expr → Bool) : Bool := if h : e.ctorIdx = 3 then Expr.UnaryOp.elim (motive_1 := fun _ => Bool) e h fun o x _ => f o x else false
theorem isUn_ {e : Expr} {f : UnaryOp → Expr → Bool} (h : isUn e f = true) : ∃ o x p, e = .UnaryOp o x p ∧ f o x = true := by
  by_cases hc : e.ctorIdx = 3
  · exact Expr.UnaryOp.elim (motive_1 := fun e => isUn e f = true → ∃ o x p, e = .UnaryOp o x p ∧ f o x = true) e hc (fun o x p h => ⟨o, x, p, rfl, h⟩) h
  · unfold isUn at h; rw [dif_neg hc] at h; cases h
noncomputable def isBoolOp (e : Expr) (f : BoolOp → List Expr → Bool) : Bool := if h : e.ctorIdx = 0 then Expr.BoolOp.elim (motive_1 := fun _ => Bool) e h fun o xs _ => f o xs else false
theorem isBoolOp_ {e : Expr} {f : BoolOp → List Expr → Bool} (h : isBoolOp e f = true) : ∃ o xs p, e = .BoolOp o xs p ∧ f o xs = true := by
  by_cases hc : e.ctorIdx = 0
  · exact Expr.BoolOp.elim (motive_1 := fun e => isBoolOp e f = true → ∃ o xs p, e = .BoolOp o xs p ∧ f o xs = true) e hc (fun o xs p h => ⟨o, xs, p, rfl, h⟩) h
  · unfold isBoolOp at h; rw [dif_neg hc] at h; cases h
noncomputable def isIfE (e : Expr) (f : Expr → Expr → Expr → Bool) : Bool := if h : e.ctorIdx = 5 then Expr.IfExp.elim (motive_1 := fun _ => Bool) e h fun t x y _ => f t x y else false
theorem isIfE_ {e : Expr} {f : Expr → Expr → Expr → Bool} (h : isIfE e f = true) : ∃ t x y p, e = .IfExp t x y p ∧ f t x y = true := by
  by_cases hc : e.ctorIdx = 5
  · exact Expr.IfExp.elim (motive_1 := fun e => isIfE e f = true → ∃ t x y p, e = .IfExp t x y p ∧ f t x y = true) e hc (fun t x y p h => ⟨t, x, y, p, rfl, h⟩) h
  · unfold isIfE at h; rw [dif_neg hc] at h; cases h
noncomputable def isSub (e : Expr) (f : Expr → Expr → Bool) : Bool := if h : e.ctorIdx = 21 then Expr.Subscript.elim (motive_1 := fun _ => Bool) e h fun v x _ => f v x else false
theorem isSub_ {e : Expr} {f : Expr → Expr → Bool} (h : isSub e f = true) : ∃ v x p, e = .Subscript v x p ∧ f v x = true := by
  by_cases hc : e.ctorIdx = 21
  · exact Expr.Subscript.elim (motive_1 := fun e => isSub e f = true → ∃ v x p, e = .Subscript v x p ∧ f v x = true) e hc (fun v x p h => ⟨v, x, p, rfl, h⟩) h
  · unfold isSub at h; rw [dif_neg hc] at h; cases h
noncomputable def isSlice (e : Expr) (f : Option Expr → Option Expr → Option Expr → Bool) : Bool := if h : e.ctorIdx = 26 then Expr.Slice.elim (motive_1 := fun _ => Bool) e h fun lo hi st _ => f lo hi st else false
theorem isSlice_ {e : Expr} {f : Option Expr → Option Expr → Option Expr → Bool} (h : isSlice e f = true) : ∃ lo hi st p, e = .Slice lo hi st p ∧ f lo hi st = true := by
  by_cases hc : e.ctorIdx = 26
  · exact Expr.Slice.elim (motive_1 := fun e => isSlice e f = true → ∃ lo hi st p, e = .Slice lo hi st p ∧ f lo hi st = true) e hc (fun lo hi st p h => ⟨lo, hi, st, p, rfl, h⟩) h
  · unfold isSlice at h; rw [dif_neg hc] at h; cases h
noncomputable def isList (e : Expr) (f : List Expr → Bool) : Bool := if h : e.ctorIdx = 24 then Expr.List.elim (motive_1 := fun _ => Bool) e h fun xs _ => f xs else false
theorem isList_ {e : Expr} {f : List Expr → Bool} (h : isList e f = true) : ∃ xs p, e = .List xs p ∧ f xs = true := by
  by_cases hc : e.ctorIdx = 24
  · exact Expr.List.elim (motive_1 := fun e => isList e f = true → ∃ xs p, e = .List xs p ∧ f xs = true) e hc (fun xs p h => ⟨xs, p, rfl, h⟩) h
  · unfold isList at h; rw [dif_neg hc] at h; cases h
noncomputable def isTup (e : Expr) (f : List Expr → Bool) : Bool := if h : e.ctorIdx = 25 then Expr.Tuple.elim (motive_1 := fun _ => Bool) e h fun xs _ _ => f xs else false
theorem isTup_ {e : Expr} {f : List Expr → Bool} (h : isTup e f = true) : ∃ xs k p, e = .Tuple xs k p ∧ f xs = true := by
  by_cases hc : e.ctorIdx = 25
  · exact Expr.Tuple.elim (motive_1 := fun e => isTup e f = true → ∃ xs k p, e = .Tuple xs k p ∧ f xs = true) e hc (fun xs k p h => ⟨xs, k, p, rfl, h⟩) h
  · unfold isTup at h; rw [dif_neg hc] at h; cases h
noncomputable def isLComp (e : Expr) (f : Expr → List Comprehension → Scope → Bool) : Bool := if h : e.ctorIdx = 8 then Expr.ListComp.elim (motive_1 := fun _ => Bool) e h fun x gs sc _ => f x gs sc else false
theorem isLComp_ {e : Expr} {f : Expr → List Comprehension → Scope → Bool} (h : isLComp e f = true) : ∃ x gs sc p, e = .ListComp x gs sc p ∧ f x gs sc = true := by
  by_cases hc : e.ctorIdx = 8
  · exact Expr.ListComp.elim (motive_1 := fun e => isLComp e f = true → ∃ x gs sc p, e = .ListComp x gs sc p ∧ f x gs sc = true) e hc (fun x gs sc p h => ⟨x, gs, sc, p, rfl, h⟩) h
  · unfold isLComp at h; rw [dif_neg hc] at h; cases h
noncomputable def isCall (e : Expr) (f : Expr → List Expr → List Keyword → Pos → Bool) : Bool := if h : e.ctorIdx = 16 then Expr.Call.elim (motive_1 := fun _ => Bool) e h fun g xs kw p => f g xs kw p else false
theorem isCall_ {e : Expr} {f : Expr → List Expr → List Keyword → Pos → Bool} (h : isCall e f = true) : ∃ g xs kw p, e = .Call g xs kw p ∧ f g xs kw p = true := by
  by_cases hc : e.ctorIdx = 16
  · exact Expr.Call.elim (motive_1 := fun e => isCall e f = true → ∃ g xs kw p, e = .Call g xs kw p ∧ f g xs kw p = true) e hc (fun g xs kw p h => ⟨g, xs, kw, p, rfl, h⟩) h
  · unfold isCall at h; rw [dif_neg hc] at h; cases h
noncomputable def isAttr (e : Expr) (f : Expr → Str → Pos → Bool) : Bool := if h : e.ctorIdx = 20 then Expr.Attribute.elim (motive_1 := fun _ => Bool) e h fun o n p => f o n p else false
theorem isAttr_ {e : Expr} {f : Expr → Str → Pos → Bool} (h : isAttr e f = true) : ∃ o n p, e = .Attribute o n p ∧ f o n p = true := by
  by_cases hc : e.ctorIdx = 20
  · exact Expr.Attribute.elim (motive_1 := fun e => isAttr e f = true → ∃ o n p, e = .Attribute o n p ∧ f o n p = true) e hc (fun o n p h => ⟨o, n, p, rfl, h⟩) h
  · unfold isAttr at h; rw [dif_neg hc] at h; cases h
noncomputable def isAssign (e : Stmt) (f : List Expr → Expr → Bool) : Bool := if h : e.ctorIdx = 5 then Stmt.Assign.elim (motive_2 := fun _ => Bool) e h fun ts v _ => f ts v else false
theorem isAssign_ {e : Stmt} {f : List Expr → Expr → Bool} (h : isAssign e f = true) : ∃ ts v p, e = .Assign ts v p ∧ f ts v = true := by
  by_cases hc : e.ctorIdx = 5
  · exact Stmt.Assign.elim (motive_2 := fun e => isAssign e f = true → ∃ ts v p, e = .Assign ts v p ∧ f ts v = true) e hc (fun ts v p h => ⟨ts, v, p, rfl, h⟩) h
  · unfold isAssign at h; rw [dif_neg hc] at h; cases h
noncomputable def isAug (e : Stmt) (f : Expr → Operator → Expr → Bool) : Bool := if h : e.ctorIdx = 7 then Stmt.AugAssign.elim (motive_2 := fun _ => Bool) e h fun t o v _ => f t o v else false
theorem isAug_ {e : Stmt} {f : Expr → Operator → Expr → Bool} (h : isAug e f = true) : ∃ t o v p, e = .AugAssign t o v p ∧ f t o v = true := by
  by_cases hc : e.ctorIdx = 7
  · exact Stmt.AugAssign.elim (motive_2 := fun e => isAug e f = true → ∃ t o v p, e = .AugAssign t o v p ∧ f t o v = true) e hc (fun t o v p h => ⟨t, o, v, p, rfl, h⟩) h
  · unfold isAug at h; rw [dif_neg hc] at h; cases h
noncomputable def isExprS (e : Stmt) (f : Expr → Bool) : Bool := if h : e.ctorIdx = 24 then Stmt.Expr.elim (motive_2 := fun _ => Bool) e h fun v _ => f v else false
theorem isExprS_ {e : Stmt} {f : Expr → Bool} (h : isExprS e f = true) : ∃ v p, e = .Expr v p ∧ f v = true := by
  by_cases hc : e.ctorIdx = 24
  · exact Stmt.Expr.elim (motive_2 := fun e => isExprS e f = true → ∃ v p, e = .Expr v p ∧ f v = true) e hc (fun v p h => ⟨v, p, rfl, h⟩) h
  · unfold isExprS at h; rw [dif_neg hc] at h; cases h
noncomputable def isIf (e : Stmt) (f : Expr → List Stmt → List Stmt → Bool) : Bool := if h : e.ctorIdx = 12 then Stmt.If.elim (motive_2 := fun _ => Bool) e h fun t a b _ => f t a b else false
theorem isIf_ {e : Stmt} {f : Expr → List Stmt → List Stmt → Bool} (h : isIf e f = true) : ∃ t a b p, e = .If t a b p ∧ f t a b = true := by
  by_cases hc : e.ctorIdx = 12
  · exact Stmt.If.elim (motive_2 := fun e => isIf e f = true → ∃ t a b p, e = .If t a b p ∧ f t a b = true) e hc (fun t a b p h => ⟨t, a, b, p, rfl, h⟩) h
  · unfold isIf at h; rw [dif_neg hc] at h; cases h
noncomputable def isFor (e : Stmt) (f : Expr → Expr → List Stmt → List Stmt → Bool) : Bool := if h : e.ctorIdx = 9 then Stmt.For.elim (motive_2 := fun _ => Bool) e h fun t it a b _ => f t it a b else false
theorem isFor_ {e : Stmt} {f : Expr → Expr → List Stmt → List Stmt → Bool} (h : isFor e f = true) : ∃ t it a b p, e = .For t it a b p ∧ f t it a b = true := by
  by_cases hc : e.ctorIdx = 9
  · exact Stmt.For.elim (motive_2 := fun e => isFor e f = true → ∃ t it a b p, e = .For t it a b p ∧ f t it a b = true) e hc (fun t it a b p h => ⟨t, it, a, b, p, rfl, h⟩) h
  · unfold isFor at h; rw [dif_neg hc] at h; cases h
noncomputable def isRet (e : Stmt) (f : Option Expr → Bool) : Bool := if h : e.ctorIdx = 3 then Stmt.Return.elim (motive_2 := fun _ => Bool) e h fun v _ => f v else false
theorem isRet_ {e : Stmt} {f : Option Expr → Bool} (h : isRet e f = true) : ∃ v p, e = .Return v p ∧ f v = true := by
  by_cases hc : e.ctorIdx = 3
  · exact Stmt.Return.elim (motive_2 := fun e => isRet e f = true → ∃ v p, e = .Return v p ∧ f v = true) e hc (fun v p h => ⟨v, p, rfl, h⟩) h
  · unfold isRet at h; rw [dif_neg hc] at h; cases h
noncomputable def isDel (e : Stmt) (f : List Expr → Bool) : Bool := if h : e.ctorIdx = 4 then Stmt.Delete.elim (motive_2 := fun _ => Bool) e h fun ts _ => f ts else false
theorem isDel_ {e : Stmt} {f : List Expr → Bool} (h : isDel e f = true) : ∃ ts p, e = .Delete ts p ∧ f ts = true := by
  by_cases hc : e.ctorIdx = 4
  · exact Stmt.Delete.elim (motive_2 := fun e => isDel e f = true → ∃ ts p, e = .Delete ts p ∧ f ts = true) e hc (fun ts p h => ⟨ts, p, rfl, h⟩) h
  · unfold isDel at h; rw [dif_neg hc] at h; cases h
noncomputable def isG (sc : Scope) (f : String) (e : Expr) : Bool := isName e fun g _ => decide (Str.ofString f = g) && isGlob sc g && okName g
noncomputable def isMeth (e : Expr) (f : Expr → Str → Pos → List Expr → Pos → Bool) : Bool := isCall e fun g xs kw p => nul kw (isAttr g fun o n a => f o n a xs p)
theorem isMeth_ {e : Expr} {f : Expr → Str → Pos → List Expr → Pos → Bool} (h : isMeth e f = true) : ∃ o n a xs p, e = .Call (.Attribute o n a) xs [] p ∧ f o n a xs p = true := by
  refine oE4_2 (isCall_ h) fun g xs kw p rq19 h => ?_; subst rq19
  obtain ⟨rfl, h⟩ := nul_ h
  refine oE3_2 (isAttr_ h) fun o n a rq18 h => ?_; subst rq18
  exact ⟨o, n, a, xs, p, rfl, h⟩
noncomputable def call1 (sc : Scope) (b : String) (e : Expr) (f : Expr → Bool) : Bool := isCall e fun g xs kw _ => nul kw (one xs fun x => isG sc b g && f x)
theorem call1_ {sc : Scope} {b : String} {e : Expr} {f : Expr → Bool} (h : call1 sc b e f = true) : ∃ g x p, e = .Call g [x] [] p ∧ isG sc b g = true ∧ f x = true := by
  refine oE4_2 (isCall_ h) fun g xs kw p rq17 h => ?_; subst rq17
  obtain ⟨rfl, h⟩ := nul_ h
  refine oE1_2 (one_ h) fun x rq16 h => ?_; subst rq16
  exact ⟨g, x, p, rfl, (and_ h).1, (and_ h).2⟩
noncomputable def isCmp1 (e : Expr) (f : Expr → CmpOp → Expr → Bool) : Bool := isCmp e fun l o r => one o fun o => one r fun r => f l o r
theorem isCmp1_ {e : Expr} {f : Expr → CmpOp → Expr → Bool} (h : isCmp1 e f = true) : ∃ l o r p, e = .Compare l [o] [r] p ∧ f l o r = true := by
  refine oE4_2 (isCmp_ h) fun l o r p rq15 h => ?_; subst rq15
  refine oE1_2 (one_ h) fun o rq14 h => ?_; subst rq14
  refine oE1_2 (one_ h) fun r rq13 h => ?_; subst rq13
  exact ⟨l, o, r, p, rfl, h⟩
noncomputable def isAsg1 (e : Stmt) (f : Expr → Expr → Bool) : Bool := isAssign e fun ts v => one ts fun t => f t v
theorem isAsg1_ {e : Stmt} {f : Expr → Expr → Bool} (h : isAsg1 e f = true) : ∃ t v p, e = .Assign [t] v p ∧ f t v = true := by
  refine oE3_2 (isAssign_ h) fun ts v p rq12 h => ?_; subst rq12
  refine oE1_2 (one_ h) fun t rq11 h => ?_; subst rq11
  exact ⟨t, v, p, rfl, h⟩
noncomputable def isAsgN (e : Stmt) (f : Str → Pos → Expr → Bool) : Bool := isAsg1 e fun t v => isName t fun y p => f y p v
theorem isAsgN_ {e : Stmt} {f : Str → Pos → Expr → Bool} (h : isAsgN e f = true) : ∃ y q v p, e = .Assign [.Name y q] v p ∧ f y q v = true := by
  refine oE3_2 (isAsg1_ h) fun t v p rq10 h => ?_; subst rq10
  refine oE2_2 (isName_ h) fun y q rq9 h => ?_; subst rq9
  exact ⟨y, q, v, p, rfl, h⟩
noncomputable def primShape (sc : Scope) (p : Prim) (e : Expr) (f : List Expr → Bool) : Bool := match p with
  | .len => call1 sc "len" e fun x => f [x]
  | .sum => call1 sc "sum" e fun x => f [x]
  | .sorted => call1 sc "sorted" e fun x => f [x]
  | .sortedP => call1 sc "sorted" e fun x => f [x]
  | .sortedSet => call1 sc "sorted" e fun y => call1 sc "set" y fun x => f [x]
  | .join sep => isMeth e fun o n a xs p => isConst o fun c => one xs fun x => decide (c = .str (Str.ofString sep)) && decide (n = ("join" : Str)) && (a.endLine == p.line) && f [x]
  | .bitLen => isMeth e fun o n a xs p => isName o fun _ _ => nul xs (decide (n = ("bit_length" : Str)) && (a.endLine == p.line) && f [o])
  | .count => isMeth e fun o n a xs p => isName o fun _ _ => one xs fun y => decide (n = ("count" : Str)) && (a.endLine == p.line) && f [o, y]
noncomputable def methShape (m : String) (e : Expr) (f : Expr → List Expr → Bool) : Bool := isMeth e fun o n a xs p => isName o fun _ _ => decide (n = Str.ofString m) && (a.endLine == p.line) && decide (xs.length ≤ 1) && f o xs
noncomputable def plainBase (e : Expr) : Bool := e.ctorIdx == 23 || e.ctorIdx == 21
noncomputable def attrShape (e : Expr) (f : Expr → Bool) : Bool := isAttr e fun o n _ => isName o fun _ _ => decide (n = ("_headers" : Str)) && f o
noncomputable def lowShape (e : Expr) (f : Expr → Bool) : Bool := isMeth e fun o n a xs p => nul xs (plainBase o && decide (n = ("lower" : Str)) && (a.endLine == p.line) && f o)
noncomputable def convShape (b : Bool) (e : Expr) (f : Expr → Expr → Bool) : Bool := isCall e fun g xs kw p => isAttr g fun o n ap => isName o fun _ _ => one xs fun a => one kw fun k => isConst k.value fun c =>
  decide (n = ("_convert_string_type" : Str)) && decide (k.arg = some ("name" : Str)) && (ap.endLine == p.line) && decide (c = .bool b) && notStar a && f o a
noncomputable def isVarE (tb : List Str) (sc : Scope) (i : Nat) (e : Expr) : Bool := isName e fun x _ => decide (tb[i]? = some x) && isVar sc x && okName x
theorem isVarE_n {tb : List Str} {sc : Scope} {i : Nat} {e : Expr} (h : isVarE tb sc i e = true) : ∃ x p, e = .Name x p ∧ (tb[i]? = some x ∧ isVar sc x = true) ∧ okName x = true := by
  refine oE2_2 (isName_ h) fun x p rq8 h1 => ?_; subst rq8
  simp only [Bool.and_eq_true, decide_eq_true_eq] at h1
  exact ⟨x, p, rfl, h1⟩
noncomputable def isLC (o : Option NameKind) : Bool := match o with
  | some .local | some .cell => true
  | _ => false
theorem isLC_ {o : Option NameKind} (h : isLC o = true) : o = some .local ∨ o = some .cell := by
  cases o with
  | none => cases h
  | some k => cases k <;> first | exact .inl rfl | exact .inr rfl | cases h
noncomputable def tgtName (sc : Scope) (x : Str) : Bool := isLC (sc.names.lookup x)
theorem tgtName_ {sc : Scope} {x : Str} (h : tgtName sc x = true) : sc.names.lookup x = some .local ∨ sc.names.lookup x = some .cell := isLC_ h
noncomputable def nameT (tb : List Str) (sc : Scope) (i : Nat) (e : Expr) : Bool := isName e fun x _ => decide (tb[i]? = some x) && tgtName sc x
theorem nameT_ {tb : List Str} {sc : Scope} {i : Nat} {e : Expr} (h : nameT tb sc i e = true) : ∃ x p, e = .Name x p ∧ tb[i]? = some x ∧ tgtName sc x = true := by
  refine oE2_2 (isName_ h) fun x p e h1 => ?_
  obtain ⟨h2, h3⟩ := and_ h1
  exact ⟨x, p, e, of_decide_eq_true h2, h3⟩
noncomputable def chkNames (tb : List Str) (sc : Scope) : List Nat → List Expr → Bool
  | [], es => nul es true
  | i :: is, es => cns es fun e r => nameT tb sc i e && chkNames tb sc is r
theorem chkNames_cons {tb : List Str} {sc : Scope} {i : Nat} {is : List Nat} {es : List Expr} (h : chkNames tb sc (i :: is) es = true) : ∃ x p r, es = .Name x p :: r ∧ (tb[i]? = some x ∧ tgtName sc x = true) ∧ chkNames tb sc is r = true := by
  cases es with
  | nil => cases h
  | cons e r =>
    obtain ⟨h1, h2⟩ := and_ (show (nameT tb sc i e && chkNames tb sc is r) = true from h)
    refine oE2_2 (nameT_ h1) fun x p rq7 h3 => ?_; subst rq7
    exact ⟨x, p, r, rfl, h3, h2⟩
noncomputable def chkTgt (tb : List Str) (sc : Scope) (t : Tgt) (e : Expr) : Bool := match t with
  | .one i => nameT tb sc i e
  | .many is => isTup e fun es => chkNames tb sc is es && decide is.Nodup
theorem chkTgt_many {tb : List Str} {sc : Scope} {is : List Nat} {e : Expr} (h : chkTgt tb sc (.many is) e = true) : ∃ es k p, e = .Tuple es k p ∧ chkNames tb sc is es = true ∧ decide is.Nodup = true := by
  refine oE3_2 (isTup_ h) fun es k p e h1 => ?_
  exact ⟨es, k, p, e, and_ h1⟩
theorem chkNames_mem {tb : List Str} {sc : Scope} : ∀ {is : List Nat} {es : List Expr}, chkNames tb sc is es = true → ∀ i ∈ is, ∀ x, tb[i]? = some x → tgtName sc x = true
  | [], _, _, i, hi, _, _ => by cases hi
  | j :: is, es, c, i, hi, x, hx => by
    refine oE3_3 (chkNames_cons c) fun y p r _ c1 c2 => ?_
    rcases List.mem_cons.mp hi with rfl | hi
    · rw [c1.1] at hx; cases hx; exact c1.2
    · exact chkNames_mem c2 i hi x hx
theorem nameT_mono {tb : List Str} {sc sc' : Scope} (h : ∀ x, tgtName sc x = true → tgtName sc' x = true) {i : Nat} {e : Expr} (c : nameT tb sc i e = true) : nameT tb sc' i e = true := by
  refine oE2_3 (nameT_ c) fun x p rq6 h1 h2 => ?_; subst rq6
  show (decide (tb[i]? = some x) && tgtName sc' x) = true
  rw [decide_eq_true h1, h x h2]; rfl
theorem chkNames_mono {tb : List Str} {sc sc' : Scope} (h : ∀ x, tgtName sc x = true → tgtName sc' x = true) : ∀ {is : List Nat} {es : List Expr}, chkNames tb sc is es = true → chkNames tb sc' is es = true
  | [], _, c => c
  | i :: is, es, c => by
    cases es with
    | nil => cases c
    | cons e r =>
      obtain ⟨h1, h2⟩ := and_ (show (nameT tb sc i e && chkNames tb sc is r) = true from c)
      show (nameT tb sc' i e && chkNames tb sc' is r) = true
      rw [nameT_mono h h1, chkNames_mono h h2]; rfl
theorem chkTgt_mono {tb : List Str} {sc sc' : Scope} (h : ∀ x, tgtName sc x = true → tgtName sc' x = true) {t : Tgt} {e : Expr} (c : chkTgt tb sc t e = true) : chkTgt tb sc' t e = true := by
  cases t with
  | one i => exact nameT_mono h c
  | many is =>
    refine oE3_3 (chkTgt_many c) fun es k p rq5 h1 h2 => ?_; subst rq5
    show (chkNames tb sc' is es && decide is.Nodup) = true
    rw [chkNames_mono h h1, h2]; rfl
noncomputable def partsT (t : Tgt) (d : D) : Option (List D) := match t with
  | .one _ => some [d]
  | .many is => tupD (fun ds => if is.length = ds.length then some ds else none) d
set_option tactic.hygienic true in
theorem partsT_many {is : List Nat} {d : D} {ds : List D} (h : partsT (.many is) d = some ds) : d = .tup ds ∧ is.length = ds.length := by
  refine oE1_2 (tupD_ (show tupD _ d = _ from h)) fun x rq4 h1 => ?_; subst rq4
  split at h1
  · rename_i q; cases h1; exact ⟨rfl, q⟩
  · cases h1
noncomputable def tgtIs : Tgt → List Nat
  | .one i => [i]
  | .many is => is
noncomputable def covers (tb : List Str) (tgt : Tgt) (sc : Scope) : Bool := sc.names.all fun x => match x.2 with
  | .local | .cell => decide (x.1 = (".0" : Str)) || (tgtIs tgt).any fun i => decide (tb[i]? = some x.1)
  | _ => true
noncomputable def compScope (sc sc' : Scope) : Bool :=
  decide (sc'.kind = .function) && (sc'.names.all fun x => decide (sc'.names.lookup x.1 = some x.2)) &&
  (sc'.names.all fun x => match x.2 with
    | .free => (match sc.names.lookup x.1 with | some .cell | some .free => true | _ => false)
    | .local | .cell | .globalImplicit => true
    | _ => false) && decide (sc'.names.map (·.1)).Nodup
set_option tactic.hygienic true
mutual
noncomputable def chk (tb : List Str) : CE → Scope → Expr → Bool
  | .var i, sc, e => isVarE tb sc i e
  | .cnone, _, e => isConst e fun c => decide (c = .none)
  | .cbool b, _, e => isConst e fun c => decide (c = .bool b)
  | .cint i, _, e => isConst e fun c => decide (c = .int i)
  | .cstr x, _, e => isConst e fun c => decide (c = .str (Str.ofString x))
  | .bin op a b, sc, e => isBin e fun l o r => decide (op = o) && chk tb a sc l && chk tb b sc r
  | .cmp op a b, sc, e => isCmp1 e fun l o r => decide (op = o) && chk tb a sc l && chk tb b sc r && notSet r
  | .neg a, sc, e => isUn e fun o x => decide (o = .USub) && chk tb a sc x
  | .ite c a b, sc, e => isIfE e fun t x y => chkT tb c sc t && chk tb a sc x && chk tb b sc y
  | .idx a i, sc, e => isSub e fun v x => chk tb a sc v && chk tb i sc x && notSlice x
  | .take a k, sc, e => isSub e fun v x => isName v fun _ _ => isSlice x fun lo hi st => non lo (som hi fun u => isConst u fun c => non st (chk tb a sc v && decide (c = .int k)))
  | .drop a k, sc, e => isSub e fun v x => isName v fun _ _ => isSlice x fun lo hi st => non hi (som lo fun u => isConst u fun c => non st (chk tb a sc v && decide (c = .int k)))
  | .dlst es, sc, e => isList e fun xs => chks tb es sc xs
  | .dtup es, sc, e => isTup e fun xs => chks tb es sc xs
  | .comp elt tgt it conds, sc, e => isLComp e fun x gs sc' => one gs fun g =>
    decide (g.is_async = 0) && chkI tb it sc g.iter && notSet g.iter && compScope sc sc' && covers tb tgt sc' && chkTgt tb sc' tgt g.target && chk tb elt (relabelS sc' sc) x && chkTs tb conds (relabelS sc' sc) g.ifs && decide (g.ifs.length ≤ 1)
  | .call f es, sc, e => isCall e fun g xs kw _ => nul kw (isG sc f g && chks tb es sc xs && decide (f ∉ hmKeys) && decide (0 < es.length))
  | .prim p es, sc, e => primShape sc p e fun xs => chks tb es sc xs
  | .meth m o es, sc, e => methShape (hmName m) e fun y xs => chk tb o sc y && chks tb es sc xs
  | .low a, sc, e => lowShape e fun y => chk tb a sc y
  | .attr i, sc, e => attrShape e fun y => isVarE tb sc i y
  | .conv i a b, sc, e => convShape b e fun y z => isVarE tb sc i y && chk tb a sc z
  | .copy a, sc, e => isSub e fun v x => isSlice x fun lo hi st => non lo (non hi (non st (chk tb a sc v)))
noncomputable def chkT (tb : List Str) : CT → Scope → Expr → Bool
  | .val e, sc, x => plainTest x && chk tb e sc x
  | .not t, sc, e => isUn e fun o x => decide (o = .Not) && chkT tb t sc x
  | .and ts, sc, e => isBoolOp e fun o xs => decide (o = .And) && chkTs tb ts sc xs
  | .or ts, sc, e => isBoolOp e fun o xs => decide (o = .Or) && chkTs tb ts sc xs
  | .cmp op a b, sc, e => isCmp1 e fun l o r => decide (op = o) && chk tb a sc l && chk tb b sc r && notSet r
noncomputable def chkTs (tb : List Str) : List CT → Scope → List Expr → Bool
  | [], _, xs => nul xs true
  | t :: ts, sc, xs => cns xs fun x xs => chkT tb t sc x && chkTs tb ts sc xs
noncomputable def chkI (tb : List Str) : CI → Scope → Expr → Bool
  | .ce e, sc, x => chk tb e sc x
  | .rng es, sc, e => isCall e fun g xs kw _ => nul kw (isG sc "range" g && chks tb es sc xs && decide (0 < es.length))
noncomputable def chks (tb : List Str) : List CE → Scope → List Expr → Bool
  | [], _, xs => nul xs true
  | e :: es, sc, xs => cns xs fun x xs => chk tb e sc x && notStar x && chks tb es sc xs
end
set_option tactic.hygienic false
theorem k_val {tb e sc x} : chkT tb (.val e) sc x = (plainTest x && chk tb e sc x) := rfl
theorem k_tscons {tb t ts sc xs} : chkTs tb (t :: ts) sc xs = cns xs fun x xs => chkT tb t sc x && chkTs tb ts sc xs := rfl
theorem k_ce {tb e sc x} : chkI tb (.ce e) sc x = chk tb e sc x := rfl
theorem k_scons {tb e es sc xs} : chks tb (e :: es) sc xs = cns xs fun x xs => chk tb e sc x && notStar x && chks tb es sc xs := rfl
noncomputable def GlobalAt (h0 : Heap) (x : Str) (v : Value) : Prop :=
  ∃ mg mb, h0.Ns mainGlobals mg ∧ h0.Ns builtinsNs mb ∧ (mg x = some v ∨ (mg x = none ∧ mb x = some v))
structure EnvOK (env : Env) : Prop where
  kind : env.scope.kind = .function
  glob : env.globals = mainGlobals
  blt : env.builtins = builtinsNs
  cells : ∀ x, (env.kindOf x = some .cell ∨ env.kindOf x = some .free) → ∃ c, env.cells.lookup x = some c
  apart : ∀ x y c, env.cells.lookup x = some c → env.cells.lookup y = some c → x = y
structure Rm (n : Nat) (A : Around) : Prop where
  depth : A.depth + n < recursionLimit
  units : A.units + 16 * n + 200 < cLine
  handled : A.handled = none
theorem Rm.mono {n m : Nat} {A : Around} (r : Rm n A) (h : m ≤ n) : Rm m A := ⟨by have := r.depth; exact om_21 h this, by have := r.units; exact om_22 h this, r.handled⟩
theorem Rm.deeper {n : Nat} {A : Around} (r : Rm (n + 1) A) (env : Env) : Rm n (A.deeper env) := ⟨by have := r.depth; show A.depth + 1 + n < _; exact om_23 this, by have := r.units; show A.units + 3 + 16 * n + 200 < _; exact om_24 this, r.handled⟩
theorem Rm.in1 {n : Nat} {A : Around} (r : Rm (n + 1) A) : Rm n A.in1 := ⟨by have := r.depth; show A.depth + n < _; exact om_25 this, by have := r.units; show A.units + 1 + 16 * n + 200 < _; exact om_26 this, r.handled⟩
noncomputable def VarAt (env : Env) (h : Heap) (x : Str) (v : Value) : Prop :=
  (env.kindOf x = some .local ∧ ∃ m, h.Ns env.locals m ∧ m x = some v) ∨
  ((env.kindOf x = some .cell ∨ env.kindOf x = some .free) ∧ ∃ c, env.cells.lookup x = some c ∧ h.IsCell c (some v))
theorem VarAt.keeps {env : Env} {h h' : Heap} {x : Str} {v : Value} (a : VarAt env h x v) (k : Keep h h') : VarAt env h' x v := by
  rcases a with ⟨e, m, n, q⟩ | ⟨e, c, l, q⟩
  · exact .inl ⟨e, m, n.keeps k, q⟩
  · exact .inr ⟨e, c, l, q.keeps k⟩
inductive RpTA (P : Addr → Prop) (C : Addr) (h : Heap) : List Value → List TD → Prop
  | nil : RpTA P C h [] []
  | cons {v : Value} {vs : List Value} {d : TD} {ds : List TD} : RpT d.2 P C h v d.1 → RpTA P C h vs ds → RpTA P C h (v :: vs) (d :: ds)
theorem RpTA.keeps {P : Addr → Prop} {C : Addr} {h h' : Heap} {vs : List Value} {ds : List TD} (r : RpTA P C h vs ds) (k : Keep h h') : RpTA P C h' vs ds := by
  induction r with
  | nil => exact .nil
  | cons a _ ih => exact .cons (a.keeps k) ih
theorem emb_rp {P : Addr → Prop} {C : Addr} {h : Heap} {v : Value} {x : TD} {d : D} (e : emb x = some d) (r : RpT x.2 P C h v x.1) : Rp P C h v d := by
  obtain ⟨y, t⟩ := x
  change (if (!t || y.flat) = true then some y else none) = some d at e
  by_cases q : (!t || y.flat) = true
  · rw [if_pos q] at e
    cases e
    cases t with
    | false => exact r
    | true => exact r.flat (by simpa using q)
  · rw [if_neg q] at e; cases e
set_option tactic.hygienic true in
theorem embs_rp {P : Addr → Prop} {C : Addr} {h : Heap} {vs : List Value} {xs : List TD} (r : RpTA P C h vs xs) : ∀ {ds : List D}, xs.mapM emb = some ds → RpA P C h vs ds := by
  induction r with
  | nil => intro ds e; cases e; exact .nil
  | cons a _ ih =>
    intro ds e
    simp only [List.mapM_cons] at e
    rename_i d xs _
    cases q : emb d with
    | none => rw [q] at e; cases e
    | some y =>
      rw [q] at e
      cases q' : xs.mapM emb with
      | none => rw [q'] at e; cases e
      | some ys => rw [q'] at e; cases e; exact .cons (emb_rp q a) (ih q')
theorem RpTA.all {P : Addr → Prop} {C : Addr} {h : Heap} {vs : List Value} {xs : List TD} (r : RpTA P C h vs xs) : RpA (fun _ => True) C h vs (xs.map (·.1)) := by
  induction r with
  | nil => exact .nil
  | cons a _ ih => exact .cons a.all ih
set_option tactic.hygienic true in
theorem RpTA.plain {P : Addr → Prop} {C : Addr} {h : Heap} {vs : List Value} {xs : List TD} (r : RpTA P C h vs xs) (e : xs.all (!·.2) = true) : RpA P C h vs (xs.map (·.1)) := by
  induction r with
  | nil => exact .nil
  | cons a _ ih =>
    rename_i d xs _
    rw [List.all_cons, Bool.and_eq_true] at e
    obtain ⟨y, t⟩ := d
    cases t with
    | false => exact .cons a (ih e.2)
    | true => exact absurd e.1 (by simp)
section
variable {M : Model} {A : Around} {E : Value → Shared → Prop} {s : Shared} {env : Env} {Q : Value → Shared → Prop} {h0 : Heap}
theorem Name_var {x : Str} {pos : Pos} {v : Value} (ok : EnvOK env) (n : okName x = true) (a : VarAt env s.heap x v) (k : Q v s) : wpAny M A (eval (.Name x pos) env) Q E s := by
  simp only [okName, Bool.and_eq_true, Bool.not_eq_true'] at n
  refine wpAny_Name ?_ n.1
  rcases a with ⟨e, m, hn, q⟩ | ⟨e | e, c, l, q⟩
  · exact wpAny_loadName_local ok.kind e hn q k
  · exact wpAny_loadName_cell ok.kind e l q k
  · exact wpAny_loadName_free ok.kind e l q k n.2
theorem Name_glob {x : Str} {pos : Pos} {v : Value} (ok : EnvOK env) (n : okName x = true) (g : isGlob env.scope x = true) (a : GlobalAt h0 x v) (kp : Keep h0 s.heap) (k : Q v s) :
    wpAny M A (eval (.Name x pos) env) Q E s := by
  simp only [okName, Bool.and_eq_true, Bool.not_eq_true'] at n
  refine oE2_3 a fun mg mb hg hb q => ?_; clear a
  refine Calls.Name_function_global ok.kind (of_decide_eq_true g) ?_ n.1
  rcases q with q | ⟨q1, q2⟩
  · exact Calls.loadGlobal_global (mg := mg) (by rw [ok.glob]; exact hg.keeps kp) q k
  · exact Calls.loadGlobal_builtin (mg := mg) (mb := mb) (by rw [ok.glob]; exact hg.keeps kp) q1 (by rw [ok.blt]; exact hb.keeps kp) q2 k
theorem isG_name {sc : Scope} {f : String} {g : Expr} (h : isG sc f g = true) : ∃ p, g = .Name (Str.ofString f) p ∧ isGlob sc (Str.ofString f) = true ∧ okName (Str.ofString f) = true := by
  refine oE2_2 (isName_ h) fun x p rq3 h1 => ?_; subst rq3
  simp only [Bool.and_eq_true, decide_eq_true_eq] at h1
  refine oE0_2 h1 fun zq1 h3 => ?_; clear h1; refine oE0_2 zq1 fun rq2 h2 => ?_; clear zq1; subst rq2
  exact ⟨p, rfl, h2, h3⟩
end
end Mine
end
section
open PySem PySem.W PyProof.Rows
set_option autoImplicit false
namespace Mine
structure Fm (env : Env) (h : Heap) (g : Str → Option Value) : Prop where
  ns : ∃ m, h.Ns env.locals m ∧ ∀ x, env.kindOf x = some .local → m x = g x
  cell : ∀ x c, env.cells.lookup x = some c → (env.kindOf x = some .cell ∨ env.kindOf x = some .free) → h.IsCell c (g x)
noncomputable def slotOf (env : Env) (x : Str) : Addr := if env.kindOf x = some .local then env.locals else (env.cells.lookup x).getD 0
theorem Fm.keeps {env : Env} {h h' : Heap} {g : Str → Option Value} (f : Fm env h g) (k : Keep h h') : Fm env h' g :=
  ⟨let ⟨m, a, b⟩ := f.ns; ⟨m, a.keeps k, b⟩, fun x c a b => (f.cell x c a b).keeps k⟩
set_option tactic.hygienic true in
theorem Fm.var {env : Env} {h : Heap} {g : Str → Option Value} (ok : EnvOK env) (f : Fm env h g) {x : Str} {v : Value} (e : g x = some v) (i : isVar env.scope x = true) : VarAt env h x v := by
  unfold isVar at i
  split at i
  · rename_i q
    refine oE1_2 f.ns fun m a b => ?_
    exact .inl ⟨q, m, a, (b x q).trans e⟩
  · rename_i q
    obtain ⟨c, hc⟩ := ok.cells x (.inl q)
    exact .inr ⟨.inl q, c, hc, e ▸ f.cell x c hc (.inl q)⟩
  · rename_i q
    obtain ⟨c, hc⟩ := ok.cells x (.inr q)
    exact .inr ⟨.inr q, c, hc, e ▸ f.cell x c hc (.inr q)⟩
  · cases i
theorem ns_not_cell {h : Heap} {a : Addr} {m : Str → Option Value} {v : Option Value} (n : h.Ns a m) (c : h.IsCell a v) : False := by
  refine oE3_3 n fun o es ep h1 h2 _ => ?_; clear n
  refine oE1_2 c fun o' h3 h4 => ?_; clear c
  rw [h1] at h3; cases h3; rw [h2] at h4; cases h4
section
variable {M : Model} {A : Around} {E : Value → Shared → Prop} {s : Shared} {env : Env} {g : Str → Option Value}
theorem store_sound {x : Str} {v : Value} {Q : Unit → Shared → Prop} (ok : EnvOK env) (f : Fm env s.heap g) (t : tgtName env.scope x = true)
    (k : ∀ h' tk, Fm env h' (fun y => if y = x then some v else g y) → Heap.SameBut (slotOf env x) s.heap h' → Q () { s with heap := h', toks := tk }) :
    wpAny M A (storeName env x v) Q E s := by
  rcases tgtName_ t with q | q <;> clear t
  · refine oE1_2 f.ns fun m a b => ?_
    have e : slotOf env x = env.locals := if_pos q
    refine wpAny_storeName_local q a (fun h' hn hs => k h' _ ⟨⟨_, hn, fun y hy => ?_⟩, fun y c hc hk => ?_⟩ (by rw [e]; exact hs)) (by rw [ok.kind]; rfl)
    · by_cases z : y = x
      · simp [z]
      · simp [z, b y hy]
    · have hy : y ≠ x := by rintro rfl; rcases hk with hk | hk <;> (rw [show env.kindOf y = some .local from q] at hk; cases hk)
      simp only [hy, if_false]
      exact (f.cell y c hc hk).sameBut hs fun z => ns_not_cell a (z ▸ f.cell y c hc hk)
  · obtain ⟨c, hc⟩ := ok.cells x (.inl q)
    refine oE1_2 f.ns fun m a b => ?_
    have e : slotOf env x = c := by
      unfold slotOf
      rw [show env.kindOf x = some .cell from q, if_neg (by simp), hc]; rfl
    have hcx := f.cell x c hc (.inl q)
    refine wpAny_storeName_cell ok.kind q hc hcx (fun h' hi hs => k h' s.toks ⟨⟨m, a.sameBut hs fun z => ns_not_cell a (z ▸ hcx), fun y hy => ?_⟩, fun y c' hc' hk => ?_⟩ (by rw [e]; exact hs))
    · have : y ≠ x := by rintro rfl; rw [show env.kindOf y = some .cell from q] at hy; cases hy
      simp only [this, if_false]; exact b y hy
    · by_cases z : y = x
      · subst z; rw [hc] at hc'; cases hc'; simpa using hi
      · simp only [z, if_false]
        exact (f.cell y c' hc' hk).sameBut hs fun q' => z (ok.apart y x c (q' ▸ hc') hc)
noncomputable def slotsT (tb : List Str) (env : Env) : Tgt → Addr → Prop
  | .one i, a => ∃ x, tb[i]? = some x ∧ a = slotOf env x
  | .many is, a => ∃ i ∈ is, ∃ x, tb[i]? = some x ∧ a = slotOf env x
noncomputable def putV (tb : List Str) (g : Str → Option Value) (i : Nat) (v : Value) : Str → Option Value := fun y => if tb[i]? = some y then some v else g y
end
noncomputable def putVs (tb : List Str) : List Nat → List Value → (Str → Option Value) → Str → Option Value
  | i :: is, v :: vs, g => putVs tb is vs (putV tb g i v)
  | _, _, g => g
theorem pv_cons {tb i is v vs g} : putVs tb (i :: is) (v :: vs) g = putVs tb is vs (putV tb g i v) := rfl
section
variable {prog : Program} {w : World} {A : Around} {E : Value → Shared → Prop} {env : Env}
theorem assignNames_sound {tb : List Str} (ok : EnvOK env) : ∀ (is : List Nat) (es : List Expr) (vs : List Value) (g : Str → Option Value) (s : Shared) (Q : Unit → Shared → Prop), chkNames tb env.scope is es = true → is.length = vs.length →
    Fm env s.heap g → (∀ h' tk, Fm env h' (putVs tb is vs g) → KeepW (slotsT tb env (.many is)) s.heap h' → Q () { s with heap := h', toks := tk }) →
    wpAny (model prog w) A (assignInOrder ((assignEach es env).map (·.2)) vs) Q E s
  | [], es, vs, g, s, Q, c, l, f, k => by
    have e1 : es = [] := (nul_ c).1
    have e2 : vs = [] := List.eq_nil_of_length_eq_zero l.symm
    subst e1 e2
    exact wpAny_pure (k s.heap s.toks f (KeepW.refl _ _))
  | i :: is, es, vs, g, s, Q, c, l, f, k => by
    cases vs with
    | nil => cases l
    | cons v vs =>
      refine oE3_3 (chkNames_cons c) fun x pos es eE zq1 c3 => ?_; refine oE0_2 zq1 fun c1 c2 => ?_; clear zq1; clear c; subst eE
      show wpAny (model prog w) A (do holding vs (assign (.Name x pos) env v); assignInOrder ((assignEach es env).map (·.2)) vs) Q E s
      refine wpAny_bind (wpAny_holding (wpAny_assign_Name (store_sound ok f c2 fun h' tk f' sb => ?_)))
      have eg : (fun y => if y = x then some v else g y) = putV tb g i v := by
        funext y
        unfold putV
        rw [c1]
        by_cases z : y = x
        · simp [z]
        · have : ¬ x = y := fun q => z q.symm
          simp [z, this]
      rw [eg] at f'
      refine assignNames_sound ok is es vs _ _ Q c3 (by simpa using l) f' fun h'' tk' f'' kw => k h'' tk' f'' ?_
      intro b o nb e
      refine kw b o (fun q => nb ?_) (sb.extBut b o (fun q => nb ⟨i, List.mem_cons_self, x, c1, q⟩) e)
      refine oE1_2 q fun j hj r => ?_; clear q
      exact ⟨j, List.mem_cons_of_mem _ hj, r⟩
theorem assignEach_names {tb : List Str} {sc : Scope} : ∀ (is : List Nat) (es : List Expr), chkNames tb sc is es = true → (assignEach es env).length = is.length ∧ (assignEach es env).findIdx? (·.1) = none
  | [], es, c => by rw [(nul_ c).1]; exact ⟨rfl, rfl⟩
  | i :: is, es, c => by
      refine oE3_3 (chkNames_cons c) fun x pos es eE _ c3 => ?_; clear c; subst eE
      obtain ⟨h1, h2⟩ := assignEach_names is es c3
      refine ⟨congrArg Nat.succ h1, ?_⟩
      show List.findIdx? _ ((false, assign (.Name x pos) env) :: assignEach es env) = none
      rw [List.findIdx?_cons, h2]; rfl
end
noncomputable def HoldsX (X : Nat → Prop) (tb : List Str) (P : Addr → Prop) (C : Addr) (h : Heap) (sc : Scope) (ρ : Env') (g : Str → Option Value) : Prop :=
  ∀ i x d t, ¬ X i → ρ i = some (d, t) → tb[i]? = some x → isVar sc x = true → ∃ v, g x = some v ∧ RpT t P C h v d
noncomputable def Vars (tb : List Str) (P : Addr → Prop) (C : Addr) (h : Heap) (env : Env) (ρ : Env') : Prop :=
  ∃ g, Fm env h g ∧ HoldsX (fun _ => False) tb P C h env.scope ρ g
theorem HoldsX.keeps {X : Nat → Prop} {tb : List Str} {P : Addr → Prop} {C : Addr} {h h' : Heap} {sc : Scope} {ρ : Env'} {g : Str → Option Value} (a : HoldsX X tb P C h sc ρ g) (k : Keep h h') : HoldsX X tb P C h' sc ρ g := by
  intro i x d t n e q z
  refine oE1_2 (a i x d t n e q z) fun v va r => ?_
  exact ⟨v, va, r.keeps k⟩
theorem Vars.keeps {tb : List Str} {P : Addr → Prop} {C : Addr} {h h' : Heap} {env : Env} {ρ : Env'} (a : Vars tb P C h env ρ) (k : Keep h h') : Vars tb P C h' env ρ :=
  let ⟨g, f, x⟩ := a; ⟨g, f.keeps k, x.keeps k⟩
theorem tb_inj {tb : List Str} (n : tb.Nodup) {i j : Nat} {x : Str} (hi : tb[i]? = some x) (hj : tb[j]? = some x) : i = j := by
  obtain ⟨li, ei⟩ := List.getElem?_eq_some_iff.mp hi
  obtain ⟨lj, ej⟩ := List.getElem?_eq_some_iff.mp hj
  exact (List.getElem_inj n).mp (ei.trans ej.symm)
theorem HoldsX.put {tb : List Str} (n : tb.Nodup) {X : Nat → Prop} {P : Addr → Prop} {C : Addr} {h : Heap} {sc : Scope} {ρ : Env'} {g : Str → Option Value} {i : Nat} {v : Value} {d : D}
    (a : HoldsX (fun j => j = i ∨ X j) tb P C h sc ρ g) (r : Rp P C h v d) : HoldsX X tb P C h sc (bind1 ρ i d) (putV tb g i v) := by
  intro j x d' t nx e q z
  unfold bind1 at e
  by_cases hj : j = i
  · subst hj
    rw [if_pos rfl] at e
    cases e
    exact ⟨v, by unfold putV; rw [if_pos q], r⟩
  · rw [if_neg hj] at e
    refine oE1_2 (a j x d' t (fun h => h.elim hj nx) e q z) fun v' hv r' => ?_
    refine ⟨v', ?_, r'⟩
    unfold putV
    rw [if_neg fun q' => hj (tb_inj n q q')]
    exact hv
set_option tactic.hygienic true in
theorem HoldsX.puts {tb : List Str} (n : tb.Nodup) {P : Addr → Prop} {C : Addr} {h : Heap} {sc : Scope} : ∀ (is : List Nat) (vs : List Value) (ds : List D) (ρ : Env') (g : Str → Option Value), is.length = vs.length →
    RpA P C h vs ds → HoldsX (· ∈ is) tb P C h sc ρ g → HoldsX (fun _ => False) tb P C h sc ((is.zip ds).foldl (fun r p => bind1 r p.1 p.2) ρ) (putVs tb is vs g)
  | [], [], ds, ρ, g, _, r, a => by
    cases r
    exact fun i x d t _ e q z => a i x d t (by simp) e q z
  | [], _ :: _, _, _, _, l, _, _ => by cases l
  | _ :: _, [], _, _, _, l, _, _ => by cases l
  | i :: is, v :: vs, ds, ρ, g, l, r, a => by
    cases r with
    | cons r1 r2 =>
      rename_i d ds
      refine HoldsX.puts n is vs ds _ _ (by simpa using l) r2 (HoldsX.put n ?_ r1)
      exact fun j x d' t nx e q z => a j x d' t (fun h => nx (List.mem_cons.mp h)) e q z
theorem putVs_other {tb : List Str} (n : tb.Nodup) {j : Nat} {x : Str} (q : tb[j]? = some x) : ∀ (is : List Nat) (vs : List Value) (g : Str → Option Value), j ∉ is → putVs tb is vs g x = g x
  | [], _, _, _ => rfl
  | _ :: _, [], _, _ => rfl
  | i :: is, v :: vs, g, h => by
    rw [pv_cons, putVs_other n q is vs _ fun z => h (.tail _ z)]
    unfold putV
    rw [if_neg fun q' => h (tb_inj n q q' ▸ .head _)]
theorem HoldsX.back {tb : List Str} (n : tb.Nodup) {P : Addr → Prop} {C : Addr} {h : Heap} {sc : Scope} {ρ : Env'} {g : Str → Option Value} {is : List Nat} {vs : List Value} (a : HoldsX (· ∈ is) tb P C h sc ρ g) :
    HoldsX (· ∈ is) tb P C h sc ρ (putVs tb is vs g) := by
  intro j x d t nx e q z
  refine oE1_2 (a j x d t nx e q z) fun v hv r => ?_
  exact ⟨v, by rw [putVs_other n q is vs g nx]; exact hv, r⟩
theorem HoldsX.keepP {X : Nat → Prop} {tb : List Str} {P : Addr → Prop} {C : Addr} {h h' : Heap} {sc : Scope} {ρ : Env'} {g : Str → Option Value} (a : HoldsX X tb P C h sc ρ g)
    (k : ∀ v d t, RpT t P C h v d → RpT t P C h' v d) : HoldsX X tb P C h' sc ρ g := by
  intro i x d t n e q z
  refine oE1_2 (a i x d t n e q z) fun v va r => ?_
  exact ⟨v, va, k _ _ _ r⟩
theorem closureFor_sound {scope : Scope} {env : Env} (h : ∀ x ∈ scope.names, x.2 = .free → ∃ c, env.cells.lookup x.1 = some c) :
    ∃ cl, closureFor scope env = pure cl ∧ (∀ n c, cl.lookup n = some c → env.cells.lookup n = some c ∧ ∃ k, (n, k) ∈ scope.names ∧ k = .free) ∧ (∀ x ∈ scope.names, x.2 = .free → cl.lookup x.1 = env.cells.lookup x.1) := by
  have go : ∀ (ns : List (Str × NameKind)) (acc : List (Str × Addr)), (∀ x ∈ ns, x.2 = .free → ∃ c, env.cells.lookup x.1 = some c) → (∀ n c, acc.lookup n = some c → env.cells.lookup n = some c) →
      ∃ cl, (forIn ns acc fun x r => if x.2 == .free then (do let c ← cellOf env x.1; pure (ForInStep.yield ((x.1, c) :: r))) else pure (ForInStep.yield r) : Sem (List (Str × Addr))) = pure cl ∧
        (∀ n c, cl.lookup n = some c → env.cells.lookup n = some c ∧ (acc.lookup n = some c ∨ ∃ k, (n, k) ∈ ns ∧ k = .free)) ∧ (∀ x ∈ ns, x.2 = .free → cl.lookup x.1 = env.cells.lookup x.1) ∧ (∀ n c, acc.lookup n = some c → cl.lookup n = some c) := by
    intro ns
    induction ns with
    | nil => intro acc _ ha; exact ⟨acc, rfl, fun n c e => ⟨ha n c e, .inl e⟩, (by intro _ hx; cases hx), fun _ _ e => e⟩
    | cons x ns ih =>
      intro acc hx ha
      obtain ⟨n, k⟩ := x
      by_cases hk : k = .free
      · subst hk
        obtain ⟨c, hc⟩ := hx (n, .free) List.mem_cons_self rfl
        refine oE1_4 (ih ((n, c) :: acc) (fun y hy => hx y (.tail _ hy)) (fun m c' e => by
          rw [List.lookup_cons] at e
          cases hb : m == n with
          | true => rw [hb] at e; cases e; rw [beq_iff_eq.mp hb]; exact hc
          | false => rw [hb] at e; exact ha m c' e)) fun cl e h1 h2 h3 => ?_
        refine ⟨cl, ?_, fun m c' e' => ?_, fun y hy hf => ?_, fun m c' e' => ?_⟩
        · rw [List.forIn_cons]
          have : cellOf env n = pure c := by unfold cellOf; rw [hc]
          simp only [beq_self_eq_true, if_true, this, pure_bind]
          exact e
        · obtain ⟨q1, q2⟩ := h1 m c' e'
          refine ⟨q1, ?_⟩
          rcases q2 with q2 | ⟨k, q2, q3⟩
          · rw [List.lookup_cons] at q2
            cases hb : m == n with
            | true => exact .inr ⟨.free, by rw [beq_iff_eq.mp hb]; exact List.mem_cons_self, rfl⟩
            | false => rw [hb] at q2; exact .inl q2
          · exact .inr ⟨k, .tail _ q2, q3⟩
        · rcases List.mem_cons.mp hy with rfl | hy
          · show cl.lookup n = env.cells.lookup n
            rw [hc]; exact h3 n c (by rw [List.lookup_cons, beq_self_eq_true])
          · exact h2 y hy hf
        · by_cases hb : m = n
          · subst hb
            have := ha m c' e'
            rw [hc] at this; cases this
            exact h3 m c (by rw [List.lookup_cons, beq_self_eq_true])
          · exact h3 m c' (by rw [List.lookup_cons, beq_eq_false_iff_ne.mpr hb]; exact e')
      · refine oE1_4 (ih acc (fun y hy => hx y (.tail _ hy)) ha) fun cl e h1 h2 h3 => ?_
        refine ⟨cl, ?_, fun m c' e' => ?_, fun y hy hf => ?_, h3⟩
        · rw [List.forIn_cons]
          have : (k == NameKind.free) = false := by simpa using hk
          simp only [this, Bool.false_eq_true, if_false, pure_bind]
          exact e
        · obtain ⟨q1, q2⟩ := h1 m c' e'
          exact ⟨q1, q2.elim .inl fun ⟨k, q2, q3⟩ => .inr ⟨k, .tail _ q2, q3⟩⟩
        · rcases List.mem_cons.mp hy with rfl | hy
          · exact absurd hf hk
          · exact h2 y hy hf
  refine oE1_4 (go scope.names [] h (fun _ _ e => nomatch e)) fun cl e h1 h2 _ => ?_
  refine ⟨cl, ?_, fun n c q => ?_, h2⟩
  · unfold closureFor
    exact congrArg (fun m => m >>= fun cs => pure cs) e
  · obtain ⟨q1, q2⟩ := h1 n c q
    exact ⟨q1, q2.elim (fun z => nomatch z) id⟩
theorem cellsFrom_app : ∀ (ns : List (Str × NameKind)) (n : Nat) (acc : List (Str × Addr)), cellsFrom n ns acc = cellsFrom n ns [] ++ acc
  | [], _, _ => rfl
  | (x, k) :: r, n, acc => by
    unfold cellsFrom
    split
    · rw [cellsFrom_app r (n + 1) ((x, n) :: acc), cellsFrom_app r (n + 1) [(x, n)], List.append_assoc]; rfl
    · exact cellsFrom_app r n acc
set_option tactic.hygienic true in
theorem cellsFrom_mem : ∀ (ns : List (Str × NameKind)) (n : Nat) (x : Str) (c : Addr), (x, c) ∈ cellsFrom n ns [] → n ≤ c ∧ (x, .cell) ∈ ns
  | [], _, _, _, h => nomatch h
  | (y, k) :: r, n, x, c, h => by
    unfold cellsFrom at h
    split at h
    · rename_i hk
      rw [cellsFrom_app] at h
      rcases List.mem_append.mp h with h | h
      · obtain ⟨h1, h2⟩ := cellsFrom_mem r (n + 1) x c h
        exact ⟨by exact om_27 h1, .tail _ h2⟩
      · cases List.mem_singleton.mp h
        exact ⟨Nat.le_refl _, by rw [show k = .cell from by simpa using hk]; exact List.mem_cons_self⟩
    · obtain ⟨h1, h2⟩ := cellsFrom_mem r n x c h
      exact ⟨h1, .tail _ h2⟩
theorem cellsFrom_has : ∀ (ns : List (Str × NameKind)) (n : Nat) (x : Str), (x, .cell) ∈ ns → ∃ c, (cellsFrom n ns []).lookup x = some c
  | (y, k) :: r, n, x, h => by
    unfold cellsFrom
    rcases List.mem_cons.mp h with e | h
    · have e1 := (Prod.mk.inj e).1
      rw [← (Prod.mk.inj e).2]
      simp only [beq_self_eq_true, if_true]
      rw [cellsFrom_app]
      cases q : (cellsFrom (n + 1) r []).lookup x with
      | some c => exact ⟨c, by rw [List.lookup_append, q]; rfl⟩
      | none => exact ⟨n, by rw [List.lookup_append, q, e1]; simp⟩
    · split
      · rw [cellsFrom_app]
        obtain ⟨c, hc⟩ := cellsFrom_has r (n + 1) x h
        exact ⟨c, by rw [List.lookup_append, hc]; rfl⟩
      · exact cellsFrom_has r n x h
section
variable {M : Model} {A : Around} {E : Value → Shared → Prop} {s : Shared}
theorem newCompEnv_sound {scope : Scope} {globals : Addr} {cl : List (Str × Addr)} {qual : Str} {outer : Env} {Q : Env → Shared → Prop}
    (hQ : ∀ h', h'.Ns s.heap.objs.size (fun _ => none) → Keep s.heap h' → (∀ n c, (n, c) ∈ cellsFrom (s.heap.objs.size + 1) scope.names [] → h'.IsCell c none) →
      (cellsFrom (s.heap.objs.size + 1) scope.names []).Pairwise (fun x y => x.2 ≠ y.2) →
      Q (newEnv scope s.heap.objs.size globals (cellsFrom (s.heap.objs.size + 1) scope.names [] ++ cl) qual none .none (some outer) builtinsNs) { s with heap := h' }) :
    wpAny M A (newFunctionEnv scope globals cl [] qual none .none (some outer)) Q E s := by
  simp only [newFunctionEnv, Option.isSome_some, if_true]
  refine wpAny_bind (wpAny_alloc ?_)
  refine wpAny_bind (wpAny_layCells _ (fun name kind cells => by cases kind == NameKind.cell <;> simp) _ _ _ _ ?_)
  have ok := cellsFrom_ok scope.names (s.heap.push { cls := .type "dict", data := .dict #[] }) (s.heap.objs.size + 1) [] ⟨fun _ _ hm => (nomatch hm), List.Pairwise.nil⟩ (by rw [Heap.size_push]; exact Nat.le_refl _)
  rw [Heap.size_push] at ok
  rw [show ({ s with heap := s.heap.push { cls := .type "dict", data := .dict #[] } } : Shared).heap.objs.size = s.heap.objs.size + 1 from Heap.size_push ..]
  rw [cellsFrom_app]
  refine wpAny_bind ?_
  rw [List.forIn_nil]
  refine wpAny_pure (wpAny_pure ?_)
  exact hQ _ ((Heap.Ns.new s.heap (.type "dict")).keeps (pushCells_keeps _ _)) (fun b o e => pushCells_keeps _ _ b o (Heap.get?_push_of_some _ e)) (fun n c hc => (ok.empty n c hc).1) ok.apart
end
end Mine
end
section
open PySem PySem.W PyProof.Rows
set_option autoImplicit false
namespace Mine
noncomputable def iterNames : List String := ["list_iterator", "range_iterator", "str_ascii_iterator", "str_iterator"]
noncomputable def IterOK (prog : Program) (w : World) (A : Around) (P : Addr → Prop) (C : Addr) (h1 h2 : Heap) (I : Addr) (ds : List D) : Prop :=
  ∃ fp Pv St, Walks prog w A I fp [I] ds.length Pv St ∧ St 0 h2 ∧ (∀ b ∈ fp, b = I ∨ ∃ o, h1.get? b = some o) ∧ (∀ i v, i < ds.length → Pv i v → ∃ d, ds[i]? = some d ∧ Rp P C h1 v d) ∧
    (∀ i h, St i h → ∃ o T, h.get? I = some o ∧ o.cls = .type T ∧ T ∈ iterNames)
noncomputable def NotVal (C : Addr) (h : Heap) (b : Addr) : Prop := ∀ o, h.get? b = some o → ¬ ((o.cls = .type "tuple" ∧ ∃ vs n, o.data = .seq vs n) ∨ ∃ dx, o = instObj C dx)
theorem keepP_of_W {W P : Addr → Prop} {C : Addr} {h h' : Heap} (k : KeepW W h h') (n : ∀ b, W b → ¬ P b ∧ NotVal C h b) : KeepP P C h h' := by
  intro b o e q
  by_cases z : W b
  · obtain ⟨h1, h2⟩ := n b z
    rcases q with q | q
    · exact absurd q h1
    · exact absurd q (h2 o e)
  · exact k b o z e
theorem KeepP.trans {P : Addr → Prop} {C : Addr} {a b c : Heap} (x : KeepP P C a b) (y : KeepP P C b c) : KeepP P C a c := fun p o e q => y p o (x p o e q) q
theorem KeepP.refl {P : Addr → Prop} {C : Addr} (a : Heap) : KeepP P C a a := fun _ _ e _ => e
theorem notVal_ns {C : Addr} {h : Heap} {a : Addr} {m : Str → Option Value} (n : h.Ns a m) : NotVal C h a := by
  intro o e q
  refine oE3_3 n fun o' es ep h1 h2 _ => ?_; clear n
  rw [h1] at e; cases e
  rcases q with ⟨_, vs, k, q⟩ | ⟨dx, q⟩
  · rw [h2] at q; cases q
  · rw [q] at h2; cases h2
theorem notVal_cell {C : Addr} {h : Heap} {a : Addr} {v : Option Value} (n : h.IsCell a v) : NotVal C h a := by
  intro o e q
  refine oE1_2 n fun o' h1 h2 => ?_; clear n
  rw [h1] at e; cases e
  rcases q with ⟨_, vs, k, q⟩ | ⟨dx, q⟩
  · rw [h2] at q; cases q
  · rw [q] at h2; cases h2
theorem notVal_cls {C : Addr} {h : Heap} {a : Addr} {o : Obj} {T : String} (e : h.get? a = some o) (c : o.cls = .type T) (n : T ≠ "tuple") : NotVal C h a := by
  intro o' e' q
  rw [e] at e'; cases e'
  rcases q with ⟨q, _⟩ | ⟨dx, q⟩
  · rw [c] at q; cases q; exact n rfl
  · rw [q] at c; cases c
theorem notVal_list {C : Addr} {h : Heap} {a : Addr} {its : Array Value} (x : h.IsList a its) : NotVal C h a := let ⟨_, e, c, _⟩ := x; notVal_cls e c (by decide)
theorem Up.keepW {P W : Addr → Prop} {h h' : Heap} (u : Up P h) (k : KeepW W h h') (l : ∀ a, W a → ∃ o, h'.get? a = some o) : Up P h' := by
  intro a e
  by_cases z : W a
  · obtain ⟨o, q⟩ := l a z
    rw [q] at e; cases e
  · exact u a (by
      cases q : h.get? a with
      | none => rfl
      | some o => rw [k a o z q] at e; cases e)
section
variable {prog : Program} {w : World} {A : Around} {E : Value → Shared → Prop} {s : Shared}
theorem letOwned_sound {target : Expr} {I : Addr} {v : Value} {o : Obj} {T : String} {Q : Unit → Shared → Prop} (e : s.heap.get? I = some o) (c : o.cls = .type T) (m : T ∈ iterNames) (q : Q () s) :
    wpAny (model prog w) A (letOwnedTupleGo target (.ref I) v) Q E s := by
  have hT : (["enumerate", "zip", "dict_itemiterator", "dict_reverseitemiterator", "odict_iterator", "itertools.zip_longest", "itertools.pairwise"] : List String).contains T = false := by
    simp only [iterNames, List.mem_cons, List.not_mem_nil, or_false] at m
    rcases m with rfl | rfl | rfl | rfl <;> decide
  have go : wpAny (model prog w) A (match ((.ref I : Value), v) with
      | (.ref r, .ref a) => (do
        let o ← load r
        match o.cls, o.data with
        | .type n, .fields vs =>
          if ["enumerate", "zip", "dict_itemiterator", "dict_reverseitemiterator", "odict_iterator", "itertools.zip_longest", "itertools.pairwise"].contains n && vs[0]? == some (rawInt a) then
            rule "for.unpacks-the-owned-tuple"
            updateField r 0 .none
        | _, _ => pure () : Sem Unit)
      | _ => pure ()) Q E s := by
    cases v <;> first | exact wpAny_pure q | skip
    refine wpAny_bind (wpAny_load e ?_)
    rw [c]
    cases o.data <;> first | exact wpAny_pure q | skip
    simp only [hT, Bool.false_and, Bool.false_eq_true, if_false]
    exact wpAny_pure q
  cases target with
  | Tuple => cases v <;> exact go
  | List => cases v <;> exact go
  | _ => exact wpAny_pure q
theorem compL_app (f : D → Option (Option D)) : ∀ (l r : List D), compL f (l ++ r) = (compL f l).bind fun a => (compL f r).map (a ++ ·)
  | [], r => by
    simp only [List.nil_append, cl_nil, Option.bind_some]
    cases compL f r <;> simp
  | d :: l, r => by
    simp only [List.cons_append, cl_cons]
    cases h : f d with
    | none => rfl
    | some y =>
      cases y with
      | none => exact compL_app f l r
      | some y =>
        simp only [compL_app f l r]
        cases h1 : compL f l with
        | none => rfl
        | some a =>
          simp only [Option.bind_some, Option.map_some]
          cases h2 : compL f r <;> simp
theorem compL_len (f : D → Option (Option D)) : ∀ (l out : List D), compL f l = some out → out.length ≤ l.length
  | [], out, h => by cases h; exact Nat.le_refl _
  | d :: l, out, h => by
    rw [cl_cons] at h
    cases hd : f d with
    | none => rw [hd] at h; cases h
    | some y =>
      rw [hd] at h
      cases y with
      | none => exact Nat.le_succ_of_le (compL_len f l out h)
      | some y =>
        cases q : compL f l with
        | none => rw [q] at h; cases h
        | some a => rw [q] at h; cases h; exact Nat.succ_le_succ (compL_len f l a q)
noncomputable def PN (P N : Addr → Prop) : Addr → Prop := fun a => P a ∧ ¬ N a
theorem Up.PN {P N : Addr → Prop} {h : Heap} (u : Up P h) (n : ∀ a, N a → ∃ o, h.get? a = some o) : Up (PN P N) h := fun a e => ⟨u a e, fun z => by
  obtain ⟨o, q⟩ := n a z
  rw [q] at e; cases e⟩
theorem rp_PN {P N : Addr → Prop} {C : Addr} {h : Heap} {v : Value} {d : D} (n : ∀ a, N a → h.get? a = none) (r : Rp P C h v d) : Rp (PN P N) C h v d :=
  Rp.mono (fun a o e p => ⟨p, fun z => by rw [n a z] at e; cases e⟩) r
theorem rpT_PN {P N : Addr → Prop} {C : Addr} {h : Heap} {v : Value} {d : D} {t : Bool} (n : ∀ a, N a → h.get? a = none) (r : RpT t P C h v d) : RpT t (PN P N) C h v d :=
  r.mono (fun a o e p => ⟨p, fun z => by rw [n a z] at e; cases e⟩)
set_option tactic.hygienic true in
theorem assign_parts {tb : List Str} {tgt : Tgt} {env : Env} {e : Expr} {g : Str → Option Value} {v : Value} {d : D} {ds : List D} {P : Addr → Prop} {C : Addr} {Q : Unit → Shared → Prop}
    (ok : EnvOK env) (hh : A.handled = none) (c : chkTgt tb env.scope tgt e = true) (f : Fm env s.heap g) (r : Rp P C s.heap v d) (b : partsT tgt d = some ds)
    (k : ∀ h' tk vs, Fm env h' (putVs tb (tgtIs tgt) vs g) → KeepW (slotsT tb env tgt) s.heap h' → (tgtIs tgt).length = vs.length → RpA P C s.heap vs ds → Q () { s with heap := h', toks := tk }) :
    wpAny (model prog w) A (assign e env v) Q E s := by
  cases tgt with
  | one i =>
    refine oE2_3 (nameT_ c) fun x pos eE c1 c2 => ?_; clear c; subst eE
    cases b
    refine wpAny_assign_Name (store_sound ok f c2 fun h' tk f' sb => k h' tk [v] ?_ ?_ rfl (.one r))
    · have eg : (fun y => if y = x then some v else g y) = putV tb g i v := by
        funext y
        unfold putV
        rw [c1]
        by_cases z : y = x
        · simp [z]
        · have : ¬ x = y := fun q => z q.symm
          simp [z, this]
      rw [eg] at f'; exact f'
    · intro b o nb e
      exact sb.extBut b o (fun q => nb ⟨x, c1, q⟩) e
  | many is =>
    refine oE3_3 (chkTgt_many c) fun es kk pos eE c1 _ => ?_; clear c; subst eE
    obtain ⟨eD, hl⟩ := partsT_many b; clear b; subst eD
    cases r with
    | tup ht ra =>
      rename_i a vs
      obtain ⟨h1, h2⟩ := assignEach_names (env := env) is es c1
      have hlen : is.length = vs.length := by rw [hl, ra.length]
      refine wpAny_assign_Tuple hh ht (by rw [h1, hlen]; simp) h2 fun h' he => ?_
      have kp : Keep s.heap h' := fun b o e => he b o (Nat.ne_of_lt (Heap.lt_size e)) e
      exact assignNames_sound ok is es vs g _ Q c1 hlen (f.keeps kp) fun h'' tk f'' kw => k h'' tk vs f'' (fun b o nb e => kw b o nb (kp b o e)) hlen ra
set_option tactic.hygienic true in
theorem bindT_ {tgt : Tgt} {d : D} {ρ ρ' : Env'} (b : bindT tgt d ρ = some ρ') : ∃ ds, partsT tgt d = some ds ∧ ρ' = ((tgtIs tgt).zip ds).foldl (fun r p => bind1 r p.1 p.2) ρ := by
  cases tgt with
  | one i => cases b; exact ⟨[d], rfl, rfl⟩
  | many is =>
    refine oE1_2 (tupD_ (show tupD _ d = _ from b)) fun ds eD h => ?_; subst eD
    split at h
    · rename_i q; cases h; exact ⟨ds, if_pos q, rfl⟩
    · cases h
theorem assign_sound' {tb : List Str} {tgt : Tgt} {env : Env} {e : Expr} {g : Str → Option Value} {v : Value} {d : D} {P : Addr → Prop} {C : Addr} {ρ ρ' : Env'} {Q : Unit → Shared → Prop}
    (ok : EnvOK env) (hh : A.handled = none) (c : chkTgt tb env.scope tgt e = true) (f : Fm env s.heap g) (r : Rp P C s.heap v d) (b : bindT tgt d ρ = some ρ')
    (k : ∀ h' tk vs ds, Fm env h' (putVs tb (tgtIs tgt) vs g) → KeepW (slotsT tb env tgt) s.heap h' → (tgtIs tgt).length = vs.length → RpA P C s.heap vs ds → ρ' = ((tgtIs tgt).zip ds).foldl (fun r p => bind1 r p.1 p.2) ρ → Q () { s with heap := h', toks := tk }) :
    wpAny (model prog w) A (assign e env v) Q E s := by
  refine oE1_2 (bindT_ b) fun ds h1 h2 => ?_
  exact assign_parts ok hh c f r h1 fun h' tk vs a b c d => k h' tk vs ds a b c d h2
theorem tgt_names {tb : List Str} {env : Env} {sc : Scope} {tgt : Tgt} {e : Expr} (c : chkTgt tb sc tgt e = true) {a : Addr} (z : slotsT tb env tgt a) : ∃ x, tgtName sc x = true ∧ a = slotOf env x := by
  cases tgt with
  | one i =>
    refine oE2_3 (nameT_ c) fun y pos _ c1 c2 => ?_
    refine oE1_2 z fun x hx q => ?_; clear z
    rw [c1] at hx; cases hx
    exact ⟨_, c2, q⟩
  | many is =>
    refine oE3_3 (chkTgt_many c) fun es kk pos _ c1 _ => ?_
    refine oE1_2 z fun i hi zq10 => ?_; refine oE1_2 zq10 fun x hx q => ?_; clear zq10; clear z
    exact ⟨x, chkNames_mem c1 i hi x hx, q⟩
theorem slot_one {env : Env} {x : Str} (ok : EnvOK env) (t : tgtName env.scope x = true) : slotOf env x = env.locals ∨ ∃ c, env.cells.lookup x = some c ∧ slotOf env x = c ∧ env.kindOf x = some .cell := by
  unfold slotOf
  rcases tgtName_ t with k | k
  · rw [show env.kindOf x = some .local from k, if_pos rfl]; exact .inl rfl
  · obtain ⟨cc, hc⟩ := ok.cells x (.inl k)
    rw [show env.kindOf x = some .cell from k, if_neg (by simp), hc]
    exact .inr ⟨cc, rfl, rfl, rfl⟩
theorem slots_alive {tb : List Str} {env : Env} {h : Heap} {g : Str → Option Value} {tgt : Tgt} {e : Expr} (ok : EnvOK env) (f : Fm env h g) (c : chkTgt tb env.scope tgt e = true) (a : Addr) (z : slotsT tb env tgt a) :
    (∃ m, h.Ns a m) ∨ ∃ v, h.IsCell a v := by
  refine oE1_2 (tgt_names c z) fun x t rq9 => ?_; subst rq9
  rcases slot_one ok t with q | ⟨cc, hc, q, k⟩
  · refine oE1_2 f.ns fun m n _ => ?_
    exact .inl ⟨m, q ▸ n⟩
  · exact .inr ⟨_, q ▸ f.cell x cc hc (.inl k)⟩
theorem slot_obj {h : Heap} {a : Addr} (z : (∃ m, h.Ns a m) ∨ ∃ v, h.IsCell a v) : ∃ o, h.get? a = some o := by
  rcases z with ⟨m, o, es, ep, e, _⟩ | ⟨v, o, e, _⟩
  · exact ⟨o, e⟩
  · exact ⟨o, e⟩
theorem slot_notVal {C : Addr} {h : Heap} {a : Addr} (z : (∃ m, h.Ns a m) ∨ ∃ v, h.IsCell a v) : NotVal C h a := by
  rcases z with ⟨m, n⟩ | ⟨v, n⟩
  · exact notVal_ns n
  · exact notVal_cell n
theorem list_not_ns {h : Heap} {a : Addr} {its : Array Value} {m : Str → Option Value} (x : h.IsList a its) (n : h.Ns a m) : False := by
  refine oE1_3 x fun o e _ zq8 => ?_; refine oE1_1 zq8 fun k d => ?_; clear zq8; clear x
  refine oE3_3 n fun o' es ep e' d' _ => ?_; clear n
  rw [e] at e'; cases e'; rw [d] at d'; cases d'
theorem list_not_cell {h : Heap} {a : Addr} {its : Array Value} {v : Option Value} (x : h.IsList a its) (n : h.IsCell a v) : False := by
  refine oE1_3 x fun o e _ zq7 => ?_; refine oE1_1 zq7 fun k d => ?_; clear zq7; clear x
  refine oE1_2 n fun o' e' d' => ?_; clear n
  rw [e] at e'; cases e'; rw [d] at d'; cases d'
theorem slot_is {tb : List Str} {env : Env} {tgt : Tgt} {e : Expr} {a : Addr} (ok : EnvOK env) (c : chkTgt tb env.scope tgt e = true) (z : slotsT tb env tgt a) : a = env.locals ∨ ∃ x, env.cells.lookup x = some a := by
  refine oE1_2 (tgt_names c z) fun x t rq6 => ?_; subst rq6
  rcases slot_one ok t with q | ⟨cc, hc, q, _⟩
  · exact .inl q
  · exact .inr ⟨x, q.symm ▸ hc⟩
theorem Fm.keepW {W : Addr → Prop} {env : Env} {h h' : Heap} {g : Str → Option Value} (f : Fm env h g) (k : KeepW W h h') (n1 : ¬ W env.locals) (n2 : ∀ x c, env.cells.lookup x = some c → ¬ W c) : Fm env h' g := by
  refine ⟨?_, fun x c hcl hk => ?_⟩
  · refine oE1_2 f.ns fun m n q => ?_
    exact ⟨m, n.at' fun o e => k _ _ n1 e, q⟩
  · refine oE1_2 (f.cell x c hcl hk) fun o e q => ?_
    exact ⟨o, k c o (n2 x c hcl) e, q⟩
set_option tactic.hygienic true in
theorem compLoop_sound {tb : List Str} {elt target iter : Expr} {ifs : List Expr} {scope : Scope} {pos : Pos} {I D0 : Addr} {cenv : Env} {R : Result → Shared → Prop} {P : Addr → Prop} {C : Addr} {h1 : Heap}
    {ds out : List D} {tgt : Tgt} {ρ : Env'} {ct : Env' → Option Bool} {ce : Env' → Option TD} {g : Str → Option Value}
    (nd : tb.Nodup) (ok : EnvOK cenv) (hh : A.handled = none) (it : IterOK prog w A P C h1 s.heap I ds) (hds : ds.length ≤ lineN)
    (hc : chkTgt tb cenv.scope tgt target = true) (up : Up P h1) (kp : Keep h1 s.heap) (N : Addr → Prop) (hN : N = fun a => a = I ∨ a = D0 ∨ a = cenv.locals ∨ slotsT tb cenv tgt a) (hN1 : ∀ a, N a → h1.get? a = none)
    (hDI : D0 ≠ I) (hne : ∀ a, a = I ∨ a = D0 → a ≠ cenv.locals ∧ ∀ x c, cenv.cells.lookup x = some c → c ≠ a)
    (fm : Fm cenv s.heap g) (hx : HoldsX (· ∈ tgtIs tgt) tb P C h1 cenv.scope ρ g) (hl : s.heap.PlainList D0 #[])
    (ht : ∀ ρ' b (s' : Shared) (E' : Value → Shared → Prop) (R' : Bool → Shared → Prop), ct ρ' = some b → Keep h1 s'.heap → Up (PN P N) s'.heap → Vars tb (PN P N) C s'.heap cenv ρ' → (∀ s'', Keeps s' s'' → R' b s'') →
      wpAny (model prog w) A (forIn ifs true fun c r => if r = true then do let ok ← isTrue c cenv (eval c cenv); pure (ForInStep.yield ok) else pure (ForInStep.yield r)) R' E' s')
    (he : ∀ ρ' y (s' : Shared) (E' : Value → Shared → Prop) (R' : Value → Shared → Prop), ce ρ' = some y → Keep h1 s'.heap → Up (PN P N) s'.heap → Vars tb (PN P N) C s'.heap cenv ρ' → (∀ v s'', Keeps s' s'' → RpT y.2 (PN P N) C s''.heap v y.1 → R' v s'') →
      wpAny (model prog w) A (eval elt cenv) R' E' s')
    (F : D → Option (Option D)) (hF : F = fun d => match bindT tgt d ρ with
        | some ρ' => (match ct ρ' with
          | some true => (match ce ρ' with
            | some y => (emb y).map some
            | none => none)
          | some false => some none
          | none => none)
        | none => none)
    (hout : compL F ds = some out)
    (hR : ∀ h' tk ys m, Keep h1 h' → KeepW N s.heap h' → h'.Ns cenv.locals m → h'.PlainList D0 (List.toArray ys) → RpA (PN P N) C h' ys out → R (.ok .next) { s with heap := h', toks := tk }) :
    codeAny (model prog w) A (.compLoop (.ListComp elt [⟨target, iter, ifs, 0⟩] scope pos) 0 (.ref I) (.ref D0) cenv) R s := by
  refine oE3_5 it fun fp Pv St W hst hfp hPv hcls => ?_; clear it
  have nI : N I := by rw [hN]; exact .inl rfl
  have nD : N D0 := by rw [hN]; exact .inr (.inl rfl)
  have nL : N cenv.locals := by rw [hN]; exact .inr (.inr (.inl rfl))
  have nS : ∀ a, slotsT tb cenv tgt a → N a := fun a z => by rw [hN]; exact .inr (.inr (.inr z))
  have keep1 : ∀ {h h' : Heap}, Keep h1 h → KeepW N h h' → Keep h1 h' := fun {h h'} k kw b o e => kw b o (fun z => by rw [hN1 b z] at e; cases e) (k b o e)
  let Inv : Nat → Shared → Prop := fun k s' => ∃ i h' tk ys o1 g', s' = { s with heap := h', toks := tk } ∧ k = ds.length - i ∧ i ≤ ds.length ∧ St i h' ∧ Keep h1 h' ∧ KeepW N s.heap h' ∧ Up (PN P N) h' ∧
    h'.PlainList D0 (List.toArray ys) ∧ RpA (PN P N) C h' ys o1 ∧ compL F (ds.take i) = some o1 ∧ Fm cenv h' g' ∧ HoldsX (· ∈ tgtIs tgt) tb P C h1 cenv.scope ρ g'
  have upN : ∀ {h : Heap}, Up P h → (∃ o, h.get? I = some o) → h.PlainList D0 #[] ∨ True → True := fun _ _ _ => trivial
  refine codeAny_loop rfl Inv (fun n s' hI => ?_) ds.length ⟨0, s.heap, s.toks, [], [], g, rfl, rfl, Nat.zero_le _, hst, kp, KeepW.refl _ _, ?_, hl, .nil, rfl, fm, hx⟩
  rotate_left
  · refine Up.PN (up.keep kp) fun a z => ?_
    rw [hN] at z
    rcases z with rfl | rfl | rfl | z
    · refine oE2_2 (hcls 0 _ hst) fun o T e _ => ?_; exact ⟨o, e⟩
    · obtain ⟨_, e⟩ := hl; exact ⟨_, e⟩
    · refine oE1_2 fm.ns fun m zq5 _ => ?_; refine oE3_2 zq5 fun o es ep e _ => ?_; clear zq5; exact ⟨o, e⟩
    · exact slot_obj (slots_alive ok fm hc a z)
  refine oE6_12 hI fun i h' tk ys o1 g' rq3 rq4 hi hst' k1 kw up' hl' hr hc1 fm' hx' => ?_; clear hI; subst rq3; subst rq4
  show wpAny _ A ((compTurn (.ListComp elt [⟨target, iter, ifs, 0⟩] scope pos) 0 (.ref I) (.ref D0) cenv).onRaise (fun x => do noteFrame x cenv; theTreesLotGoes x)) _ _ _
  refine wpAny_noted ?_
  rw [PySem.compTurn_list]
  refine wpAny_bind (wpAny_standAt (wpAny_bind ?_))
  by_cases hlt : i < ds.length
  · refine W.item i _ _ _ hlt hst' fun v h2 tk2 hv hst2 kI => ?_
    have kwI : KeepW (· = I) h' h2 := fun b o n e => kI b o (by simpa using n) e
    refine oE1_2 (hPv i v hlt hv) fun d hd rd => ?_
    refine oE2_3 (hcls (i + 1) h2 hst2) fun oI TI eI cI mI => ?_
    refine oE2_3 (hcls i h' hst') fun oI' TI' eI' cI' mI' => ?_
    have tne : ∀ T, T ∈ iterNames → T ≠ "tuple" := by
      intro T hT
      simp only [iterNames, List.mem_cons, List.not_mem_nil, or_false] at hT
      rcases hT with rfl | rfl | rfl | rfl <;> decide
    have kwN : KeepW N h' h2 := kwI.mono fun a z => by rw [z]; exact nI
    have k2 := keep1 k1 kwN
    have kp2 : KeepP (PN P N) C h' h2 := keepP_of_W kwI fun b z => ⟨fun q => q.2 (by rw [z]; exact nI), by rw [z]; exact notVal_cls eI' cI' (tne _ mI')⟩
    have up2 : Up (PN P N) h2 := up'.keepW kwI fun a z => ⟨oI, by rw [z]; exact eI⟩
    have fm2 : Fm cenv h2 g' := fm'.keepW kwI (fun z => (hne I (.inl rfl)).1 z.symm) fun x c hcl z => (hne I (.inl rfl)).2 x c hcl z
    have hl2 : h2.PlainList D0 (List.toArray ys) := hl'.at fun o e => kwI _ _ hDI e
    refine wpAny_bind (letOwned_sound (s := { s with heap := h2, toks := tk2 }) eI cI mI ?_)
    have hfd : ∃ y, F d = some y ∧ compL F (ds.take (i + 1)) = some (o1 ++ y.toList) := by
      have e1 : ds.take (i + 1) = ds.take i ++ [d] := by rw [List.take_add_one, hd]; rfl
      have e2 : ds = ds.take (i + 1) ++ ds.drop (i + 1) := (List.take_append_drop _ _).symm
      rw [e2, compL_app] at hout
      rw [e1, compL_app, hc1]
      cases q : compL F (ds.take (i + 1)) with
      | none => rw [q] at hout; cases hout
      | some z =>
        rw [e1, compL_app, hc1] at q
        simp only [Option.bind_some] at q ⊢
        unfold compL at q ⊢
        cases qd : F d with
        | none => rw [qd] at q; cases q
        | some y =>
          cases y with
          | none => exact ⟨none, rfl, by simp [compL]⟩
          | some y => exact ⟨some y, rfl, by simp [compL]⟩
    refine oE1_2 hfd fun y hy hc2 => ?_; clear hfd
    rw [hF] at hy
    simp only at hy
    cases hb : bindT tgt d ρ with
    | none => rw [hb] at hy; cases hy
    | some ρ' =>
      rw [hb] at hy
      simp only at hy
      have rd2 : Rp (PN P N) C h2 v d := (rp_PN hN1 rd).keeps k2
      refine wpAny_bind (assign_sound' (s := { s with heap := h2, toks := tk2 }) (P := PN P N) ok hh hc fm2 rd2 hb fun h3 tk3 vs es fm3 kw3 hlen ra3 eρ => ?_)
      have kw3N : KeepW N h2 h3 := kw3.mono fun a z => nS a z
      have k3 := keep1 k2 kw3N
      have up3 : Up (PN P N) h3 := up2.keepW kw3 fun a z => slot_obj (slots_alive ok fm3 hc a z)
      have kp3 : KeepP (PN P N) C h2 h3 := keepP_of_W kw3 fun b z => ⟨fun q => q.2 (nS b z), slot_notVal (slots_alive ok fm2 hc b z)⟩
      have hl3 : h3.PlainList D0 (List.toArray ys) := hl2.at fun o e => kw3 _ _ (fun z => by
        rcases slots_alive ok fm2 hc _ z with ⟨m, n⟩ | ⟨u, n⟩
        · exact list_not_ns hl2.isList n
        · exact list_not_cell hl2.isList n) e
      have notIS : ∀ b, b = I → ¬ slotsT tb cenv tgt b := fun b q z => by
        rcases slot_is ok hc z with z | ⟨x, z⟩
        · exact (hne I (.inl rfl)).1 (q ▸ z)
        · exact (hne I (.inl rfl)).2 x b z q
      have hst3 : St (i + 1) h3 := W.frame _ _ _ hst2 fun b hb' o e => kw3 b o (fun z => by
        rcases hfp b hb' with q | ⟨o', q⟩
        · exact notIS b q z
        · rw [hN1 b (nS b z)] at q; cases q) e
      have vars3 : Vars tb (PN P N) C h3 cenv ρ' := by
        refine ⟨_, fm3, ?_⟩
        rw [eρ]
        refine HoldsX.puts nd (tgtIs tgt) vs es ρ g' hlen (ra3.keepP kp3) ?_
        exact fun j x d' t nx e q z => by
            refine oE1_2 (hx' j x d' t nx e q z) fun u hu ru => ?_
            exact ⟨u, hu, (rpT_PN hN1 ru).keeps k3⟩
      have hr3 : RpA (PN P N) C h3 ys o1 := (hr.keepP kp2).keepP kp3
      have kw3s : KeepW N s.heap h3 := (kw.trans kwN).trans kw3N
      have hb3 : HoldsX (· ∈ tgtIs tgt) tb P C h1 cenv.scope ρ (putVs tb (tgtIs tgt) vs g') := hx'.back nd
      cases hct : ct ρ' with
      | none => rw [hct] at hy; cases hy
      | some b =>
        rw [hct] at hy
        refine wpAny_bind (ht ρ' b { s with heap := h3, toks := tk3 } _ _ hct k3 up3 vars3 fun s4 ks4 => ?_)
        refine oE2_2 ks4 fun h4 tk4 rq2 k34 => ?_; clear ks4; subst rq2
        have st4 : St (i + 1) h4 := W.frame _ _ _ hst3 fun b _ o e => k34 b o e
        cases b with
        | false =>
          simp only at hy
          cases hy
          refine wpAny_pure ⟨rfl, ds.length - (i + 1), by exact om_28 hlt, i + 1, h4, tk4, ys, o1, _, rfl, rfl, hlt, st4, fun b o e => k34 b o (k3 b o e), fun b o n e => k34 b o (kw3s b o n e), up3.keep k34, hl3.at fun o e => k34 _ _ e, hr3.keeps k34, ?_, fm3.keeps k34, hb3⟩
          rw [hc2]; simp
        | true =>
          simp only at hy
          cases hce : ce ρ' with
          | none => rw [hce] at hy; cases hy
          | some yy =>
            rw [hce] at hy
            simp only at hy
            cases hem : emb yy with
            | none => rw [hem] at hy; cases hy
            | some y0 =>
              rw [hem] at hy; cases hy
              refine wpAny_bind (wpAny_bind (he ρ' yy { s with heap := h4, toks := tk4 } _ _ hce (fun b o e => k34 b o (k3 b o e)) (up3.keep k34) (vars3.keeps k34) fun v5 s5 ks5 r5 => ?_))
              refine oE2_2 ks5 fun h5 tk5 rq1 k45 => ?_; clear ks5; subst rq1
              have r5' : Rp (PN P N) C h5 v5 y0 := emb_rp hem r5
              have hl5 : h5.PlainList D0 (List.toArray ys) := (hl3.at fun o e => k34 _ _ e).at fun o e => k45 _ _ e
              have hr5 : RpA (PN P N) C h5 ys o1 := (hr3.keeps k34).keeps k45
              have k5 : Keep h1 h5 := fun b o e => k45 b o (k34 b o (k3 b o e))
              refine wpAny_bind (wpAny_list_append_plain (s := { s with heap := h5, toks := tk5 }) (items := List.toArray ys) hl5 (fun h6 hl6 sb => ?_) ?_)
              rotate_left
              · have q1 := hr5.length
                have q2 := compL_len F _ _ hc1
                have q3 : (ds.take i).length ≤ ds.length := by rw [List.length_take]; exact om_29
                have q4 := lineN_le
                rw [List.size_toArray]; exact om_30 hds q1 q2 q3 q4
              have kw6 : KeepW (· = D0) h5 h6 := keepW_of_same sb
              have kw6N : KeepW N h5 h6 := kw6.mono fun a z => by rw [z]; exact nD
              have kp6 : KeepP (PN P N) C h5 h6 := keepP_of_W kw6 fun b z => ⟨fun q => q.2 (by rw [z]; exact nD), by rw [z]; exact notVal_list hl5.isList⟩
              have st6 : St (i + 1) h6 := W.frame _ _ _ (W.frame _ _ h5 st4 fun b _ o e => k45 b o e) fun b hb' o e => kw6 b o (fun z => by
                rcases hfp b hb' with q | ⟨o', q⟩
                · exact hDI (z.symm.trans q)
                · rw [hN1 b (by rw [z]; exact nD)] at q; cases q) e
              have fm6 : Fm cenv h6 (putVs tb (tgtIs tgt) vs g') := ((fm3.keeps k34).keeps k45).keepW kw6 (fun z => (hne D0 (.inr rfl)).1 z.symm) fun x c hcl z => (hne D0 (.inr rfl)).2 x c hcl z
              refine wpAny_pure (wpAny_pure ⟨rfl, ds.length - (i + 1), by exact om_28 hlt, i + 1, h6, tk5, ys ++ [v5], o1 ++ [y0], _, rfl, rfl, hlt, st6, keep1 k5 kw6N, fun b o n e => kw6N b o n (k45 b o (k34 b o (kw3s b o n e))), ?_, ?_, ?_, ?_, fm6, hb3⟩)
              · exact ((up3.keep k34).keep k45).keepW kw6 fun a z => by
                  obtain ⟨n, e⟩ := hl6
                  exact ⟨_, by rw [z]; exact e⟩
              · have e : (List.toArray ys).push v5 = List.toArray (ys ++ [v5]) := by simp
                rw [← e]; exact hl6
              · exact (hr5.keepP kp6).append (.one (r5'.keepP kp6))
              · rw [hc2]; rfl
  · have hin : i = ds.length := by exact om_31 hi hlt
    subst hin
    refine W.done _ _ _ hst' fun h2 tk2 kI => wpAny_pure ?_
    have kwI : KeepW (· = I) h' h2 := fun b o n e => kI b o (by simpa using n) e
    have kwN : KeepW N h' h2 := kwI.mono fun a z => by rw [z]; exact nI
    refine oE2_3 (hcls _ h' hst') fun oI' TI' eI' cI' mI' => ?_
    have tne : ∀ T, T ∈ iterNames → T ≠ "tuple" := by
      intro T hT
      simp only [iterNames, List.mem_cons, List.not_mem_nil, or_false] at hT
      rcases hT with rfl | rfl | rfl | rfl <;> decide
    have kp2 : KeepP (PN P N) C h' h2 := keepP_of_W kwI fun b z => ⟨fun q => q.2 (by rw [z]; exact nI), by rw [z]; exact notVal_cls eI' cI' (tne _ mI')⟩
    rw [List.take_length, hout] at hc1
    cases hc1
    refine oE1_2 fm'.ns fun m n _ => ?_
    exact hR h2 tk2 ys m (keep1 k1 kwN) (kw.trans kwN) (n.at' fun o e => kwI _ _ (fun z => (hne I (.inl rfl)).1 z.symm) e) (hl'.at fun o e => kwI _ _ hDI e) (hr.keepP kp2)
end
end Mine
end
section
open PySem PySem.W PyProof.Rows
set_option autoImplicit false
namespace Mine
noncomputable def relK (sc : Scope) (n : Str) (k : NameKind) : NameKind := if (k == .free && sc.kind == .function && sc.names.lookup n == some .cell) then .cell else k
theorem lookup_relabelS (scope sc : Scope) (x : Str) : (relabelS scope sc).names.lookup x = (scope.names.lookup x).map (relK sc x) := by
  show (scope.names.map fun (n, k) => if (k == NameKind.free && sc.kind == .function && sc.names.lookup n == some .cell) then (n, NameKind.cell) else (n, k)).lookup x = _
  induction scope.names with
  | nil => rfl
  | cons y r ih =>
    obtain ⟨n, k⟩ := y
    rw [List.map_cons]
    have e : (match ((n, k) : Str × NameKind) with | (n, k) => if (k == NameKind.free && sc.kind == .function && sc.names.lookup n == some .cell) then (n, NameKind.cell) else (n, k)) = (n, relK sc n k) := by
      unfold relK
      simp only
      split <;> rfl
    rw [e]
    rw [List.lookup_cons, List.lookup_cons]
    cases hb : x == n with
    | true => simp only [Option.map_some]; rw [beq_iff_eq.mp hb]
    | false => exact ih
set_option tactic.hygienic true in
theorem relK_cases (sc : Scope) (x : Str) (k : NameKind) : relK sc x k = k ∨ (k = .free ∧ relK sc x k = .cell ∧ sc.names.lookup x = some .cell) := by
  unfold relK
  split
  · rename_i h
    simp only [Bool.and_eq_true, beq_iff_eq] at h
    exact .inr ⟨h.1.1, rfl, h.2⟩
  · exact .inl rfl
section
variable {prog : Program} {w : World} {A : Around} {E : Value → Shared → Prop} {s : Shared}
set_option tactic.hygienic true in
theorem comp_core {tb : List Str} {elt target iter : Expr} {ifs : List Expr} {scope : Scope} {pos : Pos} {I : Addr} {env : Env} {RR : Value → Addr → Result → Shared → Prop} {P : Addr → Prop} {C : Addr} {h1 : Heap}
    {ds out : List D} {tgt : Tgt} {ρ : Env'} {ct : Env' → Option Bool} {ce : Env' → Option TD} {cl : List (Str × Addr)}
    (nd : tb.Nodup) (ndot : (".0" : Str) ∉ tb) (ok : EnvOK env) (hh : A.handled = none) (it : IterOK prog w A P C h1 s.heap I ds) (hds : ds.length ≤ lineN)
    (hsc : compScope env.scope scope = true) (hcov : covers tb tgt scope = true) (hc : chkTgt tb scope tgt target = true) (up : Up P h1) (kp : Keep h1 s.heap) (hI1 : h1.get? I = none) (hI2 : ∃ o, s.heap.get? I = some o)
    (hcl1 : ∀ n c, cl.lookup n = some c → env.cells.lookup n = some c ∧ ∃ k, (n, k) ∈ scope.names ∧ k = .free) (hcl2 : ∀ x ∈ scope.names, x.2 = .free → cl.lookup x.1 = env.cells.lookup x.1)
    (vars : Vars tb P C h1 env ρ)
    (ht : ∀ (cenv : Env) (N : Addr → Prop) ρ' b (s' : Shared) (E' : Value → Shared → Prop) (R' : Bool → Shared → Prop), EnvOK cenv → cenv.scope = relabelS scope env.scope → ct ρ' = some b → Keep h1 s'.heap → Up (PN P N) s'.heap → Vars tb (PN P N) C s'.heap cenv ρ' → (∀ s'', Keeps s' s'' → R' b s'') →
      wpAny (model prog w) A (forIn ifs true fun c r => if r = true then do let ok ← isTrue c cenv (eval c cenv); pure (ForInStep.yield ok) else pure (ForInStep.yield r)) R' E' s')
    (he : ∀ (cenv : Env) (N : Addr → Prop) ρ' y (s' : Shared) (E' : Value → Shared → Prop) (R' : Value → Shared → Prop), EnvOK cenv → cenv.scope = relabelS scope env.scope → ce ρ' = some y → Keep h1 s'.heap → Up (PN P N) s'.heap → Vars tb (PN P N) C s'.heap cenv ρ' → (∀ v s'', Keeps s' s'' → RpT y.2 (PN P N) C s''.heap v y.1 → R' v s'') →
      wpAny (model prog w) A (eval elt cenv) R' E' s')
    (F : D → Option (Option D)) (hF : F = fun d => match bindT tgt d ρ with
        | some ρ' => (match ct ρ' with
          | some true => (match ce ρ' with
            | some y => (emb y).map some
            | none => none)
          | some false => some none
          | none => none)
        | none => none)
    (hout : compL F ds = some out)
    (hRR : ∀ D0 L h' tk ys m, s.heap.get? D0 = none → s.heap.get? L = none → L ≠ D0 → Keep h1 h' → KeepW (· = I) s.heap h' → h'.Ns L m → h'.PlainList D0 (List.toArray ys) → RpA (PN P fun a => a = I ∨ a = D0 ∨ a = L) C h' ys out → RR (.ref D0) L (.ok .next) { s with heap := h', toks := tk }) :
    wpAny (model prog w) A (newList []) (fun acc s₃ => wpAny (model prog w) A (newFunctionEnv scope env.globals cl [] env.qual none .none (some env)) (fun cenv s₄ =>
      codeAny (model prog w) A (.compStart (.ListComp elt [⟨target, iter, ifs, 0⟩] scope pos) 0 (.ref I) acc { cenv with scope := relabel scope env }) (RR acc cenv.locals) s₄) E s₃) E s := by
  unfold compScope at hsc; rw [Bool.and_eq_true, Bool.and_eq_true, Bool.and_eq_true, decide_eq_true_eq, decide_eq_true_eq] at hsc
  refine oE0_2 hsc fun zq6 hnd => ?_; clear hsc; refine oE0_2 zq6 fun zq7 hkind => ?_; clear zq6; refine oE0_2 zq7 fun hk hlk => ?_; clear zq7
  have hlook : ∀ x k, (x, k) ∈ scope.names → scope.names.lookup x = some k := fun x k hm => by
    have := List.all_eq_true.mp hlk (x, k) hm
    exact of_decide_eq_true this
  have hfree : ∀ x, scope.names.lookup x = some .free → env.kindOf x = some .cell ∨ env.kindOf x = some .free := fun x hx => by
    have := List.all_eq_true.mp hkind (x, .free) (mem_of_lookup hx)
    simp only at this
    show env.scope.names.lookup x = _ ∨ env.scope.names.lookup x = _
    split at this
    · rename_i q; exact .inl q
    · rename_i q; exact .inr q
    · cases this
  have honly : ∀ x k, scope.names.lookup x = some k → k = .free ∨ k = .local ∨ k = .cell ∨ k = .globalImplicit := fun x k hx => by
    have := List.all_eq_true.mp hkind (x, k) (mem_of_lookup hx)
    cases k <;> simp at this <;> simp
  refine oE1_2 vars fun g fm hx => ?_; clear vars
  refine wpAny_newObj_type (newCompEnv_sound fun h₄ hns hkeep hcells hap => ?_)
  dsimp only at hns hkeep hcells hap ⊢
  generalize hH : s.heap.push { cls := .type "list", dict := none, data := .seq ([] : List Value).toArray } = H3 at hns hkeep hcells hap ⊢
  have hL : H3.objs.size = s.heap.objs.size + 1 := by rw [← hH, Heap.size_push]
  have hk3 : Keep s.heap H3 := by rw [← hH]; exact Keep.push _ _
  have hk4 : Keep s.heap h₄ := hk3.trans hkeep
  generalize hcs : cellsFrom (H3.objs.size + 1) scope.names [] = cs at hcells hap ⊢
  have csmem : ∀ n c, (n, c) ∈ cs → H3.objs.size + 1 ≤ c ∧ (n, .cell) ∈ scope.names := fun n c hm => cellsFrom_mem _ _ _ _ (hcs ▸ hm)
  generalize hce : ({ newEnv scope H3.objs.size env.globals (cs ++ cl) env.qual none .none (some env) builtinsNs with scope := relabel scope env } : Env) = cenv
  have ce1 : cenv.scope = relabelS scope env.scope := by rw [← hce]; rfl
  have ce2 : cenv.locals = H3.objs.size := by rw [← hce]; rfl
  have ce3 : cenv.cells = cs ++ cl := by rw [← hce]; rfl
  have ckind : ∀ x, cenv.kindOf x = (scope.names.lookup x).map (relK env.scope x) := fun x => by
    show cenv.scope.names.lookup x = _
    rw [ce1]; exact lookup_relabelS _ _ _
  have clLook : ∀ x c, cl.lookup x = some c → (∃ o, h1.get? c = some o) ∧ env.cells.lookup x = some c ∧ scope.names.lookup x = some .free := fun x c q => by
    refine oE0_2 (hcl1 x c q) fun q1 zq4 => ?_; refine oE1_2 zq4 fun k q2 rq5 => ?_; clear zq4; subst rq5
    have q3 := hlook x _ q2
    refine ⟨?_, q1, q3⟩
    refine oE1_2 (fm.cell x c q1 (hfree x q3)) fun o e _ => ?_
    exact ⟨o, e⟩
  have look : ∀ x c, (cs ++ cl).lookup x = some c → ((x, c) ∈ cs ∧ scope.names.lookup x = some .cell) ∨ (cl.lookup x = some c ∧ cs.lookup x = none) := fun x c q => by
    rw [List.lookup_append] at q
    cases z : cs.lookup x with
    | some c' => rw [z] at q; cases q; exact .inl ⟨mem_of_lookup z, hlook _ _ (csmem _ _ (mem_of_lookup z)).2⟩
    | none => rw [z] at q; exact .inr ⟨by simpa using q, rfl⟩
  have alive1 : ∀ a o, h1.get? a = some o → Nat.lt a s.heap.objs.size := fun a o e => Heap.lt_size (kp _ _ e)
  have okc : EnvOK cenv := by
    refine ⟨?_, ?_, ?_, fun x hx => ?_, fun x y c h1' h2' => ?_⟩
    · rw [ce1]; exact hk
    · rw [← hce]; exact ok.glob
    · rw [← hce]; exact ok.blt
    · rw [ckind] at hx
      rw [ce3, List.lookup_append]
      cases z : scope.names.lookup x with
      | none => rw [z] at hx; rcases hx with hx | hx <;> cases hx
      | some k =>
        have hk' : k = .cell ∨ k = .free := by
          rw [z] at hx
          simp only [Option.map_some, Option.some.injEq] at hx
          rcases relK_cases env.scope x k with r | ⟨r, _⟩
          · rw [r] at hx; exact hx
          · exact .inr r
        rcases hk' with rfl | rfl
        · obtain ⟨c, hc⟩ := cellsFrom_has scope.names (H3.objs.size + 1) x (mem_of_lookup z)
          rw [hcs] at hc
          exact ⟨c, by rw [hc]; rfl⟩
        · obtain ⟨c, hc⟩ := ok.cells x (hfree x z)
          cases z2 : cs.lookup x with
          | some c' => exact ⟨c', rfl⟩
          | none => exact ⟨c, by rw [hcl2 _ (mem_of_lookup z) rfl]; exact hc⟩
    · rw [ce3] at h1' h2'
      rcases look x c h1' with ⟨a1, a2⟩ | ⟨a1, a2⟩ <;> rcases look y c h2' with ⟨b1, b2⟩ | ⟨b1, b2⟩
      · exact name_of_addr hap a1 b1
      · refine oE0_2 (clLook y c b1) fun zq3 _ => ?_; refine oE1_1 zq3 fun o e => ?_; clear zq3
        exact absurd (Nat.lt_of_lt_of_le (alive1 c o e) (Nat.le_trans (by exact om_32 hL) (csmem x c a1).1)) (Nat.lt_irrefl c)
      · refine oE0_2 (clLook x c a1) fun zq2 _ => ?_; refine oE1_1 zq2 fun o e => ?_; clear zq2
        exact absurd (Nat.lt_of_lt_of_le (alive1 c o e) (Nat.le_trans (by exact om_32 hL) (csmem y c b1).1)) (Nat.lt_irrefl c)
      · exact ok.apart x y c (clLook x c a1).2.1 (clLook y c b1).2.1
  have k14 : Keep h1 h₄ := kp.trans hk4
  let g0 : Str → Option Value := fun x => if scope.names.lookup x = some .free then g x else none
  have fmc : Fm cenv h₄ g0 := by
    refine ⟨⟨_, by rw [ce2]; exact hns, fun x hx => ?_⟩, fun x c hc hk => ?_⟩
    · show none = g0 x
      have : scope.names.lookup x ≠ some .free := fun z => by
        rw [ckind, z] at hx
        simp only [Option.map_some, Option.some.injEq] at hx
        rcases relK_cases env.scope x .free with r | ⟨_, r, _⟩ <;> (rw [r] at hx; cases hx)
      simp only [g0, this, if_false]
    · rw [ce3] at hc
      rcases look x c hc with ⟨a1, a2⟩ | ⟨a1, a2⟩
      · have : scope.names.lookup x ≠ some .free := by rw [a2]; simp
        simp only [g0, this, if_false]
        exact hcells x c a1
      · refine oE0_3 (clLook x c a1) fun _ b1 b2 => ?_
        simp only [g0, b2, if_true]
        exact (fm.cell x c b1 (hfree x b2)).keeps k14
  have hcT : chkTgt tb cenv.scope tgt target = true := by
    have tn : ∀ x, tgtName scope x = true → tgtName cenv.scope x = true := by
      intro x t
      unfold tgtName
      rw [ce1, lookup_relabelS]
      rcases tgtName_ t with q | q <;> rw [q]
      · rcases relK_cases env.scope x .local with r | ⟨r, _⟩
        · simp only [Option.map_some, r]; rfl
        · cases r
      · rcases relK_cases env.scope x .cell with r | ⟨r, _⟩
        · simp only [Option.map_some, r]; rfl
        · cases r
    exact chkTgt_mono tn hc
  have hxc : HoldsX (· ∈ tgtIs tgt) tb P C h1 cenv.scope ρ g0 := by
    intro i x d t nx e q z
    have cap : scope.names.lookup x = some .free ∨ scope.names.lookup x = some .local ∨ scope.names.lookup x = some .cell := by
      unfold isVar at z
      rw [ce1, lookup_relabelS] at z
      cases y : scope.names.lookup x with
      | none => rw [y] at z; simp at z
      | some k =>
        rcases honly x k y with rfl | rfl | rfl | rfl
        · exact .inl rfl
        · exact .inr (.inl rfl)
        · exact .inr (.inr rfl)
        · exfalso
          rw [y] at z
          rcases relK_cases env.scope x .globalImplicit with r | ⟨r, _⟩
          · simp [r] at z
          · cases r
    rcases cap with c | c
    · have vv : isVar env.scope x = true := by
        unfold isVar
        rcases hfree x c with r | r
        · rw [show env.scope.names.lookup x = some .cell from r]
        · rw [show env.scope.names.lookup x = some .free from r]
      refine oE1_2 (hx i x d t (fun f => f) e q vv) fun v hv r => ?_
      exact ⟨v, by simp only [g0, c, if_true]; exact hv, r⟩
    · exfalso
      have cv : (decide (x = (".0" : Str)) || (tgtIs tgt).any fun i => decide (tb[i]? = some x)) = true := by
        rcases c with c | c
        · exact List.all_eq_true.mp hcov (x, .local) (mem_of_lookup c)
        · exact List.all_eq_true.mp hcov (x, .cell) (mem_of_lookup c)
      rw [Bool.or_eq_true, decide_eq_true_eq, List.any_eq_true] at cv
      rcases cv with cv | ⟨j, hj, cv⟩
      · exact ndot (cv ▸ List.mem_of_getElem? q)
      · exact nx (tb_inj nd q (of_decide_eq_true cv) ▸ hj)
  have hD1 : h1.get? s.heap.objs.size = none := by
    cases z : h1.get? s.heap.objs.size with
    | none => rfl
    | some o => exact absurd (alive1 _ o z) (Nat.lt_irrefl _)
  have big : ∀ a, s.heap.objs.size ≤ a → h1.get? a = none := fun a ha => by
    cases z : h1.get? a with
    | none => rfl
    | some o => exact absurd (alive1 _ o z) (Nat.not_lt.mpr ha)
  have hIlt : Nat.lt I s.heap.objs.size := let ⟨_, e⟩ := hI2; Heap.lt_size e
  have slotsNew : ∀ a, slotsT tb cenv tgt a → H3.objs.size ≤ a := fun a z => by
    refine oE1_2 (tgt_names hc z) fun x t q => ?_
    unfold slotOf at q
    rw [ckind, ce3] at q
    rcases tgtName_ t with y | y <;> rw [y] at q
    · rcases relK_cases env.scope x .local with r | ⟨r, _⟩
      · simp only [Option.map_some, r, if_true] at q
        rw [q, ce2]; exact Nat.le_refl _
      · cases r
    · rcases relK_cases env.scope x .cell with r | ⟨r, _⟩
      · simp only [Option.map_some, r] at q
        rw [if_neg (by simp)] at q
        obtain ⟨c, hc'⟩ := cellsFrom_has scope.names (H3.objs.size + 1) x (mem_of_lookup y)
        rw [hcs] at hc'
        rw [List.lookup_append, hc'] at q
        have q' : a = c := q
        rw [q']
        exact Nat.le_trans (Nat.le_succ _) (csmem x c (mem_of_lookup hc')).1
      · cases r
  refine oE3_5 it fun fp Pv St W hst hfp hPv hcls => ?_; clear it
  have hst4 : St 0 h₄ := W.frame _ _ _ hst fun b _ o e => hk4 b o e
  have hlD : h₄.PlainList s.heap.objs.size #[] := ⟨0, hkeep _ _ (hH ▸ Heap.get?_push_size _ rfl)⟩
  have loop : codeAny (model prog w) A (.compLoop (.ListComp elt [⟨target, iter, ifs, 0⟩] scope pos) 0 (.ref I) (.ref s.heap.objs.size) cenv) (RR (.ref s.heap.objs.size) H3.objs.size) { s with heap := h₄ } := by
    refine compLoop_sound (s := { s with heap := h₄ }) (tgt := tgt) (ρ := ρ) (ct := ct) (ce := ce) (h1 := h1) nd okc hh ⟨fp, Pv, St, W, hst4, hfp, hPv, hcls⟩ hds hcT up k14
      (fun a => a = I ∨ a = s.heap.objs.size ∨ a = cenv.locals ∨ slotsT tb cenv tgt a) rfl (fun a z => ?_) (Nat.ne_of_gt hIlt) (fun a z => ⟨?_, fun x c hc => ?_⟩) fmc hxc hlD (fun ρ' b s' E' R' a1 a2 a3 a4 a5 => ht cenv _ ρ' b s' E' R' okc ce1 a1 a2 a3 a4 a5) (fun ρ' y s' E' R' a1 a2 a3 a4 a5 => he cenv _ ρ' y s' E' R' okc ce1 a1 a2 a3 a4 a5) F hF hout ?_
    · rcases z with rfl | rfl | rfl | z
      · exact hI1
      · exact hD1
      · rw [ce2]; exact big _ (by exact om_33 hL)
      · exact big a (Nat.le_trans (by exact om_33 hL) (slotsNew a z))
    · rw [ce2]
      rcases z with rfl | rfl
      · exact Nat.ne_of_lt (Nat.lt_of_lt_of_le hIlt (by exact om_33 hL))
      · exact Nat.ne_of_lt (by exact om_34 hL)
    · rw [ce3] at hc
      rcases look x c hc with ⟨a1, _⟩ | ⟨a1, _⟩
      · have q := (csmem x c a1).1
        rcases z with rfl | rfl
        · exact Nat.ne_of_gt (Nat.lt_of_lt_of_le hIlt (Nat.le_trans (by exact om_32 hL) q))
        · exact Nat.ne_of_gt (Nat.lt_of_lt_of_le (by exact om_35 hL) q)
      · refine oE0_2 (clLook x c a1) fun zq1 _ => ?_; refine oE1_1 zq1 fun o e => ?_; clear zq1
        rcases z with rfl | rfl
        · intro q; rw [q, hI1] at e; cases e
        · exact Nat.ne_of_lt (alive1 c o e)
    · intro h' tk ys m kk kw hn hl hr
      refine hRR s.heap.objs.size H3.objs.size h' tk ys m (get_size_none _) ?_ (Nat.ne_of_gt (by exact om_34 hL)) kk ?_ (by rw [← ce2]; exact hn) hl ?_
      · cases z : s.heap.get? H3.objs.size with
        | none => rfl
        | some o => exact absurd (Heap.lt_size z) (Nat.not_lt.mpr (by exact om_33 hL))
      · intro b o nI e
        refine kw b o (fun z => ?_) (hk4 b o e)
        have hb := Heap.lt_size e
        rcases z with z | z | z | z
        · exact nI z
        · exact absurd hb (by rw [z]; exact Nat.lt_irrefl _)
        · rw [ce2] at z; exact absurd hb (by rw [z]; exact Nat.not_lt.mpr (by exact om_33 hL))
        · exact absurd hb (Nat.not_lt.mpr (Nat.le_trans (by exact om_33 hL) (slotsNew b z)))
      · refine RpA.mono (fun a o e p => ⟨p.1, fun z => p.2 ?_⟩) hr
        rcases z with z | z | z
        · exact .inl z
        · exact .inr (.inl z)
        · exact .inr (.inr (.inl (by rw [ce2]; exact z)))
  exact codeAny_compStart_list loop (W.self 0 _ _ _ hst4 loop)
end
end Mine
end
section
open PySem PySem.W PyProof.Rows
set_option autoImplicit false
namespace Mine
noncomputable def FnOK (prog : Program) (w : World) (h0 : Heap) (C : Addr) (N : Nat) (f : String) (F : List D → Option D) : Prop :=
  ∃ a o fd, GlobalAt h0 (Str.ofString f) (.ref a) ∧ h0.get? a = some o ∧ o.data = .func fd ∧
    ∀ (A : Around) (E : Value → Shared → Prop) (s : Shared) (P : Addr → Prop) (vs : List Value) (ds : List D) (d : D) (Q : Value → Shared → Prop), Rm N A → Keep h0 s.heap → Up P s.heap → RpA P C s.heap vs ds → F ds = some d →
      (∀ v s', Keeps s s' → Rp P C s'.heap v d → Q v s') → wpAny (model prog w) A (call (.ref a) vs) Q E s
noncomputable def MethOK (prog : Program) (w : World) (h0 : Heap) (C : Addr) (N : Nat) (m : HM) : Prop :=
  ∃ f o fd, h0.get? f = some o ∧ o.data = .func fd ∧
    (∀ (A : Around) (E : Value → Shared → Prop) (s : Shared) (x dx l : Addr) (vs : List Value) (pl : Sem Bool) (Q : Value × List Value → Shared → Prop), Keep h0 s.heap → HdrAt C s.heap x dx l vs → Q (.ref f, [.ref x]) s →
      wpAny (model prog w) A (getMethod (.ref x) (Str.ofString (hmName m)) pl) Q E s) ∧
    ∀ (A : Around) (E : Value → Shared → Prop) (s : Shared) (P : Addr → Prop) (x dx l : Addr) (vs as : List Value) (ds es : List D) (d : D) (Q : Value → Shared → Prop), Rm N A → Keep h0 s.heap → Up P s.heap → P dx → HdrAt C s.heap x dx l vs → RpA P C s.heap vs ds →
      RpA (fun _ => True) C s.heap as es → methD m ds es = some d → (∀ v s', Keeps s s' → Rp P C s'.heap v d → Q v s') → wpAny (model prog w) A (call (.ref f) (.ref x :: as)) Q E s
noncomputable def ConvOK (prog : Program) (w : World) (h0 : Heap) (C : Addr) (N : Nat) : Prop :=
  ∃ f o fd, h0.get? f = some o ∧ o.data = .func fd ∧
    (∀ (A : Around) (E : Value → Shared → Prop) (s : Shared) (x dx l : Addr) (vs : List Value) (pl : Sem Bool) (Q : Value × List Value → Shared → Prop), Keep h0 s.heap → HdrAt C s.heap x dx l vs → Q (.ref f, [.ref x]) s →
      wpAny (model prog w) A (getMethod (.ref x) (Str.ofString "_convert_string_type") pl) Q E s) ∧
    ∀ (A : Around) (E : Value → Shared → Prop) (s : Shared) (x : Addr) (v : Str) (tv : Tok) (b : Bool) (Q : Value → Shared → Prop), Rm N A → Keep h0 s.heap → plainS v = true →
      (∀ s', Keeps s s' → Q (.str v tv) s') → wpAny (model prog w) A (call (.ref f) [.ref x, .str v tv] [(Str.ofString "name", .bool b)]) Q E s
noncomputable def AttrOK (prog : Program) (w : World) (h0 : Heap) (C : Addr) : Prop :=
  ∀ (A : Around) (E : Value → Shared → Prop) (s : Shared) (x dx l : Addr) (vs : List Value) (Q : Value → Shared → Prop), Keep h0 s.heap → HdrAt C s.heap x dx l vs → (∀ s', Keeps s s' → Q (.ref l) s') → wpAny (model prog w) A (getAttr (.ref x) (Str.ofString "_headers") true) Q E s
structure Hyp (prog : Program) (w : World) (h0 : Heap) (C : Addr) (N : Nat) (Φ : Fns) : Prop where
  nolimit : h0.NoLimit
  len : GlobalAt h0 (Str.ofString "len") (.builtin "len")
  sum : GlobalAt h0 (Str.ofString "sum") (.builtin "sum")
  sorted : GlobalAt h0 (Str.ofString "sorted") (.builtin "sorted")
  max : GlobalAt h0 (Str.ofString "max") (.builtin "max")
  ord : GlobalAt h0 (Str.ofString "ord") (.builtin "ord")
  set : GlobalAt h0 (Str.ofString "set") (.type "set")
  range : GlobalAt h0 (Str.ofString "range") (.type "range")
  fns : ∀ f F, Φ f = some F → f ∉ hmKeys → FnOK prog w h0 C N f F
  meths : ∀ m F, Φ (hmKey m) = some F → MethOK prog w h0 C N m
  conv : ConvOK prog w h0 C N
  attr : AttrOK prog w h0 C
  sortP : (Φ ".sortedP").isSome = true → ∀ (A : Around) (E : Value → Shared → Prop) (s : Shared) (P : Addr → Prop) (v : Value) (ds : List D) (d : D) (t : Bool) (Q : Value → Shared → Prop), Rm N A → Up P s.heap → RpT t P C s.heap v (.lst ds) → primD .sortedP [.lst ds] = some d →
    (∀ v s', Keeps s s' → Rp P C s'.heap v d → Q v s') → wpAny (model prog w) A (call (.builtin "sorted") [v]) Q E s
  sortSet : (Φ ".sortedSet").isSome = true → ∀ (A : Around) (E : Value → Shared → Prop) (s : Shared) (P : Addr → Prop) (v : Value) (ds : List D) (d : D) (t : Bool) (Q : Value → Shared → Prop), Rm N A → Up P s.heap → RpT t P C s.heap v (.lst ds) → primD .sortedSet [.lst ds] = some d →
    (∀ v s', Keeps s s' → Rp P C s'.heap v d → Q v s') → wpAny (model prog w) A (call (.type "set") [v]) (fun v' s' => wpAny (model prog w) A (call (.builtin "sorted") [v']) Q E s') E s
theorem star_plain (env : Env) (pos : Pos) : ∀ xs : List Expr, (xs.all notStar) = true → backTo pos (starEach xs env) = xs.map fun e => (false, eval e env)
  | [], _ => rfl
  | e :: r, h => by
    rw [List.all_cons, Bool.and_eq_true] at h
    have q := star_plain env pos r h.2
    have e1 : starEach (e :: r) env = (false, eval e env) :: starEach r env := by
      cases e <;> first | rfl | (exact absurd h.1 Bool.false_ne_true)
    rw [e1]
    show (false, eval e env) :: backTo pos (starEach r env) = _
    rw [q]; rfl
theorem chks_star {tb : List Str} {sc : Scope} : ∀ (es : List CE) (xs : List Expr), chks tb es sc xs = true → xs.all notStar = true ∧ es.length = xs.length
  | [], [], _ => ⟨rfl, rfl⟩
  | [], _ :: _, h => absurd h Bool.false_ne_true
  | _ :: _, [], h => absurd h Bool.false_ne_true
  | e :: es, x :: xs, h => by
    simp only [k_scons, cns, Bool.and_eq_true] at h
    obtain ⟨h1, h2⟩ := chks_star es xs h.2
    exact ⟨by rw [List.all_cons, h.1.2, h1]; rfl, congrArg Nat.succ h2⟩
section
variable {prog : Program} {w : World} {h0 : Heap} {C : Addr} {N : Nat} {Φ : Fns} {tb : List Str}
noncomputable def SndE (prog : Program) (w : World) (h0 : Heap) (C : Addr) (N : Nat) (Φ : Fns) (tb : List Str) (c : CE) : Prop :=
  ∀ (env : Env) (e : Expr) (ρ : Env') (r : TD) (A : Around) (E : Value → Shared → Prop) (s : Shared) (P : Addr → Prop) (Q : Value → Shared → Prop), chk tb c env.scope e = true → EnvOK env → Rm N A → Keep h0 s.heap → Up P s.heap → Vars tb P C s.heap env ρ → ev Φ c ρ = some r →
    (∀ v s', Keeps s s' → RpT r.2 P C s'.heap v r.1 → Q v s') → wpAny (model prog w) A (eval e env) Q E s
noncomputable def SndL (prog : Program) (w : World) (h0 : Heap) (C : Addr) (N : Nat) (Φ : Fns) (tb : List Str) (cs : List CE) : Prop :=
  ∀ (env : Env) (es : List Expr) (ρ : Env') (rs : List TD) (A : Around) (E : Value → Shared → Prop) (s : Shared) (P : Addr → Prop) (Q : List Value → Shared → Prop), chks tb cs env.scope es = true → EnvOK env → Rm N A → Keep h0 s.heap → Up P s.heap → Vars tb P C s.heap env ρ → evs Φ cs ρ = some rs →
    (∀ vs s', Keeps s s' → RpTA P C s'.heap vs rs → Q vs s') → wpAny (model prog w) A (spliced (es.map fun e => (false, eval e env))) Q E s
noncomputable def SndT (prog : Program) (w : World) (h0 : Heap) (C : Addr) (N : Nat) (Φ : Fns) (tb : List Str) (c : CT) : Prop :=
  ∀ (env : Env) (e : Expr) (ρ : Env') (b : Bool) (A : Around) (E : Value → Shared → Prop) (s : Shared) (P : Addr → Prop) (Q : Bool → Shared → Prop), chkT tb c env.scope e = true → EnvOK env → Rm N A → Keep h0 s.heap → Up P s.heap → Vars tb P C s.heap env ρ → tr Φ c ρ = some b →
    (∀ s', Keeps s s' → Q b s') → wpAny (model prog w) A (isTrue e env (eval e env)) Q E s
noncomputable def SndA (prog : Program) (w : World) (h0 : Heap) (C : Addr) (N : Nat) (Φ : Fns) (tb : List Str) (cs : List CT) : Prop :=
  ∀ (env : Env) (es : List Expr) (ρ : Env') (b : Bool) (A : Around) (E : Value → Shared → Prop) (s : Shared) (P : Addr → Prop) (Q : Bool → Shared → Prop), chkTs tb cs env.scope es = true → EnvOK env → Rm N A → Keep h0 s.heap → Up P s.heap → Vars tb P C s.heap env ρ →
    (trAnd Φ cs ρ = some b → (∀ s', Keeps s s' → Q b s') → wpAny (model prog w) A (allTrue .And es env) Q E s) ∧ (trOr Φ cs ρ = some b → (∀ s', Keeps s s' → Q b s') → wpAny (model prog w) A (allTrue .Or es env) Q E s)
noncomputable def SndI (prog : Program) (w : World) (h0 : Heap) (C : Addr) (N : Nat) (Φ : Fns) (tb : List Str) (c : CI) : Prop :=
  ∀ (env : Env) (e : Expr) (ρ : Env') (ds : List D) (A : Around) (E : Value → Shared → Prop) (s : Shared) (P : Addr → Prop) (Q : Value → Shared → Prop), chkI tb c env.scope e = true → EnvOK env → Rm N A → Keep h0 s.heap → Up P s.heap → Vars tb P C s.heap env ρ → wk Φ c ρ = some ds →
    (∀ s1 s2 I, Keeps s s1 → Keeps s1 s2 → IterOK prog w A P C s1.heap s2.heap I ds → s1.heap.get? I = none → (∃ o, s2.heap.get? I = some o) → Q (.ref I) s2) → wpAny (model prog w) A (eval e env) (fun x s1 => wpAny (model prog w) A (pyIter x) Q E s1) E s
theorem rangeSize_nn (a b c : Int) : 0 ≤ Builtin.Range.rangeSize a b c := by
  unfold Builtin.Range.rangeSize
  split
  · split
    · have : 0 ≤ (b - a - 1) / c := Int.ediv_nonneg (by omega) (by omega)
      exact om_36 this
    · exact om_37
  · split
    · have : 0 ≤ (a - b - 1) / (-c) := Int.ediv_nonneg (by omega) (by omega)
      exact om_36 this
    · exact om_37
section iters
variable {A : Around} {E : Value → Shared → Prop} {s : Shared} {P : Addr → Prop} {Q : Value → Shared → Prop}
theorem iter_list_sound {a : Addr} {vs : List Value} {ds : List D} (hh : A.handled = none) (hl : s.heap.IsList a vs.toArray) (r : RpA P C s.heap vs ds)
    (k : ∀ s2 I, Keeps s s2 → IterOK prog w A P C s.heap s2.heap I ds → s.heap.get? I = none → (∃ o, s2.heap.get? I = some o) → Q (.ref I) s2) : wpAny (model prog w) A (pyIter (.ref a)) Q E s := by
  refine wpAny_pyIter_list hl (k _ _ (keeps_push _ _) ?_ (get_size_none _) ⟨_, Heap.get?_push_size _ rfl⟩)
  have ha : a ≠ s.heap.objs.size := by refine oE1_2 hl fun o e _ => ?_; clear hl; exact Nat.ne_of_lt (Heap.lt_size e)
  have W := Walks.list (prog := prog) (w := w) hh s.heap.objs.size a ha vs.toArray
  have e : vs.toArray.size = ds.length := by rw [List.size_toArray, r.length]
  rw [e] at W
  refine ⟨_, _, _, W, ⟨⟨_, Heap.get?_push_size _ rfl, rfl, rfl⟩, hl.push _⟩, fun b hb => ?_, fun i v _ hv => ?_, fun i h st => ?_⟩
  · rcases List.mem_cons.mp hb with rfl | hb
    · exact .inl rfl
    · rw [List.mem_singleton.mp hb]
      refine oE1_2 hl fun o e _ => ?_; clear hl
      exact .inr ⟨o, e⟩
  · exact r.getv (by simpa using hv)
  · refine oE0_2 st fun zq1 _ => ?_; clear st; refine oE1_3 zq1 fun o e c _ => ?_; clear zq1
    exact ⟨o, _, e, c, .head _⟩
theorem iter_str_sound {x : Str} {t : Tok} (hh : A.handled = none)
    (k : ∀ s2 I, Keeps s s2 → IterOK prog w A P C s.heap s2.heap I (x.cps.toList.map fun c => .str ⟨#[c]⟩) → s.heap.get? I = none → (∃ o, s2.heap.get? I = some o) → Q (.ref I) s2) : wpAny (model prog w) A (pyIter (.str x t)) Q E s := by
  have e : (x.cps.toList.map fun c => D.str ⟨#[c]⟩).length = x.cps.size := by simp
  have items : ∀ i v, SignAt x i v → ∃ d, (x.cps.toList.map fun c => D.str ⟨#[c]⟩)[i]? = some d ∧ Rp P C s.heap v d := by
    rintro i v ⟨c, u, hc, rfl⟩
    exact ⟨_, by rw [List.getElem?_map, Array.getElem?_toList, hc]; rfl, .str _ _⟩
  cases ha : x.cps.all (· < 128) with
  | true =>
    refine wpAny_pyIter_ascii ha (k _ _ (keeps_push _ _) ?_ (get_size_none _) ⟨_, Heap.get?_push_size _ rfl⟩)
    have W := Walks.strAscii (prog := prog) (w := w) hh s.heap.objs.size x t
    rw [← e] at W
    refine ⟨_, _, _, W, ⟨_, Heap.get?_push_size _ rfl, rfl, rfl⟩, fun b hb => .inl (List.mem_singleton.mp hb), fun i v _ => items i v, fun i h st => ?_⟩
    refine oE1_3 st fun o e c _ => ?_; clear st
    exact ⟨o, _, e, c, .tail _ (.tail _ (.head _))⟩
  | false =>
    refine wpAny_pyIter_wide ha (k _ _ (keeps_push _ _) ?_ (get_size_none _) ⟨_, Heap.get?_push_size _ rfl⟩)
    have W := Walks.strWide (prog := prog) (w := w) hh s.heap.objs.size x t
    rw [← e] at W
    refine ⟨_, _, _, W, ⟨_, Heap.get?_push_size _ rfl, rfl, rfl⟩, fun b hb => .inl (List.mem_singleton.mp hb), fun i v _ => items i v, fun i h st => ?_⟩
    refine oE1_3 st fun o e c _ => ?_; clear st
    exact ⟨o, _, e, c, .tail _ (.tail _ (.tail _ (.head _)))⟩
theorem iter_range_sound {r : Addr} {a b c : Int} {t u v : Tok} (hh : A.handled = none) (hr : IsRange s.heap r a b c t u v) (hs : Builtin.Range.small a b c = true)
    (k : ∀ s2 I, Keeps s s2 → IterOK prog w A P C s.heap s2.heap I (rngS a b c) → s.heap.get? I = none → (∃ o, s2.heap.get? I = some o) → Q (.ref I) s2) : wpAny (model prog w) A (pyIter (.ref r)) Q E s := by
  refine wpAny_pyIter_range hr hs (k _ _ (keeps_push _ _) ?_ (get_size_none _) ⟨_, Heap.get?_push_size _ rfl⟩)
  have W := Walks.range (prog := prog) (w := w) hh s.heap.objs.size a c (Builtin.Range.rangeSize a b c).toNat
  have e : (rngS a b c).length = (Builtin.Range.rangeSize a b c).toNat := by simp [rngS]
  rw [← e] at W
  refine ⟨_, _, _, W, ?_, fun b hb => .inl (List.mem_singleton.mp hb), fun i v hi hv => ?_, fun i h st => ?_⟩
  · have hn := rangeSize_nn a b c
    show IsRangeIter _ _ _ _ _
    have e1 : a + ((0 : Nat) : Int) * c = a := by simp
    have e2 : (((rngS a b c).length : Nat) : Int) - ((0 : Nat) : Int) = Builtin.Range.rangeSize a b c := by rw [e]; exact om_38 hn
    rw [e1, e2]
    exact Heap.get?_push_size _ rfl
  · obtain ⟨tk, rfl⟩ := hv
    refine ⟨.int (a + (i : Int) * c), ?_, .int _ _⟩
    rw [e] at hi
    unfold rngS
    rw [List.getElem?_map, List.getElem?_range hi]; rfl
  · exact ⟨_, _, st, rfl, .tail _ (.head _)⟩
end iters
end
end Mine
end
section
open PySem PySem.W PyProof.Rows
set_option autoImplicit false
namespace Mine
section
variable {prog : Program} {w : World} {h0 : Heap} {C : Addr} {N : Nat} {Φ : Fns} {tb : List Str}
theorem behind_false {op : CmpOp} {r : Expr} (h : notSet r = true) : behindInMarks op r = false := by
  cases r <;> first | rfl | (exact absurd h Bool.false_ne_true)
theorem folded_pure {e : Expr} {env : Env} (h : notSet e = true) (x : Value) : foldedSetIterable e env x = pure x := by
  cases e <;> first | rfl | (exact absurd h Bool.false_ne_true)
theorem sub_tail {A : Around} {E : Value → Shared → Prop} {s : Shared} {value slice : Expr} {o i : Value} {T id : String} {Q : Value → Shared → Prop} (hT : s.TypeIs o T)
    (hl : typeLookup (.type T) "__getitem__" = pure (some (.builtin id))) (hs : notSlice slice = true) (h : wpAny (model prog w) A (getItem o i) Q E s) :
    wpAny (model prog w) A (subscriptTail value slice o i) Q E s := by
  unfold subscriptTail
  refine wpAny_bind ?_
  rw [getitemInPython_of_ne hT.not_modules]
  refine wpAny_bind (wpAny_specialOf hT hl ?_)
  have e : subscripted slice false o i = operate [o, i] (getItem o i) := by
    cases slice <;> first | rfl | (exact absurd hs Bool.false_ne_true)
  have fin : wpAny (model prog w) A (subscripted slice false o i) (fun r s₃ => wpAny (model prog w) A (letTemporaryGo value o r >>= fun _ => pure r) Q E s₃) E s := by
    rw [e]
    exact wpAny_operating (wpAny_mono h (fun r s₃ h₃ => wpAny_bind (wpAny_letTemporaryGo (wpAny_pure h₃))) fun _ _ x => x)
  first
    | exact wpAny_pure (wpAny_bind fin)
    | exact wpAny_bind (wpAny_pure (wpAny_bind fin))
    | exact wpAny_bind fin
theorem snd_var (i : Nat) : SndE prog w h0 C N Φ tb (.var i) := by
  intro env e ρ r A E s P Q hc ok hr kp up vars he k
  refine oE2_2 (isVarE_n hc) fun x p eZ hcX1 => ?_; clear hc; subst eZ
  refine oE1_2 vars fun g fm hx => ?_; clear vars
  simp only [q_var] at he
  refine oE1_2 (hx i x r.1 r.2 (fun z => z) he hcX1.1.1 hcX1.1.2) fun v hv rr => ?_
  exact Name_var ok hcX1.2 (fm.var ok hv hcX1.1.2) (k v s (Keeps.rfl' s) rr)
theorem snd_none : SndE prog w h0 C N Φ tb .cnone := by
  intro env e ρ r A E s P Q hc ok hr kp up vars he k
  refine oE3_2 (isConst_ hc) fun c _ _ eZ hcX1 => ?_; clear hc; subst eZ
  cases of_decide_eq_true hcX1
  simp only [q_cnone] at he; cases he
  exact wpAny_Constant_none (k _ _ (Keeps.rfl' s) (show Rp _ _ _ _ _ from .none))
theorem snd_bool (b : Bool) : SndE prog w h0 C N Φ tb (.cbool b) := by
  intro env e ρ r A E s P Q hc ok hr kp up vars he k
  refine oE3_2 (isConst_ hc) fun c _ _ eZ hcX1 => ?_; clear hc; subst eZ
  cases of_decide_eq_true hcX1
  simp only [q_cbool] at he; cases he
  exact wpAny_Constant_bool (k _ _ (Keeps.rfl' s) (show Rp _ _ _ _ _ from .bool _))
theorem snd_int (i : Int) : SndE prog w h0 C N Φ tb (.cint i) := by
  intro env e ρ r A E s P Q hc ok hr kp up vars he k
  refine oE3_2 (isConst_ hc) fun c _ _ eZ hcX1 => ?_; clear hc; subst eZ
  cases of_decide_eq_true hcX1
  simp only [q_cint] at he; cases he
  exact wpAny_Constant_int (k _ _ (keeps_toks _ _) (show Rp _ _ _ _ _ from .int _ _))
theorem snd_str (x : String) : SndE prog w h0 C N Φ tb (.cstr x) := by
  intro env e ρ r A E s P Q hc ok hr kp up vars he k
  refine oE3_2 (isConst_ hc) fun c _ _ eZ hcX1 => ?_; clear hc; subst eZ
  cases of_decide_eq_true hcX1
  simp only [q_cstr] at he; cases he
  exact wpAny_Constant_str (k _ _ (keeps_toks _ _) (show Rp _ _ _ _ _ from .str _ _))
set_option tactic.hygienic true in
theorem snd_bin {op : Operator} {a b : CE} (ha : SndE prog w h0 C N Φ tb a) (hb : SndE prog w h0 C N Φ tb b) : SndE prog w h0 C N Φ tb (.bin op a b) := by
  intro env e ρ r A E s P Q hc ok hr kp up vars he k
  refine oE4_2 (isBin_ hc) fun l o x p eZ hcX1 => ?_; clear hc; subst eZ
  simp only [Bool.and_eq_true, decide_eq_true_eq] at hcX1
  refine oE0_2 hcX1 fun zq13 c2 => ?_; clear hcX1; refine oE0_2 zq13 fun rq14 c1 => ?_; clear zq13; subst rq14
  simp only [q_bin] at he
  split at he
  · rename_i x y h1 h2
    cases hd : binD op x.1 y.1 with
    | none => rw [hd] at he; cases he
    | some d =>
      rw [hd] at he; cases he
      refine wpAny_BinOp (ha env _ ρ x A E s P _ c1 ok hr kp up vars h1 fun va s1 k1 ra => ?_)
      refine hb env _ ρ y A E s1 P _ c2 ok hr (kp.trans (Keeps.keep k1)) (up.keep (Keeps.keep k1)) (vars.keeps (Keeps.keep k1)) h2 fun vb s2 k2 rb => ?_
      exact bin_sound hd (ra.keeps (Keeps.keep k2)) rb ((up.keep (Keeps.keep k1)).keep (Keeps.keep k2)) fun v s3 k3 rr => k v s3 (Keeps.trans' k1 (Keeps.trans' k2 k3)) rr
  · cases he
set_option tactic.hygienic true in
theorem snd_cmp {op : CmpOp} {a b : CE} (ha : SndE prog w h0 C N Φ tb a) (hb : SndE prog w h0 C N Φ tb b) : SndE prog w h0 C N Φ tb (.cmp op a b) := by
  intro env e ρ r A E s P Q hc ok hr kp up vars he k
  refine oE4_2 (isCmp1_ hc) fun l op2 r1 pos eZ hcX1 => ?_; clear hc; subst eZ
  simp only [Bool.and_eq_true, decide_eq_true_eq] at hcX1
  refine oE0_2 hcX1 fun zq10 c3 => ?_; clear hcX1; refine oE0_2 zq10 fun zq11 c2 => ?_; clear zq10; refine oE0_2 zq11 fun rq12 c1 => ?_; clear zq11; subst rq12
  simp only [q_cmp] at he
  split at he
  · rename_i x y h1 h2
    cases hd : cmpD op x.1 y.1 with
    | none => rw [hd] at he; cases he
    | some d =>
      rw [hd] at he; cases he
      refine wpAny_Compare1 (ha env _ ρ x A E s P _ c1 ok hr kp up vars h1 fun va s1 k1 ra => ?_) (behind_false c3)
      refine hb env _ ρ y A E s1 P _ c2 ok hr (kp.trans (Keeps.keep k1)) (up.keep (Keeps.keep k1)) (vars.keeps (Keeps.keep k1)) h2 fun vb s2 k2 rb => ?_
      exact cmp_sound hd (ra.keeps (Keeps.keep k2)) rb (by have := hr.units; exact om_39 this) (k _ _ (Keeps.trans' k1 k2) (show Rp _ _ _ _ _ from .bool _))
  · cases he
set_option tactic.hygienic true in
theorem snd_neg {a : CE} (ha : SndE prog w h0 C N Φ tb a) : SndE prog w h0 C N Φ tb (.neg a) := by
  intro env e ρ r A E s P Q hc ok hr kp up vars he k
  refine oE3_2 (isUn_ hc) fun op x pos eZ hcX1 => ?_; clear hc; subst eZ
  obtain ⟨ho, hcX2⟩ := and_ hcX1
  cases of_decide_eq_true ho
  simp only [q_neg] at he
  split at he
  · rename_i i t h1
    cases he
    refine wpAny_UnaryOp (ha env _ ρ _ A E s P _ hcX2 ok hr kp up vars h1 fun va s1 k1 ra => ?_)
    obtain ⟨tk, rfl⟩ := ra.int
    exact PySem.P.neg_int (k _ _ (Keeps.trans' k1 (keeps_toks _ _)) (show Rp _ _ _ _ _ from .int _ _))
  · cases he
set_option tactic.hygienic true in
theorem snd_ite {c : CT} {a b : CE} (hcnd : SndT prog w h0 C N Φ tb c) (ha : SndE prog w h0 C N Φ tb a) (hb : SndE prog w h0 C N Φ tb b) : SndE prog w h0 C N Φ tb (.ite c a b) := by
  intro env e ρ r A E s P Q hc ok hr kp up vars he k
  refine oE4_2 (isIfE_ hc) fun t x y p eZ hcX1 => ?_; clear hc; subst eZ
  simp only [Bool.and_eq_true] at hcX1
  refine oE0_2 hcX1 fun zq9 c3 => ?_; clear hcX1; refine oE0_2 zq9 fun c1 c2 => ?_; clear zq9
  simp only [q_ite] at he
  split at he
  · rename_i h1
    refine wpAny_IfExp (hcnd env _ ρ _ A E s P _ c1 ok hr kp up vars h1 fun s1 k1 => ?_)
    rw [if_pos rfl]
    exact ha env _ ρ _ A E s1 P _ c2 ok hr (kp.trans (Keeps.keep k1)) (up.keep (Keeps.keep k1)) (vars.keeps (Keeps.keep k1)) he fun v s2 k2 rr => k v s2 (Keeps.trans' k1 k2) rr
  · rename_i h1
    refine wpAny_IfExp (hcnd env _ ρ _ A E s P _ c1 ok hr kp up vars h1 fun s1 k1 => ?_)
    rw [if_neg Bool.false_ne_true]
    exact hb env _ ρ _ A E s1 P _ c3 ok hr (kp.trans (Keeps.keep k1)) (up.keep (Keeps.keep k1)) (vars.keeps (Keeps.keep k1)) he fun v s2 k2 rr => k v s2 (Keeps.trans' k1 k2) rr
  · cases he
set_option tactic.hygienic true in
theorem snd_idx {a i : CE} (ha : SndE prog w h0 C N Φ tb a) (hi : SndE prog w h0 C N Φ tb i) : SndE prog w h0 C N Φ tb (.idx a i) := by
  intro env e ρ r A E s P Q hc ok hr kp up vars he k
  refine oE3_2 (isSub_ hc) fun ve xe p eZ hcX1 => ?_; clear hc; subst eZ
  simp only [Bool.and_eq_true] at hcX1
  refine oE0_2 hcX1 fun zq8 c3 => ?_; clear hcX1; refine oE0_2 zq8 fun c1 c2 => ?_; clear zq8
  simp only [q_idx] at he
  split at he
  · rename_i x y h1 h2
    cases hd : idxD x.1 y.1 with
    | none => rw [hd] at he; cases he
    | some d =>
      rw [hd] at he; cases he
      refine Subscript_ (ha env _ ρ x A E s P _ c1 ok hr kp up vars h1 fun va s1 k1 ra => ?_)
      refine hi env _ ρ y A E s1 P _ c2 ok hr (kp.trans (Keeps.keep k1)) (up.keep (Keeps.keep k1)) (vars.keeps (Keeps.keep k1)) h2 fun vb s2 k2 rb => ?_
      have ra2 := ra.keeps (Keeps.keep k2)
      have gi : wpAny (model prog w) A (getItem va vb) Q E s2 := idx_sound hd ra2 rb fun v s3 k3 rr => k v s3 (Keeps.trans' k1 (Keeps.trans' k2 k3)) rr
      obtain ⟨x1, x2⟩ := x
      cases x1 with
      | lst ds => refine oE2_3 ra2.list fun q vs rq7 hx _ => ?_; subst rq7; exact sub_tail hx.typeIs slot_list_getitem.lookup c3 gi
      | tup ds => refine oE2_3 ra2.tup fun q vs rq6 hx _ => ?_; subst rq6; exact sub_tail (T := "tuple") (let ⟨o, e, c, _⟩ := hx; ⟨o, e, c⟩) slot_tuple_getitem.lookup c3 gi
      | str x => obtain ⟨t, rfl⟩ := ra2.str; exact sub_tail (typeIs_str _ _ _) PySem.F.slot_str_getitem.lookup c3 gi
      | _ => cases hd
  · cases he
theorem part_int {A : Around} {E : Value → Shared → Prop} {s : Shared} {env : Env} {j : Int} {k pos} {Q : Value → Shared → Prop} (h : Q (.int j s.toks) { s with toks := s.toks + 1 }) :
    wpAny (model prog w) A (evalPart (some (.Constant (.int j) k pos)) env) Q E s := wpAny_Constant_int (k := k) (pos := pos) h
set_option tactic.hygienic true in
theorem snd_take {a : CE} {n : Nat} (ha : SndE prog w h0 C N Φ tb a) : SndE prog w h0 C N Φ tb (.take a n) := by
  intro env e ρ r A E s P Q hc ok hr kp up vars he k
  refine oE3_2 (isSub_ hc) fun ve xe p1 eZ hcX1 => ?_; clear hc; subst eZ
  refine oE2_2 (isName_ hcX1) fun x px eZ hcX2 => ?_; clear hcX1; subst eZ
  refine oE4_2 (isSlice_ hcX2) fun lo hi st p2 eZ hcX3 => ?_; clear hcX2; subst eZ
  obtain ⟨eZ, hcX4⟩ := non_ hcX3; clear hcX3; subst eZ
  refine oE1_2 (som_ hcX4) fun u eZ hcX5 => ?_; clear hcX4; subst eZ
  refine oE3_2 (isConst_ hcX5) fun cc c1 p3 eZ hcX6 => ?_; clear hcX5; subst eZ
  obtain ⟨eZ, hcX7⟩ := non_ hcX6; clear hcX6; subst eZ
  simp only [Bool.and_eq_true, decide_eq_true_eq] at hcX7
  obtain ⟨c1, rfl⟩ := hcX7
  simp only [q_take] at he
  split at he
  · rename_i x h1
    cases hd : takeD n x.1 with
    | none => rw [hd] at he; cases he
    | some d =>
      rw [hd] at he; cases he
      refine wpAny_Subscript_list_slice (ha env _ ρ x A E s P _ c1 ok hr kp up vars h1 fun va s1 k1 ra => wpAny_pure (part_int ?_)) (by intro _ _; rfl)
      obtain ⟨x1, x2⟩ := x
      cases x1 <;> simp only [takeD] at hd <;> first | (cases hd; done) | skip
      split at hd
      · rename_i hl
        cases hd
        refine oE2_3 ra.list fun q vs rq5 hx rr => ?_; subst rq5
        refine ⟨q, vs.toArray, none, some (n : Int), rfl, hx, ?_, .none, .int _ _, ?_⟩
        · rw [List.size_toArray, rr.length]; exact Nat.le_trans hl lineN_le
        · rw [slicePick_upto']
          refine k _ _ (Keeps.trans' k1 (Keeps.trans' (keeps_push' _ _ _) (keeps_push _ _))) ?_
          have e : (s1.heap.push { cls := .type "slice", data := .fields #[.none, .int (n : Int) s1.toks, .none] }).objs.size = s1.heap.objs.size + 1 := Heap.size_push _ _
          rw [← e]
          exact plain_new (((up.keep (Keeps.keep k1))).keep (Keep.push _ _)) ((rr.keeps (Keep.push _ _)).take n)
      · cases hd
  · cases he
set_option tactic.hygienic true in
theorem snd_drop {a : CE} {n : Nat} (ha : SndE prog w h0 C N Φ tb a) : SndE prog w h0 C N Φ tb (.drop a n) := by
  intro env e ρ r A E s P Q hc ok hr kp up vars he k
  refine oE3_2 (isSub_ hc) fun ve xe p1 eZ hcX1 => ?_; clear hc; subst eZ
  refine oE2_2 (isName_ hcX1) fun x px eZ hcX2 => ?_; clear hcX1; subst eZ
  refine oE4_2 (isSlice_ hcX2) fun lo hi st p2 eZ hcX3 => ?_; clear hcX2; subst eZ
  obtain ⟨eZ, hcX4⟩ := non_ hcX3; clear hcX3; subst eZ
  refine oE1_2 (som_ hcX4) fun u eZ hcX5 => ?_; clear hcX4; subst eZ
  refine oE3_2 (isConst_ hcX5) fun cc c1 p3 eZ hcX6 => ?_; clear hcX5; subst eZ
  obtain ⟨eZ, hcX7⟩ := non_ hcX6; clear hcX6; subst eZ
  simp only [Bool.and_eq_true, decide_eq_true_eq] at hcX7
  obtain ⟨c1, rfl⟩ := hcX7
  simp only [q_drop] at he
  split at he
  · rename_i x h1
    cases hd : dropD n x.1 with
    | none => rw [hd] at he; cases he
    | some d =>
      rw [hd] at he; cases he
      refine wpAny_Subscript_list_slice (ha env _ ρ x A E s P _ c1 ok hr kp up vars h1 fun va s1 k1 ra => part_int (wpAny_pure ?_)) (by intro _ _; rfl)
      obtain ⟨x1, x2⟩ := x
      cases x1 <;> simp only [dropD] at hd <;> first | (cases hd; done) | skip
      split at hd
      · rename_i hl
        cases hd
        refine oE2_3 ra.list fun q vs rq4 hx rr => ?_; subst rq4
        refine ⟨q, vs.toArray, some (n : Int), none, rfl, hx, ?_, .int _ _, .none, ?_⟩
        · rw [List.size_toArray, rr.length]; exact Nat.le_trans hl lineN_le
        · rw [slicePick_from']
          refine k _ _ (Keeps.trans' k1 (Keeps.trans' (keeps_push' _ _ _) (keeps_push _ _))) ?_
          have e : (s1.heap.push { cls := .type "slice", data := .fields #[.int (n : Int) s1.toks, .none, .none] }).objs.size = s1.heap.objs.size + 1 := Heap.size_push _ _
          rw [← e]
          exact plain_new (((up.keep (Keeps.keep k1))).keep (Keep.push _ _)) ((rr.keeps (Keep.push _ _)).drop n)
      · cases hd
  · cases he
theorem mapM_len {α β : Type} {f : α → Option β} : ∀ {l : List α} {r : List β}, l.mapM f = some r → r.length = l.length
  | [], r, h => by cases h; rfl
  | a :: l, r, h => by
    rw [List.mapM_cons] at h
    cases q : f a with
    | none => rw [q] at h; cases h
    | some y =>
      rw [q] at h
      cases q' : l.mapM f with
      | none => rw [q'] at h; cases h
      | some ys => rw [q'] at h; cases h; rw [List.length_cons, List.length_cons, mapM_len q']
theorem evs_len {rs : List TD} {ds : List D} (h : rs.mapM emb = some ds) : ds.length = rs.length := mapM_len h
set_option tactic.hygienic true in
theorem evs_len' {Φ : Fns} {ρ : Env'} : ∀ {es : List CE} {rs : List TD}, evs Φ es ρ = some rs → rs.length = es.length
  | [], rs, h => by simp only [qs_nil] at h; cases h; rfl
  | e :: es, rs, h => by
    simp only [qs_cons] at h
    split at h
    · rename_i h1 h2; cases h; rw [List.length_cons, List.length_cons, evs_len' h2]
    · cases h
set_option tactic.hygienic true in
theorem snd_dlst {es : List CE} (hl : SndL prog w h0 C N Φ tb es) : SndE prog w h0 C N Φ tb (.dlst es) := by
  intro env e ρ r A E s P Q hc ok hr kp up vars he k
  refine oE2_2 (isList_ hc) fun xs pos eZ hcX1 => ?_; clear hc; subst eZ
  simp only [q_dlst] at he
  split at he
  · rename_i hlen
    split at he
    · rename_i rs h1
      cases hm : rs.mapM emb with
      | none => rw [hm] at he; cases he
      | some ds =>
        rw [hm] at he; cases he
        refine wpAny_List ?_
        rw [star_plain _ _ _ (chks_star es xs hcX1).1]
        refine hl env xs ρ rs A E s P _ hcX1 ok hr kp up vars h1 fun vs s1 k1 ra => ?_
        have rr := embs_rp ra hm
        have e1 : vs.length = es.length := by rw [rr.length, evs_len hm, evs_len' h1]
        exact ⟨by rw [e1]; exact Nat.le_trans hlen lineN_le, k _ _ (Keeps.trans' k1 (keeps_push _ _)) (plain_new (up.keep (Keeps.keep k1)) rr)⟩
    · cases he
  · cases he
set_option tactic.hygienic true in
theorem snd_dtup {es : List CE} (hl : SndL prog w h0 C N Φ tb es) : SndE prog w h0 C N Φ tb (.dtup es) := by
  intro env e ρ r A E s P Q hc ok hr kp up vars he k
  refine oE3_2 (isTup_ hc) fun xs ctx pos eZ hcX1 => ?_; clear hc; subst eZ
  simp only [q_dtup] at he
  split at he
  · rename_i hlen
    split at he
    · rename_i rs h1
      cases hm : rs.mapM emb with
      | none => rw [hm] at he; cases he
      | some ds =>
        rw [hm] at he; cases he
        refine wpAny_Tuple ?_
        rw [star_plain _ _ _ (chks_star es xs hcX1).1]
        refine hl env xs ρ rs A E s P _ hcX1 ok hr kp up vars h1 fun vs s1 k1 ra => ?_
        have rr := embs_rp ra hm
        have e1 : vs.length = es.length := by rw [rr.length, evs_len hm, evs_len' h1]
        exact ⟨by rw [e1]; exact Nat.le_trans hlen lineN_le, k _ _ (Keeps.trans' k1 (keeps_push _ _)) (tuple_new rr)⟩
    · cases he
  · cases he
end
end Mine
end
section
open PySem PySem.W PyProof.Rows
set_option autoImplicit false
namespace Mine
section
variable {prog : Program} {w : World} {h0 : Heap} {C : Addr} {N : Nat} {Φ : Fns} {tb : List Str}
theorem sndl_nil : SndL prog w h0 C N Φ tb [] := by
  intro env es ρ rs A E s P Q hc ok hr kp up vars he k
  cases es with
  | nil => simp only [qs_nil] at he; cases he; exact Calls.spliced_nil (k _ _ (Keeps.rfl' s) .nil)
  | cons _ _ => exact absurd hc Bool.false_ne_true
set_option tactic.hygienic true in
theorem sndl_cons {c : CE} {cs : List CE} (h1 : SndE prog w h0 C N Φ tb c) (h2 : SndL prog w h0 C N Φ tb cs) : SndL prog w h0 C N Φ tb (c :: cs) := by
  intro env es ρ rs A E s P Q hc ok hr kp up vars he k
  cases es with
  | nil => exact absurd hc Bool.false_ne_true
  | cons e es =>
    simp only [k_scons, cns, Bool.and_eq_true] at hc
    simp only [qs_cons] at he
    split at he
    · rename_i x xs q1 q2
      cases he
      refine Calls.spliced_cons (h1 env e ρ x A E s P _ hc.1.1 ok hr kp up vars q1 fun v s1 k1 r1 => ?_)
      exact h2 env es ρ xs A E s1 P _ hc.2 ok hr (kp.trans (Keeps.keep k1)) (up.keep (Keeps.keep k1)) (vars.keeps (Keeps.keep k1)) q2 fun vs s2 k2 r2 => k _ _ (Keeps.trans' k1 k2) (.cons (r1.keeps (Keeps.keep k2)) r2)
    · cases he
theorem any_false {env : Env} {pos : Pos} {xs : List Expr} (h : xs.all notStar = true) : (backTo pos (starEach xs env)).any (·.1) = false := by
  rw [star_plain _ _ _ h]; simp
theorem args_snd {cs : List CE} (hl : SndL prog w h0 C N Φ tb cs) {env : Env} {es : List Expr} {ρ : Env'} {rs : List TD} {A : Around} {E : Value → Shared → Prop} {s : Shared} {P : Addr → Prop} {f : Value} {pos : Pos} {Q : Args → Shared → Prop}
    (hc : chks tb cs env.scope es = true) (ok : EnvOK env) (hr : Rm N A) (kp : Keep h0 s.heap) (up : Up P s.heap) (vars : Vars tb P C s.heap env ρ) (he : evs Φ cs ρ = some rs)
    (k : ∀ vs s', Keeps s s' → RpTA P C s'.heap vs rs → Q ⟨vs, []⟩ s') : wpAny (model prog w) A (evalArgs f true (backTo pos (starEach es env)) []) Q E s := by
  rw [star_plain _ _ _ (chks_star cs es hc).1]
  cases es with
  | nil =>
    cases cs with
    | nil => simp only [qs_nil] at he; cases he; exact PySem.evalArgs_none (k _ _ (Keeps.rfl' s) .nil)
    | cons _ _ => exact absurd hc Bool.false_ne_true
  | cons e es => exact Calls.evalArgs_plain (hl env (e :: es) ρ rs A E s P _ hc ok hr kp up vars he fun vs s1 k1 r1 => k vs s1 k1 r1)
theorem rpta_flat {P : Addr → Prop} {C : Addr} {h : Heap} {v : Value} {d : D} (r : Rp (fun _ => True) C h v d) (f : d.flat = true) : Rp P C h v d := RpT.flat (t := false) (P := fun _ => True) r f
set_option tactic.hygienic true in
theorem snd_call {f : String} {es : List CE} (H : Hyp prog w h0 C N Φ) (hl : SndL prog w h0 C N Φ tb es) : SndE prog w h0 C N Φ tb (.call f es) := by
  intro env e ρ r A E s P Q hc ok hr kp up vars he k
  refine oE4_2 (isCall_ hc) fun g xs kw p1 eZ hcX1 => ?_; clear hc; subst eZ
  obtain ⟨eZ, hcX2⟩ := nul_ hcX1; clear hcX1; subst eZ
  simp only [Bool.and_eq_true, decide_eq_true_eq] at hcX2
  refine oE0_2 hcX2 fun zq7 c4 => ?_; clear hcX2; refine oE0_2 zq7 fun zq8 c3 => ?_; clear zq7; refine oE0_2 zq8 fun c1 c2 => ?_; clear zq8
  refine oE1_3 (isG_name c1) fun p rq6 g1 g2 => ?_; subst rq6
  simp only [q_call] at he
  split at he
  · rename_i F rs h1 h2
    split at he
    · rename_i d hd
      split at he
      · rename_i hfl
        cases he
        refine oE3_4 (H.fns f F h1 c3) fun a o fd ga ho hdat hfn => ?_
        refine wpAny_Call_NameR (Name_glob ok g2 g1 ga kp ?_)
        refine Calls.callWith_function (o := o) (fd := fd) (args_snd hl c2 ok hr kp up vars h2 fun vs s1 k1 r1 => ?_)
        refine ⟨⟨(Keeps.keep k1) _ _ (kp _ _ ho), hdat⟩, ?_⟩
        rw [Bool.or_eq_true] at hfl
        rcases hfl with hfl | hfl
        · exact hfn A E s1 P vs _ d Q hr (kp.trans (Keeps.keep k1)) (up.keep (Keeps.keep k1)) (r1.plain hfl) hd fun v s2 k2 r2 => k v s2 (Keeps.trans' k1 k2) r2
        · exact hfn A E s1 (fun _ => True) vs _ d Q hr (kp.trans (Keeps.keep k1)) (fun _ _ => trivial) r1.all hd fun v s2 k2 r2 => k v s2 (Keeps.trans' k1 k2) (rpta_flat r2 hfl)
      · cases he
    · cases he
  · cases he
theorem methcall {A : Around} {E : Value → Shared → Prop} {s : Shared} {env : Env} {x : Str} {px apos pos : Pos} {name : Str} {args : List Expr} {Q : Value → Shared → Prop} (hst : args.all notStar = true) (hlen : args.length < 29)
    (hline : (apos.endLine == pos.line) = true)
    (h : wpAny (model prog w) A (eval (.Name x px) env) (fun ov s1 => ∀ pl, wpAny (model prog w) A (getMethod ov name pl) (fun fx s2 => wpAny (model prog w) A (callWith pos fx.1 fx.2 (backTo pos (starEach args env)) []) Q E s2) E s1) E s) :
    wpAny (model prog w) A (eval (.Call (.Attribute (.Name x px) name apos) args [] pos) env) Q E s := by
  rw [arm_eval_Call, show attributeBase (.Name x px) name env (eval (.Name x px) env) = eval (.Name x px) env from rfl]
  refine wpAny_bind (wpAny_mono h (fun ov s₁ h₁ => ?_) fun _ _ e => e)
  refine wpAny_bind (wpAny_standAt ?_)
  have hform : methodCallForm (args.length + ([] : List Keyword).length) (backTo pos (starEach args env)) (backToKw pos (keywordEach [] env)) = true := by
    rw [star_plain _ _ _ hst]
    unfold methodCallForm
    simp only [Bool.and_eq_true, decide_eq_true_eq]
    refine ⟨⟨by simp, rfl⟩, ?_⟩
    show args.length + 0 + _ < 30
    split <;> omega
  have hpos : methodCallPos true (.Name x px) env apos pos = pure pos := by unfold methodCallPos; simp [hline]
  unfold methodCall
  rw [hform]
  refine wpAny_bind (wpAny_holding (wpAny_mono (h₁ _) (fun fx s2 h2 => ?_) fun _ _ e => e))
  exact wpAny_bind (wpAny_of_eq hpos h2)
set_option tactic.hygienic true in
theorem snd_meth {m : HM} {o : CE} {es : List CE} (H : Hyp prog w h0 C N Φ) (ho : SndE prog w h0 C N Φ tb o) (hl : SndL prog w h0 C N Φ tb es) : SndE prog w h0 C N Φ tb (.meth m o es) := by
  intro env e ρ r A E s P Q hc ok hr kp up vars he k
  refine oE5_2 (isMeth_ hc) fun y nm apos xs pos eZ hcX1 => ?_; clear hc; subst eZ
  refine oE2_2 (isName_ hcX1) fun x px eZ hcX2 => ?_; clear hcX1; subst eZ
  simp only [Bool.and_eq_true, decide_eq_true_eq] at hcX2
  obtain ⟨⟨⟨rfl, hline⟩, hlen⟩, hcX2⟩ := hcX2
  simp only [q_meth] at he
  split at he
  · rename_i F ds t rs hF h1 h2
    cases hd : methD m ds (rs.map (·.1)) with
    | none => rw [hd] at he; cases he
    | some d =>
      rw [hd] at he; cases he
      refine oE3_4 (H.meths m F hF) fun f ob fd hob hdat hget hcall => ?_
      refine methcall (chks_star es xs hcX2.2).1 (by exact om_40 hlen) hline (ho env _ ρ _ A E s P _ hcX2.1 ok hr kp up vars h1 fun v s1 k1 r1 pl => ?_)
      refine oE4_4 r1.hdr fun x dx l vs rq4 pdx Hd ra => ?_; subst rq4
      have kp1 := kp.trans (Keeps.keep k1)
      refine hget _ _ _ _ _ _ _ _ _ kp1 Hd ?_
      refine Calls.callWith_function (o := ob) (fd := fd) (args_snd hl hcX2.2 ok hr kp1 (up.keep (Keeps.keep k1)) (vars.keeps (Keeps.keep k1)) h2 fun as s2 k2 r2 => ?_)
      have kp2 := kp1.trans (Keeps.keep k2)
      refine ⟨⟨kp2 _ _ hob, hdat⟩, ?_⟩
      refine hcall A E s2 P x dx l vs as ds _ d Q hr kp2 ((up.keep (Keeps.keep k1)).keep (Keeps.keep k2)) pdx ?_ (ra.keeps (Keeps.keep k2)) r2.all hd fun v s3 k3 r3 => k v s3 (Keeps.trans' k1 (Keeps.trans' k2 k3)) r3
      exact ⟨(Keeps.keep k2) _ _ Hd.obj, (let ⟨es, m, e, r⟩ := Hd.dict; ⟨es, m, (Keeps.keep k2) _ _ e, r⟩), Hd.list.at (fun o e => (Keeps.keep k2) _ _ e)⟩
  · cases he
set_option tactic.hygienic true in
theorem sndt_val {c : CE} (h : SndE prog w h0 C N Φ tb c) : SndT prog w h0 C N Φ tb (.val c) := by
  intro env e ρ b A E s P Q hc ok hr kp up vars he k
  simp only [k_val, Bool.and_eq_true] at hc
  simp only [qt_val] at he
  split at he
  · rename_i x h1
    refine wpAny_isTrue_value (h env e ρ x A E s P _ hc.2 ok hr kp up vars h1 fun v s1 k1 r1 => tru_sound he r1 (k _ k1)) ?_
    have hp := hc.1
    cases e <;> first | rfl | (exact absurd hp Bool.false_ne_true)
  · cases he
theorem sndt_not {c : CT} (h : SndT prog w h0 C N Φ tb c) : SndT prog w h0 C N Φ tb (.not c) := by
  intro env e ρ b A E s P Q hc ok hr kp up vars he k
  refine oE3_2 (isUn_ hc) fun op x pos eZ hcX1 => ?_; clear hc; subst eZ
  obtain ⟨ho, hcX2⟩ := and_ hcX1
  cases of_decide_eq_true ho
  simp only [qt_not] at he
  cases q : tr Φ c ρ with
  | none => rw [q] at he; cases he
  | some y =>
    rw [q] at he; cases he
    exact wpAny_isTrue_Not (h env _ ρ y A E s P _ hcX2 ok hr kp up vars q fun s1 k1 => k _ k1)
set_option tactic.hygienic true in
theorem sndt_cmp {op : CmpOp} {a b : CE} (ha : SndE prog w h0 C N Φ tb a) (hb : SndE prog w h0 C N Φ tb b) : SndT prog w h0 C N Φ tb (.cmp op a b) := by
  intro env e ρ r A E s P Q hc ok hr kp up vars he k
  refine oE4_2 (isCmp1_ hc) fun l op2 r1 pos eZ hcX1 => ?_; clear hc; subst eZ
  simp only [Bool.and_eq_true, decide_eq_true_eq] at hcX1
  refine oE0_2 hcX1 fun zq1 c3 => ?_; clear hcX1; refine oE0_2 zq1 fun zq2 c2 => ?_; clear zq1; refine oE0_2 zq2 fun rq3 c1 => ?_; clear zq2; subst rq3
  simp only [qt_cmp] at he
  split at he
  · rename_i x y h1 h2
    refine wpAny_isTrue_Compare1 (ha env _ ρ x A E s P _ c1 ok hr kp up vars h1 fun va s1 k1 ra => ?_) (behind_false c3)
    refine hb env _ ρ y A E s1 P _ c2 ok hr (kp.trans (Keeps.keep k1)) (up.keep (Keeps.keep k1)) (vars.keeps (Keeps.keep k1)) h2 fun vb s2 k2 rb => ?_
    exact cmp_sound he (ra.keeps (Keeps.keep k2)) rb (by have := hr.units; exact om_39 this) (wpAny_truthy_bool (k _ (Keeps.trans' k1 k2)))
  · cases he
theorem sndt_and {cs : List CT} (h : SndA prog w h0 C N Φ tb cs) : SndT prog w h0 C N Φ tb (.and cs) := by
  intro env e ρ b A E s P Q hc ok hr kp up vars he k
  refine oE3_2 (isBoolOp_ hc) fun op xs pos eZ hcX1 => ?_; clear hc; subst eZ
  obtain ⟨ho, hcX2⟩ := and_ hcX1
  cases of_decide_eq_true ho
  simp only [qt_and] at he
  exact wpAny_isTrue_BoolOp ((h env xs ρ b A E s P Q hcX2 ok hr kp up vars).1 he k)
theorem sndt_or {cs : List CT} (h : SndA prog w h0 C N Φ tb cs) : SndT prog w h0 C N Φ tb (.or cs) := by
  intro env e ρ b A E s P Q hc ok hr kp up vars he k
  refine oE3_2 (isBoolOp_ hc) fun op xs pos eZ hcX1 => ?_; clear hc; subst eZ
  obtain ⟨ho, hcX2⟩ := and_ hcX1
  cases of_decide_eq_true ho
  simp only [qt_or] at he
  exact wpAny_isTrue_BoolOp ((h env xs ρ b A E s P Q hcX2 ok hr kp up vars).2 he k)
theorem snda_nil : SndA prog w h0 C N Φ tb [] := by
  intro env es ρ b A E s P Q hc ok hr kp up vars
  cases es with
  | cons _ _ => exact absurd hc Bool.false_ne_true
  | nil =>
    refine ⟨fun he k => ?_, fun he k => ?_⟩
    · simp only [qa_nil] at he; cases he; exact wpAny_allTrue_And_nil (k _ (Keeps.rfl' s))
    · simp only [qo_nil] at he; cases he; exact wpAny_allTrue_Or_nil (k _ (Keeps.rfl' s))
set_option tactic.hygienic true in
theorem snda_cons {c : CT} {cs : List CT} (h1 : SndT prog w h0 C N Φ tb c) (h2 : SndA prog w h0 C N Φ tb cs) : SndA prog w h0 C N Φ tb (c :: cs) := by
  intro env es ρ b A E s P Q hc ok hr kp up vars
  cases es with
  | nil => exact absurd hc Bool.false_ne_true
  | cons e es =>
    simp only [k_tscons, cns, Bool.and_eq_true] at hc
    refine ⟨fun he k => ?_, fun he k => ?_⟩
    · simp only [qa_cons] at he
      split at he
      · rename_i q
        refine wpAny_allTrue_And_cons (h1 env e ρ _ A E s P _ hc.1 ok hr kp up vars q fun s1 k1 => ?_)
        rw [if_pos rfl]
        exact (h2 env es ρ b A E s1 P _ hc.2 ok hr (kp.trans (Keeps.keep k1)) (up.keep (Keeps.keep k1)) (vars.keeps (Keeps.keep k1))).1 he fun s2 k2 => k _ (Keeps.trans' k1 k2)
      · rename_i q
        cases he
        refine wpAny_allTrue_And_cons (h1 env e ρ _ A E s P _ hc.1 ok hr kp up vars q fun s1 k1 => ?_)
        rw [if_neg Bool.false_ne_true]
        exact k _ k1
      · cases he
    · simp only [qo_cons] at he
      split at he
      · rename_i q
        cases he
        refine wpAny_allTrue_Or_cons (h1 env e ρ _ A E s P _ hc.1 ok hr kp up vars q fun s1 k1 => ?_)
        rw [if_pos rfl]
        exact k _ k1
      · rename_i q
        refine wpAny_allTrue_Or_cons (h1 env e ρ _ A E s P _ hc.1 ok hr kp up vars q fun s1 k1 => ?_)
        rw [if_neg Bool.false_ne_true]
        exact (h2 env es ρ b A E s1 P _ hc.2 ok hr (kp.trans (Keeps.keep k1)) (up.keep (Keeps.keep k1)) (vars.keeps (Keeps.keep k1))).2 he fun s2 k2 => k _ (Keeps.trans' k1 k2)
      · cases he
end
end Mine
end
section
open PySem PySem.W PyProof.Rows
set_option autoImplicit false
namespace Mine
section
variable {prog : Program} {w : World} {h0 : Heap} {C : Addr} {N : Nat} {Φ : Fns} {tb : List Str}
theorem rpta1 {P : Addr → Prop} {C : Addr} {h : Heap} {vs : List Value} {x : TD} (r : RpTA P C h vs [x]) : ∃ v, vs = [v] ∧ RpT x.2 P C h v x.1 := by
  cases r with | cons a r => cases r; exact ⟨_, rfl, a⟩
theorem rpta2 {P : Addr → Prop} {C : Addr} {h : Heap} {vs : List Value} {x y : TD} (r : RpTA P C h vs [x, y]) : ∃ v u, vs = [v, u] ∧ RpT x.2 P C h v x.1 ∧ RpT y.2 P C h u y.1 := by
  cases r with | cons a r => cases r with | cons b r => cases r; exact ⟨_, _, rfl, a, b⟩
theorem rpta3 {P : Addr → Prop} {C : Addr} {h : Heap} {vs : List Value} {x y z : TD} (r : RpTA P C h vs [x, y, z]) : ∃ v u t, vs = [v, u, t] ∧ RpT x.2 P C h v x.1 ∧ RpT y.2 P C h u y.1 ∧ RpT z.2 P C h t z.1 := by
  cases r with | cons a r => cases r with | cons b r => cases r with | cons c r => cases r; exact ⟨_, _, _, rfl, a, b, c⟩
theorem snd_prim1 {f : String} {es : List CE} (hl : SndL prog w h0 C N Φ tb es) {env : Env} {g x : Expr} {pos : Pos} {ρ : Env'} {rs : List TD} {A : Around} {E : Value → Shared → Prop} {s : Shared} {P : Addr → Prop} {Q : Value → Shared → Prop}
    (hg : isG env.scope f g = true) (ga : GlobalAt h0 (Str.ofString f) (.builtin f)) (hc : chks tb es env.scope [x] = true) (ok : EnvOK env) (hr : Rm N A) (kp : Keep h0 s.heap) (up : Up P s.heap) (vars : Vars tb P C s.heap env ρ) (he : evs Φ es ρ = some rs)
    (k : ∀ y v s', rs = [y] → Keeps s s' → RpT y.2 P C s'.heap v y.1 → wpAny (model prog w) A (call (.builtin f) [v]) Q E s') : wpAny (model prog w) A (eval (.Call g [x] [] pos) env) Q E s := by
  refine oE1_3 (isG_name hg) fun p rq21 g1 g2 => ?_; subst rq21
  refine wpAny_Call_NameR (Name_glob ok g2 g1 ga kp ?_)
  refine Calls.callWith_builtin (any_false (chks_star es [x] hc).1) (args_snd hl hc ok hr kp up vars he fun vs s1 k1 r1 => ?_)
  have e1 : rs.length = 1 := by rw [evs_len' he]; exact (chks_star es [x] hc).2
  match rs, e1 with
  | [y], _ =>
    refine oE1_2 (rpta1 r1) fun v rq20 rv => ?_; subst rq20
    exact k y v s1 rfl k1 rv
set_option maxRecDepth 100000 in
theorem gm_bit {M : Model} {A : Around} {E : Value → Shared → Prop} {s : Shared} {a : Int} {t : Tok} {pl : Sem Bool} {Q : Value × List Value → Shared → Prop} (h : Q (.builtin "int.bit_length", [.int a t]) s) :
    wpAny M A (getMethod (.int a t) (Str.ofString "bit_length") pl) Q E s := PyProof.Rows.getMethod_int_bit_length h
set_option tactic.hygienic true in
set_option maxRecDepth 100000 in
theorem snd_prim {p : Prim} {es : List CE} (H : Hyp prog w h0 C N Φ) (hl : SndL prog w h0 C N Φ tb es) (hs : ∀ c ∈ es, SndE prog w h0 C N Φ tb c) : SndE prog w h0 C N Φ tb (.prim p es) := by
  intro env e ρ r A E s P Q hc ok hr kp up vars he k
  simp only [q_prim] at he
  split at he
  rotate_left
  · cases he
  rename_i rs h1
  cases hdT : primT Φ p rs with
  | none => rw [hdT] at he; cases he
  | some d =>
    rw [hdT] at he; cases he
    have hd : primD p (rs.map (·.1)) = some d ∧ (p.own = true → rs.head?.any (·.2) = true) ∧ gate Φ p = true := by
      unfold primT at hdT
      split at hdT
      · cases hdT
      · rename_i q
        simp only [Bool.or_eq_true, Bool.not_eq_true', not_or, Bool.not_eq_false] at q
        refine ⟨hdT, fun z => ?_, q.2⟩
        have q1 := q.1
        rw [z] at q1
        simpa using q1
    obtain ⟨hd, hown, hgate⟩ := hd
    cases p with
    | len =>
        refine oE3_3 (call1_ hc) fun g x pos rq19 q hcX1 => ?_; subst rq19
        refine snd_prim1 hl q H.len hcX1 ok hr kp up vars h1 fun y v s1 e1 k1 r1 => ?_
        subst e1
        exact len_sound hd r1 fun v s2 k2 r2 => k v s2 (Keeps.trans' k1 k2) r2
    | sum =>
        refine oE3_3 (call1_ hc) fun g x pos rq18 q hcX1 => ?_; subst rq18
        refine snd_prim1 hl q H.sum hcX1 ok hr kp up vars h1 fun y v s1 e1 k1 r1 => ?_
        subst e1
        exact sum_sound hd r1 hr.handled fun v s2 k2 r2 => k v s2 (Keeps.trans' k1 k2) r2
    | sorted =>
        refine oE3_3 (call1_ hc) fun g x pos rq17 q hcX1 => ?_; subst rq17
        refine snd_prim1 hl q H.sorted hcX1 ok hr kp up vars h1 fun y v s1 e1 k1 r1 => ?_
        subst e1
        obtain ⟨y, t⟩ := y
        replace hd := lstD_ (show _ = some d from hd)
        obtain ⟨ds, eY, hd⟩ := hd; subst eY
        split at hd
        rotate_left
        · cases hd
        rename_i hlen
        refine oE1_2 (Option.map_eq_some_iff.mp hd) fun is hq rq16 => ?_; subst rq16
        exact sorted_ints_sound r1 hq hlen (up.keep (Keeps.keep k1)) fun v s2 k2 r2 => k v s2 (Keeps.trans' k1 k2) r2
    | sortedP =>
        refine oE3_3 (call1_ hc) fun g x pos rq15 q hcX1 => ?_; subst rq15
        refine snd_prim1 hl q H.sorted hcX1 ok hr kp up vars h1 fun y v s1 e1 k1 r1 => ?_
        subst e1
        obtain ⟨y, t⟩ := y
        refine oE1_2 (lstD_ (show _ = some d from hd)) fun ds eY _ => ?_; subst eY
        exact H.sortP hgate A E s1 P v _ _ t Q hr (up.keep (Keeps.keep k1)) r1 hd fun v s2 k2 r2 => k v s2 (Keeps.trans' k1 k2) r2
    | sortedSet =>
        refine oE3_3 (call1_ hc) fun g x1 pos rq12 q1 hcX1 => ?_; subst rq12
        refine oE3_3 (call1_ hcX1) fun g' x pos' rq11 q2 hcX2 => ?_; subst rq11
        refine oE1_3 (isG_name q1) fun p1 rq10 g1 g2 => ?_; subst rq10
        refine oE1_3 (isG_name q2) fun p2 rq9 g3 g4 => ?_; subst rq9
        refine wpAny_Call_NameR (Name_glob ok g2 g1 H.sorted kp ?_)
        refine Calls.callWith_builtin rfl (Calls.evalArgs_plain (Calls.spliced_cons ?_))
        refine wpAny_Call_NameR (Name_glob ok g4 g3 H.set kp ?_)
        refine PySem.callWith_type (any_false (chks_star es _ hcX2).1) (args_snd hl hcX2 ok hr kp up vars h1 fun vs s1 k1 r1 => ?_)
        have e1 : rs.length = 1 := by rw [evs_len' h1]; exact (chks_star es _ hcX2).2
        obtain ⟨⟨y, t⟩, rfl⟩ := List.length_eq_one_iff.mp e1
        · refine oE1_2 (rpta1 r1) fun v rq8 rv => ?_; subst rq8
          refine oE1_2 (lstD_ (show _ = some d from hd)) fun ds eY _ => ?_; subst eY
          refine wpAny_mono (H.sortSet hgate A E s1 P v _ _ t Q hr (up.keep (Keeps.keep k1)) rv hd fun v s2 k2 r2 => k v s2 (Keeps.trans' k1 k2) r2) (fun v' s' h' => Calls.spliced_nil h') fun _ _ z => z
    | join sep =>
        refine oE5_2 (isMeth_ hc) fun o n apos xs pos eZ hcX1 => ?_; clear hc; subst eZ
        refine oE3_2 (isConst_ hcX1) fun cc _ _ eZ hcX2 => ?_; clear hcX1; subst eZ
        refine oE1_2 (one_ hcX2) fun x eZ hcX3 => ?_; clear hcX2; subst eZ
        simp only [Bool.and_eq_true, decide_eq_true_eq] at hcX3
        obtain ⟨⟨⟨rfl, rfl⟩, q3⟩, hcX3⟩ := hcX3
        have hst := (chks_star es _ hcX3).1
        refine wpAny_Call_method (T := "str") (id := "str.join") rfl ?_ q3 PySem.F.plainAttrs_str PySem.F.slot_str_join PySem.F.type_str_join ?_
        · rw [star_plain _ _ _ hst]; rfl
        · refine wpAny_Constant_str ⟨typeIs_str _ _ _, (fun _ z => nomatch z), ?_⟩
          refine Calls.callWith_builtin (any_false hst) (args_snd hl hcX3 ok hr kp up (vars.keeps fun _ _ e => e) h1 fun vs s1 k1 r1 => ?_)
          have e1 : rs.length = 1 := by rw [evs_len' h1]; exact (chks_star es _ hcX3).2
          obtain ⟨y, rfl⟩ := List.length_eq_one_iff.mp e1
          · refine oE1_2 (rpta1 r1) fun v rq6 rv => ?_; subst rq6
            exact join_sound hd rv fun v s2 k2 r2 => k v s2 (Keeps.trans' (keeps_toks _ _) (Keeps.trans' k1 k2)) r2
    | bitLen =>
        refine oE5_2 (isMeth_ hc) fun o n apos xs pos eZ hcX1 => ?_; clear hc; subst eZ
        refine oE2_2 (isName_ hcX1) fun x px eZ hcX2 => ?_; clear hcX1; subst eZ
        obtain ⟨eZ, hcX3⟩ := nul_ hcX2; clear hcX2; subst eZ
        simp only [Bool.and_eq_true, decide_eq_true_eq] at hcX3
        obtain ⟨⟨rfl, q3⟩, hcX3⟩ := hcX3
        have e1 : es.length = 1 := (chks_star es _ hcX3).2
        match es, e1 with
        | [c], _ =>
          simp only [k_scons, cns, Bool.and_eq_true] at hcX3
          simp only [qs_nil, qs_cons] at h1
          split at h1
          rotate_left
          · cases h1
          rename_i y ys hy hn
          cases hn; cases h1
          refine methcall rfl (by decide) q3 (hs c (.head _) env _ ρ y A E s P _ hcX3.1.1 ok hr kp up vars hy fun v s1 k1 r1 pl => ?_)
          refine oE0_2 (bitLen_sound (prog := prog) (w := w) (A := A) (E := E) (Q := Q) hd r1 fun v s2 k2 r2 => k v s2 (Keeps.trans' k1 k2) r2) fun hcall zq3 => ?_; refine oE2_1 zq3 fun i t rq4 => ?_; clear zq3; subst rq4
          refine gm_bit ?_
          refine Calls.callWith_builtin rfl (PySem.evalArgs_none ?_)
          exact hcall
    | count =>
        refine oE5_2 (isMeth_ hc) fun o n apos xs pos eZ hcX1 => ?_; clear hc; subst eZ
        refine oE2_2 (isName_ hcX1) fun x px eZ hcX2 => ?_; clear hcX1; subst eZ
        refine oE1_2 (one_ hcX2) fun y eZ hcX3 => ?_; clear hcX2; subst eZ
        simp only [Bool.and_eq_true, decide_eq_true_eq] at hcX3
        obtain ⟨⟨rfl, q3⟩, hcX3⟩ := hcX3
        have e1 : es.length = 2 := (chks_star es _ hcX3).2
        match es, e1 with
        | [c, c'], _ =>
          simp only [k_scons, cns, Bool.and_eq_true] at hcX3
          simp only [qs_nil, qs_cons] at h1
          split at h1
          rotate_left
          · cases h1
          rename_i u ys hu hn
          cases h1
          split at hn
          rotate_left
          · cases hn
          rename_i u' ys' hu' hn'
          cases hn'; cases hn
          have hst : ([y] : List Expr).all notStar = true := by rw [List.all_cons, hcX3.2.1.2]; rfl
          refine methcall hst (Nat.lt_of_le_of_lt (Nat.le_refl 1) (by decide)) q3 (hs c (.head _) env _ ρ u A E s P _ hcX3.1.1 ok hr kp up vars hu fun v s1 k1 r1 pl => ?_)
          obtain ⟨u1, u2⟩ := u
          refine oE1_2 (lstD_ (show _ = some d from hd)) fun ds eY _ => ?_; subst eY
          have hu2 : u2 = true := by simpa using hown rfl
          subst hu2
          refine oE2_3 (RpT.plain r1) fun a vs rq1 hx ra => ?_; subst rq1
          have hplain : ∀ a', (.ref a : Value) = .ref a' → ∃ o, s1.heap.get? a' = some o ∧ o.dict = none := fun a' q => by
            cases q
            obtain ⟨n, e⟩ := hx
            exact ⟨_, e, rfl⟩
          refine getMethod_builtin (T := "list") (id := "list.count") hx.isList.typeIs PySem.F.plainAttrs_list PySem.F.slot_list_count PySem.F.type_list_count hplain ?_
          refine Calls.callWith_builtin (any_false hst) ?_
          rw [star_plain _ _ _ hst]
          refine Calls.evalArgs_plain (Calls.spliced_cons (hs c' (.tail _ (.head _)) env _ ρ u' A E s1 P _ hcX3.2.1.1 ok hr (kp.trans (Keeps.keep k1)) (up.keep (Keeps.keep k1)) (vars.keeps (Keeps.keep k1)) hu' fun v s2 k2 r2 => Calls.spliced_nil ?_))
          exact count_sound hd (r1.keeps (Keeps.keep k2)) r2 fun v s3 k3 r3 => k v s3 (Keeps.trans' k1 (Keeps.trans' k2 k3)) r3
end
end Mine
end
section
open PySem PySem.W PyProof.Rows
set_option autoImplicit false
namespace Mine
section
variable {prog : Program} {w : World} {h0 : Heap} {C : Addr} {N : Nat} {Φ : Fns} {tb : List Str}
set_option tactic.hygienic true in
theorem sndi_ce {c : CE} (h : SndE prog w h0 C N Φ tb c) : SndI prog w h0 C N Φ tb (.ce c) := by
  intro env e ρ ds A E s P Q hc ok hr kp up vars he k
  simp only [k_ce] at hc
  simp only [qw_ce] at he
  split at he
  rotate_left
  · cases he
  rename_i x h1
  refine h env e ρ x A E s P _ hc ok hr kp up vars h1 fun v s1 k1 r1 => ?_
  obtain ⟨y, t⟩ := x
  unfold itemsD at he
  split at he
  · rename_i q
    simp only at q
    subst q
    cases he
    refine oE2_3 r1.list fun a vs rq21 hx ra => ?_; subst rq21
    exact iter_list_sound hr.handled hx ra fun s2 I k2 it hn hs => k s1 s2 I k1 k2 it hn hs
  · rename_i q
    simp only at q
    subst q
    cases he
    obtain ⟨tk, rfl⟩ := r1.str
    exact iter_str_sound hr.handled fun s2 I k2 it hn hs => k s1 s2 I k1 k2 it hn hs
  · cases he
set_option tactic.hygienic true in
theorem rng_gen {es : List CE} (H : Hyp prog w h0 C N Φ) (hl : SndL prog w h0 C N Φ tb es) {env : Env} {e : Expr} {ρ : Env'} {ds : List D} {A : Around} {E : Value → Shared → Prop} {s : Shared} {P : Addr → Prop} {Q : Value → Shared → Prop}
    (hc : chkI tb (.rng es) env.scope e = true) (ok : EnvOK env) (hr : Rm N A) (kp : Keep h0 s.heap) (up : Up P s.heap) (vars : Vars tb P C s.heap env ρ) (he : wk Φ (.rng es) ρ = some ds)
    (k : ∀ s1 r a b c t u v, Keeps s s1 → IsRange s1.heap r a b c t u v → Builtin.Range.small a b c = true → ds = rngS a b c → Q (.ref r) s1) : wpAny (model prog w) A (eval e env) Q E s := by
  refine oE4_2 (isCall_ hc) fun g xs kw p1 eZ hcX1 => ?_; clear hc; subst eZ
  obtain ⟨eZ, hcX2⟩ := nul_ hcX1; clear hcX1; subst eZ
  simp only [Bool.and_eq_true, decide_eq_true_eq] at hcX2
  refine oE0_2 hcX2 fun zq20 c3 => ?_; clear hcX2; refine oE0_2 zq20 fun c1 c2 => ?_; clear zq20
  refine oE1_3 (isG_name c1) fun p rq19 g1 g2 => ?_; subst rq19
  simp only [qw_rng] at he
  split at he
  rotate_left
  · cases he
  rename_i rs h1
  refine wpAny_Call_NameR (Name_glob ok g2 g1 H.range kp ?_)
  refine PySem.callWith_type (any_false (chks_star es _ c2).1) (args_snd hl c2 ok hr kp up vars h1 fun vs s1 k1 r1 => ?_)
  replace he := on3_ he
  rcases he with ⟨y, q, he⟩ | ⟨y, y', q, he⟩ | ⟨y, y', y'', q, he⟩
  · replace he := intD_ he
    obtain ⟨b, eY, he⟩ := he; subst eY
    obtain ⟨⟨_, t⟩, eR, e1⟩ := List.map_eq_singleton_iff.mp q; subst eR; cases e1
    unfold rng2 at he
    split at he
    rotate_left
    · cases he
    rename_i hsm
    cases he
    refine oE1_2 (rpta1 r1) fun v rq18 rv => ?_; subst rq18
    obtain ⟨tk, rfl⟩ := rv.int
    refine call_range_1 ?_
    have kk := keeps_push' s1 { cls := .type "range", data := .fields #[.int 0 s1.toks, .int b tk, .int 1 (s1.toks + 1)] } (s1.toks + 1 + 1)
    exact k _ _ _ _ _ _ _ _ (Keeps.trans' k1 kk) (IsRange.new ..) hsm rfl
  · replace he := intD_ he
    obtain ⟨a, eY, he⟩ := he; subst eY
    replace he := intD_ he
    obtain ⟨b, eY, he⟩ := he; subst eY
    replace q := List.map_eq_cons_iff.mp q
    obtain ⟨⟨_, t⟩, r2, eR, e1, q⟩ := q; subst eR; cases e1
    obtain ⟨⟨_, t'⟩, eR, e1⟩ := List.map_eq_singleton_iff.mp q; subst eR; cases e1
    unfold rng2 at he
    split at he
    rotate_left
    · cases he
    rename_i hsm
    cases he
    refine oE2_3 (rpta2 r1) fun v u rq17 rv ru => ?_; subst rq17
    obtain ⟨tk, rfl⟩ := rv.int
    obtain ⟨tu, rfl⟩ := ru.int
    refine call_range_2 ?_
    have kk := keeps_push' s1 { cls := .type "range", data := .fields #[.int a tk, .int b tu, .int 1 s1.toks] } (s1.toks + 1)
    exact k _ _ _ _ _ _ _ _ (Keeps.trans' k1 kk) (IsRange.new ..) hsm rfl
  · replace he := intD_ he
    obtain ⟨a, eY, he⟩ := he; subst eY
    replace he := intD_ he
    obtain ⟨b, eY, he⟩ := he; subst eY
    replace he := intD_ he
    obtain ⟨c, eY, he⟩ := he; subst eY
    replace q := List.map_eq_cons_iff.mp q
    obtain ⟨⟨_, t⟩, r2, eR, e1, q⟩ := q; subst eR; cases e1
    replace q := List.map_eq_cons_iff.mp q
    obtain ⟨⟨_, t'⟩, r3, eR, e1, q⟩ := q; subst eR; cases e1
    obtain ⟨⟨_, t''⟩, eR, e1⟩ := List.map_eq_singleton_iff.mp q; subst eR; cases e1
    unfold rng3 at he
    split at he
    rotate_left
    · cases he
    rename_i hsm
    cases he
    simp only [Bool.and_eq_true, decide_eq_true_eq] at hsm
    refine oE3_4 (rpta3 r1) fun v u z rq16 rv ru rz => ?_; subst rq16
    obtain ⟨tk, rfl⟩ := rv.int
    obtain ⟨tu, rfl⟩ := ru.int
    obtain ⟨tz, rfl⟩ := rz.int
    refine call_range_3 hsm.1.2 ?_ (Or.inl (PyProof.noPylong_small (by exact om_9 hsm.2)))
    have kk := keeps_push' s1 { cls := .type "range", data := .fields #[.int a tk, .int b tu, .int c tz] } s1.toks
    exact k _ _ _ _ _ _ _ _ (Keeps.trans' k1 kk) (IsRange.new ..) hsm.1.1 rfl
theorem sndi_rng {es : List CE} (H : Hyp prog w h0 C N Φ) (hl : SndL prog w h0 C N Φ tb es) : SndI prog w h0 C N Φ tb (.rng es) := by
  intro env e ρ ds A E s P Q hc ok hr kp up vars he k
  refine rng_gen H hl hc ok hr kp up vars he fun s1 r a b c t u v k1 R hsm q => ?_
  subst q
  exact iter_range_sound (P := P) (C := C) hr.handled R hsm fun s2 I k2 it hn hs => k _ s2 I k1 k2 it hn hs
set_option tactic.hygienic true in
theorem ifs_snd {cs : List CT} (h : ∀ c ∈ cs, SndT prog w h0 C N Φ tb c) {env : Env} {ifs : List Expr} {ρ : Env'} {b : Bool} {A : Around} {E : Value → Shared → Prop} {s : Shared} {P : Addr → Prop} {Q : Bool → Shared → Prop}
    (hc : chkTs tb cs env.scope ifs = true) (h1 : ifs.length ≤ 1) (ok : EnvOK env) (hr : Rm N A) (kp : Keep h0 s.heap) (up : Up P s.heap) (vars : Vars tb P C s.heap env ρ) (he : trAnd Φ cs ρ = some b) (k : ∀ s', Keeps s s' → Q b s') :
    wpAny (model prog w) A (forIn ifs true fun c r => if r = true then do let ok ← isTrue c env (eval c env); pure (ForInStep.yield ok) else pure (ForInStep.yield r)) Q E s := by
  match ifs, cs, h1 with
  | [], [], _ =>
    simp only [qa_nil] at he; cases he
    exact wpAny_pure (k s (Keeps.rfl' s))
  | [], _ :: _, _ => exact absurd hc Bool.false_ne_true
  | [x], [], _ => exact absurd hc Bool.false_ne_true
  | [x], [c], _ =>
    simp only [k_tscons, cns, Bool.and_eq_true] at hc
    have he' : tr Φ c ρ = some b := by
      simp only [qa_nil, qa_cons] at he
      split at he
      · rename_i q; rw [q]; exact he
      · rename_i q; rw [q]; exact he
      · cases he
    rw [List.forIn_cons]
    refine wpAny_bind ?_
    rw [if_pos rfl]
    refine wpAny_bind (h c (.head _) env x ρ b A E s P _ hc.1 ok hr kp up vars he' fun s1 k1 => wpAny_pure ?_)
    exact wpAny_pure (k s1 k1)
  | [x], _ :: _ :: _, _ =>
    simp only [k_tscons, cns, Bool.and_eq_true] at hc
    exact absurd hc.2 Bool.false_ne_true
  | _ :: _ :: _, _, h1 => exact absurd h1 (by simp)
set_option tactic.hygienic true in
theorem snd_comp {elt : CE} {tgt : Tgt} {it : CI} {conds : List CT} (nd : tb.Nodup) (ndot : (".0" : Str) ∉ tb) (hit : SndI prog w h0 C N Φ tb it) (he1 : SndE prog w h0 C N Φ tb elt) (hcs : ∀ c ∈ conds, SndT prog w h0 C N Φ tb c) :
    SndE prog w h0 C N Φ tb (.comp elt tgt it conds) := by
  intro env e ρ r A E s P Q hc ok hr kp up vars he k
  refine oE4_2 (isLComp_ hc) fun x gs sc' pos eZ hcX1 => ?_; clear hc; subst eZ
  obtain ⟨⟨target, iter, ifs, a⟩, eZ, hcX2⟩ := one_ hcX1; clear hcX1; subst eZ
  simp only [Bool.and_eq_true, decide_eq_true_eq] at hcX2
  refine oE0_2 hcX2 fun zq8 c8 => ?_; clear hcX2; refine oE0_2 zq8 fun zq9 c7 => ?_; clear zq8; refine oE0_2 zq9 fun zq10 c6 => ?_; clear zq9; refine oE0_2 zq10 fun zq11 c5 => ?_; clear zq10; refine oE0_2 zq11 fun zq12 c4 => ?_; clear zq11; refine oE0_2 zq12 fun zq13 c3 => ?_; clear zq12; refine oE0_2 zq13 fun zq14 c2 => ?_; clear zq13; refine oE0_2 zq14 fun rq15 c1 => ?_; clear zq14; subst rq15
  simp only [q_comp] at he
  split at he
  rotate_left
  · cases he
  rename_i ds h1
  split at he
  rotate_left
  · cases he
  rename_i hlen
  cases ho : compL (fun d => match bindT tgt d ρ with
        | some ρ' => (match trAnd Φ conds ρ' with
          | some true => (match ev Φ elt ρ' with
            | some y => (emb y).map some
            | none => none)
          | some false => some none
          | none => none)
        | none => none) ds with
  | none =>
    exfalso
    revert he
    erw [ho]
    intro he; cases he
  | some out =>
    have he' : r = (.lst out, false) := by
      revert he
      erw [ho]
      intro he; cases he; rfl
    subst he'
    have hscope := c3
    unfold compScope at hscope; rw [Bool.and_eq_true, Bool.and_eq_true, Bool.and_eq_true, decide_eq_true_eq, decide_eq_true_eq] at hscope
    refine oE0_2 hscope fun zq6 hnd => ?_; clear hscope; refine oE0_2 zq6 fun zq7 hkind => ?_; clear zq6; refine oE0_2 zq7 fun hk hlk => ?_; clear zq7
    have hfree : ∀ y ∈ sc'.names, y.2 = .free → ∃ c, env.cells.lookup y.1 = some c := fun y hy hf => by
      have := List.all_eq_true.mp hkind y hy
      rw [hf] at this
      simp only at this
      refine ok.cells y.1 ?_
      show env.scope.names.lookup y.1 = _ ∨ env.scope.names.lookup y.1 = _
      split at this
      · rename_i q; exact .inl q
      · rename_i q; exact .inr q
      · cases this
    refine oE1_3 (closureFor_sound hfree) fun cl hclo hcl1 hcl2 => ?_
    rw [eval_ListComp]
    refine wpAny_comprehension_free (use := none) rfl (folded_pure c2) hclo hk (fun y hy hl => ?_) ?_
    · have := List.all_eq_true.mp hlk y hy
      rw [of_decide_eq_true this, hl]
    · refine hit env iter ρ ds A E s P _ c1 ok hr kp up vars h1 fun s1 s2 I k1 k2 hI hI1 hI2 => ?_
      have kp1 := kp.trans (Keeps.keep k1)
      refine comp_core (h1 := s1.heap) (P := P) (C := C) (ρ := ρ) (RR := fun acc L r s' => compPost (model prog w) A E none Q acc L r s') (ct := trAnd Φ conds) (ce := ev Φ elt) nd ndot ok hr.handled hI hlen c3 c4 c5 (up.keep (Keeps.keep k1)) (Keeps.keep k2) hI1 hI2 hcl1 hcl2 (vars.keeps (Keeps.keep k1)) ?_ ?_ _ rfl ho ?_
      · intro cenv NN ρ' b s' E' R' okc hsc hct kk upp vv kb
        exact ifs_snd hcs (by rw [hsc]; exact c7) c8 okc hr (kp1.trans kk) upp vv hct kb
      · intro cenv NN ρ' y s' E' R' okc hsc hce kk upp vv kb
        exact he1 cenv x ρ' y A E' s' (PN P NN) R' (by rw [hsc]; exact c6) okc hr (kp1.trans kk) upp vv hce kb
      · intro D0 L h' tk ys m hD hL hne kk kw hn hl hrr
        refine ⟨m, hn, fun h'' sb => ?_⟩
        have hD1 : s1.heap.get? D0 = none := by
          cases z : s1.heap.get? D0 with
          | none => rfl
          | some o => rw [(Keeps.keep k2) _ _ z] at hD; cases hD
        have hL1 : s1.heap.get? L = none := by
          cases z : s1.heap.get? L with
          | none => rfl
          | some o => rw [(Keeps.keep k2) _ _ z] at hL; cases hL
        have kw2 : KeepW (· = L) h' h'' := keepW_of_same sb
        have kk2 : Keep s1.heap h'' := fun b o e => kw2 b o (fun z => by rw [z, hL1] at e; cases e) (kk b o e)
        have ks : Keeps s { s2 with heap := h'', toks := tk } := by
          cases k1 using keepsE; rename_i _ _ q1
          cases k2 using keepsE; rename_i _ _ q2
          exact ⟨h'', tk, rfl, fun b o e => kk2 b o (q1 b o e)⟩
        refine k _ _ ks ?_
        show Rp P C h'' _ _
        have kp3 : KeepP (PN P fun a => a = I ∨ a = D0 ∨ a = L) C h' h'' := keepP_of_W kw2 fun b z => ⟨fun q => q.2 (.inr (.inr z)), by rw [z]; exact notVal_ns hn⟩
        refine .lst (up.keep (Keeps.keep k1) _ hD1) ((hl.at fun o e => kw2 _ _ (fun z => hne z.symm) e).isList) ?_
        exact RpA.mono (fun _ _ _ p => p.1) (hrr.keepP kp3)
end
section
variable {prog : Program} {w : World} {h0 : Heap} {C : Addr} {N : Nat} {Φ : Fns} {tb : List Str}
theorem callWith_fn_kw {M : Model} {A : Around} {E : Value → Shared → Prop} {s : Shared} {pos : Pos} {a : Addr} {o : Obj} {fd : FuncData} {first : List Value} {args : List (Bool × Sem Value)} {kws : List (Option Str × Sem Value)} {Q : Value → Shared → Prop} (hs : (args.any (·.1) || kws.any (·.1.isNone)) = false)
    (h : wpAny M A (evalArgs (.ref a) true args kws) (fun x s₁ => (s₁.heap.get? a = some o ∧ o.data = .func fd) ∧ wpAny M A (call (.ref a) (first ++ x.pos) x.kw) Q E s₁) E s) :
    wpAny M A (callWith pos (.ref a) first args kws) Q E s := by
  unfold callWith
  refine wpAny_bind (wpAny_holding (wpAny_mono h (fun x s₁ h₁ => wpAny_bind (wpAny_standAt ?_)) fun _ _ x => x))
  have tail : ∀ {t : Sem Value}, wpAny M A t Q E s₁ → wpAny M A (t >>= fun r => holding [r] point >>= fun _ => pure r) Q E s₁ :=
    fun ht => wpAny_bind (wpAny_mono ht (fun r s₂ hr => wpAny_bind (wpAny_holding (wpAny_point (wpAny_pure hr)))) fun _ _ x => x)
  simp only [hs]
  refine wpAny_bind (m := keeperOf (.ref a)) ?_
  unfold keeperOf
  refine wpAny_bind (wpAny_load h₁.1.1 ?_)
  rw [h₁.1.2]
  refine wpAny_pure ?_
  dsimp only
  split <;> first
      | exact tail h₁.2
      | exact tail (by unfold callMarked; exact Calls.wpAny_keep h₁.2)
theorem isVarE_is {tb : List Str} {sc : Scope} {i : Nat} {e : Expr} (h : isVarE tb sc i e = true) : ∃ x p, e = .Name x p ∧ tb[i]? = some x ∧ isVar sc x = true ∧ okName x = true := by
  refine oE2_3 (isVarE_n h) fun x p e1 h1 h2 => ?_
  exact ⟨x, p, e1, h1.1, h1.2, h2⟩
theorem isVarE_at {tb : List Str} {sc : Scope} {i : Nat} {e : Expr} {nm : Str} (h : isVarE tb sc i e = true) (q : tb[i]? = some nm) : ∃ p, e = .Name nm p ∧ isVar sc nm = true ∧ okName nm = true := by
  refine oE2_3 (isVarE_n h) fun x p eZ zq4 h3 => ?_; refine oE0_2 zq4 fun h1 h2 => ?_; clear zq4
  rw [h1] at q
  cases q
  exact ⟨p, eZ, h2, h3⟩
theorem plainS_len {x : Str} (h : plainS x = true) : x.length ≤ 64 := by
  simp only [plainS, Bool.and_eq_true, decide_eq_true_eq] at h; exact h.2
theorem lowS_txt {x : Str} (h : plainS x = true) : Txt.lower x = lowS x := by
  simp only [plainS, Bool.and_eq_true, decide_eq_true_eq] at h
  have hall : ∀ c ∈ x.cps.toList, letter c = true := fun c hc => by
    have := h.1
    rw [← Array.all_toList] at this
    exact List.all_eq_true.mp this c hc
  rw [lower_ascii (fun c hc => by
    have := hall c hc
    simp only [letter, Bool.or_eq_true, Bool.and_eq_true, decide_eq_true_eq] at this
    exact om_41 this)]
  unfold lowS
  have e : lo1 = lowL := by
    funext c
    unfold lo1 lowL
    simp only [Bool.and_eq_true, decide_eq_true_eq]
  rw [e]
set_option tactic.hygienic true in
set_option maxRecDepth 100000 in
theorem snd_low {c : CE} (hs : SndE prog w h0 C N Φ tb c) : SndE prog w h0 C N Φ tb (.low c) := by
  intro env e ρ r A E s P Q hc ok hr kp up vars he k
  refine oE5_2 (isMeth_ hc) fun y n apos xs pos eZ hcX1 => ?_; clear hc; subst eZ
  obtain ⟨eZ, hcX2⟩ := nul_ hcX1; clear hcX1; subst eZ
  simp only [Bool.and_eq_true, decide_eq_true_eq] at hcX2
  obtain ⟨⟨⟨q1, rfl⟩, q3⟩, hcX2⟩ := hcX2
  simp only [q_low] at he
  split at he
  rotate_left
  · cases he
  rename_i x t h1
  split at he
  rotate_left
  · cases he
  rename_i hp
  cases he
  have hbase : attributeBase y ("lower" : Str) env (eval y env) = eval y env := by
    cases y <;> first | rfl | (exact absurd q1 Bool.false_ne_true)
  rw [arm_eval_Call, hbase]
  refine wpAny_bind (hs env y ρ _ A E s P _ hcX2 ok hr kp up vars h1 fun v s1 k1 r1 => ?_)
  obtain ⟨tk, rfl⟩ := r1.str
  refine wpAny_bind (wpAny_standAt ?_)
  have hpos : methodCallPos true y env apos pos = pure pos := by unfold methodCallPos; simp [q3]
  unfold methodCall
  refine wpAny_bind (wpAny_holding (getMethod_builtin (T := "str") (id := "str.lower") (typeIs_str _ _ _) PySem.F.plainAttrs_str PySem.F.slot_str_lower PySem.F.type_str_lower (fun _ z => nomatch z) ?_))
  refine wpAny_bind (wpAny_of_eq hpos ?_)
  refine Calls.callWith_builtin rfl (PySem.evalArgs_none ?_)
  refine SCL.lower (by have := plainS_len hp; exact om_42 this) fun _ => ?_
  rw [lowS_txt hp]
  exact k _ _ (Keeps.trans' k1 (keeps_toks _ _)) (show Rp _ _ _ _ _ from .str _ _)
set_option tactic.hygienic true in
set_option maxRecDepth 100000 in
theorem snd_attr (H : Hyp prog w h0 C N Φ) (i : Nat) : SndE prog w h0 C N Φ tb (.attr i) := by
  intro env e ρ r A E s P Q hc ok hr kp up vars he k
  refine oE3_2 (isAttr_ hc) fun oe n ap eZ hcX1 => ?_; clear hc; subst eZ
  refine oE2_2 (isName_ hcX1) fun x px eZ hcX2 => ?_; clear hcX1; subst eZ
  obtain ⟨q', hcX3⟩ := and_ hcX2
  cases of_decide_eq_true q'
  refine oE2_4 (isVarE_is hcX3) fun x' p' q hx hv hok => ?_
  cases q
  simp only [q_attr] at he
  split at he
  rotate_left
  · cases he
  rename_i ds t hρ
  cases he
  refine oE1_2 vars fun g fm hh => ?_; clear vars
  refine oE1_2 (hh i x _ _ (fun z => z) hρ hx hv) fun v hgv rv => ?_
  refine oE4_4 rv.hdr fun y dx l vs rq4 pdx Hd ra => ?_; subst rq4
  have hres : ∀ s', Keeps s s' → RpT t P C s'.heap (.ref l) (.lst ds) := fun s' ks => by
    have kk := Keeps.keep ks
    cases t with
    | true => exact ⟨l, vs, rfl, Hd.list.at fun o e => kk _ _ e, ra.keeps kk⟩
    | false =>
      cases (show Rp P C s.heap _ _ from rv) with
      | hdr pd pl Hd' ra' =>
        rename_i dx' l' vs'
        have e1 := Hd.obj
        have e2 := Hd'.obj
        rw [e1] at e2
        have e3 : dx = dx' := by
          have := Option.some.inj e2
          simpa [instObj] using this
        subst e3
        refine oE2_3 Hd.dict fun es n1 d1 d2 _ => ?_
        refine oE2_3 Hd'.dict fun es' n2 d3 d4 _ => ?_
        rw [d1] at d3
        have e4 : es = es' := by
          have q := congrArg Obj.data (Option.some.inj d3)
          injection q with q1 q2
          simpa using congrArg Array.toList q1
        subst e4
        rw [d2] at d4
        cases d4
        exact .lst pl (Hd.list.isList.at fun o e => kk _ _ e) (ra.keeps kk)
  show wpAny _ A (eval (.Attribute (.Name x px) ("_headers" : Str) ap) env) _ _ _
  rw [arm_eval_Attribute]
  refine wpAny_bind (Name_var ok hok (fm.var ok hgv hv) ?_)
  refine wpAny_bind (wpAny_standAt (wpAny_bind (wpAny_holding (H.attr A E s y dx l vs _ kp Hd fun s' ks => ?_))))
  exact wpAny_bind (wpAny_letTemporaryGo (wpAny_pure (k _ s' ks (hres s' ks))))
set_option tactic.hygienic true in
set_option maxRecDepth 100000 in
theorem snd_conv (H : Hyp prog w h0 C N Φ) (i : Nat) {c : CE} (hs : SndE prog w h0 C N Φ tb c) (b : Bool) : SndE prog w h0 C N Φ tb (.conv i c b) := by
  intro env e ρ r A E s P Q hc ok hr kp up vars he k
  refine oE4_2 (isCall_ hc) fun g0 xs kw pos eZ hcX1 => ?_; clear hc; subst eZ
  refine oE3_2 (isAttr_ hcX1) fun oe n apos eZ hcX2 => ?_; clear hcX1; subst eZ
  refine oE2_2 (isName_ hcX2) fun x px eZ hcX3 => ?_; clear hcX2; subst eZ
  refine oE1_2 (one_ hcX3) fun z eZ hcX4 => ?_; clear hcX3; subst eZ
  obtain ⟨⟨kn, kv, kp2⟩, eZ, hcX5⟩ := one_ hcX4; clear hcX4; subst eZ
  refine oE3_2 (isConst_ hcX5) fun cc kc kp1 e9 hcX6 => ?_
  dsimp only at e9
  subst e9
  simp only [Bool.and_eq_true, decide_eq_true_eq] at hcX6
  obtain ⟨⟨⟨⟨⟨rfl, rfl⟩, q3⟩, rfl⟩, q5⟩, hcX6⟩ := hcX6
  refine oE2_4 (isVarE_is hcX6.1) fun x' p' q hx hv hok => ?_
  cases q
  simp only [q_conv] at he
  split at he
  rotate_left
  · cases he
  rename_i ds t y tt hρ h1
  split at he
  rotate_left
  · cases he
  rename_i hp
  cases he
  refine oE1_2 (id vars) fun g fm hh => ?_
  refine oE1_2 (hh i x _ _ (fun z => z) hρ hx hv) fun v hgv rv => ?_
  refine oE4_4 rv.hdr fun i0 dx l vs rq2 pdx Hd ra => ?_; subst rq2
  refine oE3_4 H.conv fun f o fd hfo hdat hget hcall => ?_
  have hst : ([z] : List Expr).all notStar = true := by rw [List.all_cons, q5]; rfl
  rw [arm_eval_Call, show attributeBase (.Name x px) ("_convert_string_type" : Str) env (eval (.Name x px) env) = eval (.Name x px) env from rfl]
  refine wpAny_bind (Name_var ok hok (fm.var ok hgv hv) (wpAny_bind (wpAny_standAt ?_)))
  have hpos : methodCallPos true (.Name x px) env apos pos = pure pos := by unfold methodCallPos; simp [q3]
  have hform : methodCallForm ([z].length + [(⟨some ("name" : Str), .Constant (.bool b) kc kp1, kp2⟩ : Keyword)].length) (backTo pos (starEach [z] env)) (backToKw pos (keywordEach [⟨some ("name" : Str), .Constant (.bool b) kc kp1, kp2⟩] env)) = true := by
    rw [star_plain _ _ _ hst]; rfl
  unfold methodCall
  rw [hform]
  refine wpAny_bind (wpAny_holding (hget _ _ _ _ _ _ _ _ _ kp Hd ?_))
  refine wpAny_bind (wpAny_of_eq hpos ?_)
  refine callWith_fn_kw (o := o) (fd := fd) (by rw [any_false hst]; rfl) ?_
  rw [star_plain _ _ _ hst]
  refine PySem.evalArgs_kw rfl (Calls.spliced_cons (hs env z ρ _ A E s P _ hcX6.2 ok hr kp up vars h1 fun v s1 k1 r1 => Calls.spliced_nil ?_))
  refine kwAll_cons (wpAny_Constant_bool (kwAll_nil ?_))
  obtain ⟨tk, rfl⟩ := r1.str
  refine ⟨⟨(Keeps.keep k1) _ _ (kp _ _ hfo), hdat⟩, ?_⟩
  exact hcall A E s1 i0 y tk b Q hr (kp.trans (Keeps.keep k1)) hp fun s2 k2 => k _ s2 (Keeps.trans' k1 k2) (show Rp _ _ _ _ _ from .str _ _)
set_option tactic.hygienic true in
theorem snd_copy {c : CE} (hs : SndE prog w h0 C N Φ tb c) : SndE prog w h0 C N Φ tb (.copy c) := by
  intro env e ρ r A E s P Q hc ok hr kp up vars he k
  refine oE3_2 (isSub_ hc) fun v xe p2 eZ hcX1 => ?_; clear hc; subst eZ
  refine oE4_2 (isSlice_ hcX1) fun lo hi st p1 eZ hcX2 => ?_; clear hcX1; subst eZ
  obtain ⟨eZ, hcX3⟩ := non_ hcX2; clear hcX2; subst eZ
  obtain ⟨eZ, hcX4⟩ := non_ hcX3; clear hcX3; subst eZ
  obtain ⟨eZ, hcX5⟩ := non_ hcX4; clear hcX4; subst eZ
  simp only [q_copy] at he
  split at he
  rotate_left
  · cases he
  rename_i ds t h1
  split at he
  rotate_left
  · cases he
  rename_i hlen
  cases he
  rw [eval_Subscript]
  refine wpAny_bind (hs env v ρ _ A E s P _ hcX5 ok hr kp up vars h1 fun va s1 k1 ra => wpAny_bind (wpAny_holding (wpAny_Slice (wpAny_pure (wpAny_pure (wpAny_pure (wpAny_bind (wpAny_standAt ?_))))))))
  refine oE2_3 ra.list fun l vs rq1 hx rr => ?_; subst rq1
  have kk : Keep s1.heap (s1.heap.push { cls := .type "slice", data := .fields #[.none, .none, .none] }) := Keep.push _ _
  have hx2 := hx.push { cls := .type "slice", data := .fields #[.none, .none, .none] }
  refine wpAny_bind ?_
  rw [getitemInPython_of_ne (show ({ s1 with heap := s1.heap.push { cls := .type "slice", data := .fields #[.none, .none, .none] } } : Shared).TypeIs (.ref l) "list" from hx2.typeIs).not_modules]
  refine wpAny_bind (wpAny_specialOf (T := "list") hx2.typeIs slot_list_getitem.lookup ?_)
  have fin : wpAny (model prog w) A (operate [.ref s1.heap.objs.size, .ref l] (getItem (.ref l) (.ref s1.heap.objs.size))) (fun r s₃ => wpAny (model prog w) A (letTemporaryGo v (.ref l) r >>= fun _ => pure r) Q E s₃) E { s1 with heap := s1.heap.push { cls := .type "slice", data := .fields #[.none, .none, .none] } } := by
    refine wpAny_operating (wpAny_getItem_list_slice hx2 (Heap.IsSliceOf.new ..) .none .none .none (by simp) (wpAny_bind (wpAny_letTemporaryGo (wpAny_pure ?_))) ?_)
    · rw [slicePick_all]
      exact k _ _ (Keeps.trans' k1 (Keeps.trans' (keeps_push _ _) (keeps_push _ _))) (plain_new ((up.keep (Keeps.keep k1)).keep kk) (rr.keeps kk))
    · rw [List.size_toArray, rr.length]; exact Nat.le_trans hlen lineN_le
  first
    | exact wpAny_pure (wpAny_bind fin)
    | exact wpAny_bind (wpAny_pure (wpAny_bind fin))
    | exact wpAny_bind fin
end
section
variable {prog : Program} {w : World} {h0 : Heap} {C : Addr} {N : Nat} {Φ : Fns} {tb : List Str}
set_option tactic.hygienic true
mutual
theorem ev_snd (H : Hyp prog w h0 C N Φ) (nd : tb.Nodup) (ndot : (".0" : Str) ∉ tb) : ∀ c : CE, SndE prog w h0 C N Φ tb c
  | .var x => snd_var x
  | .cnone => snd_none
  | .cbool b => snd_bool b
  | .cint i => snd_int i
  | .cstr x => snd_str x
  | .bin _ a b => snd_bin (ev_snd H nd ndot a) (ev_snd H nd ndot b)
  | .cmp _ a b => snd_cmp (ev_snd H nd ndot a) (ev_snd H nd ndot b)
  | .neg a => snd_neg (ev_snd H nd ndot a)
  | .ite c a b => snd_ite (tr_snd H nd ndot c) (ev_snd H nd ndot a) (ev_snd H nd ndot b)
  | .idx a i => snd_idx (ev_snd H nd ndot a) (ev_snd H nd ndot i)
  | .take a _ => snd_take (ev_snd H nd ndot a)
  | .drop a _ => snd_drop (ev_snd H nd ndot a)
  | .dlst es => snd_dlst (evs_snd H nd ndot es).1
  | .dtup es => snd_dtup (evs_snd H nd ndot es).1
  | .comp elt _ it conds => snd_comp nd ndot (wk_snd H nd ndot it) (ev_snd H nd ndot elt) (trs_snd H nd ndot conds).2
  | .call _ es => snd_call H (evs_snd H nd ndot es).1
  | .prim _ es => snd_prim H (evs_snd H nd ndot es).1 (evs_snd H nd ndot es).2
  | .meth _ o es => snd_meth H (ev_snd H nd ndot o) (evs_snd H nd ndot es).1
  | .low e => snd_low (ev_snd H nd ndot e)
  | .attr i => snd_attr H i
  | .conv i e b => snd_conv H i (ev_snd H nd ndot e) b
  | .copy e => snd_copy (ev_snd H nd ndot e)
theorem tr_snd (H : Hyp prog w h0 C N Φ) (nd : tb.Nodup) (ndot : (".0" : Str) ∉ tb) : ∀ c : CT, SndT prog w h0 C N Φ tb c
  | .val e => sndt_val (ev_snd H nd ndot e)
  | .not t => sndt_not (tr_snd H nd ndot t)
  | .and ts => sndt_and (trs_snd H nd ndot ts).1
  | .or ts => sndt_or (trs_snd H nd ndot ts).1
  | .cmp _ a b => sndt_cmp (ev_snd H nd ndot a) (ev_snd H nd ndot b)
theorem wk_snd (H : Hyp prog w h0 C N Φ) (nd : tb.Nodup) (ndot : (".0" : Str) ∉ tb) : ∀ c : CI, SndI prog w h0 C N Φ tb c
  | .ce e => sndi_ce (ev_snd H nd ndot e)
  | .rng es => sndi_rng H (evs_snd H nd ndot es).1
theorem evs_snd (H : Hyp prog w h0 C N Φ) (nd : tb.Nodup) (ndot : (".0" : Str) ∉ tb) : ∀ cs : List CE, SndL prog w h0 C N Φ tb cs ∧ ∀ c ∈ cs, SndE prog w h0 C N Φ tb c
  | [] => ⟨sndl_nil, fun _ h => nomatch h⟩
  | c :: cs => ⟨sndl_cons (ev_snd H nd ndot c) (evs_snd H nd ndot cs).1, fun x h => by
      rcases List.mem_cons.mp h with q | q
      · rw [q]; exact ev_snd H nd ndot c
      · exact (evs_snd H nd ndot cs).2 x q⟩
theorem trs_snd (H : Hyp prog w h0 C N Φ) (nd : tb.Nodup) (ndot : (".0" : Str) ∉ tb) : ∀ cs : List CT, SndA prog w h0 C N Φ tb cs ∧ ∀ c ∈ cs, SndT prog w h0 C N Φ tb c
  | [] => ⟨snda_nil, fun _ h => nomatch h⟩
  | c :: cs => ⟨snda_cons (tr_snd H nd ndot c) (trs_snd H nd ndot cs).1, fun x h => by
      rcases List.mem_cons.mp h with q | q
      · rw [q]; exact tr_snd H nd ndot c
      · exact (trs_snd H nd ndot cs).2 x q⟩
end
set_option tactic.hygienic false
end
end Mine
end
section
open PySem PySem.W PyProof.Rows
set_option autoImplicit false
namespace Mine
noncomputable def DictHdr (h : Heap) (dx l : Addr) : Prop :=
  ∃ es k, h.get? dx = some (dictOf es k) ∧ getL (Str.ofString "_headers") es = some (some (.ref l)) ∧
    ∀ nm ∈ (["_convert_string_type", "add_header", "get_all", "get", "keys", "items", "setdefault", "__setitem__", "__delitem__", "__init__"] : List String), getL (Str.ofString nm) es = some none
noncomputable def HoldS (hc : Heap) (P : Addr → Prop) (C : Addr) (h : Heap) (adr : List Addr) (u : Option Value) : Slot → Prop
  | .val d => ∃ v, u = some v ∧ Rp P C h v d
  | .own k => ∃ a, adr[k]? = some a ∧ u = some (.ref a)
  | .hob k => ∃ a y dx, adr[k]? = some a ∧ u = some (.ref y) ∧ P dx ∧ h.get? y = some (instObj C dx) ∧ DictHdr h dx a
  | .nest ks => ∃ a as, P a ∧ u = some (.ref a) ∧ h.IsList a (as.map Value.ref).toArray ∧ ks.mapM (adr[·]?) = some as
  | .raw d a => u = some (.ref a) ∧ RpT true P C hc (.ref a) d
  | .fix a => u = some (.ref a)
noncomputable def Own (env : Env) (adr : List Addr) (b : Addr) : Prop := b = env.locals ∨ (∃ x, env.cells.lookup x = some b) ∨ b ∈ adr
structure SR (tb : List Str) (C : Addr) (P0 : Addr → Prop) (hc : Heap) (env : Env) (h : Heap) (st : St) (P : Addr → Prop) (adr : List Addr) (g : Str → Option Value) : Prop where
  fm : Fm env h g
  keep : Keep hc h
  up : Up P h
  sub : ∀ a, P a → P0 a
  nloc : ¬ P env.locals
  ncell : ∀ x c, env.cells.lookup x = some c → (env.kindOf x = some .cell ∨ env.kindOf x = some .free) ∧ ¬ P c
  new : ∀ a, Own env adr a → hc.get? a = none
  len : adr.length = st.σ.length
  nd : adr.Nodup
  notP : ∀ a ∈ adr, ¬ P a ∧ P0 a
  lists : ∀ (k : Nat) a ds, adr[k]? = some a → st.σ[k]? = some ds → ∃ vs, h.PlainList a vs.toArray ∧ RpA P C h vs ds
  vars : ∀ i x sl, st.ρ i = some sl → tb[i]? = some x → isVar env.scope x = true → HoldS hc P C h adr (g x) sl
structure Ev (env : Env) (h h2 : Heap) (P P2 : Addr → Prop) (adr adr2 : List Addr) : Prop where
  kw : KeepW (Own env adr) h h2
  live : ∀ a o, h.get? a = some o → ∃ o', h2.get? a = some o'
  pre : ∃ r, adr2 = adr ++ r ∧ ∀ a ∈ r, h.get? a = none
  sub : ∀ a, P2 a → P a
  sup : ∀ a o, h.get? a = some o → P a → P2 a
theorem Ev.refl (env : Env) (h : Heap) (P : Addr → Prop) (adr : List Addr) : Ev env h h P P adr adr := ⟨KeepW.refl _ _, fun _ o e => ⟨o, e⟩, ⟨[], by simp, by simp⟩, fun _ x => x, fun _ _ _ x => x⟩
theorem Ev.trans {env : Env} {h h2 h3 : Heap} {P P2 P3 : Addr → Prop} {adr adr2 adr3 : List Addr} (x : Ev env h h2 P P2 adr adr2) (y : Ev env h2 h3 P2 P3 adr2 adr3) : Ev env h h3 P P3 adr adr3 := by
  refine oE1_2 x.pre fun r hr hr0 => ?_
  refine oE1_2 y.pre fun r2 hr2 hr20 => ?_
  refine ⟨fun b o n e => ?_, fun a o e => ?_, ⟨r ++ r2, by rw [hr2, hr, List.append_assoc], fun a ha => ?_⟩, fun a p => x.sub a (y.sub a p), fun a o e p => ?_⟩
  · refine y.kw b o (fun z => ?_) (x.kw b o n e)
    rcases z with z | z | z
    · exact n (.inl z)
    · exact n (.inr (.inl z))
    · rw [hr] at z
      rcases List.mem_append.mp z with z | z
      · exact n (.inr (.inr z))
      · rw [hr0 b z] at e; cases e
  · obtain ⟨o', e'⟩ := x.live a o e
    exact y.live a o' e'
  · rcases List.mem_append.mp ha with z | z
    · exact hr0 a z
    · cases q : h.get? a with
      | none => rfl
      | some o =>
        obtain ⟨o', e'⟩ := x.live a o q
        rw [hr20 a z] at e'; cases e'
  · obtain ⟨o', e'⟩ := x.live a o e
    exact y.sup a o' e' (x.sup a o e p)
theorem Ev.keep {env : Env} {h h2 : Heap} (k : Keep h h2) (P : Addr → Prop) (adr : List Addr) : Ev env h h2 P P adr adr := ⟨k.W _, fun a o e => ⟨o, k a o e⟩, ⟨[], by simp, by simp⟩, fun _ x => x, fun _ _ _ x => x⟩
theorem DictHdr.at {h h' : Heap} {dx l : Addr} (x : DictHdr h dx l) (k : ∀ o, h.get? dx = some o → h'.get? dx = some o) : DictHdr h' dx l := let ⟨es, m, e, r⟩ := x; ⟨es, m, k _ e, r⟩
theorem mapM_mono {α β : Type} {f f' : α → Option β} (k : ∀ x y, f x = some y → f' x = some y) : ∀ {l : List α} {r : List β}, l.mapM f = some r → l.mapM f' = some r
  | [], r, h => by cases h; rfl
  | x :: l, r, h => by
    rw [List.mapM_cons] at h ⊢
    cases q : f x with
    | none => rw [q] at h; cases h
    | some y =>
      rw [q] at h
      rw [k x y q]
      cases q' : l.mapM f with
      | none => rw [q'] at h; cases h
      | some ys => rw [q'] at h; rw [mapM_mono k q']; exact h
theorem HoldS.keepP {hc : Heap} {P P' : Addr → Prop} {C : Addr} {h h' : Heap} {adr adr' : List Addr} {u : Option Value} {sl : Slot} (x : HoldS hc P C h adr u sl) (kc : Keep hc h) (k : KeepP P C h h') (q : ∀ a, P' a → P a) (s : ∀ a o, h.get? a = some o → P a → P' a) (p : ∀ (i : Nat) a, adr[i]? = some a → adr'[i]? = some a) : HoldS hc P' C h' adr' u sl := by
  cases sl with
  | val d => refine oE1_2 x fun v e r => ?_; clear x; exact ⟨v, e, (r.mono s).keepP (fun b o e z => k b o e (z.imp_left (q b)))⟩
  | own i => refine oE1_2 x fun a e r => ?_; clear x; exact ⟨a, p _ _ e, r⟩
  | hob i =>
    refine oE3_5 x fun a y dx e r pd ho hd => ?_; clear x
    refine oE2_2 (id hd) fun es m e1 _ => ?_
    exact ⟨a, y, dx, p _ _ e, r, s _ _ e1 pd, k _ _ ho (.inr (.inr ⟨dx, rfl⟩)), hd.at fun o e => k _ _ e (.inl pd)⟩
  | nest ks =>
    refine oE2_4 x fun a as pa e hl hm => ?_; clear x
    refine oE1_2 (id hl) fun o ho _ => ?_
    exact ⟨a, as, s _ _ ho pa, e, isList_keepP k hl pa, mapM_mono (fun x y z => p x y z) hm⟩
  | raw d a => obtain ⟨e, r⟩ := x; exact ⟨e, r.mono fun a o e p => s a o (kc a o e) p⟩
  | fix a => exact x
section
variable {tb : List Str} {C : Addr} {P0 : Addr → Prop} {hc : Heap} {env : Env} {h h' : Heap} {st : St} {P : Addr → Prop} {adr : List Addr} {g : Str → Option Value}
theorem SR.notOwn (S : SR tb C P0 hc env h st P adr g) {b : Addr} (p : P b) : ¬ Own env adr b := by
  rintro (z | ⟨x, z⟩ | z)
  · exact S.nloc (z ▸ p)
  · exact (S.ncell x b z).2 p
  · exact (S.notP b z).1 p
theorem SR.list_at (S : SR tb C P0 hc env h st P adr g) {b : Addr} (z : b ∈ adr) : ∃ its, h.PlainList b its := by
  obtain ⟨k, hk, e⟩ := List.mem_iff_getElem.mp z
  have e1 : adr[k]? = some b := by rw [List.getElem?_eq_getElem hk, e]
  have hk2 : k < st.σ.length := by rw [← S.len]; exact hk
  refine oE1_2 (S.lists k b _ e1 (List.getElem?_eq_getElem hk2)) fun vs hp _ => ?_
  exact ⟨_, hp⟩
theorem SR.notVal (S : SR tb C P0 hc env h st P adr g) {b : Addr} (z : Own env adr b) : NotVal C h b := by
  rcases z with z | ⟨x, z⟩ | z
  · refine oE1_2 S.fm.ns fun m n _ => ?_; rw [z]; exact notVal_ns n
  · exact notVal_cell (S.fm.cell x b z (S.ncell x b z).1)
  · obtain ⟨its, e⟩ := S.list_at z; exact notVal_list e.isList
theorem SR.live (S : SR tb C P0 hc env h st P adr g) {b : Addr} (z : Own env adr b) : ∃ o, h.get? b = some o := by
  rcases z with z | ⟨x, z⟩ | z
  · refine oE1_2 S.fm.ns fun m zq2 _ => ?_; refine oE3_2 zq2 fun o es ep e _ => ?_; clear zq2; exact ⟨o, z ▸ e⟩
  · refine oE1_2 (S.fm.cell x b z (S.ncell x b z).1) fun o e _ => ?_; exact ⟨o, e⟩
  · refine oE2_1 (S.list_at z) fun its n e => ?_; exact ⟨_, e⟩
theorem SR.kp (S : SR tb C P0 hc env h st P adr g) (k : KeepW (Own env adr) h h') : KeepP P C h h' := keepP_of_W k fun b z => ⟨fun p => S.notOwn p z, S.notVal z⟩
theorem SR.keepC (S : SR tb C P0 hc env h st P adr g) (k : KeepW (Own env adr) h h') : Keep hc h' := fun b o e => k b o (fun z => by rw [S.new b z] at e; cases e) (S.keep b o e)
theorem SR.view (S : SR tb C P0 hc env h st P adr g) : Vars tb P C h env st.view := by
  refine ⟨g, S.fm, fun i x d t _ e q z => ?_⟩
  unfold St.view at e
  cases hs : st.ρ i with
  | none => rw [hs] at e; cases e
  | some sl =>
    rw [hs] at e
    have H := S.vars i x sl hs q z
    cases sl with
    | val d' => cases e; exact H
    | own k =>
      simp only at e
      cases hk : st.σ[k]? with
      | none => rw [hk] at e; cases e
      | some ds =>
        rw [hk] at e; cases e
        refine oE1_2 H fun a ha hu => ?_; clear H
        refine oE1_2 (S.lists k a ds ha hk) fun vs hp hr => ?_
        exact ⟨_, hu, a, vs, rfl, hp, hr⟩
    | hob k =>
      simp only at e
      cases hk : st.σ[k]? with
      | none => rw [hk] at e; cases e
      | some ds =>
        rw [hk] at e; cases e
        refine oE3_5 H fun a y dx ha hu pd ho hd => ?_; clear H
        refine oE1_2 (S.lists k a ds ha hk) fun vs hp hr => ?_
        exact ⟨_, hu, y, dx, a, vs, rfl, pd, ⟨ho, hd, hp⟩, hr⟩
    | nest ks => cases e
    | raw d' a => cases e; obtain ⟨hu, r⟩ := H; exact ⟨_, hu, r.keeps S.keep⟩
    | fix a => cases e
theorem rpA_nest {σ : List (List D)} {ks : List Nat} (L : ∀ (k : Nat) a ds, adr[k]? = some a → σ[k]? = some ds → Rp P0 C h (.ref a) (.lst ds)) : ∀ {as : List Addr} {ds : List D}, ks.mapM (adr[·]?) = some as → ks.mapM (fun k => (σ[k]?).map D.lst) = some ds → RpA P0 C h (as.map Value.ref) ds := by
  induction ks with
  | nil => intro as ds h1 h2; cases h1; cases h2; exact .nil
  | cons k ks ih =>
    intro as ds h1 h2
    rw [List.mapM_cons] at h1 h2
    cases q : adr[k]? with
    | none => rw [q] at h1; cases h1
    | some a =>
      rw [q] at h1
      cases q1 : ks.mapM (adr[·]?) with
      | none => rw [q1] at h1; cases h1
      | some as' =>
        rw [q1] at h1; cases h1
        cases q2 : σ[k]? with
        | none => rw [q2] at h2; cases h2
        | some ds0 =>
          rw [q2] at h2
          cases q3 : ks.mapM (fun k => (σ[k]?).map D.lst) with
          | none => rw [q3] at h2; cases h2
          | some ds' =>
            rw [q3] at h2; cases h2
            exact .cons (L k a ds0 q q2) (ih q1 q3)
theorem SR.lastView (S : SR tb C P0 hc env h st P adr g) : Vars tb P0 C h env st.last := by
  have L : ∀ (k : Nat) a ds, adr[k]? = some a → st.σ[k]? = some ds → Rp P0 C h (.ref a) (.lst ds) := fun k a ds ha hk => by
    refine oE1_2 (S.lists k a ds ha hk) fun vs hp hr => ?_
    exact .lst (S.notP a (List.mem_of_getElem? ha)).2 hp.isList (hr.mono fun b _ _ p => S.sub b p)
  refine ⟨g, S.fm, fun i x d t _ e q z => ?_⟩
  unfold St.last at e
  cases hs : st.ρ i with
  | none => rw [hs] at e; cases e
  | some sl =>
    rw [hs] at e
    have H := S.vars i x sl hs q z
    cases sl with
    | val d' => cases e; refine oE1_2 H fun v hu r => ?_; clear H; exact ⟨v, hu, Rp.mono (fun b _ _ p => S.sub b p) r⟩
    | own k =>
      simp only at e
      cases hk : st.σ[k]? with
      | none => rw [hk] at e; cases e
      | some ds =>
        rw [hk] at e; cases e
        refine oE1_2 H fun a ha hu => ?_; clear H
        exact ⟨_, hu, L k a ds ha hk⟩
    | hob k =>
      simp only at e
      cases hk : st.σ[k]? with
      | none => rw [hk] at e; cases e
      | some ds =>
        rw [hk] at e; cases e
        refine oE3_5 H fun a y dx ha hu pd ho hd => ?_; clear H
        refine oE1_2 (S.lists k a ds ha hk) fun vs hp hr => ?_
        exact ⟨_, hu, show Rp P0 C h _ _ from .hdr (S.sub _ pd) (S.notP a (List.mem_of_getElem? ha)).2 ⟨ho, hd, hp⟩ (hr.mono fun b _ _ p => S.sub b p)⟩
    | nest ks =>
      simp only at e
      cases hk : ks.mapM (fun k => (st.σ[k]?).map D.lst) with
      | none => rw [hk] at e; cases e
      | some ds =>
        rw [hk] at e; cases e
        refine oE2_4 H fun a as pa hu hl hm => ?_; clear H
        exact ⟨_, hu, show Rp P0 C h _ _ from .lst (S.sub _ pa) hl (rpA_nest (σ := st.σ) L hm hk)⟩
    | raw d' a => cases e; obtain ⟨hu, r⟩ := H; exact ⟨_, hu, (r.keeps S.keep).mono fun b _ _ p => S.sub b p⟩
    | fix a => cases e
theorem SR.keeps (S : SR tb C P0 hc env h st P adr g) (k : Keep h h') : SR tb C P0 hc env h' st P adr g where
  fm := S.fm.keeps k
  keep := S.keep.trans k
  up := S.up.keep k
  sub := S.sub
  nloc := S.nloc
  ncell := S.ncell
  new := S.new
  len := S.len
  nd := S.nd
  notP := S.notP
  lists := fun i a ds ha hk => by
    refine oE1_2 (S.lists i a ds ha hk) fun vs hp hr => ?_
    exact ⟨vs, hp.at fun o e => k _ _ e, hr.keeps k⟩
  vars := fun i x sl e q z => (S.vars i x sl e q z).keepP S.keep k.toP (fun _ p => p) (fun _ _ _ p => p) (fun _ _ e => e)
theorem slot_own {x : Str} (ok : EnvOK env) (t : tgtName env.scope x = true) : slotOf env x = env.locals ∨ ∃ y, env.cells.lookup y = some (slotOf env x) := by
  rcases slot_one ok t with q | ⟨c, hc, q, _⟩
  · exact .inl q
  · exact .inr ⟨x, q.symm ▸ hc⟩
theorem slot_not_adr (S : SR tb C P0 hc env h st P adr g) {a : Addr} (z : a = env.locals ∨ ∃ y, env.cells.lookup y = some a) : a ∉ adr := fun q => by
  obtain ⟨its, e⟩ := S.list_at q
  rcases z with z | ⟨y, z⟩
  · refine oE1_2 S.fm.ns fun m n _ => ?_; rw [z] at e; exact list_not_ns e.isList n
  · exact list_not_cell e.isList (S.fm.cell y a z (S.ncell y a z).1)
theorem SR.names {st' : St} {g' : Str → Option Value} (S : SR tb C P0 hc env h st P adr g) (hσ : st'.σ = st.σ) (fm : Fm env h' g') (kw : KeepW (fun a => a = env.locals ∨ ∃ y, env.cells.lookup y = some a) h h')
    (vars : ∀ i x sl, st'.ρ i = some sl → tb[i]? = some x → isVar env.scope x = true → HoldS hc P C h' adr (g' x) sl) : SR tb C P0 hc env h' st' P adr g' ∧ Ev env h h' P P adr adr := by
  have kw' : KeepW (Own env adr) h h' := kw.mono fun a z => z.elim .inl fun z => .inr (.inl z)
  have kp := S.kp kw'
  have lv : ∀ a o, h.get? a = some o → ∃ o', h'.get? a = some o' := fun a o e => by
    by_cases z : a = env.locals ∨ ∃ y, env.cells.lookup y = some a
    · rcases z with z | ⟨y, z⟩
      · refine oE1_2 fm.ns fun m zq1 _ => ?_; refine oE3_2 zq1 fun o es ep e _ => ?_; clear zq1; exact ⟨o, z ▸ e⟩
      · refine oE1_2 (fm.cell y a z (S.ncell y a z).1) fun o e _ => ?_; exact ⟨o, e⟩
    · exact ⟨o, kw a o z e⟩
  refine ⟨⟨fm, S.keepC kw', fun a e => S.up a ?_, S.sub, S.nloc, S.ncell, S.new, by rw [hσ]; exact S.len, S.nd, S.notP, fun k a ds ha hk => ?_, vars⟩, kw', lv, ⟨[], by simp, by simp⟩, fun _ p => p, fun _ _ _ p => p⟩
  · cases q : h.get? a with
    | none => rfl
    | some o => obtain ⟨o', e'⟩ := lv a o q; rw [e] at e'; cases e'
  · rw [hσ] at hk
    refine oE1_2 (S.lists k a ds ha hk) fun vs hp hr => ?_
    exact ⟨vs, hp.at fun o e => kw _ _ (fun z => slot_not_adr S z (List.mem_of_getElem? ha)) e, hr.keepP kp⟩
theorem SR.put {i : Nat} {x : Str} {sl : Slot} {v : Value} (nd : tb.Nodup) (ok : EnvOK env) (S : SR tb C P0 hc env h st P adr g) (hx : tb[i]? = some x) (t : tgtName env.scope x = true)
    (fm : Fm env h' (fun y => if y = x then some v else g y)) (sb : Heap.SameBut (slotOf env x) h h') (hs : HoldS hc P C h adr (some v) sl) :
    SR tb C P0 hc env h' (st.set i sl) P adr (fun y => if y = x then some v else g y) ∧ Ev env h h' P P adr adr := by
  have kw : KeepW (fun a => a = env.locals ∨ ∃ y, env.cells.lookup y = some a) h h' := (keepW_of_same sb).mono fun a z => by rw [z]; exact slot_own ok t
  have kp : KeepP P C h h' := S.kp (kw.mono fun a z => z.elim .inl fun z => .inr (.inl z))
  refine S.names rfl fm kw fun j y sl' e q z => ?_
  by_cases hj : j = i
  · subst hj
    rw [hx] at q; cases q
    have e' : sl = sl' := by simpa [St.set] using e
    subst e'
    simp only [if_true]
    exact hs.keepP S.keep kp (fun _ p => p) (fun _ _ _ p => p) (fun _ _ e => e)
  · have e' : st.ρ j = some sl' := by simpa [St.set, hj] using e
    have hy : ¬ y = x := fun q' => hj (tb_inj nd q (q' ▸ hx))
    simp only [hy, if_false]
    exact (S.vars j y sl' e' q z).keepP S.keep kp (fun _ p => p) (fun _ _ _ p => p) (fun _ _ e => e)
end
end Mine
end
section
open PySem PySem.W PyProof.Rows
set_option autoImplicit false
namespace Mine
section
variable {tb : List Str} {C : Addr} {P0 : Addr → Prop} {hc : Heap} {env : Env} {h h' : Heap} {st : St} {P : Addr → Prop} {adr : List Addr} {g : Str → Option Value}
theorem SR.fresh (S : SR tb C P0 hc env h st P adr g) (k : Keep h h') (N : Addr → Prop) (n0 : ∀ a, N a → h.get? a = none) (n1 : ∀ a, N a → ∃ o, h'.get? a = some o) :
    SR tb C P0 hc env h' st (PN P N) adr g ∧ Ev env h h' P (PN P N) adr adr := by
  have sup : ∀ a o, h.get? a = some o → P a → PN P N a := fun a o e p => ⟨p, fun z => by rw [n0 a z] at e; cases e⟩
  refine ⟨⟨S.fm.keeps k, S.keep.trans k, (S.up.keep k).PN n1, fun a p => S.sub a p.1, fun p => S.nloc p.1, fun x c e => ⟨(S.ncell x c e).1, fun p => (S.ncell x c e).2 p.1⟩, S.new, S.len, S.nd, fun a z => ⟨fun p => (S.notP a z).1 p.1, (S.notP a z).2⟩, fun i a ds ha hk => ?_, fun i x sl e q z => ?_⟩,
    k.W _, fun a o e => ⟨o, k a o e⟩, ⟨[], by simp, by simp⟩, fun _ p => p.1, sup⟩
  · refine oE1_2 (S.lists i a ds ha hk) fun vs hp hr => ?_
    exact ⟨vs, hp.at fun o e => k _ _ e, (hr.mono sup).keeps k⟩
  · exact (S.vars i x sl e q z).keepP S.keep k.toP (fun _ p => p.1) sup (fun _ _ e => e)
theorem SR.upd (S : SR tb C P0 hc env h st P adr g) {k : Nat} {a : Addr} {vs : List Value} {ds : List D} (ha : adr[k]? = some a) (kw : KeepW (· = a) h h') (hp : h'.PlainList a vs.toArray) (r : RpA P C h' vs ds) :
    SR tb C P0 hc env h' { st with σ := st.σ.set k ds } P adr g ∧ Ev env h h' P P adr adr := by
  have hmem := List.mem_of_getElem? ha
  have kwO : KeepW (Own env adr) h h' := kw.mono fun b z => by rw [z]; exact .inr (.inr hmem)
  have kp := S.kp kwO
  have lv : ∀ b o, h.get? b = some o → ∃ o', h'.get? b = some o' := fun b o e => by
    by_cases z : b = a
    · obtain ⟨n, q⟩ := hp; exact ⟨_, by rw [z]; exact q⟩
    · exact ⟨o, kw b o z e⟩
  refine ⟨⟨?_, S.keepC kwO, fun b e => S.up b ?_, S.sub, S.nloc, S.ncell, S.new, by simp [S.len], S.nd, S.notP, fun i b es hb hk => ?_, fun i x sl e q z => ?_⟩, kwO, lv, ⟨[], by simp, by simp⟩, fun _ p => p, fun _ _ _ p => p⟩
  · refine S.fm.keepW kw (fun z => ?_) fun x c e z => ?_
    · exact slot_not_adr S (.inl rfl) (z ▸ hmem)
    · exact slot_not_adr S (.inr ⟨x, e⟩) (z ▸ hmem)
  · cases q : h.get? b with
    | none => rfl
    | some o => obtain ⟨o', e'⟩ := lv b o q; rw [e] at e'; cases e'
  · by_cases hi : i = k
    · subst hi
      rw [ha] at hb; cases hb
      have hlt : i < st.σ.length := by
        rw [← S.len]
        rcases Nat.lt_or_ge i adr.length with z | z
        · exact z
        · rw [List.getElem?_eq_none z] at ha; cases ha
      have hk' : (st.σ.set i ds)[i]? = some es := hk
      rw [List.getElem?_set_self hlt] at hk'
      cases hk'
      exact ⟨vs, hp, r⟩
    · have hk' : (st.σ.set k ds)[i]? = some es := hk
      rw [List.getElem?_set_ne (fun z => hi z.symm)] at hk'
      refine oE1_2 (S.lists i b es hb hk') fun ws hw rw' => ?_
      have hne : b ≠ a := fun z => by
        subst z
        obtain ⟨l1, e1⟩ := List.getElem?_eq_some_iff.mp hb
        obtain ⟨l2, e2⟩ := List.getElem?_eq_some_iff.mp ha
        exact hi ((List.getElem_inj S.nd).mp (e1.trans e2.symm))
      exact ⟨ws, hw.at fun o e => kw _ _ hne e, rw'.keepP kp⟩
  · exact (S.vars i x sl e q z).keepP S.keep kp (fun _ p => p) (fun _ _ _ p => p) (fun _ _ e => e)
theorem setT_fold : ∀ (is : List Nat) (ds : List D) (st : St), ((is.zip ds).foldl (fun r p => r.set p.1 (.val p.2)) st).σ = st.σ
  | [], _, _ => rfl
  | _ :: _, [], _ => rfl
  | i :: is, d :: ds, st => by
    rw [List.zip_cons_cons, List.foldl_cons, setT_fold is ds]; rfl
set_option tactic.hygienic true in
theorem holds_puts (nd : tb.Nodup) {sc : Scope} : ∀ (is : List Nat) (vs : List Value) (ds : List D) (st : St) (g : Str → Option Value), is.length = vs.length → RpA P C h vs ds →
    (∀ i x sl, i ∉ is → st.ρ i = some sl → tb[i]? = some x → isVar sc x = true → HoldS hc P C h adr (g x) sl) →
    ∀ i x sl, ((is.zip ds).foldl (fun r p => r.set p.1 (.val p.2)) st).ρ i = some sl → tb[i]? = some x → isVar sc x = true → HoldS hc P C h adr (putVs tb is vs g x) sl
  | [], [], ds, st, g, _, r, a => by
    cases r
    exact fun i x sl e q z => a i x sl (by simp) e q z
  | [], _ :: _, _, _, _, l, _, _ => by cases l
  | _ :: _, [], _, _, _, l, _, _ => by cases l
  | i :: is, v :: vs, ds, st, g, l, r, a => by
    cases r with
    | cons r1 r2 =>
      rename_i d ds
      rw [List.zip_cons_cons, List.foldl_cons]
      refine holds_puts nd is vs ds _ _ (by simpa using l) r2 fun j x sl nj e q z => ?_
      by_cases hj : j = i
      · subst hj
        have e' : sl = .val d := by have : some (Slot.val d) = some sl := by simpa [St.set] using e
                                    cases this; rfl
        subst e'
        exact ⟨v, by unfold putV; rw [if_pos q], r1⟩
      · have e' : st.ρ j = some sl := by simpa [St.set, hj] using e
        have := a j x sl (fun z => (List.mem_cons.mp z).elim hj nj) e' q z
        unfold putV
        rw [if_neg fun q' => hj (tb_inj nd q q')]
        exact this
theorem SR.puts {tgt : Tgt} {e : Expr} {st' : St} {vs : List Value} {ds : List D} (nd : tb.Nodup) (ok : EnvOK env) (S : SR tb C P0 hc env h st P adr g) (c : chkTgt tb env.scope tgt e = true)
    (fm : Fm env h' (putVs tb (tgtIs tgt) vs g)) (kw : KeepW (slotsT tb env tgt) h h') (hl : (tgtIs tgt).length = vs.length) (ra : RpA P C h vs ds)
    (hst : st' = ((tgtIs tgt).zip ds).foldl (fun r p => r.set p.1 (.val p.2)) st) :
    SR tb C P0 hc env h' st' P adr (putVs tb (tgtIs tgt) vs g) ∧ Ev env h h' P P adr adr := by
  subst hst
  have kw' : KeepW (fun a => a = env.locals ∨ ∃ y, env.cells.lookup y = some a) h h' := kw.mono fun a z => slot_is ok c z
  have kp : KeepP P C h h' := S.kp (kw'.mono fun a z => z.elim .inl fun z => .inr (.inl z))
  refine S.names (setT_fold _ _ _) fm kw' ?_
  refine holds_puts nd _ _ _ _ _ hl (ra.keepP kp) fun i x sl _ e q z => ?_
  exact (S.vars i x sl e q z).keepP S.keep kp (fun _ p => p) (fun _ _ _ p => p) (fun _ _ e => e)
end
section
variable {prog : Program} {w : World} {A : Around} {E : Value → Shared → Prop} {s : Shared}
set_option tactic.hygienic true in
theorem assignS_sound {tb : List Str} {tgt : Tgt} {env : Env} {e : Expr} {g : Str → Option Value} {v : Value} {d : D} {P : Addr → Prop} {C : Addr} {st st' : St} {Q : Unit → Shared → Prop}
    (ok : EnvOK env) (hh : A.handled = none) (c : chkTgt tb env.scope tgt e = true) (f : Fm env s.heap g) (r : Rp P C s.heap v d) (b : setT tgt d st = some st')
    (k : ∀ h' tk vs ds, Fm env h' (putVs tb (tgtIs tgt) vs g) → KeepW (slotsT tb env tgt) s.heap h' → (tgtIs tgt).length = vs.length → RpA P C s.heap vs ds → st' = ((tgtIs tgt).zip ds).foldl (fun r p => r.set p.1 (.val p.2)) st → Q () { s with heap := h', toks := tk }) :
    wpAny (model prog w) A (assign e env v) Q E s := by
  have hb : ∃ ds, partsT tgt d = some ds ∧ st' = ((tgtIs tgt).zip ds).foldl (fun r p => r.set p.1 (.val p.2)) st := by
    cases tgt with
    | one i => cases b; exact ⟨[d], rfl, rfl⟩
    | many is =>
      refine oE1_2 (tupD_ (show tupD _ d = _ from b)) fun ds eD h => ?_; subst eD
      split at h
      · rename_i q; cases h; exact ⟨ds, if_pos q, rfl⟩
      · cases h
  refine oE1_2 hb fun ds h1 h2 => ?_; clear hb
  exact assign_parts ok hh c f r h1 fun h' tk vs a b c d => k h' tk vs ds a b c d h2
end
end Mine
end
section
open PySem PySem.W PyProof.Rows
set_option autoImplicit false
namespace Mine
noncomputable def notComp (e : Expr) : Bool := !(e.ctorIdx == 8) && (!(e.ctorIdx == 9) && !(e.ctorIdx == 10))
noncomputable def isComp (c : CE) : Bool := c.ctorIdx == 14
noncomputable def dlsts (e : CE) (f : List CE → Bool) : Bool := if h : e.ctorIdx = 12 then CE.dlst.elim (motive_1 := fun _ => Bool) e h fun cs => f cs else false
theorem dlsts_ {e : CE} {f : List CE → Bool} (h : dlsts e f = true) : ∃ cs, e = .dlst cs ∧ f cs = true := by
  by_cases hc : e.ctorIdx = 12
  · exact CE.dlst.elim (motive_1 := fun e => dlsts e f = true → ∃ cs, e = .dlst cs ∧ f cs = true) e hc (fun cs h => ⟨cs, rfl, h⟩) h
  · unfold dlsts at h; rw [dif_neg hc] at h; cases h
noncomputable def ownE (c : CE) : Bool := isComp c || dlsts c fun cs => nul cs true
noncomputable def notTupE (e : Expr) : Bool := !(e.ctorIdx == 25)
noncomputable def callShape (m : String) (e : Expr) (f : Expr → List Expr → Bool) : Bool := isMeth e fun o n a xs p => isName o fun _ _ => decide (n = Str.ofString m) && (a.endLine == p.line) && decide (xs.length ≤ 2) && f o xs
noncomputable def nameAt (tb : List Str) (sc : Scope) (x : Nat) (e : Expr) : Bool := isVarE tb sc x e
noncomputable def tgtAt (tb : List Str) (sc : Scope) (x : Nat) (e : Expr) : Bool := isName e fun y _ => decide (tb[x]? = some y) && tgtName sc y
noncomputable def hdrCall (tb : List Str) (sc : Scope) (m : String) (x : Nat) (n v : CE) (e : Expr) : Bool := callShape m e fun o as => two as fun a b => nameAt tb sc x o && chks tb [n, v] sc [a, b]
set_option tactic.hygienic true
mutual
noncomputable def chkS (tb : List Str) : CS → Scope → Stmt → Bool
  | .asg x e, sc, s => isAsgN s fun y p v => tgtAt tb sc x (.Name y p) && chk tb e sc v && (isComp e || notComp v)
  | .asgM xs e, sc, s => isAsg1 s fun t v => isTup t fun _ => chkTgt tb sc (.many xs) t && chk tb e sc v && notTupE v
  | .own x e, sc, s => isAsgN s fun y p v => tgtAt tb sc x (.Name y p) && ownE e && chk tb e sc v
  | .app x e, sc, s => isExprS s fun v => callShape "append" v fun o as => one as fun a => nameAt tb sc x o && chks tb [e] sc [a]
  | .ext x e, sc, s => isExprS s fun v => callShape "extend" v fun o as => one as fun l => isList l fun es => dlsts e fun cs => nameAt tb sc x o && chks tb cs sc es
  | .aug x e, sc, s => isAug s fun t o v => isName t fun _ _ => decide (o = .BitAnd) && tgtAt tb sc x t && nameAt tb sc x t && chk tb e sc v
  | .ite t a b, sc, s => isIf s fun test body orelse => chkT tb t sc test && chkSs tb a sc body && chkSs tb b sc orelse
  | .for_ tgt it body, sc, s => isFor s fun target iter bd o => nul o (chkTgt tb sc tgt target && chkI tb it sc iter && notSet iter && chkSs tb body sc bd)
  | .ret e, sc, s => isRet s fun v => som v fun v => chk tb e sc v
  | .newH x z, sc, s => isAsgN s fun y p v => call1 sc "Headers" v fun a => tgtAt tb sc x (.Name y p) && (match z with
    | none => isList a fun es => nul es true
    | some z => nameAt tb sc z a)
  | .addH x n v, sc, s => isExprS s fun e => hdrCall tb sc "add_header" x n v e
  | .delH x n, sc, s => isDel s fun ts => one ts fun t => isSub t fun o a => nameAt tb sc x o && chk tb n sc a && notSlice a
  | .ifAddH x n v _, sc, s => isIf s fun t _ o => isCmp1 t fun e op c => isConst c fun c => nul o (decide (op = .IsNot) && decide (c = .none) && hdrCall tb sc "add_header" x n v e)
noncomputable def chkSs (tb : List Str) : List CS → Scope → List Stmt → Bool
  | [], _, xs => nul xs true
  | c :: cs, sc, xs => cns xs fun x xs => chkS tb c sc x && chkSs tb cs sc xs
end
set_option tactic.hygienic false
theorem k_sscons {tb c cs sc xs} : chkSs tb (c :: cs) sc xs = cns xs fun x xs => chkS tb c sc x && chkSs tb cs sc xs := rfl
theorem nameAt_is {tb : List Str} {sc : Scope} {x : Nat} {e : Expr} (h : nameAt tb sc x e = true) : ∃ y p, e = .Name y p ∧ tb[x]? = some y ∧ isVar sc y = true ∧ okName y = true := by
  refine oE2_3 (isVarE_n h) fun x p e1 h1 h2 => ?_
  exact ⟨x, p, e1, h1.1, h1.2, h2⟩
theorem tgtAt_is {tb : List Str} {sc : Scope} {x : Nat} {y : Str} {p : Pos} (h : tgtAt tb sc x (.Name y p) = true) : tb[x]? = some y ∧ tgtName sc y = true := by
  obtain ⟨h1, h2⟩ := and_ (show (decide (tb[x]? = some y) && tgtName sc y) = true from h)
  exact ⟨of_decide_eq_true h1, h2⟩
theorem callShape_ {m : String} {e : Expr} {f : Expr → List Expr → Bool} (h : callShape m e f = true) : ∃ x px apos as pos, e = .Call (.Attribute (.Name x px) (Str.ofString m) apos) as [] pos ∧ (apos.endLine == pos.line) = true ∧ as.length ≤ 2 ∧ f (.Name x px) as = true := by
  refine oE5_2 (isMeth_ h) fun o n apos as pos eZ h1 => ?_; clear h; subst eZ
  refine oE2_2 (isName_ h1) fun x px eZ h2 => ?_; clear h1; subst eZ
  simp only [Bool.and_eq_true, decide_eq_true_eq] at h2
  refine oE0_2 h2 fun zq12 q4 => ?_; clear h2; refine oE0_2 zq12 fun zq13 q3 => ?_; clear zq12; refine oE0_2 zq13 fun rq14 q2 => ?_; clear zq13; subst rq14
  exact ⟨_, _, _, _, _, rfl, q2, q3, q4⟩
theorem hdrCall_ {tb : List Str} {sc : Scope} {m : String} {x : Nat} {n v : CE} {e : Expr} (h : hdrCall tb sc m x n v e = true) : ∃ y py apos a b pos, e = .Call (.Attribute (.Name y py) (Str.ofString m) apos) [a, b] [] pos ∧ (apos.endLine == pos.line) = true ∧ nameAt tb sc x (.Name y py) = true ∧ chks tb [n, v] sc [a, b] = true := by
  refine oE5_4 (callShape_ h) fun y py apos as pos rq11 h1 _ h2 => ?_; subst rq11
  refine oE2_2 (two_ h2) fun a b eZ h3 => ?_; clear h2; subst eZ
  exact ⟨y, py, apos, a, b, pos, rfl, h1, (and_ h3).1, (and_ h3).2⟩
theorem swaps_of (v : Expr) (y : Str) (p : Pos) (l : Nat) (env : Env) : ∃ b, swapsWith v (some (.Name y p)) l env = pure b := by
  cases v <;> exact ⟨_, rfl⟩
theorem swaps_not {v : Expr} (h : notComp v = true) (t : Option Expr) (l : Nat) (env : Env) : swapsWith v t l env = pure false := by
  cases v <;> first | rfl | (exact absurd h Bool.false_ne_true)
section
variable {prog : Program} {w : World} {h0 : Heap} {C : Addr} {N : Nat} {Φ : Fns} {tb : List Str}
set_option tactic.hygienic true in
theorem comp_gen (H : Hyp prog w h0 C N Φ) (nd : tb.Nodup) (ndot : (".0" : Str) ∉ tb) {elt : CE} {tgt : Tgt} {it : CI} {conds : List CT} {env : Env} {v : Expr} {ρ : Env'} {out : List D} {A : Around} {E : Value → Shared → Prop} {s : Shared} {P : Addr → Prop}
    (hc : chk tb (.comp elt tgt it conds) env.scope v = true) (ok : EnvOK env) (hr : Rm N A) (kp : Keep h0 s.heap) (up : Up P s.heap) (vars : Vars tb P C s.heap env ρ) (he : ev Φ (.comp elt tgt it conds) ρ = some (.lst out, false)) :
    ∃ x gens sc' pos, v = .ListComp x gens sc' pos ∧ firstAsync gens = false ∧ ∀ (use : Option (Value → Sem Unit)) (Q : Value → Shared → Prop) (pos' : Pos),
      (∀ D0 L s' m ys, Keeps s s' → s.heap.get? D0 = none → s.heap.get? L = none → L ≠ D0 → s'.heap.Ns L m → s'.heap.PlainList D0 (List.toArray ys) → RpA (PN P fun a => a = D0 ∨ a = L) C s'.heap ys out → compPost (model prog w) A E use Q (.ref D0) L (.ok .next) s') →
      wpAny (model prog w) A (comprehension (.ListComp x gens sc' pos) sc' env pos' (newList []) false (firstIter gens env) use) Q E s := by
  refine oE4_2 (isLComp_ hc) fun x gs sc' pos eZ hcX1 => ?_; clear hc; subst eZ
  obtain ⟨⟨target, iter, ifs, a⟩, eZ, hcX2⟩ := one_ hcX1; clear hcX1; subst eZ
  simp only [Bool.and_eq_true, decide_eq_true_eq] at hcX2
  refine oE0_2 hcX2 fun zq3 c8 => ?_; clear hcX2; refine oE0_2 zq3 fun zq4 c7 => ?_; clear zq3; refine oE0_2 zq4 fun zq5 c6 => ?_; clear zq4; refine oE0_2 zq5 fun zq6 c5 => ?_; clear zq5; refine oE0_2 zq6 fun zq7 c4 => ?_; clear zq6; refine oE0_2 zq7 fun zq8 c3 => ?_; clear zq7; refine oE0_2 zq8 fun zq9 c2 => ?_; clear zq8; refine oE0_2 zq9 fun rq10 c1 => ?_; clear zq9; subst rq10
  simp only [q_comp] at he
  split at he
  rotate_left
  · cases he
  rename_i ds h1
  split at he
  rotate_left
  · cases he
  rename_i hlen
  refine ⟨_, _, _, _, rfl, rfl, fun use Q pos' k => ?_⟩
  cases ho : compL (fun d => match bindT tgt d ρ with
        | some ρ' => (match trAnd Φ conds ρ' with
          | some true => (match ev Φ elt ρ' with
            | some y => (emb y).map some
            | none => none)
          | some false => some none
          | none => none)
        | none => none) ds with
  | none =>
    exfalso
    revert he
    erw [ho]
    intro he; cases he
  | some out' =>
    have he' : out' = out := by
      revert he
      erw [ho]
      intro he; cases he; rfl
    subst he'
    have hscope := c3
    unfold compScope at hscope; rw [Bool.and_eq_true, Bool.and_eq_true, Bool.and_eq_true, decide_eq_true_eq, decide_eq_true_eq] at hscope
    refine oE0_2 hscope fun zq1 hnd => ?_; clear hscope; refine oE0_2 zq1 fun zq2 hkind => ?_; clear zq1; refine oE0_2 zq2 fun hk hlk => ?_; clear zq2
    have hfree : ∀ y ∈ sc'.names, y.2 = .free → ∃ c, env.cells.lookup y.1 = some c := fun y hy hf => by
      have := List.all_eq_true.mp hkind y hy
      rw [hf] at this
      simp only at this
      refine ok.cells y.1 ?_
      show env.scope.names.lookup y.1 = _ ∨ env.scope.names.lookup y.1 = _
      split at this
      · rename_i q; exact .inl q
      · rename_i q; exact .inr q
      · cases this
    refine oE1_3 (closureFor_sound hfree) fun cl hclo hcl1 hcl2 => ?_
    refine wpAny_comprehension_free (use := use) rfl (folded_pure c2) hclo hk (fun y hy hl => ?_) ?_
    · have := List.all_eq_true.mp hlk y hy
      rw [of_decide_eq_true this, hl]
    · refine wk_snd H nd ndot it env iter ρ ds A E s P _ c1 ok hr kp up vars h1 fun s1 s2 I k1 k2 hI hI1 hI2 => ?_
      have kp1 := kp.trans (Keeps.keep k1)
      refine comp_core (h1 := s1.heap) (P := P) (C := C) (ρ := ρ) (RR := fun acc L r s' => compPost (model prog w) A E use Q acc L r s') (ct := trAnd Φ conds) (ce := ev Φ elt) nd ndot ok hr.handled hI hlen c3 c4 c5 (up.keep (Keeps.keep k1)) (Keeps.keep k2) hI1 hI2 hcl1 hcl2 (vars.keeps (Keeps.keep k1)) ?_ ?_ _ rfl ho ?_
      · intro cenv NN ρ' b s' E' R' okc hsc hct kk upp vv kb
        exact ifs_snd (trs_snd H nd ndot conds).2 (by rw [hsc]; exact c7) c8 okc hr (kp1.trans kk) upp vv hct kb
      · intro cenv NN ρ' y s' E' R' okc hsc hce kk upp vv kb
        exact ev_snd H nd ndot elt cenv x ρ' y A E' s' (PN P NN) R' (by rw [hsc]; exact c6) okc hr (kp1.trans kk) upp vv hce kb
      · intro D0 L h' tk ys m hD hL hne kk kw hn hl hrr
        have none0 : ∀ a, s2.heap.get? a = none → s.heap.get? a = none := fun a q => by
          cases z : s.heap.get? a with
          | none => rfl
          | some o => rw [(Keeps.keep k2) _ _ ((Keeps.keep k1) _ _ z)] at q; cases q
        have ks : Keeps s { s2 with heap := h', toks := tk } := by
          cases k1 using keepsE; rename_i _ _ q1
          cases k2 using keepsE; rename_i _ _ q2
          exact ⟨h', tk, rfl, fun b o e => kk b o (q1 b o e)⟩
        exact k D0 L _ m ys ks (none0 _ hD) (none0 _ hL) hne hn hl (RpA.mono (fun a _ _ p => ⟨p.1, fun z => p.2 (.inr z)⟩) hrr)
end
end Mine
end
section
open PySem PySem.W PyProof.Rows
set_option autoImplicit false
namespace Mine
noncomputable def PostS (tb : List Str) (C : Addr) (P0 : Addr → Prop) (hc : Heap) (env : Env) (P : Addr → Prop) (adr : List Addr) (s : Shared) (Q : Flow → Shared → Prop) (st' : St) : Fl → Prop
  | .next => ∀ h' tk P' adr' g', SR tb C P0 hc env h' st' P' adr' g' → Ev env s.heap h' P P' adr adr' → Q .next { s with heap := h', toks := tk }
  | .ret d => ∀ h' tk v, Keep hc h' → Rp P0 C h' v d → Q (.ret v) { s with heap := h', toks := tk }
noncomputable def SndS (prog : Program) (w : World) (h0 : Heap) (C : Addr) (N : Nat) (Φ : Fns) (tb : List Str) (c : CS) : Prop :=
  ∀ (hc : Heap) (P0 : Addr → Prop) (env : Env) (stmt : Stmt) (st st' : St) (fl : Fl) (A : Around) (E : Value → Shared → Prop) (s : Shared) (P : Addr → Prop) (adr : List Addr) (g : Str → Option Value) (Q : Flow → Shared → Prop),
    chkS tb c env.scope stmt = true → EnvOK env → Rm N A → Keep h0 hc → SR tb C P0 hc env s.heap st P adr g → cx Φ c st = some (st', fl) → PostS tb C P0 hc env P adr s Q st' fl → wpAny (model prog w) A (exec stmt env) Q E s
noncomputable def SndSs (prog : Program) (w : World) (h0 : Heap) (C : Addr) (N : Nat) (Φ : Fns) (tb : List Str) (cs : List CS) : Prop :=
  ∀ (hc : Heap) (P0 : Addr → Prop) (env : Env) (stmts : List Stmt) (st st' : St) (fl : Fl) (A : Around) (E : Value → Shared → Prop) (s : Shared) (P : Addr → Prop) (adr : List Addr) (g : Str → Option Value) (Q : Flow → Shared → Prop),
    chkSs tb cs env.scope stmts = true → EnvOK env → Rm N A → Keep h0 hc → SR tb C P0 hc env s.heap st P adr g → cxs Φ cs st = some (st', fl) → PostS tb C P0 hc env P adr s Q st' fl → wpAny (model prog w) A (execs stmts env) Q E s
set_option tactic.hygienic true in
theorem PostS.after {tb : List Str} {C : Addr} {P0 : Addr → Prop} {hc : Heap} {env : Env} {P P1 : Addr → Prop} {adr adr1 : List Addr} {s : Shared} {Q : Flow → Shared → Prop} {st' : St} {fl : Fl} {h1 : Heap} {tk1 : Nat}
    (k : PostS tb C P0 hc env P adr s Q st' fl) (V : Ev env s.heap h1 P P1 adr adr1) : PostS tb C P0 hc env P1 adr1 { s with heap := h1, toks := tk1 } Q st' fl := by
  cases fl with
  | next => exact fun h' tk P' adr' g' S' V' => k h' tk P' adr' g' S' (V.trans V')
  | ret d => exact fun h' tk v kk r => k h' tk v kk r
section
variable {tb : List Str} {C : Addr} {P0 : Addr → Prop} {hc : Heap} {env : Env} {h h' : Heap} {st : St} {P : Addr → Prop} {adr : List Addr} {g : Str → Option Value}
theorem SR.off {L : Addr} (S : SR tb C P0 hc env h st P adr g) (kw : KeepW (· = L) h h') (nO : ¬ Own env adr L) (nP : ¬ P L) (nv : NotVal C h L) (lv : ∃ o, h'.get? L = some o) (nc : hc.get? L = none) : SR tb C P0 hc env h' st P adr g := by
  have kp : KeepP P C h h' := keepP_of_W kw fun b z => by rw [z]; exact ⟨nP, nv⟩
  refine ⟨S.fm.keepW kw (fun z => nO (.inl z.symm)) (fun x c e z => nO (.inr (.inl ⟨x, z ▸ e⟩))), fun b o e => kw b o (fun z => by rw [z, nc] at e; cases e) (S.keep b o e), S.up.keepW kw fun a z => by rw [z]; exact lv, S.sub, S.nloc, S.ncell, S.new, S.len, S.nd, S.notP, fun k a ds ha hk => ?_, fun i x sl e q z => ?_⟩
  · refine oE1_2 (S.lists k a ds ha hk) fun vs hp hr => ?_
    exact ⟨vs, hp.at fun o e => kw _ _ (fun z => nO (.inr (.inr (z ▸ List.mem_of_getElem? ha)))) e, hr.keepP kp⟩
  · exact (S.vars i x sl e q z).keepP S.keep kp (fun _ p => p) (fun _ _ _ p => p) (fun _ _ e => e)
theorem SR.off2 {L : Addr} (S : SR tb C P0 hc env h st P adr g) (kw : KeepW (· = L) h h') (nO : ¬ Own env adr L) (nP : ¬ P L) (pL : P0 L) (nv : NotVal C h L) (nc : hc.get? L = none) : SR tb C P0 hc env h' st (fun a => P a ∨ a = L) adr g := by
  have kp : KeepP P C h h' := keepP_of_W kw fun b z => by rw [z]; exact ⟨nP, nv⟩
  refine ⟨S.fm.keepW kw (fun z => nO (.inl z.symm)) (fun x c e z => nO (.inr (.inl ⟨x, z ▸ e⟩))), fun b o e => kw b o (fun z => by rw [z, nc] at e; cases e) (S.keep b o e), fun a e => ?_, fun a z => z.elim (S.sub a) fun z => by rw [z]; exact pL,
    fun z => z.elim S.nloc fun z => nO (.inl z.symm), fun x c e => ⟨(S.ncell x c e).1, fun z => z.elim (S.ncell x c e).2 fun z => nO (.inr (.inl ⟨x, z ▸ e⟩))⟩, S.new, S.len, S.nd, fun a z => ⟨fun q => q.elim (S.notP a z).1 fun q => nO (.inr (.inr (q ▸ z))), (S.notP a z).2⟩, fun k a ds ha hk => ?_, fun i x sl e q z => ?_⟩
  · by_cases z : a = L
    · exact .inr z
    · refine .inl (S.up a ?_)
      cases q : h.get? a with
      | none => rfl
      | some o => rw [kw a o z q] at e; cases e
  · refine oE1_2 (S.lists k a ds ha hk) fun vs hp hr => ?_
    exact ⟨vs, hp.at fun o e => kw _ _ (fun z => nO (.inr (.inr (z ▸ List.mem_of_getElem? ha)))) e, (hr.keepP kp).mono fun _ _ _ p => .inl p⟩
  · have X := (S.vars i x sl e q z).keepP S.keep kp (fun _ p => p) (fun _ _ _ p => p) (fun _ _ e => e)
    cases sl with
    | val d => refine oE1_2 X fun v e r => ?_; clear X; exact ⟨v, e, r.mono fun _ _ _ p => .inl p⟩
    | own i => exact X
    | hob i => refine oE3_4 X fun a y dx e r pd rest => ?_; clear X; exact ⟨a, y, dx, e, r, .inl pd, rest⟩
    | nest ks => refine oE2_2 X fun a as pa rest => ?_; clear X; exact ⟨a, as, .inl pa, rest⟩
    | raw d a => obtain ⟨e, r⟩ := X; exact ⟨e, r.mono fun _ _ _ p => .inl p⟩
    | fix a => exact X
theorem Ev.off {L : Addr} {h2 h3 : Heap} {P2 P3 : Addr → Prop} {adr2 : List Addr} (V : Ev env h h2 P P2 adr adr2) (kw : KeepW (· = L) h2 h3) (n : h.get? L = none) (s1 : ∀ a, P3 a → P a) (s2 : ∀ a, P2 a → P3 a) : Ev env h h3 P P3 adr adr2 := by
  refine ⟨fun b o nb e => kw b o (fun z => by rw [z, n] at e; cases e) (V.kw b o nb e), fun a o e => ?_, V.pre, s1, fun a o e p => s2 a (V.sup a o e p)⟩
  obtain ⟨o', e'⟩ := V.live a o e
  exact ⟨o', kw a o' (fun z => by rw [z, n] at e; cases e) e'⟩
theorem SR.addOwnN (S : SR tb C P0 hc env h st P adr g) (k : Keep h h') {D0 : Addr} {N : Addr → Prop} {vs : List Value} {ds : List D} (hN : N D0) (n0 : ∀ a, N a → h.get? a = none) (n1 : ∀ a, N a → ∃ o, h'.get? a = some o) (hp : h'.PlainList D0 vs.toArray) (r : RpA (PN P N) C h' vs ds) :
    SR tb C P0 hc env h' { st with σ := st.σ ++ [ds] } (PN P N) (adr ++ [D0]) g ∧ Ev env h h' P (PN P N) adr (adr ++ [D0]) := by
  obtain ⟨F, V⟩ := S.fresh k N n0 n1
  have hnot : D0 ∉ adr := fun z => by
    obtain ⟨o, e⟩ := S.live (.inr (.inr z))
    rw [n0 _ hN] at e; cases e
  have hcn : hc.get? D0 = none := by
    cases q : hc.get? D0 with
    | none => rfl
    | some o => have := n0 _ hN; rw [S.keep _ _ q] at this; cases this
  refine ⟨⟨F.fm, F.keep, F.up, F.sub, F.nloc, F.ncell, fun a z => ?_, by simp [F.len], ?_, fun a z => ?_, fun i a es ha hk => ?_, fun i x sl e q z => ?_⟩, V.kw, V.live, ⟨[D0], rfl, fun a z => by rw [List.mem_singleton.mp z]; exact n0 _ hN⟩, V.sub, V.sup⟩
  · rcases z with z | z | z
    · exact F.new a (.inl z)
    · exact F.new a (.inr (.inl z))
    · rcases List.mem_append.mp z with z | z
      · exact F.new a (.inr (.inr z))
      · rw [List.mem_singleton.mp z]; exact hcn
  · rw [List.nodup_append]
    refine ⟨F.nd, by simp, fun a ha b hb => ?_⟩
    rw [List.mem_singleton.mp hb]
    rintro rfl; exact hnot ha
  · rcases List.mem_append.mp z with z | z
    · exact F.notP a z
    · rw [List.mem_singleton.mp z]
      exact ⟨fun p => p.2 hN, S.sub _ (S.up _ (n0 _ hN))⟩
  · rcases Nat.lt_or_ge i adr.length with hi | hi
    · rw [List.getElem?_append_left hi] at ha
      rw [List.getElem?_append_left (by rw [← S.len]; exact hi)] at hk
      exact F.lists i a es ha hk
    · rw [List.getElem?_append_right hi] at ha
      rw [List.getElem?_append_right (by rw [← S.len]; exact hi)] at hk
      have hi0 : i - adr.length = 0 := by
        cases q : i - adr.length with
        | zero => rfl
        | succ m => rw [q] at ha; cases ha
      rw [hi0] at ha
      rw [← S.len, hi0] at hk
      cases ha; cases hk
      exact ⟨vs, hp, r⟩
  · refine (F.vars i x sl e q z).keepP F.keep (Keep.refl _).toP (fun _ p => p) (fun _ _ _ p => p) fun j a e => ?_
    have hj : j < adr.length := by
      rcases Nat.lt_or_ge j adr.length with z | z
      · exact z
      · rw [List.getElem?_eq_none z] at e; cases e
    rw [List.getElem?_append_left hj]; exact e
end
theorem pure_tf : ¬ ((pure false : Sem Bool) = pure true) := fun h => by
  cases h
section
variable {prog : Program} {w : World} {h0 : Heap} {C : Addr} {N : Nat} {Φ : Fns} {tb : List Str}
theorem do_store {M : Model} {P0 : Addr → Prop} {hc : Heap} {env : Env} {st : St} {P : Addr → Prop} {adr : List Addr} {g : Str → Option Value} {A : Around} {E : Value → Shared → Prop} {s : Shared} {x : Nat} {y : Str} {v : Value} {sl : Slot} {Q : Unit → Shared → Prop}
    (nd : tb.Nodup) (ok : EnvOK env) (S : SR tb C P0 hc env s.heap st P adr g) (hx : tb[x]? = some y) (t : tgtName env.scope y = true) (hs : HoldS hc P C s.heap adr (some v) sl)
    (k : ∀ h' tk g', SR tb C P0 hc env h' (st.set x sl) P adr g' → Ev env s.heap h' P P adr adr → Q () { s with heap := h', toks := tk }) : wpAny M A (storeName env y v) Q E s :=
  store_sound ok S.fm t fun h' tk fm sb => by
    obtain ⟨S', V'⟩ := SR.put nd ok S hx t fm sb hs
    exact k h' tk _ S' V'
set_option tactic.hygienic true in
theorem sns_asg (H : Hyp prog w h0 C N Φ) (nd : tb.Nodup) (ndot : (".0" : Str) ∉ tb) (x : Nat) (e : CE) : SndS prog w h0 C N Φ tb (.asg x e) := by
  intro hc P0 env stmt st st' fl A E s P adr g Q hck ok hr kp S hx k
  refine oE4_2 (isAsgN_ hck) fun y p v pos eZ hckX1 => ?_; clear hck; subst eZ
  simp only [Bool.and_eq_true] at hckX1
  refine oE0_2 hckX1 fun zq4 c3 => ?_; clear hckX1; refine oE0_2 zq4 fun c1 c2 => ?_; clear zq4
  obtain ⟨hy, ht⟩ := tgtAt_is c1
  simp only [qx_asg] at hx
  split at hx
  rotate_left
  · cases hx
  rename_i r hev
  cases hem : emb r with
  | none => rw [hem] at hx; cases hx
  | some d =>
    rw [hem] at hx; cases hx
    obtain ⟨b, hb⟩ := swaps_of v y p pos.line env
    cases b with
    | false =>
      refine wpAny_Assign_Name (ev_snd H nd ndot e env v st.view r A E s P _ c2 ok hr (kp.trans S.keep) S.up S.view hev fun val s1 k1 r1 => ?_) hb
      cases k1 using keepsE; rename_i h1 tk1 kk
      exact do_store (s := { s with heap := h1, toks := tk1 }) (sl := .val d) nd ok (S.keeps kk) hy ht ⟨val, rfl, emb_rp hem r1⟩ fun h' tk g' S' V' => k h' tk P adr g' S' ((Ev.keep kk P adr).trans V')
    | true =>
      cases e with
      | comp elt tgt it conds =>
        have hr0 : ∃ out, r = (.lst out, false) ∧ d = .lst out := by
          simp only [q_comp] at hev
          split at hev
          · split at hev
            · have : ∃ out, r = (.lst out, false) := by
                revert hev
                generalize compL _ _ = z
                intro hev
                cases z with
                | none => cases hev
                | some out => cases hev; exact ⟨out, rfl⟩
              obtain ⟨out, rfl⟩ := this
              exact ⟨out, rfl, by simpa [emb] using hem.symm⟩
            · cases hev
          · cases hev
        refine oE1_2 hr0 fun out rq2 rq3 => ?_; clear hr0; subst rq2; subst rq3
        refine oE4_3 (comp_gen (A := A) (E := E) (s := s) H nd ndot c2 ok hr (kp.trans S.keep) S.up S.view hev) fun cx1 gens sc' cpos rq1 has hgen => ?_; subst rq1
        rw [exec_Assign_Name_used _ _ _ _ hb]
        refine wpAny_bind (wpAny_standAt (wpAny_bind ?_))
        show wpAny _ A (do let _ ← comprehension (.ListComp cx1 gens sc' cpos) sc' env (firstIterPos gens cpos) (newList []) (firstAsync gens) (firstIter gens env) (some (assign (.Name y p) env))) _ _ s
        rw [has]
        refine wpAny_bind (wpAny_mono (hgen (some (assign (.Name y p) env)) (fun _ s' => Q .next s') (firstIterPos gens cpos) fun D0 L s' m ys ks hD hL hne hn hp hra => ?_) (fun _ s' hq => wpAny_pure (wpAny_pure hq)) fun _ _ z => z)
        cases ks using keepsE; rename_i h1 tk1 kk
        have hLl : ∃ o, h1.get? L = some o := by refine oE3_2 hn fun o es ep e _ => ?_; clear hn; exact ⟨o, e⟩
        obtain ⟨S1, V1⟩ := S.fresh kk (· = L) (fun a z => by rw [z]; exact hL) (fun a z => by rw [z]; exact hLl)
        have nO : ¬ Own env adr L := fun z => by obtain ⟨o, e⟩ := S.live z; rw [hL] at e; cases e
        have nC : hc.get? L = none := by
          cases q : hc.get? L with
          | none => rfl
          | some o => rw [S.keep _ _ q] at hL; cases hL
        show wpAny _ A (assign (.Name y p) env (.ref D0)) _ E _
        refine wpAny_assign_Name (do_store (s := { s with heap := h1, toks := tk1 }) (sl := .val (.lst out)) nd ok S1 hy ht ⟨.ref D0, rfl, .lst ⟨S.up D0 hD, fun z => hne z.symm⟩ hp.isList (hra.mono fun a _ _ q => ⟨q.1, fun z => q.2 (.inr z)⟩)⟩ fun h2 tk2 g2 S2 V2 => ?_)
        have hn2 : h2.Ns L m := hn.at' fun o e => V2.kw _ _ nO e
        refine ⟨m, hn2, fun h3 sb => ?_⟩
        exact k h3 tk2 _ adr g2 (S2.off2 (keepW_of_same sb) nO (fun q => q.2 rfl) (S.sub L (S.up L hL)) (notVal_ns hn2) nC) ((V1.trans V2).off (keepW_of_same sb) hL (fun a z => z.elim (fun z => z.1) fun z => by rw [z]; exact S.up L hL) fun a z => .inl z)
      | _ => 
        replace c3 : notComp v = true := c3
        rw [swaps_not c3] at hb
        exact absurd hb pure_tf
end
end Mine
end
section
open PySem PySem.W PyProof.Rows
set_option autoImplicit false
namespace Mine
section
variable {prog : Program} {w : World} {h0 : Heap} {C : Addr} {N : Nat} {Φ : Fns} {tb : List Str}
set_option tactic.hygienic true in
theorem sns_own (H : Hyp prog w h0 C N Φ) (nd : tb.Nodup) (ndot : (".0" : Str) ∉ tb) (x : Nat) (e : CE) : SndS prog w h0 C N Φ tb (.own x e) := by
  intro hc P0 env stmt st st' fl A E s P adr g Q hck ok hr kp S hx k
  refine oE4_2 (isAsgN_ hck) fun y p v pos eZ hckX1 => ?_; clear hck; subst eZ
  simp only [Bool.and_eq_true] at hckX1
  refine oE0_2 hckX1 fun zq5 c3 => ?_; clear hckX1; refine oE0_2 zq5 fun c1 c2 => ?_; clear zq5
  obtain ⟨hy, ht⟩ := tgtAt_is c1
  simp only [qx_own] at hx
  split at hx
  rotate_left
  · cases hx
  rename_i ds hev
  cases hx
  have last : (adr ++ [(0 : Addr)])[st.σ.length]? = some 0 ∨ True := .inr trivial
  have own1 : ∀ D0 : Addr, (adr ++ [D0])[st.σ.length]? = some D0 := fun D0 => by
    rw [← S.len, List.getElem?_append_right (Nat.le_refl _), Nat.sub_self]; rfl
  cases e with
  | dlst es =>
    cases es with
    | cons _ _ => exact absurd c2 Bool.false_ne_true
    | nil =>
      have hds : ds = [] := by
        simp only [q_dlst, qs_nil] at hev
        simp at hev
        first | exact hev | exact hev.symm | exact hev.2 | exact hev.2.symm
      subst hds
      cases v <;> first | (exact absurd c3 Bool.false_ne_true) | skip
      rename_i xs vp
      cases xs with
      | cons _ _ => exact absurd c3 Bool.false_ne_true
      | nil =>
        refine wpAny_Assign_Name (wpAny_List (Calls.spliced_nil ⟨Nat.zero_le _, ?_⟩)) (by rfl)
        have kk : Keep s.heap (s.heap.push { cls := .type "list", data := .seq ([] : List Value).toArray }) := Keep.push _ _
        have hp : (s.heap.push { cls := .type "list", data := .seq ([] : List Value).toArray }).PlainList s.heap.objs.size ([] : List Value).toArray := ⟨0, Heap.get?_push_size _ rfl⟩
        obtain ⟨S1, V1⟩ := S.addOwnN kk (D0 := s.heap.objs.size) (N := (· = s.heap.objs.size)) (ds := []) rfl (fun a z => by rw [z]; exact get_size_none _) (fun a z => by rw [z]; obtain ⟨n, e⟩ := hp; exact ⟨_, e⟩) hp .nil
        exact do_store (s := { s with heap := _ }) (sl := .own st.σ.length) nd ok S1 hy ht ⟨_, own1 _, rfl⟩ fun h' tk g' S' V' => k h' tk _ _ g' S' (V1.trans V')
  | comp elt tgt it conds =>
    refine oE4_3 (comp_gen (A := A) (E := E) (s := s) H nd ndot c3 ok hr (kp.trans S.keep) S.up S.view hev) fun cx1 gens sc' cpos rq4 has hgen => ?_; subst rq4
    obtain ⟨b, hb⟩ := swaps_of (.ListComp cx1 gens sc' cpos) y p pos.line env
    cases b with
    | false =>
      refine wpAny_Assign_Name ?_ hb
      rw [eval_ListComp, has]
      refine hgen none _ (firstIterPos gens cpos) fun D0 L s' m ys ks hD hL hne hn hp hra => ?_
      cases ks using keepsE; rename_i h1 tk1 kk
      refine ⟨m, hn, fun h2 sb => ?_⟩
      have kw := keepW_of_same sb
      have kk2 : Keep s.heap h2 := fun b o e => kw b o (fun z => by rw [z, hL] at e; cases e) (kk b o e)
      have hp2 : h2.PlainList D0 (List.toArray ys) := hp.at fun o e => kw _ _ (fun z => hne z.symm) e
      have kp3 : KeepP (PN P fun a => a = D0 ∨ a = L) C h1 h2 := keepP_of_W kw fun b z => ⟨fun q => q.2 (.inr z), by rw [z]; exact notVal_ns hn⟩
      obtain ⟨S1, V1⟩ := S.addOwnN kk2 (D0 := D0) (N := (· = D0)) (ds := ds) rfl (fun a z => by rw [z]; exact hD) (fun a z => by rw [z]; obtain ⟨n, e⟩ := hp2; exact ⟨_, e⟩) hp2 (RpA.mono (fun a _ _ q => ⟨q.1, fun z => q.2 (.inl z)⟩) (hra.keepP kp3))
      exact do_store (s := { s with heap := h2, toks := tk1 }) (sl := .own st.σ.length) nd ok S1 hy ht ⟨_, own1 _, rfl⟩ fun h' tk g' S' V' => k h' tk _ _ g' S' (V1.trans V')
    | true =>
      rw [exec_Assign_Name_used _ _ _ _ hb]
      refine wpAny_bind (wpAny_standAt (wpAny_bind ?_))
      show wpAny _ A (do let _ ← comprehension (.ListComp cx1 gens sc' cpos) sc' env (firstIterPos gens cpos) (newList []) (firstAsync gens) (firstIter gens env) (some (assign (.Name y p) env))) _ _ s
      rw [has]
      refine wpAny_bind (wpAny_mono (hgen (some (assign (.Name y p) env)) (fun _ s' => Q .next s') (firstIterPos gens cpos) fun D0 L s' m ys ks hD hL hne hn hp hra => ?_) (fun _ s' hq => wpAny_pure (wpAny_pure hq)) fun _ _ z => z)
      cases ks using keepsE; rename_i h1 tk1 kk
      have hLl : ∃ o, h1.get? L = some o := by refine oE3_2 hn fun o es ep e _ => ?_; clear hn; exact ⟨o, e⟩
      obtain ⟨S1, V1⟩ := S.addOwnN kk (D0 := D0) (N := fun a => a = D0 ∨ a = L) (ds := ds) (.inl rfl) (fun a z => z.elim (fun z => by rw [z]; exact hD) fun z => by rw [z]; exact hL) (fun a z => z.elim (fun z => by rw [z]; obtain ⟨n, e⟩ := hp; exact ⟨_, e⟩) fun z => by rw [z]; exact hLl) hp hra
      have nO : ¬ Own env (adr ++ [D0]) L := fun z => by
        rcases z with z | z | z
        · obtain ⟨o, e⟩ := S.live (.inl z); rw [hL] at e; cases e
        · obtain ⟨o, e⟩ := S.live (.inr (.inl z)); rw [hL] at e; cases e
        · rcases List.mem_append.mp z with z | z
          · obtain ⟨o, e⟩ := S.live (.inr (.inr z)); rw [hL] at e; cases e
          · exact hne (List.mem_singleton.mp z)
      have nC : hc.get? L = none := by
        cases q : hc.get? L with
        | none => rfl
        | some o => rw [S.keep _ _ q] at hL; cases hL
      show wpAny _ A (assign (.Name y p) env (.ref D0)) _ E _
      refine wpAny_assign_Name (do_store (s := { s with heap := h1, toks := tk1 }) (sl := .own st.σ.length) nd ok S1 hy ht ⟨_, own1 _, rfl⟩ fun h2 tk2 g2 S2 V2 => ?_)
      have hn2 : h2.Ns L m := hn.at' fun o e => V2.kw _ _ nO e
      refine ⟨m, hn2, fun h3 sb => ?_⟩
      exact k h3 tk2 _ _ g2 (S2.off2 (keepW_of_same sb) nO (fun q => q.2 (.inr rfl)) (S.sub L (S.up L hL)) (notVal_ns hn2) nC) ((V1.trans V2).off (keepW_of_same sb) hL (fun a z => z.elim (fun z => z.1) fun z => by rw [z]; exact S.up L hL) fun a z => .inl z)
  | _ => exact absurd c2 Bool.false_ne_true
end
end Mine
end
section
open PySem PySem.W PyProof.Rows
set_option autoImplicit false
namespace Mine
section
variable {prog : Program} {w : World} {h0 : Heap} {C : Addr} {N : Nat} {Φ : Fns} {tb : List Str}
theorem methcallG {A : Around} {E : Value → Shared → Prop} {s : Shared} {env : Env} {o : Expr} {apos pos : Pos} {name : Str} {args : List Expr} {Q : Value → Shared → Prop} (hbase : attributeBase o name env (eval o env) = eval o env) (hst : args.all notStar = true) (hlen : args.length < 29)
    (hline : (apos.endLine == pos.line) = true)
    (h : wpAny (model prog w) A (eval o env) (fun ov s1 => ∀ pl, wpAny (model prog w) A (getMethod ov name pl) (fun fx s2 => wpAny (model prog w) A (callWith pos fx.1 fx.2 (backTo pos (starEach args env)) []) Q E s2) E s1) E s) :
    wpAny (model prog w) A (eval (.Call (.Attribute o name apos) args [] pos) env) Q E s := by
  rw [arm_eval_Call, hbase]
  refine wpAny_bind (wpAny_mono h (fun ov s₁ h₁ => ?_) fun _ _ e => e)
  refine wpAny_bind (wpAny_standAt ?_)
  have hform : methodCallForm (args.length + ([] : List Keyword).length) (backTo pos (starEach args env)) (backToKw pos (keywordEach [] env)) = true := by
    rw [star_plain _ _ _ hst]
    unfold methodCallForm
    simp only [Bool.and_eq_true, decide_eq_true_eq]
    refine ⟨⟨by simp, rfl⟩, ?_⟩
    show args.length + 0 + _ < 30
    split <;> omega
  have hpos : methodCallPos true o env apos pos = pure pos := by unfold methodCallPos; simp [hline]
  unfold methodCall
  rw [hform]
  refine wpAny_bind (wpAny_holding (wpAny_mono (h₁ _) (fun fx s2 h2 => ?_) fun _ _ e => e))
  exact wpAny_bind (wpAny_of_eq hpos h2)
theorem gm_append {M : Model} {A : Around} {E : Value → Shared → Prop} {s : Shared} {l : Addr} {its : Array Value} {pl : Sem Bool} {Q : Value × List Value → Shared → Prop} (hl : s.heap.PlainList l its) (h : Q (.builtin "list.append", [.ref l]) s) :
    wpAny M A (getMethod (.ref l) (Str.ofString "append") pl) Q E s := by
  obtain ⟨n, e⟩ := hl
  exact Calls.getMethod_list_append e rfl rfl h
theorem gm_extend {M : Model} {A : Around} {E : Value → Shared → Prop} {s : Shared} {l : Addr} {its : Array Value} {pl : Sem Bool} {Q : Value × List Value → Shared → Prop} (hl : s.heap.PlainList l its) (h : Q (.builtin "list.extend", [.ref l]) s) :
    wpAny M A (getMethod (.ref l) (Str.ofString "extend") pl) Q E s :=
  getMethod_builtin (T := "list") (id := "list.extend") hl.isList.typeIs PySem.F.plainAttrs_list PySem.F.slot_list_extend PySem.F.type_list_extend (fun a' q => by cases q; obtain ⟨n, e⟩ := hl; exact ⟨_, e, rfl⟩) h
theorem interactive_not {env : Env} (ok : EnvOK env) : interactive env = false := by
  unfold interactive; rw [ok.kind]; rfl
theorem own_at {P0 : Addr → Prop} {hc h : Heap} {env : Env} {st : St} {P : Addr → Prop} {adr : List Addr} {g : Str → Option Value} {x k : Nat} {y : Str} (S : SR tb C P0 hc env h st P adr g) (hx : tb[x]? = some y) (hv : isVar env.scope y = true) (hs : st.ρ x = some (.own k)) :
    ∃ a, adr[k]? = some a ∧ g y = some (.ref a) := S.vars x y _ hs hx hv
set_option tactic.hygienic true in
theorem call_append {P0 : Addr → Prop} {hc : Heap} {env : Env} {st st2 : St} {P : Addr → Prop} {adr : List Addr} {g : Str → Option Value} {A : Around} {E : Value → Shared → Prop} {s : Shared} {k : Nat} {a : Addr} {v : Value} {d : D} {Q : Value → Shared → Prop}
    (S : SR tb C P0 hc env s.heap st P adr g) (ha : adr[k]? = some a) (r : Rp P C s.heap v d) (hu : st.upd k (fun ds => if ds.length ≤ lineN then some (ds ++ [d]) else none) = some st2)
    (kk : ∀ h', SR tb C P0 hc env h' st2 P adr g → Ev env s.heap h' P P adr adr → Q .none { s with heap := h' }) : wpAny (model prog w) A (call (.builtin "list.append") [.ref a, v]) Q E s := by
  unfold St.upd at hu
  split at hu
  rotate_left
  · cases hu
  rename_i ds hk
  dsimp only at hu
  split at hu
  rotate_left
  · cases hu
  rename_i hlen
  cases hu
  refine oE1_2 (S.lists k a ds ha hk) fun vs hp hr => ?_
  refine wpAny_list_append_plain hp (fun h' hp' sb => ?_) ?_
  · have kw := keepW_of_same sb
    have kp : KeepP P C s.heap h' := S.kp (kw.mono fun b z => by rw [z]; exact .inr (.inr (List.mem_of_getElem? ha)))
    have e : (List.toArray vs).push v = List.toArray (vs ++ [v]) := by simp
    rw [e] at hp'
    obtain ⟨S', V'⟩ := S.upd (ds := ds ++ [d]) ha kw hp' ((hr.keepP kp).append (.one (r.keepP kp)))
    exact kk h' S' V'
  · rw [List.size_toArray, hr.length]; exact Nat.le_trans hlen lineN_le
set_option tactic.hygienic true in
theorem sns_app (H : Hyp prog w h0 C N Φ) (nd : tb.Nodup) (ndot : (".0" : Str) ∉ tb) (x : Nat) (e : CE) : SndS prog w h0 C N Φ tb (.app x e) := by
  intro hc P0 env stmt st st' fl A E s P adr g Q hck ok hr kp S hx k
  refine oE2_2 (isExprS_ hck) fun v pos eZ hckX1 => ?_; clear hck; subst eZ
  refine oE5_4 (callShape_ hckX1) fun y py apos as cpos rq4 hline hal hckX2 => ?_; subst rq4
  refine oE1_2 (one_ hckX2) fun a eZ hckX3 => ?_; clear hckX2; subst eZ
  have hck2 := and_ hckX3
  refine oE2_4 (nameAt_is hck2.1) fun y' p' q hy hv hok => ?_
  cases q
  simp only [qx_app] at hx
  split at hx
  rotate_left
  · cases hx
  rename_i kx r hst hev
  cases hem : emb r with
  | none => rw [hem] at hx; cases hx
  | some d =>
    rw [hem] at hx
    simp only [Option.bind_some] at hx
    cases hu : st.upd kx (fun ds => if ds.length ≤ lineN then some (ds ++ [d]) else none) with
    | none => rw [hu] at hx; cases hx
    | some st2 =>
      rw [hu] at hx; cases hx
      refine oE1_2 (own_at S hy hv hst) fun a0 ha0 hga => ?_
      have hcs2 := hck2.2
      simp only [k_scons, cns, Bool.and_eq_true] at hcs2
      obtain ⟨its, hpl⟩ := S.list_at (List.mem_of_getElem? ha0)
      have hstar : ([a] : List Expr).all notStar = true := by rw [List.all_cons, hcs2.1.2]; rfl
      refine wpAny_Expr (methcallG rfl hstar (Nat.lt_of_le_of_lt (Nat.le_refl 1) (by decide)) hline (Name_var ok hok (S.fm.var ok hga hv) fun pl => gm_append hpl ?_)) (interactive_not ok) (by rfl)
      refine Calls.callWith_builtin (any_false hstar) ?_
      rw [star_plain _ _ _ hstar]
      refine Calls.evalArgs_plain (Calls.spliced_cons (ev_snd H nd ndot e env a st.view r A E s P _ hcs2.1.1 ok hr (kp.trans S.keep) S.up S.view hev fun v s1 k1 r1 => Calls.spliced_nil ?_))
      cases k1 using keepsE; rename_i h1 tk1 kk
      exact call_append (S.keeps kk) ha0 (emb_rp hem r1) hu fun h' S' V' => k h' tk1 P adr g S' ((Ev.keep kk P adr).trans V')
set_option tactic.hygienic true in
theorem sns_ext (H : Hyp prog w h0 C N Φ) (nd : tb.Nodup) (ndot : (".0" : Str) ∉ tb) (x : Nat) (e : CE) : SndS prog w h0 C N Φ tb (.ext x e) := by
  intro hc P0 env stmt st st' fl A E s P adr g Q hck ok hr kp S hx k
  refine oE2_2 (isExprS_ hck) fun v pos eZ hckX1 => ?_; clear hck; subst eZ
  refine oE5_4 (callShape_ hckX1) fun y py apos as cpos rq3 hline hal hckX2 => ?_; subst rq3
  refine oE1_2 (one_ hckX2) fun le eZ hckX3 => ?_; clear hckX2; subst eZ
  refine oE2_2 (isList_ hckX3) fun es lq eZ hckX4 => ?_; clear hckX3; subst eZ
  refine oE1_2 (dlsts_ hckX4) fun cs rq2 hckX5 => ?_; subst rq2
  obtain ⟨hck1, hck2⟩ := and_ hckX5
  refine oE2_4 (nameAt_is hck1) fun y' p' q hy hv hok => ?_
  cases q
  simp only [qx_ext] at hx
  split at hx
  rotate_left
  · cases hx
  rename_i kx ds2 t2 hst hev
  cases hu : st.upd kx (fun ds => if ds.length + ds2.length ≤ lineN then some (ds ++ ds2) else none) with
  | none => rw [hu] at hx; cases hx
  | some st2 =>
    rw [hu] at hx; cases hx
    refine oE1_2 (own_at S hy hv hst) fun a0 ha0 hga => ?_
    obtain ⟨its, hpl⟩ := S.list_at (List.mem_of_getElem? ha0)
    simp only [q_dlst] at hev
    split at hev
    rotate_left
    · cases hev
    rename_i hlen
    split at hev
    rotate_left
    · cases hev
    rename_i rs hrs
    cases hm : rs.mapM emb with
    | none => rw [hm] at hev; cases hev
    | some ds3 =>
      rw [hm] at hev; cases hev
      refine wpAny_Expr (methcallG rfl rfl (Nat.lt_of_le_of_lt (Nat.le_refl 1) (by decide)) hline (Name_var ok hok (S.fm.var ok hga hv) fun pl => gm_extend hpl ?_)) (interactive_not ok) (by rfl)
      refine Calls.callWith_builtin rfl (Calls.evalArgs_plain (Calls.spliced_cons (wpAny_List ?_)))
      rw [star_plain _ _ _ (chks_star cs es hck2).1]
      refine (evs_snd H nd ndot cs).1 env es st.view rs A E s P _ hck2 ok hr (kp.trans S.keep) S.up S.view hrs fun vs s1 k1 ra => ?_
      cases k1 using keepsE; rename_i h1 tk1 kk
      have rr := embs_rp ra hm
      have e1 : vs.length = cs.length := by rw [rr.length, evs_len hm, evs_len' hrs]
      refine ⟨by rw [e1]; exact Nat.le_trans hlen lineN_le, Calls.spliced_nil ?_⟩
      have k2 : Keep h1 (h1.push { cls := .type "list", data := .seq vs.toArray }) := Keep.push _ _
      have S2 := (S.keeps kk).keeps k2
      unfold St.upd at hu
      split at hu
      rotate_left
      · cases hu
      rename_i ds hk
      dsimp only at hu
      split at hu
      rotate_left
      · cases hu
      rename_i hlen2
      cases hu
      refine oE1_2 (S2.lists kx a0 ds ha0 hk) fun ws zq1 hrw => ?_; refine oE1_1 zq1 fun n hp => ?_; clear zq1
      have hself := Heap.get?_push_size h1 (o := { cls := .type "list", data := .seq vs.toArray }) rfl
      have hsz : ws.toArray.size + vs.toArray.size ≤ sizeLine := by
        rw [List.size_toArray, List.size_toArray, hrw.length, rr.length]; exact Nat.le_trans hlen2 lineN_le
      refine call_meets PySem.F.slot_list_extend ⟨_, hp, rfl⟩ PySem.F.entry_list_extend (PySem.F.args_list_extend_2 _ _) (AutoSeq1.list_extend_list_list_0 a0 ws.toArray n h1.objs.size vs.toArray 0 (extend_door hsz) (Nat.le_trans (Nat.le_add_right _ _) hsz)) ⟨hp, hself, ?_⟩
      have e : ws.toArray ++ vs.toArray = (ws ++ vs).toArray := by simp
      have ho' : ((h1.push { cls := .type "list", data := .seq vs.toArray }).update a0 (Obj.mapSeq fun x => x ++ vs.toArray)).PlainList a0 (ws ++ vs).toArray := by
        refine ⟨(if (ws.toArray ++ vs.toArray).size == ws.toArray.size then n else n + 1), ?_⟩
        rw [Heap.get?_update_self _ hp (by rw [mapSeq_app]; rfl), mapSeq_app, e]
      have kw := keepW_of_same (Heap.SameBut.update (h1.push { cls := .type "list", data := .seq vs.toArray }) a0 (Obj.mapSeq fun x => x ++ vs.toArray))
      have kp3 := S2.kp (kw.mono fun b z => by rw [z]; exact .inr (.inr (List.mem_of_getElem? ha0)))
      obtain ⟨S', V'⟩ := S2.upd (ds := ds ++ ds2) ha0 kw ho' ((hrw.keepP kp3).append ((rr.keeps k2).keepP kp3))
      exact k _ tk1 P adr g S' (((Ev.keep kk P adr).trans (Ev.keep k2 P adr)).trans V')
end
end Mine
end
section
open PySem PySem.W PyProof.Rows
set_option autoImplicit false
namespace Mine
section
variable {prog : Program} {w : World} {h0 : Heap} {C : Addr} {N : Nat} {Φ : Fns} {tb : List Str}
theorem load_var {M : Model} {A : Around} {E : Value → Shared → Prop} {s : Shared} {env : Env} {x : Str} {v : Value} {Q : Value → Shared → Prop} (ok : EnvOK env) (n : okName x = true) (a : VarAt env s.heap x v) (k : Q v s) : wpAny M A (loadName env x) Q E s := by
  simp only [okName, Bool.and_eq_true, Bool.not_eq_true'] at n
  rcases a with ⟨e, m, hn, q⟩ | ⟨e | e, c, l, q⟩
  · exact wpAny_loadName_local ok.kind e hn q k
  · exact wpAny_loadName_cell ok.kind e l q k
  · exact wpAny_loadName_free ok.kind e l q k n.2
set_option tactic.hygienic true in
theorem sns_aug (H : Hyp prog w h0 C N Φ) (nd : tb.Nodup) (ndot : (".0" : Str) ∉ tb) (x : Nat) (e : CE) : SndS prog w h0 C N Φ tb (.aug x e) := by
  intro hc P0 env stmt st st' fl A E s P adr g Q hck ok hr kp S hx k
  refine oE4_2 (isAug_ hck) fun t0 o0 v pos eZ hckX1 => ?_; clear hck; subst eZ
  refine oE2_2 (isName_ hckX1) fun y p eZ hckX2 => ?_; clear hckX1; subst eZ
  simp only [Bool.and_eq_true, decide_eq_true_eq] at hckX2
  refine oE0_2 hckX2 fun zq7 c3 => ?_; clear hckX2; refine oE0_2 zq7 fun zq8 c2 => ?_; clear zq7; refine oE0_2 zq8 fun rq9 c1 => ?_; clear zq8; subst rq9
  obtain ⟨hy, ht⟩ := tgtAt_is c1
  refine oE2_4 (nameAt_is c2) fun y' p' q _ hv hok => ?_
  cases q
  simp only [qx_aug] at hx
  split at hx
  rotate_left
  · cases hx
  rename_i a ta b tb' hva hev
  cases hx
  refine oE1_2 S.view fun g' fm' hh => ?_
  refine oE1_2 (hh x y _ _ (fun z => z) hva hy hv) fun va hga ra => ?_
  obtain ⟨tka, rfl⟩ := ra.int
  refine wpAny_AugAssign_Name (load_var ok hok (fm'.var ok hga hv) ?_)
  refine ev_snd H nd ndot e env v st.view _ A E s P _ c3 ok hr (kp.trans S.keep) S.up S.view hev fun vi s1 k1 r1 => ?_
  obtain ⟨ti, rfl⟩ := r1.int
  cases k1 using keepsE; rename_i h1 tk1 kk
  refine iand_int ?_
  exact do_store (s := { s with heap := h1, toks := _ }) (sl := .val (.int (Builtin.bitAnd a b))) nd ok (S.keeps kk) hy ht ⟨_, rfl, .int _ _⟩ fun h' tk g' S' V' => k h' tk P adr g' S' ((Ev.keep kk P adr).trans V')
theorem swapped_none {ts : List Expr} {kk : Nat} {p : Pos} {v : Expr} (h : notTupE v = true) (env : Env) : swappedStores [.Tuple ts kk p] v env = pure none := by
  cases v <;> first | rfl | (exact absurd h Bool.false_ne_true)
theorem swapsM_not {ts : List Expr} {kk : Nat} {p : Pos} (v : Expr) (l : Nat) (env : Env) : swapsWithSole [.Tuple ts kk p] v l env = pure false := by
  cases v <;> rfl
set_option tactic.hygienic true in
theorem sns_asgM (H : Hyp prog w h0 C N Φ) (nd : tb.Nodup) (ndot : (".0" : Str) ∉ tb) (xs : List Nat) (e : CE) : SndS prog w h0 C N Φ tb (.asgM xs e) := by
  intro hc P0 env stmt st st' fl A E s P adr g Q hck ok hr kp S hx k
  refine oE3_2 (isAsg1_ hck) fun t0 v pos eZ hckX1 => ?_; clear hck; subst eZ
  refine oE3_2 (isTup_ hckX1) fun ts kt p eZ hckX2 => ?_; clear hckX1; subst eZ
  simp only [Bool.and_eq_true] at hckX2
  refine oE0_2 hckX2 fun zq6 c3 => ?_; clear hckX2; refine oE0_2 zq6 fun c1 c2 => ?_; clear zq6
  simp only [qx_asgM] at hx
  split at hx
  rotate_left
  · cases hx
  rename_i d hev
  cases hs : setT (.many xs) d st with
  | none => rw [hs] at hx; cases hx
  | some st2 =>
    rw [hs] at hx; cases hx
    rw [arm_exec_Assign, swapsM_not]
    refine wpAny_bind (wpAny_standAt (wpAny_bind (wpAny_pure ?_)))
    simp only [Bool.false_eq_true, if_false]
    refine wpAny_bind (ev_snd H nd ndot e env v st.view _ A E s P _ c2 ok hr (kp.trans S.keep) S.up S.view hev fun val s1 k1 r1 => ?_)
    cases k1 using keepsE; rename_i h1 tk1 kk
    rw [swapped_none c3]
    refine wpAny_bind (wpAny_pure ?_)
    have S1 := S.keeps kk
    show wpAny _ A (do assignAll val ((assignEach [.Tuple ts kt p] env).map (·.2)); pure .next) Q E _
    refine wpAny_bind ?_
    show wpAny _ A (assignAll val [assign (.Tuple ts kt p) env]) _ E _
    show wpAny _ A (assign (.Tuple ts kt p) env val) _ E _
    refine assignS_sound (s := { s with heap := h1, toks := tk1 }) ok hr.handled c1 S1.fm r1 hs fun h' tk vs ds fm' kw hl ra hst => ?_
    obtain ⟨S', V'⟩ := SR.puts nd ok S1 c1 fm' kw hl ra hst
    exact wpAny_pure (k h' tk P adr _ S' ((Ev.keep kk P adr).trans V'))
theorem snss_nil : SndSs prog w h0 C N Φ tb [] := by
  intro hc P0 env stmts st st' fl A E s P adr g Q hck ok hr kp S hx k
  cases stmts with
  | cons _ _ => exact absurd hck Bool.false_ne_true
  | nil =>
    simp only [qxs_nil] at hx
    cases hx
    exact wpAny_execs_nil (k s.heap s.toks P adr g S (Ev.refl _ _ _ _))
set_option tactic.hygienic true in
theorem snss_cons {c : CS} {cs : List CS} (h1 : SndS prog w h0 C N Φ tb c) (h2 : SndSs prog w h0 C N Φ tb cs) : SndSs prog w h0 C N Φ tb (c :: cs) := by
  intro hc P0 env stmts st st' fl A E s P adr g Q hck ok hr kp S hx k
  cases stmts with
  | nil => exact absurd hck Bool.false_ne_true
  | cons x xs =>
    simp only [k_sscons, cns, Bool.and_eq_true] at hck
    simp only [qxs_cons] at hx
    split at hx
    · rename_i st1 q
      refine wpAny_execs_cons (h1 hc P0 env x st st1 .next A E s P adr g _ hck.1 ok hr kp S q fun h' tk P' adr' g' S' V' => ?_)
      exact h2 hc P0 env xs st1 st' fl A E _ P' adr' g' Q hck.2 ok hr kp S' hx (k.after V')
    · rename_i q
      cases fl with
      | next => exact absurd hx (q _)
      | ret d =>
        refine wpAny_execs_cons (h1 hc P0 env x st st' (.ret d) A E s P adr g _ hck.1 ok hr kp S hx fun h' tk v kk r => ?_)
        exact k h' tk v kk r
set_option tactic.hygienic true in
theorem sns_ite (H : Hyp prog w h0 C N Φ) (nd : tb.Nodup) (ndot : (".0" : Str) ∉ tb) {t : CT} {a b : List CS} (h1 : SndSs prog w h0 C N Φ tb a) (h2 : SndSs prog w h0 C N Φ tb b) : SndS prog w h0 C N Φ tb (.ite t a b) := by
  intro hc P0 env stmt st st' fl A E s P adr g Q hck ok hr kp S hx k
  refine oE4_2 (isIf_ hck) fun test body orelse pos eZ hckX1 => ?_; clear hck; subst eZ
  simp only [Bool.and_eq_true] at hckX1
  refine oE0_2 hckX1 fun zq5 c3 => ?_; clear hckX1; refine oE0_2 zq5 fun c1 c2 => ?_; clear zq5
  simp only [qx_ite] at hx
  split at hx
  · rename_i q
    refine wpAny_If (tr_snd H nd ndot t env test st.view _ A E s P _ c1 ok hr (kp.trans S.keep) S.up S.view q fun s1 k1 => ?_)
    refine oE2_2 k1 fun h1' tk1 rq4 kk => ?_; clear k1; subst rq4
    rw [if_pos rfl]
    exact h1 hc P0 env body st st' fl A E _ P adr g Q c2 ok hr kp (S.keeps kk) hx (k.after (Ev.keep kk P adr))
  · rename_i q
    refine wpAny_If (tr_snd H nd ndot t env test st.view _ A E s P _ c1 ok hr (kp.trans S.keep) S.up S.view q fun s1 k1 => ?_)
    refine oE2_2 k1 fun h1' tk1 rq3 kk => ?_; clear k1; subst rq3
    rw [if_neg Bool.false_ne_true]
    exact h2 hc P0 env orelse st st' fl A E _ P adr g Q c3 ok hr kp (S.keeps kk) hx (k.after (Ev.keep kk P adr))
  · cases hx
set_option tactic.hygienic true in
theorem sns_ret (H : Hyp prog w h0 C N Φ) (nd : tb.Nodup) (ndot : (".0" : Str) ∉ tb) (e : CE) : SndS prog w h0 C N Φ tb (.ret e) := by
  intro hc P0 env stmt st st' fl A E s P adr g Q hck ok hr kp S hx k
  refine oE2_2 (isRet_ hck) fun vo pos eZ hckX1 => ?_; clear hck; subst eZ
  refine oE1_2 (som_ hckX1) fun v eZ hckX2 => ?_; clear hckX1; subst eZ
  simp only [qx_ret] at hx
  split at hx
  · rename_i d hev
    cases hx
    refine wpAny_Return_some (ev_snd H nd ndot e env v st.view _ A E s P _ hckX2 ok hr (kp.trans S.keep) S.up S.view hev fun val s1 k1 r1 => ?_)
    refine oE2_2 k1 fun h1' tk1 rq2 kk => ?_; clear k1; subst rq2
    exact k h1' tk1 val (S.keep.trans kk) (Rp.mono (fun a _ _ q => S.sub a q) r1)
  · split at hx
    rotate_left
    · cases hx
    rename_i d hev
    cases hx
    refine wpAny_Return_some (ev_snd H nd ndot e env v st.last _ A E s P0 _ hckX2 ok hr (kp.trans S.keep) (fun a q => S.sub a (S.up a q)) S.lastView hev fun val s1 k1 r1 => ?_)
    refine oE2_2 k1 fun h1' tk1 rq1 kk => ?_; clear k1; subst rq1
    exact k h1' tk1 val (S.keep.trans kk) r1
end
end Mine
end
section
open PySem PySem.W PyProof.Rows
set_option autoImplicit false
namespace Mine
noncomputable def IterF (prog : Program) (w : World) (A : Around) (F P : Addr → Prop) (C : Addr) (h1 h2 : Heap) (I : Addr) (ds : List D) : Prop :=
  ∃ fp Pv St, Walks prog w A I fp [I] ds.length Pv St ∧ St 0 h2 ∧ (∀ b ∈ fp, b = I ∨ (F b ∧ ∃ o, h1.get? b = some o)) ∧ (∀ i v, i < ds.length → Pv i v → ∃ d, ds[i]? = some d ∧ Rp P C h1 v d) ∧
    (∀ i h, St i h → ∃ o T, h.get? I = some o ∧ o.cls = .type T ∧ T ∈ iterNames)
noncomputable abbrev IterP (prog : Program) (w : World) (A : Around) (P : Addr → Prop) (C : Addr) (h1 h2 : Heap) (I : Addr) (ds : List D) : Prop := IterF prog w A P P C h1 h2 I ds
section
variable {prog : Program} {w : World} {h0 : Heap} {C : Addr} {N : Nat} {Φ : Fns} {tb : List Str}
section iters
variable {A : Around} {E : Value → Shared → Prop} {s : Shared} {P : Addr → Prop} {Q : Value → Shared → Prop}
theorem iterp_list {a : Addr} {vs : List Value} {ds : List D} (hh : A.handled = none) (pa : P a) (hl : s.heap.IsList a vs.toArray) (r : RpA P C s.heap vs ds)
    (k : ∀ s2 I, Keeps s s2 → IterP prog w A P C s.heap s2.heap I ds → s.heap.get? I = none → (∃ o, s2.heap.get? I = some o) → Q (.ref I) s2) : wpAny (model prog w) A (pyIter (.ref a)) Q E s := by
  refine wpAny_pyIter_list hl (k _ _ (keeps_push _ _) ?_ (get_size_none _) ⟨_, Heap.get?_push_size _ rfl⟩)
  have ha : a ≠ s.heap.objs.size := by refine oE1_2 hl fun o e _ => ?_; clear hl; exact Nat.ne_of_lt (Heap.lt_size e)
  have W := Walks.list (prog := prog) (w := w) hh s.heap.objs.size a ha vs.toArray
  have e : vs.toArray.size = ds.length := by rw [List.size_toArray, r.length]
  rw [e] at W
  refine ⟨_, _, _, W, ⟨⟨_, Heap.get?_push_size _ rfl, rfl, rfl⟩, hl.push _⟩, fun b hb => ?_, fun i v _ hv => ?_, fun i h st => ?_⟩
  · rcases List.mem_cons.mp hb with rfl | hb
    · exact .inl rfl
    · rw [List.mem_singleton.mp hb]
      refine oE1_2 hl fun o e _ => ?_; clear hl
      exact .inr ⟨pa, o, e⟩
  · exact r.getv (by simpa using hv)
  · refine oE0_2 st fun zq3 _ => ?_; clear st; refine oE1_3 zq3 fun o e c _ => ?_; clear zq3
    exact ⟨o, _, e, c, .head _⟩
theorem iterp_str {x : Str} {t : Tok} (hh : A.handled = none)
    (k : ∀ s2 I, Keeps s s2 → IterP prog w A P C s.heap s2.heap I (x.cps.toList.map fun c => .str ⟨#[c]⟩) → s.heap.get? I = none → (∃ o, s2.heap.get? I = some o) → Q (.ref I) s2) : wpAny (model prog w) A (pyIter (.str x t)) Q E s := by
  have e : (x.cps.toList.map fun c => D.str ⟨#[c]⟩).length = x.cps.size := by simp
  have items : ∀ i v, SignAt x i v → ∃ d, (x.cps.toList.map fun c => D.str ⟨#[c]⟩)[i]? = some d ∧ Rp P C s.heap v d := by
    rintro i v ⟨c, u, hc, rfl⟩
    exact ⟨_, by rw [List.getElem?_map, Array.getElem?_toList, hc]; rfl, .str _ _⟩
  cases ha : x.cps.all (· < 128) with
  | true =>
    refine wpAny_pyIter_ascii ha (k _ _ (keeps_push _ _) ?_ (get_size_none _) ⟨_, Heap.get?_push_size _ rfl⟩)
    have W := Walks.strAscii (prog := prog) (w := w) hh s.heap.objs.size x t
    rw [← e] at W
    refine ⟨_, _, _, W, ⟨_, Heap.get?_push_size _ rfl, rfl, rfl⟩, fun b hb => .inl (List.mem_singleton.mp hb), fun i v _ => items i v, fun i h st => ?_⟩
    refine oE1_3 st fun o e c _ => ?_; clear st
    exact ⟨o, _, e, c, .tail _ (.tail _ (.head _))⟩
  | false =>
    refine wpAny_pyIter_wide ha (k _ _ (keeps_push _ _) ?_ (get_size_none _) ⟨_, Heap.get?_push_size _ rfl⟩)
    have W := Walks.strWide (prog := prog) (w := w) hh s.heap.objs.size x t
    rw [← e] at W
    refine ⟨_, _, _, W, ⟨_, Heap.get?_push_size _ rfl, rfl, rfl⟩, fun b hb => .inl (List.mem_singleton.mp hb), fun i v _ => items i v, fun i h st => ?_⟩
    refine oE1_3 st fun o e c _ => ?_; clear st
    exact ⟨o, _, e, c, .tail _ (.tail _ (.tail _ (.head _)))⟩
theorem iterp_range {r : Addr} {a b c : Int} {t u v : Tok} (hh : A.handled = none) (hr : IsRange s.heap r a b c t u v) (hs : Builtin.Range.small a b c = true)
    (k : ∀ s2 I, Keeps s s2 → IterP prog w A P C s.heap s2.heap I (rngS a b c) → s.heap.get? I = none → (∃ o, s2.heap.get? I = some o) → Q (.ref I) s2) : wpAny (model prog w) A (pyIter (.ref r)) Q E s := by
  refine wpAny_pyIter_range hr hs (k _ _ (keeps_push _ _) ?_ (get_size_none _) ⟨_, Heap.get?_push_size _ rfl⟩)
  have W := Walks.range (prog := prog) (w := w) hh s.heap.objs.size a c (Builtin.Range.rangeSize a b c).toNat
  have e : (rngS a b c).length = (Builtin.Range.rangeSize a b c).toNat := by simp [rngS]
  rw [← e] at W
  refine ⟨_, _, _, W, ?_, fun b hb => .inl (List.mem_singleton.mp hb), fun i v hi hv => ?_, fun i h st => ?_⟩
  · have hn := rangeSize_nn a b c
    show IsRangeIter _ _ _ _ _
    have e1 : a + ((0 : Nat) : Int) * c = a := by simp
    have e2 : (((rngS a b c).length : Nat) : Int) - ((0 : Nat) : Int) = Builtin.Range.rangeSize a b c := by rw [e]; exact om_38 hn
    rw [e1, e2]
    exact Heap.get?_push_size _ rfl
  · obtain ⟨tk, rfl⟩ := hv
    refine ⟨.int (a + (i : Int) * c), ?_, .int _ _⟩
    rw [e] at hi
    unfold rngS
    rw [List.getElem?_map, List.getElem?_range hi]; rfl
  · exact ⟨_, _, st, rfl, .tail _ (.head _)⟩
theorem iterp_of_rng {e : Expr} {es : List CE} {env : Env} {ρ : Env'} {ds : List D} (H : Hyp prog w h0 C N Φ) (nd : tb.Nodup) (ndot : (".0" : Str) ∉ tb) (hc : chkI tb (.rng es) env.scope e = true) (ok : EnvOK env) (hr : Rm N A) (kp : Keep h0 s.heap) (up : Up P s.heap) (vars : Vars tb P C s.heap env ρ) (he : wk Φ (.rng es) ρ = some ds)
    (k : ∀ s1 s2 I, Keeps s s1 → Keeps s1 s2 → IterP prog w A P C s1.heap s2.heap I ds → s1.heap.get? I = none → (∃ o, s2.heap.get? I = some o) → Q (.ref I) s2) : wpAny (model prog w) A (eval e env) (fun x s1 => wpAny (model prog w) A (pyIter x) Q E s1) E s := by
  refine rng_gen H (evs_snd H nd ndot es).1 hc ok hr kp up vars he fun s1 r a b c t u v k1 R hsm q => ?_
  subst q
  exact iterp_range (P := P) (C := C) hr.handled R hsm fun s2 I k2 it hn hs => k _ s2 I k1 k2 it hn hs
end iters
structure LoopAt (tb : List Str) (C : Addr) (P0 : Addr → Prop) (hc : Heap) (env : Env) (h2 : Heap) (I : Addr) (P2 : Addr → Prop) (adr : List Addr) (st : St) (h' : Heap) (P' : Addr → Prop) (adr' : List Addr) (g' : Str → Option Value) : Prop where
  sr : SR tb C P0 hc env h' st P' adr' g'
  kw : KeepW (fun b => Own env adr b ∨ b = I) h2 h'
  live : ∀ a o, h2.get? a = some o → ∃ o', h'.get? a = some o'
  pre : ∃ r, adr' = adr ++ r ∧ ∀ a ∈ r, h2.get? a = none
  sub : ∀ a, P' a → P2 a
  sup : ∀ a o, h2.get? a = some o → P2 a → P' a
theorem LoopAt.step {P0 : Addr → Prop} {hc : Heap} {env : Env} {h2 : Heap} {I : Addr} {P2 : Addr → Prop} {adr : List Addr} {st st3 : St} {h' h3 : Heap} {P' P3 : Addr → Prop} {adr' adr3 : List Addr} {g' g3 : Str → Option Value}
    (x : LoopAt tb C P0 hc env h2 I P2 adr st h' P' adr' g') (S : SR tb C P0 hc env h3 st3 P3 adr3 g3) (V : Ev env h' h3 P' P3 adr' adr3) : LoopAt tb C P0 hc env h2 I P2 adr st3 h3 P3 adr3 g3 := by
  refine oE1_2 x.pre fun r hr hr0 => ?_
  refine oE1_2 V.pre fun r2 hr2 hr20 => ?_
  refine ⟨S, fun b o n e => V.kw b o (fun z => ?_) (x.kw b o n e), fun a o e => ?_, ⟨r ++ r2, by rw [hr2, hr, List.append_assoc], fun a ha => ?_⟩, fun a p => x.sub a (V.sub a p), fun a o e p => ?_⟩
  · rcases z with z | z | z
    · exact n (.inl (.inl z))
    · exact n (.inl (.inr (.inl z)))
    · rw [hr] at z
      rcases List.mem_append.mp z with z | z
      · exact n (.inl (.inr (.inr z)))
      · rw [hr0 b z] at e; cases e
  · obtain ⟨o', e'⟩ := x.live a o e
    exact V.live a o' e'
  · rcases List.mem_append.mp ha with z | z
    · exact hr0 a z
    · cases q : h2.get? a with
      | none => rfl
      | some o =>
        obtain ⟨o', e'⟩ := x.live a o q
        rw [hr20 a z] at e'; cases e'
  · obtain ⟨o', e'⟩ := x.live a o e
    exact V.sup a o' e' (x.sup a o e p)
set_option tactic.hygienic true in
theorem for_coreG (nd : tb.Nodup) {hc : Heap} {P0 : Addr → Prop} {env : Env} {target : Expr} {bd : List Stmt} {tgt : Tgt} {body : List CS} {ds : List D} {st st' : St} {fl : Fl} {A : Around} {s1 s2 : Shared} {P : Addr → Prop} {adr : List Addr} {g : Str → Option Value} {I : Addr} {R : Result → Shared → Prop}
    (hb : SndSs prog w h0 C N Φ tb body) (c1 : chkTgt tb env.scope tgt target = true) (c2 : chkSs tb body env.scope bd = true) (ok : EnvOK env) (hr : Rm N A) (kp : Keep h0 hc) (S : SR tb C P0 hc env s1.heap st P adr g)
    (k12 : Keeps s1 s2) {F' : Addr → Prop} (hF : ∀ b, F' b → P b ∨ ∃ o, hc.get? b = some o) (it : IterF prog w A F' P C s1.heap s2.heap I ds) (hI1 : s1.heap.get? I = none) (hI2 : ∃ o, s2.heap.get? I = some o)
    (hx : loopG (fun d s => match setT tgt d s with | some s' => cxs Φ body s' | none => none) ds st = some (st', fl))
    (k : PostS tb C P0 hc env P adr s1 (fun f s' => R (.ok f) s') st' fl) : codeAny (model prog w) A (.forLoop target (.ref I) bd [] env) R s2 := by
  refine oE3_5 it fun fp Pv St W hst hfp hPv hcls => ?_; clear it
  cases k12 using keepsE; rename_i h2 tk2 kk
  obtain ⟨S2, V2⟩ := S.fresh kk (· = I) (fun a z => by rw [z]; exact hI1) (fun a z => by rw [z]; exact hI2)
  have nOI : ¬ Own env adr I := fun z => by obtain ⟨o, e⟩ := S.live z; rw [hI1] at e; cases e
  have nCI : hc.get? I = none := by
    cases q : hc.get? I with
    | none => rfl
    | some o => rw [S.keep _ _ q] at hI1; cases hI1
  have tne : ∀ T, T ∈ iterNames → T ≠ "tuple" := by
    intro T hT
    simp only [iterNames, List.mem_cons, List.not_mem_nil, or_false] at hT
    rcases hT with rfl | rfl | rfl | rfl <;> decide
  have nvI : ∀ i h, St i h → NotVal C h I := fun i h q => by refine oE2_3 (hcls i h q) fun o T e c m => ?_; exact notVal_cls e c (tne T m)
  let F := fun (d : D) (s : Mine.St) => match setT tgt d s with | some s' => cxs Φ body s' | none => none
  let Inv : Nat → Shared → Prop := fun n s' => ∃ i h' tk sti P' adr' g', s' = { s1 with heap := h', toks := tk } ∧ n = ds.length - i ∧ i ≤ ds.length ∧ St i h' ∧ LoopAt tb C P0 hc env h2 I (PN P (· = I)) adr sti h' P' adr' g' ∧ loopG F (ds.drop i) sti = some (st', fl)
  refine codeAny_forLoop_any Inv (fun n s' hInv => ?_) ds.length ⟨0, h2, tk2, st, _, adr, g, rfl, rfl, Nat.zero_le _, hst, ⟨S2, KeepW.refl _ _, fun a o e => ⟨o, e⟩, ⟨[], by simp, by simp⟩, fun _ p => p, fun _ _ _ p => p⟩, hx⟩
  refine oE7_6 hInv fun i h' tk sti P' adr' g' rq1 rq2 hi hsti LA hgo => ?_; clear hInv; subst rq1; subst rq2
  have nOI' : ¬ Own env adr' I := fun z => by
    refine oE1_2 LA.pre fun r hr hr0 => ?_
    rcases z with z | z | z
    · exact nOI (.inl z)
    · exact nOI (.inr (.inl z))
    · rw [hr] at z
      rcases List.mem_append.mp z with z | z
      · exact nOI (.inr (.inr z))
      · obtain ⟨o, e⟩ := hI2
        rw [hr0 I z] at e; cases e
  have nPI : ¬ P' I := fun z => (LA.sub I z).2 rfl
  have next : ∀ j h3, St j h3 → KeepW (· = I) h' h3 → LoopAt tb C P0 hc env h2 I (PN P (· = I)) adr sti h3 P' adr' g' := fun j h3 hj kw3 => by
    refine ⟨LA.sr.off kw3 nOI' nPI (nvI _ _ hsti) (by refine oE2_2 (hcls j h3 hj) fun o T e _ => ?_; exact ⟨o, e⟩) nCI, fun b o n e => kw3 b o (fun z => n (.inr z)) (LA.kw b o n e), fun a o e => ?_, LA.pre, LA.sub, LA.sup⟩
    by_cases z : a = I
    · refine oE2_2 (hcls j h3 hj) fun o T e _ => ?_; exact ⟨o, by rw [z]; exact e⟩
    · obtain ⟨o', e'⟩ := LA.live a o e
      exact ⟨o', kw3 a o' z e'⟩
  by_cases hlt : i < ds.length
  · refine W.item i _ _ _ hlt hsti fun v h3 tk3 hv hst3 kI => ?_
    have kw3 : KeepW (· = I) h' h3 := fun b o n e => kI b o (by simpa using n) e
    have LA3 := next _ h3 hst3 kw3
    refine oE1_2 (hPv i v hlt hv) fun d hd rd => ?_
    refine oE2_3 (hcls (i + 1) h3 hst3) fun oI TI eI cI mI => ?_
    refine letOwned_sound (s := { s1 with heap := h3, toks := tk3 }) eI cI mI ?_
    have hdr : ds.drop i = d :: ds.drop (i + 1) := by
      obtain ⟨hl, e⟩ := List.getElem?_eq_some_iff.mp hd
      rw [← e]; exact List.drop_eq_getElem_cons hl
    rw [hdr, lg_cons] at hgo
    have rd3 : Rp P' C h3 v d := by
      have r1 : Rp (PN P (· = I)) C s1.heap v d := rp_PN (fun a z => by rw [z]; exact hI1) rd
      have r2 : Rp (PN P (· = I)) C h2 v d := r1.keeps kk
      have r3 : Rp P' C h2 v d := r2.mono LA3.sup
      refine r3.keepP (keepP_of_W LA3.kw fun b z => ⟨fun p => ?_, ?_⟩)
      · rcases z with z | z
        · exact S2.notOwn (LA3.sub b p) z
        · exact (LA3.sub b p).2 z
      · rcases z with z | z
        · exact S2.notVal z
        · rw [z]; exact nvI 0 h2 hst
    cases hset : setT tgt d sti with
    | none => simp only [F, hset] at hgo; cases hgo
    | some st1 =>
      refine assignS_sound (s := { s1 with heap := h3, toks := tk3 }) ok hr.handled c1 LA3.sr.fm rd3 hset fun h4 tk4 vs es fm4 kw4 hl4 ra4 hst4 => ?_
      obtain ⟨S4, V4⟩ := SR.puts nd ok LA3.sr c1 fm4 kw4 hl4 ra4 hst4
      have LA4 := LA3.step S4 V4
      have stay : ∀ hh, KeepW (Own env adr') h3 hh → St (i + 1) hh := fun hh kw => W.frame _ _ _ hst3 fun b hb' o e => kw b o (fun z => by
        rcases hfp b hb' with q | ⟨p, o', q⟩
        · exact nOI' (q ▸ z)
        · rcases hF b p with p | ⟨oc, ec⟩
          · have p2 : PN P (· = I) b := ⟨p, fun z => by rw [z, hI1] at q; cases q⟩
            exact LA3.sr.notOwn (LA3.sup b o' (kk _ _ q) p2) z
          · rw [LA3.sr.new b z] at ec; cases ec) e
      cases hbody : cxs Φ body st1 with
      | none => simp only [F, hset, hbody] at hgo; cases hgo
      | some y =>
        obtain ⟨st5, fl5⟩ := y
        cases fl5 with
        | next =>
          simp only [F, hset, hbody] at hgo
          refine hb hc P0 env bd st1 st5 .next A _ _ P' adr' _ _ c2 ok hr kp S4 hbody fun h5 tk5 P5 adr5 g5 S5 V5 => ?_
          exact ⟨ds.length - (i + 1), by exact om_28 hlt, i + 1, h5, tk5, st5, P5, adr5, g5, rfl, rfl, hlt, stay h5 (V4.trans V5).kw, LA4.step S5 V5, hgo⟩
        | ret dd =>
          simp only [F, hset, hbody] at hgo
          cases hgo
          refine hb hc P0 env bd st1 st' (.ret dd) A _ _ P' adr' _ _ c2 ok hr kp S4 hbody fun h5 tk5 v5 k5 r5 => ?_
          exact k h5 tk5 v5 k5 r5
  · have hin : i = ds.length := by exact om_31 hi hlt
    subst hin
    rw [List.drop_length, lg_nil] at hgo
    cases hgo
    refine W.done _ _ _ hsti fun h3 tk3 kI => wpAny_execs_nil ?_
    have kw3 : KeepW (· = I) h' h3 := fun b o n e => kI b o (by simpa using n) e
    have LAe : SR tb C P0 hc env h3 st' (fun a => P' a ∨ a = I) adr' g' := LA.sr.off2 kw3 nOI' nPI (S.sub I (S.up I hI1)) (nvI _ _ hsti) nCI
    refine oE1_2 LA.pre fun r hr' hr0 => ?_
    refine k h3 tk3 _ adr' g' LAe ⟨fun b o n e => ?_, fun a o e => ?_, ⟨r, hr', fun a ha => ?_⟩, fun a z => z.elim (fun z => (LA.sub a z).1) fun z => by rw [z]; exact S.up I hI1, fun a o e p => .inl (LA.sup a o (kk a o e) ⟨p, fun z => by rw [z, hI1] at e; cases e⟩)⟩
    · have hbI : b ≠ I := fun z => by rw [z, hI1] at e; cases e
      exact kw3 b o hbI (LA.kw b o (fun z => z.elim n hbI) (kk b o e))
    · have haI : a ≠ I := fun z => by rw [z, hI1] at e; cases e
      obtain ⟨o', e'⟩ := LA.live a o (kk a o e)
      exact ⟨o', kw3 a o' haI e'⟩
    · cases q : s1.heap.get? a with
      | none => rfl
      | some o => have := kk a o q; rw [hr0 a ha] at this; cases this
theorem for_core (nd : tb.Nodup) {hc : Heap} {P0 : Addr → Prop} {env : Env} {target : Expr} {bd : List Stmt} {tgt : Tgt} {body : List CS} {ds : List D} {st st' : St} {fl : Fl} {A : Around} {s1 s2 : Shared} {P : Addr → Prop} {adr : List Addr} {g : Str → Option Value} {I : Addr} {R : Result → Shared → Prop}
    (hb : SndSs prog w h0 C N Φ tb body) (c1 : chkTgt tb env.scope tgt target = true) (c2 : chkSs tb body env.scope bd = true) (ok : EnvOK env) (hr : Rm N A) (kp : Keep h0 hc) (S : SR tb C P0 hc env s1.heap st P adr g)
    (k12 : Keeps s1 s2) (it : IterP prog w A P C s1.heap s2.heap I ds) (hI1 : s1.heap.get? I = none) (hI2 : ∃ o, s2.heap.get? I = some o)
    (hx : loopG (fun d s => match setT tgt d s with | some s' => cxs Φ body s' | none => none) ds st = some (st', fl))
    (k : PostS tb C P0 hc env P adr s1 (fun f s' => R (.ok f) s') st' fl) : codeAny (model prog w) A (.forLoop target (.ref I) bd [] env) R s2 :=
  for_coreG nd hb c1 c2 ok hr kp S k12 (fun _ p => .inl p) it hI1 hI2 hx k
end
end Mine
end
section
open PySem PySem.W PyProof.Rows
set_option autoImplicit false
namespace Mine
section
variable {prog : Program} {w : World} {h0 : Heap} {C : Addr} {N : Nat} {Φ : Fns} {tb : List Str}
set_option tactic.hygienic true in
theorem sns_for (H : Hyp prog w h0 C N Φ) (nd : tb.Nodup) (ndot : (".0" : Str) ∉ tb) (tgt : Tgt) (it : CI) {body : List CS} (hb : SndSs prog w h0 C N Φ tb body) : SndS prog w h0 C N Φ tb (.for_ tgt it body) := by
  intro hc P0 env stmt st st' fl A E s P adr g Q hck ok hr kp S hx k
  refine oE5_2 (isFor_ hck) fun target iter bd orr pos eZ hckX1 => ?_; clear hck; subst eZ
  obtain ⟨eZ, hckX2⟩ := nul_ hckX1; clear hckX1; subst eZ
  simp only [Bool.and_eq_true] at hckX2
  refine oE0_2 hckX2 fun zq2 c4 => ?_; clear hckX2; refine oE0_2 zq2 fun zq3 c3 => ?_; clear zq2; refine oE0_2 zq3 fun c1 c2 => ?_; clear zq3
  simp only [qx_for] at hx
  refine wpAny_For ?_ (folded_pure c3)
  cases it with
  | ce e =>
    replace c2 : chk tb e env.scope iter = true := c2
    split at hx
    rotate_left
    · cases hx
    rename_i ds hds
    simp only at hds
    split at hds
    rotate_left
    · cases hds
    rename_i d hev
    refine ev_snd H nd ndot e env iter st.view _ A E s P _ c2 ok hr (kp.trans S.keep) S.up S.view hev fun v s1 k1 r1 => ?_
    cases k1 using keepsE; rename_i h1 tk1 kk
    have S1 := S.keeps kk
    have k1' := k.after (tk1 := tk1) (Ev.keep kk P adr)
    unfold itemsD at hds
    split at hds
    · cases hds
      cases (show Rp P C h1 v _ from r1) with
      | lst pa hl ra =>
        exact iterp_list (s := { s with heap := h1, toks := tk1 }) hr.handled pa hl ra fun s2 I k2 hit hn hs => for_core nd hb c1 c4 ok hr kp S1 k2 hit hn hs hx (by cases fl <;> exact k1')
    · cases hds
      obtain ⟨tk, rfl⟩ := r1.str
      exact iterp_str (s := { s with heap := h1, toks := tk1 }) (P := P) (C := C) hr.handled fun s2 I k2 hit hn hs => for_core nd hb c1 c4 ok hr kp S1 k2 hit hn hs hx (by cases fl <;> exact k1')
    · cases hds
  | rng es =>
    split at hx
    rotate_left
    · cases hx
    rename_i ds hds
    simp only at hds
    refine iterp_of_rng H nd ndot c2 ok hr (kp.trans S.keep) S.up S.view hds fun s1 s2 I k1 k2 hit hn hs => ?_
    cases k1 using keepsE; rename_i h1 tk1 kk
    exact for_core (s1 := { s with heap := h1, toks := tk1 }) nd hb c1 c4 ok hr kp (S.keeps kk) k2 hit hn hs hx (by
      have k1' := k.after (tk1 := tk1) (Ev.keep kk P adr)
      cases fl <;> exact k1')
end
end Mine
end
section
open PySem PySem.W PyProof.Rows
set_option autoImplicit false
namespace Mine
noncomputable def MutOK (prog : Program) (w : World) (h0 : Heap) (C : Addr) (N : Nat) (m : String) (F : Str → Str → List D → Option (List D × D)) : Prop :=
  ∃ f o fd, h0.get? f = some o ∧ o.data = .func fd ∧
    (∀ (A : Around) (E : Value → Shared → Prop) (s : Shared) (x dx l : Addr) (vs : List Value) (pl : Sem Bool) (Q : Value × List Value → Shared → Prop), Keep h0 s.heap → HdrAt C s.heap x dx l vs → Q (.ref f, [.ref x]) s →
      wpAny (model prog w) A (getMethod (.ref x) (Str.ofString m) pl) Q E s) ∧
    ∀ (A : Around) (E : Value → Shared → Prop) (s : Shared) (P : Addr → Prop) (x dx l : Addr) (vs : List Value) (ds es : List D) (d : D) (n v : Str) (tn tv : Tok) (Q : Value → Shared → Prop), Rm N A → Keep h0 s.heap → Up P s.heap → ¬ P l → P dx → HdrAt C s.heap x dx l vs → RpA P C s.heap vs ds →
      F n v ds = some (es, d) → (∀ h' tk vs' r, KeepW (· = l) s.heap h' → h'.PlainList l (List.toArray vs') → RpA P C h' vs' es → Rp P C h' r d → Q r { s with heap := h', toks := tk }) → wpAny (model prog w) A (call (.ref f) [.ref x, .str n tn, .str v tv]) Q E s
noncomputable def addF (n v : Str) (ds : List D) : Option (List D × D) := (addHdr (.str n) (.str v) ds).map (·, .none)
structure HdrHyp (prog : Program) (w : World) (h0 : Heap) (C : Addr) (N : Nat) (Φ : Fns) : Prop where
  cls : GlobalAt h0 (Str.ofString "Headers") (.ref C)
  callC : ∀ (A : Around) (E : Value → Shared → Prop) (s : Shared) (pos : Pos) (args : List (Bool × Sem Value)) (Q : Value → Shared → Prop), Keep h0 s.heap → args.any (·.1) = false →
    wpAny (model prog w) A (evalArgs (.ref C) true args []) (fun x s1 => Keep h0 s1.heap ∧ wpAny (model prog w) A (call (.ref C) x.pos x.kw) Q E s1) E s → wpAny (model prog w) A (callWith pos (.ref C) [] args []) Q E s
  new : ∀ (A : Around) (E : Value → Shared → Prop) (s : Shared) (a : Addr) (Q : Value → Shared → Prop), Rm N A → Keep h0 s.heap → s.heap.PlainList a #[] →
    (∀ x dx h' tk, Keep s.heap h' → s.heap.get? x = none → s.heap.get? dx = none → h'.get? x = some (instObj C dx) → DictHdr h' dx a → Q (.ref x) { s with heap := h', toks := tk }) → wpAny (model prog w) A (call (.ref C) [.ref a]) Q E s
  add : MutOK prog w h0 C N "add_header" addF
  del : ∀ (A : Around) (E : Value → Shared → Prop) (s : Shared) (P : Addr → Prop) (x dx l : Addr) (vs : List Value) (ds es : List D) (n : Str) (tn : Tok) (Q : Unit → Shared → Prop), Rm N A → Keep h0 s.heap → Up P s.heap → ¬ P l → P dx → HdrAt C s.heap x dx l vs → RpA P C s.heap vs ds →
      delHdr (.str n) ds = some es → (∀ h' tk vs', KeepW (· = l) s.heap h' → h'.PlainList l (List.toArray vs') → RpA P C h' vs' es → Q () { s with heap := h', toks := tk }) → wpAny (model prog w) A (delItem (.ref x) (.str n tn)) Q E s
section
variable {prog : Program} {w : World} {h0 : Heap} {C : Addr} {N : Nat} {Φ : Fns} {tb : List Str}
theorem hob_at {P0 : Addr → Prop} {hc h : Heap} {env : Env} {st : St} {P : Addr → Prop} {adr : List Addr} {g : Str → Option Value} {x k : Nat} {y : Str} (S : SR tb C P0 hc env h st P adr g) (hx : tb[x]? = some y) (hv : isVar env.scope y = true) (hs : st.ρ x = some (.hob k)) :
    ∃ a i dx, adr[k]? = some a ∧ g y = some (.ref i) ∧ P dx ∧ h.get? i = some (instObj C dx) ∧ DictHdr h dx a := S.vars x y _ hs hx hv
set_option tactic.hygienic true in
theorem mut_call {m : String} {F : Str → Str → List D → Option (List D × D)} (X : MutOK prog w h0 C N m F) (H : Hyp prog w h0 C N Φ) (nd : tb.Nodup) (ndot : (".0" : Str) ∉ tb) {hc : Heap} {P0 : Addr → Prop} {env : Env} {st : St} {x kx : Nat} {n v : CE} {e : Expr} {A : Around} {E : Value → Shared → Prop} {s : Shared} {P : Addr → Prop} {adr : List Addr} {g : Str → Option Value} {nn vv : Str} {ds es : List D} {d : D} {Q : Value → Shared → Prop}
    (hck : hdrCall tb env.scope m x n v e = true) (ok : EnvOK env) (hr : Rm N A) (kp : Keep h0 hc) (S : SR tb C P0 hc env s.heap st P adr g) (hst : st.ρ x = some (.hob kx)) (hev : e2 Φ st.view n v = some (.str nn, .str vv)) (hds : st.σ[kx]? = some ds) (hF : F nn vv ds = some (es, d))
    (k : ∀ h' tk r, SR tb C P0 hc env h' { st with σ := st.σ.set kx es } P adr g → Ev env s.heap h' P P adr adr → Rp P C h' r d → Q r { s with heap := h', toks := tk }) : wpAny (model prog w) A (eval e env) Q E s := by
  refine oE6_4 (hdrCall_ hck) fun y py apos a b cpos rq26 hline hk1 hk2 => ?_; subst rq26
  refine oE2_4 (nameAt_is hk1) fun y' p' q hy hv hok => ?_
  cases q
  refine oE3_5 (hob_at S hy hv hst) fun l i dx hl hga pdx hob hdh => ?_
  refine oE1_2 (S.lists kx l ds hl hds) fun vs hpl hra => ?_
  refine oE3_4 X fun f o fd hfo hdat hget hcall => ?_; clear X
  have hstar : ([a, b] : List Expr).all notStar = true := (chks_star _ _ hk2).1
  have hevs : ∃ t1 t2, evs Φ [n, v] st.view = some [(.str nn, t1), (.str vv, t2)] := by
    unfold e2 at hev
    split at hev
    · rename_i x1 x2 q1 q2
      obtain ⟨d1, t1⟩ := x1
      obtain ⟨d2, t2⟩ := x2
      cases hev
      exact ⟨t1, t2, by simp only [qs_nil, qs_cons, q1, q2]⟩
    · cases hev
  obtain ⟨t1, t2, hevs⟩ := hevs
  refine methcallG rfl hstar (Nat.lt_of_le_of_lt (Nat.le_refl 2) (by decide)) hline (Name_var ok hok (S.fm.var ok hga hv) fun pl => ?_)
  refine hget _ _ _ _ _ _ _ _ _ (kp.trans S.keep) ⟨hob, hdh, hpl⟩ ?_
  refine Calls.callWith_function (o := o) (fd := fd) (args_snd (evs_snd H nd ndot [n, v]).1 hk2 ok hr (kp.trans S.keep) S.up S.view hevs fun as s1 k1 r1 => ?_)
  cases k1 using keepsE; rename_i h1 tk1 kk
  refine ⟨⟨kk _ _ (kp.trans S.keep _ _ hfo), hdat⟩, ?_⟩
  refine oE2_3 (rpta2 r1) fun u1 u2 rq25 ru1 ru2 => ?_; subst rq25
  obtain ⟨tn, rfl⟩ := ru1.str
  obtain ⟨tv, rfl⟩ := ru2.str
  have S1 := S.keeps kk
  have nPl : ¬ P l := (S.notP l (List.mem_of_getElem? hl)).1
  refine hcall A E _ P i dx l vs ds es d nn vv tn tv Q hr (kp.trans S1.keep) S1.up nPl pdx ⟨kk _ _ hob, hdh.at fun o e => kk _ _ e, hpl.at fun o e => kk _ _ e⟩ (hra.keeps kk) hF fun h' tk vs' r kw hp' hr' rr => ?_
  obtain ⟨S', V'⟩ := S1.upd (ds := es) hl kw hp' hr'
  exact k h' tk r S' ((Ev.keep kk P adr).trans V') rr
set_option tactic.hygienic true in
theorem upd_some {st st2 : St} {k : Nat} {f : List D → Option (List D)} (h : st.upd k f = some st2) : ∃ ds es, st.σ[k]? = some ds ∧ f ds = some es ∧ st2 = { st with σ := st.σ.set k es } := by
  unfold St.upd at h
  split at h
  · rename_i ds q
    cases hf : f ds with
    | none => rw [hf] at h; cases h
    | some es => rw [hf] at h; cases h; exact ⟨ds, es, q, hf, rfl⟩
  · cases h
set_option tactic.hygienic true in
theorem addHdr_strs {a b : D} {ds es : List D} (h : addHdr a b ds = some es) : ∃ n v, a = .str n ∧ b = .str v := by
  unfold addHdr at h
  split at h
  · rename_i q
    rw [Bool.and_eq_true] at q
    unfold plainP at q
    split at q
    · exact ⟨_, _, rfl, rfl⟩
    · cases q.1
  · cases h
set_option tactic.hygienic true in
theorem sns_addH (X : HdrHyp prog w h0 C N Φ) (H : Hyp prog w h0 C N Φ) (nd : tb.Nodup) (ndot : (".0" : Str) ∉ tb) (x : Nat) (n v : CE) : SndS prog w h0 C N Φ tb (.addH x n v) := by
  intro hc P0 env stmt st st' fl A E s P adr g Q hck ok hr kp S hx k
  refine oE2_2 (isExprS_ hck) fun e pos eZ hckX1 => ?_; clear hck; subst eZ
  simp only [qx_addH] at hx
  split at hx
  rotate_left
  · cases hx
  rename_i kx p hst hev
  cases hu : st.upd kx (addHdr p.1 p.2) with
  | none => rw [hu] at hx; cases hx
  | some st2 =>
    rw [hu] at hx; cases hx
    refine oE2_3 (upd_some hu) fun ds es hds hF rq24 => ?_; subst rq24
    obtain ⟨p1, p2⟩ := p
    refine oE2_2 (addHdr_strs hF) fun nn vv rq22 rq23 => ?_; subst rq22; subst rq23
    have hswap : swapsWith e none pos.line env = pure false := by
      refine oE6_2 (hdrCall_ hckX1) fun _ _ _ _ _ _ rq21 _ => ?_; subst rq21
      rfl
    refine wpAny_Expr (mut_call X.add H nd ndot hckX1 ok hr kp S hst hev hds (F := addF) (es := es) (d := .none) (by unfold addF; rw [hF]; rfl) fun h' tk r S' V' rr => ?_) (interactive_not ok) hswap
    cases rr
    exact k h' tk P adr g S' V'
set_option tactic.hygienic true in
theorem sns_ifAddH (X : HdrHyp prog w h0 C N Φ) (H : Hyp prog w h0 C N Φ) (nd : tb.Nodup) (ndot : (".0" : Str) ∉ tb) (x : Nat) (n v : CE) (bb : List CS) : SndS prog w h0 C N Φ tb (.ifAddH x n v bb) := by
  intro hc P0 env stmt st st' fl A E s P adr g Q hck ok hr kp S hx k
  refine oE4_2 (isIf_ hck) fun t0 body orr pos eZ hckX1 => ?_; clear hck; subst eZ
  refine oE4_2 (isCmp1_ hckX1) fun e op0 c0 cp2 eZ hckX2 => ?_; clear hckX1; subst eZ
  refine oE3_2 (isConst_ hckX2) fun c1 kc cp1 eZ hckX3 => ?_; clear hckX2; subst eZ
  obtain ⟨eZ, hckX4⟩ := nul_ hckX3; clear hckX3; subst eZ
  simp only [Bool.and_eq_true, decide_eq_true_eq] at hckX4
  obtain ⟨⟨rfl, rfl⟩, hckX4⟩ := hckX4
  simp only [qx_ifAddH] at hx
  split at hx
  rotate_left
  · cases hx
  rename_i kx p hst hev
  cases hu : st.upd kx (addHdr p.1 p.2) with
  | none => rw [hu] at hx; cases hx
  | some st2 =>
    rw [hu] at hx; cases hx
    refine oE2_3 (upd_some hu) fun ds es hds hF rq19 => ?_; subst rq19
    obtain ⟨p1, p2⟩ := p
    refine oE2_2 (addHdr_strs hF) fun nn vv rq17 rq18 => ?_; subst rq17; subst rq18
    refine wpAny_If (wpAny_isTrue_Compare1 (mut_call X.add H nd ndot hckX4 ok hr kp S hst hev hds (F := addF) (es := es) (d := .none) (by unfold addF; rw [hF]; rfl) fun h' tk r S' V' rr => ?_) (by rfl))
    cases rr
    refine wpAny_Constant_none (wpAny_isNot_plain rfl (wpAny_truthy_bool ?_))
    rw [if_neg (by decide)]
    exact wpAny_execs_nil (k h' tk P adr g S' V')
theorem delHdr_str {a : D} {ds es : List D} (h : delHdr a ds = some es) : ∃ n, a = .str n := by
  unfold delHdr at h
  split at h
  · exact ⟨_, rfl⟩
  · cases h
set_option tactic.hygienic true in
theorem sns_delH (X : HdrHyp prog w h0 C N Φ) (H : Hyp prog w h0 C N Φ) (nd : tb.Nodup) (ndot : (".0" : Str) ∉ tb) (x : Nat) (n : CE) : SndS prog w h0 C N Φ tb (.delH x n) := by
  intro hc P0 env stmt st st' fl A E s P adr g Q hck ok hr kp S hx k
  refine oE2_2 (isDel_ hck) fun ts pos eZ hckX1 => ?_; clear hck; subst eZ
  refine oE1_2 (one_ hckX1) fun t0 eZ hckX2 => ?_; clear hckX1; subst eZ
  refine oE3_2 (isSub_ hckX2) fun o a sp eZ hckX3 => ?_; clear hckX2; subst eZ
  simp only [Bool.and_eq_true] at hckX3
  refine oE0_2 hckX3 fun zq10 c3 => ?_; clear hckX3; refine oE0_2 zq10 fun c1 c2 => ?_; clear zq10
  refine oE2_4 (nameAt_is c1) fun y p0 rq9 hy hv hok => ?_; subst rq9
  simp only [qx_delH] at hx
  split at hx
  rotate_left
  · cases hx
  rename_i kx r hst hev
  cases hu : st.upd kx (delHdr r.1) with
  | none => rw [hu] at hx; cases hx
  | some st2 =>
    rw [hu] at hx; cases hx
    refine oE2_3 (upd_some hu) fun ds es hds hF rq8 => ?_; subst rq8
    obtain ⟨d1, t1⟩ := r
    obtain ⟨nn, rfl⟩ := delHdr_str hF
    refine oE3_5 (hob_at S hy hv hst) fun l i dx hl hga pdx hob hdh => ?_
    refine oE1_2 (S.lists kx l ds hl hds) fun vs hpl hra => ?_
    have nPl : ¬ P l := (S.notP l (List.mem_of_getElem? hl)).1
    refine wpAny_Delete (wpAny_deleteEach_cons (wpAny_delete_Subscript (Name_var ok hok (S.fm.var ok hga hv) ?_)))
    refine ev_snd H nd ndot n env a st.view _ A E s P _ c2 ok hr (kp.trans S.keep) S.up S.view hev fun v1 s1 k1 r1 => ?_
    cases k1 using keepsE; rename_i h1 tk1 kk
    obtain ⟨tn, rfl⟩ := r1.str
    have S1 := S.keeps kk
    refine X.del A E _ P i dx l vs ds es nn tn _ hr (kp.trans S1.keep) S1.up nPl pdx ⟨kk _ _ hob, hdh.at fun o e => kk _ _ e, hpl.at fun o e => kk _ _ e⟩ (hra.keeps kk) hF fun h' tk vs' kw hp' hr' => wpAny_deleteEach_nil ?_
    obtain ⟨S', V'⟩ := S1.upd (ds := es) hl kw hp' hr'
    exact k h' tk P adr g S' ((Ev.keep kk P adr).trans V')
end
end Mine
end
section
open PySem PySem.W PyProof.Rows
set_option autoImplicit false
namespace Mine
section
variable {prog : Program} {w : World} {h0 : Heap} {C : Addr} {N : Nat} {Φ : Fns} {tb : List Str}
set_option tactic.hygienic true in
theorem sns_newH (X : HdrHyp prog w h0 C N Φ) (nd : tb.Nodup) (x : Nat) (z : Option Nat) : SndS prog w h0 C N Φ tb (.newH x z) := by
  intro hc P0 env stmt st st' fl A E s P adr g Q hck ok hr kp S hx k
  have own1 : ∀ D0 : Addr, (adr ++ [D0])[st.σ.length]? = some D0 := fun D0 => by
    rw [← S.len, List.getElem?_append_right (Nat.le_refl _), Nat.sub_self]; rfl
  cases z with
  | none =>
    refine oE4_2 (isAsgN_ hck) fun y p v0 pos eZ hk1 => ?_; clear hck; subst eZ
    refine oE3_3 (call1_ hk1) fun ge a0 cp rq6 hg hk2 => ?_; subst rq6
    have hk3 := and_ hk2
    obtain ⟨hy, ht⟩ := tgtAt_is hk3.1
    refine oE2_2 (isList_ hk3.2) fun es0 lp rq5 hk4 => ?_; subst rq5
    obtain ⟨eZ, _⟩ := nul_ hk4; clear hk4; subst eZ
    refine oE1_3 (isG_name hg) fun gp rq4 g1 g2 => ?_; subst rq4
    simp only [qx_newH0] at hx
    cases hx
    refine wpAny_Assign_Name (wpAny_Call_NameR (Name_glob ok g2 g1 X.cls (kp.trans S.keep) ?_)) (by rfl)
    refine X.callC A E s cp _ _ (kp.trans S.keep) rfl (Calls.evalArgs_plain (Calls.spliced_cons (wpAny_List (Calls.spliced_nil ⟨Nat.zero_le _, Calls.spliced_nil ?_⟩))))
    have kk : Keep s.heap (s.heap.push { cls := .type "list", data := .seq ([] : List Value).toArray }) := Keep.push _ _
    have hself := Heap.get?_push_size s.heap (o := { cls := .type "list", data := .seq ([] : List Value).toArray }) rfl
    refine ⟨(kp.trans S.keep).trans kk, ?_⟩
    refine X.new A E _ s.heap.objs.size _ hr ((kp.trans S.keep).trans kk) ⟨0, hself⟩ fun i dx h' tk k2 hi hdx hob hdh => ?_
    have k3 : Keep s.heap h' := kk.trans k2
    have none0 : ∀ a, (s.heap.push { cls := .type "list", data := .seq ([] : List Value).toArray }).get? a = none → s.heap.get? a = none := fun a q => by
      cases z : s.heap.get? a with
      | none => rfl
      | some o => rw [kk _ _ z] at q; cases q
    have hp : h'.PlainList s.heap.objs.size ([] : List Value).toArray := ⟨0, k2 _ _ hself⟩
    obtain ⟨S1, V1⟩ := S.addOwnN k3 (D0 := s.heap.objs.size) (N := (· = s.heap.objs.size)) (ds := []) rfl (fun a z => by rw [z]; exact get_size_none _) (fun a z => by rw [z]; obtain ⟨n, e⟩ := hp; exact ⟨_, e⟩) hp .nil
    have hne : dx ≠ s.heap.objs.size := fun z => by rw [z, hself] at hdx; cases hdx
    exact do_store (s := { s with heap := h', toks := tk }) (sl := .hob st.σ.length) nd ok S1 hy ht ⟨_, i, dx, own1 _, rfl, ⟨S.up _ (none0 _ hdx), hne⟩, hob, hdh⟩ fun h2 tk2 g' S' V' => k h2 tk2 _ _ g' S' (V1.trans V')
  | some z =>
    refine oE4_2 (isAsgN_ hck) fun y p v0 pos eZ hk1 => ?_; clear hck; subst eZ
    refine oE3_3 (call1_ hk1) fun ge a0 cp rq3 hg hk2 => ?_; subst rq3
    have hk3 := and_ hk2
    obtain ⟨hy, ht⟩ := tgtAt_is hk3.1
    refine oE2_4 (nameAt_is hk3.2) fun u up0 rq2 hu hv hok => ?_; subst rq2
    refine oE1_3 (isG_name hg) fun gp rq1 g1 g2 => ?_; subst rq1
    simp only [qx_newH1] at hx
    split at hx
    rotate_left
    · cases hx
    rename_i kx hst
    split at hx
    rotate_left
    · cases hx
    rename_i hem
    cases hx
    have hds : st.σ[kx]? = some [] := by
      cases q : st.σ[kx]? with
      | none => rw [q] at hem; cases hem
      | some l =>
        cases l with
        | nil => rfl
        | cons _ _ => rw [q] at hem; cases hem
    refine oE1_2 (own_at S hu hv hst) fun a ha hga => ?_
    refine oE1_2 (S.lists kx a [] ha hds) fun vs hpl hra => ?_
    cases hra
    refine wpAny_Assign_Name (wpAny_Call_NameR (Name_glob ok g2 g1 X.cls (kp.trans S.keep) ?_)) (by rfl)
    refine X.callC A E s cp _ _ (kp.trans S.keep) rfl (Calls.evalArgs_plain (Calls.spliced_cons (Name_var ok hok (S.fm.var ok hga hv) (Calls.spliced_nil ?_))))
    refine ⟨kp.trans S.keep, ?_⟩
    refine X.new A E _ a _ hr (kp.trans S.keep) hpl fun i dx h' tk k2 hi hdx hob hdh => ?_
    exact do_store (s := { s with heap := h', toks := tk }) (sl := .hob kx) nd ok (S.keeps k2) hy ht ⟨_, i, dx, ha, rfl, S.up _ hdx, hob, hdh⟩ fun h2 tk2 g' S' V' => k h2 tk2 _ _ g' S' ((Ev.keep k2 P adr).trans V')
set_option tactic.hygienic true
mutual
theorem cx_snd (X : HdrHyp prog w h0 C N Φ) (H : Hyp prog w h0 C N Φ) (nd : tb.Nodup) (ndot : (".0" : Str) ∉ tb) : ∀ c : CS, SndS prog w h0 C N Φ tb c
  | .asg x e => sns_asg H nd ndot x e
  | .asgM xs e => sns_asgM H nd ndot xs e
  | .own x e => sns_own H nd ndot x e
  | .app x e => sns_app H nd ndot x e
  | .ext x e => sns_ext H nd ndot x e
  | .aug x e => sns_aug H nd ndot x e
  | .newH x z => sns_newH X nd x z
  | .addH x n v => sns_addH X H nd ndot x n v
  | .delH x n => sns_delH X H nd ndot x n
  | .ifAddH x n v b => sns_ifAddH X H nd ndot x n v b
  | .ite t a b => sns_ite H nd ndot (cxs_snd X H nd ndot a) (cxs_snd X H nd ndot b)
  | .for_ tgt it body => sns_for H nd ndot tgt it (cxs_snd X H nd ndot body)
  | .ret e => sns_ret H nd ndot e
theorem cxs_snd (X : HdrHyp prog w h0 C N Φ) (H : Hyp prog w h0 C N Φ) (nd : tb.Nodup) (ndot : (".0" : Str) ∉ tb) : ∀ cs : List CS, SndSs prog w h0 C N Φ tb cs
  | [] => snss_nil
  | c :: cs => snss_cons (cx_snd X H nd ndot c) (cxs_snd X H nd ndot cs)
end
set_option tactic.hygienic false
end
end Mine
end
section
open PySem PySem.W PyProof.Rows
set_option autoImplicit false
namespace Mine
noncomputable def startSt (ps : List Nat) (ds : List D) : St := { ρ := fun i => ((ps.zip ds).lookup i).map Slot.val, σ := [] }
noncomputable def runF (Φ : Fns) (ps : List Nat) (cs : List CS) (ds : List D) : Option D :=
  if ps.length = ds.length then (match cxs Φ cs (startSt ps ds) with
    | some (_, .ret d) => some d
    | _ => none) else none
noncomputable def defScope (sc : Scope) : Bool :=
  decide (sc.kind = .function) && (sc.names.all fun x => decide (sc.names.lookup x.1 = some x.2) && match x.2 with | .free => false | _ => true) && decide (sc.names.map (·.1)).Nodup && (sc.isCoroutine == false) && (sc.isGenerator == false)
noncomputable def paramKinds (sc : Scope) (pn : List Str) : Bool := pn.all fun x => match sc.names.lookup x with
  | some .local | some .cell => true
  | _ => false
theorem bindLC {kindOf : Str → Option NameKind} : ∀ (pn : List Str) (vs : List Value) (m cm : Str → Option Value), pn.Nodup → pn.length = vs.length → ∀ x, 
    (kindOf x = some .local → bindL kindOf (pn.zip vs) m x = (match (pn.zip vs).lookup x with | some v => some v | none => m x)) ∧
    (kindOf x ≠ some .local → bindC kindOf (pn.zip vs) cm x = (match (pn.zip vs).lookup x with | some v => some v | none => cm x))
  | [], vs, m, cm, _, _, x => by simp [bindL, bindC]
  | p :: pn, [], _, _, _, l, _ => by cases l
  | p :: pn, v :: vs, m, cm, nd, l, x => by
    have ih := bindLC (kindOf := kindOf) pn vs (if kindOf p = some .local then fun y => if y = p then some v else m y else m) (if kindOf p = some .local then cm else fun y => if y = p then some v else cm y) (List.nodup_cons.mp nd).2 (by simpa using l) x
    have hno : (pn.zip vs).lookup p = none := by
      cases q : (pn.zip vs).lookup p with
      | none => rfl
      | some u =>
        have := mem_of_lookup q
        exact absurd (List.of_mem_zip this).1 (List.nodup_cons.mp nd).1
    refine ⟨fun hk => ?_, fun hk => ?_⟩
    · show bindL kindOf (pn.zip vs) _ x = _
      rw [ih.1 hk, List.zip_cons_cons, List.lookup_cons]
      by_cases hx : x = p
      · subst hx
        rw [hno, beq_self_eq_true]
        simp [hk]
      · have hb : (x == p) = false := beq_eq_false_iff_ne.mpr hx
        rw [hb]
        cases (pn.zip vs).lookup x with
        | some u => rfl
        | none =>
          simp only
          split <;> simp [hx]
    · show bindC kindOf (pn.zip vs) _ x = _
      rw [ih.2 hk, List.zip_cons_cons, List.lookup_cons]
      by_cases hx : x = p
      · subst hx
        rw [hno, beq_self_eq_true]
        simp [hk]
      · have hb : (x == p) = false := beq_eq_false_iff_ne.mpr hx
        rw [hb]
        cases (pn.zip vs).lookup x with
        | some u => rfl
        | none =>
          simp only
          split <;> simp [hx]
set_option tactic.hygienic true in
theorem zip_look {tb : List Str} (nd : tb.Nodup) {P : Addr → Prop} {C : Addr} {h : Heap} : ∀ (ps : List Nat) (pn : List Str) (vs : List Value) (ds : List D), ps.map (tb[·]?) = pn.map some → RpA P C h vs ds → ps.length = ds.length → ∀ i x d, tb[i]? = some x → (ps.zip ds).lookup i = some d →
    ∃ v, (pn.zip vs).lookup x = some v ∧ Rp P C h v d
  | [], _, _, _, _, _, _, i, x, d, _, e => by simp at e
  | p :: ps, [], _, _, hp, _, _, _, _, _, _, _ => by cases hp
  | p :: ps, n :: pn, vs, ds, hp, r, l, i, x, d, hx, e => by
    cases r with
    | nil => cases l
    | cons r1 r2 =>
      rename_i v vs d' ds'
      rw [List.map_cons, List.map_cons, List.cons.injEq] at hp
      rw [List.zip_cons_cons, List.lookup_cons] at e
      rw [List.zip_cons_cons, List.lookup_cons]
      by_cases hi : i = p
      · subst hi
        rw [beq_self_eq_true] at e
        cases e
        rw [hx] at hp
        cases hp.1
        rw [beq_self_eq_true]
        exact ⟨v, rfl, r1⟩
      · rw [beq_eq_false_iff_ne.mpr hi] at e
        have hne : ¬ x = n := fun q => hi (tb_inj nd hx (q ▸ hp.1))
        rw [beq_eq_false_iff_ne.mpr hne]
        exact zip_look nd ps pn vs ds' hp.2 r2 (by simpa using l) i x d hx e
section
variable {prog : Program} {w : World} {h0 : Heap} {C : Addr} {N : Nat} {Φ : Fns} {tb : List Str}
set_option tactic.hygienic true in
theorem fn_sound (X : HdrHyp prog w h0 C N Φ) (H : Hyp prog w h0 C N Φ) (nd : tb.Nodup) (ndot : (".0" : Str) ∉ tb) {cs : List CS} {ps : List Nat} {pn : List Str} {f : String} {a : Addr} {o : Obj} {fd : FuncData} {body : List Stmt}
    (ga : GlobalAt h0 (Str.ofString f) (.ref a)) (ho : h0.get? a = some o) (hd : o.data = .func fd) (hcd : h0.CodeRec fd.code fd.qualname) (hbody : fd.body = .stmts body) (hclo : fd.closure = []) (hglob : fd.globals = mainGlobals) (hblt : fd.builtins = builtinsNs)
    (hsc : defScope fd.scope = true) (hbind : ∀ vals : List Value, vals.length = pn.length → bindArgs fd ⟨vals, []⟩ = pure (pn.zip vals)) (hps : ps.map (tb[·]?) = pn.map some) (hpn : pn.Nodup) (hk : paramKinds fd.scope pn = true)
    (hck : chkSs tb cs fd.scope body = true) : FnOK prog w h0 C (N + 1) f (runF Φ ps cs) := by
  refine ⟨a, o, fd, ga, ho, hd, fun A E s P0 vs ds d Q hr kp up ra hF k => ?_⟩
  unfold runF at hF
  split at hF
  rotate_left
  · cases hF
  rename_i hlen
  split at hF
  rotate_left
  · cases hF
  rename_i stE d' hrun
  cases hF
  unfold defScope at hsc; rw [Bool.and_eq_true, Bool.and_eq_true, Bool.and_eq_true, Bool.and_eq_true, decide_eq_true_eq, decide_eq_true_eq, beq_iff_eq, beq_iff_eq] at hsc
  refine oE0_2 hsc fun zq2 hgen => ?_; clear hsc; refine oE0_2 zq2 fun zq3 hco => ?_; clear zq2; refine oE0_2 zq3 fun zq4 hnd => ?_; clear zq3; refine oE0_2 zq4 fun hkind hnames => ?_; clear zq4
  have hlook : ∀ x k, (x, k) ∈ fd.scope.names → fd.scope.names.lookup x = some k ∧ k ≠ .free := fun x k hm => by
    have := List.all_eq_true.mp hnames (x, k) hm
    rw [Bool.and_eq_true] at this
    refine ⟨of_decide_eq_true this.1, ?_⟩
    rintro rfl
    cases this.2
  have hpl : ps.length = pn.length := by
    have := congrArg List.length hps
    simpa using this
  have hvl : vs.length = pn.length := by rw [ra.length, ← hlen, hpl]
  have cellsOf : ∀ x c, (cellsFrom (s.heap.objs.size + 1) fd.scope.names []).lookup x = some c → fd.scope.names.lookup x = some .cell := fun x c e => (hlook x _ (cellsFrom_mem _ _ _ _ (mem_of_lookup e)).2).1
  have hpk : ∀ x ∈ pn.zip vs, fd.scope.names.lookup x.1 = some .local ∨ (fd.scope.names.lookup x.1 = some .cell ∧ ((cellsFrom (s.heap.objs.size + 1) fd.scope.names []).lookup x.1).isSome = true) := fun x hx => by
    have := List.all_eq_true.mp hk x.1 (List.of_mem_zip hx).1
    split at this
    · rename_i q; exact .inl q
    · rename_i q
      obtain ⟨c, e⟩ := cellsFrom_has fd.scope.names (s.heap.objs.size + 1) x.1 (mem_of_lookup q)
      exact .inr ⟨q, by rw [e]; rfl⟩
    · cases this
  have hr1 : Rm N A := hr.mono (Nat.le_succ N)
  refine wpAny_call (codeAny_call_cells (by have := hr.depth; exact om_44 this) (kp _ _ ho) hd (H.nolimit.keeps kp) (hcd.keeps kp) hbody (hbind vs hvl) hclo hpk (fun s₁ x => ?_) hco hgen hkind)
  refine oE2_1 x.toInCall.same fun h1 tk1 rq1 => ?_; subst rq1
  have kk : Keep s.heap h1 := x.toInCall.keep
  generalize henv : callEnvC fd s.heap.objs.size a = env at x
  have e1 : env.scope = fd.scope := by rw [← henv]; rfl
  have e2 : env.locals = s.heap.objs.size := by rw [← henv]; rfl
  have e3 : env.cells = cellsFrom (s.heap.objs.size + 1) fd.scope.names [] := by rw [← henv]; rfl
  have e4 : env.globals = mainGlobals := by rw [← henv]; exact hglob
  have e5 : env.builtins = builtinsNs := by rw [← henv]; exact hblt
  have ek : ∀ y, env.kindOf y = fd.scope.names.lookup y := fun y => by rw [← henv]; rfl
  have ok : EnvOK env := by
    refine ⟨by rw [e1]; exact hkind, e4, e5, fun y hy => ?_, fun y z c hy hz => ?_⟩
    · rw [ek] at hy
      rcases hy with hy | hy
      · rw [e3]; exact cellsFrom_has fd.scope.names _ y (mem_of_lookup hy)
      · exact absurd rfl (hlook y _ (mem_of_lookup hy)).2
    · refine name_of_addr x.apart (mem_of_lookup hy) (mem_of_lookup hz)
  let g : Str → Option Value := fun y => (pn.zip vs).lookup y
  have fm : Fm env h1 g := by
    refine ⟨⟨_, x.toInCall.ns, fun y hy => ?_⟩, fun y c hc hyk => ?_⟩
    · rw [(bindLC (kindOf := env.kindOf) pn vs _ (fun _ => none) hpn hvl.symm y).1 hy]
      show _ = (pn.zip vs).lookup y
      cases (pn.zip vs).lookup y <;> rfl
    · have := x.cell y c hc
      have hnl : env.kindOf y ≠ some .local := by
        rcases hyk with q | q <;> rw [q] <;> simp
      rw [(bindLC (kindOf := env.kindOf) pn vs (fun _ => none) (fun _ => none) hpn hvl.symm y).2 hnl] at this
      have e9 : (match (pn.zip vs).lookup y with | some v => some v | none => none) = g y := by
        show _ = (pn.zip vs).lookup y
        cases (pn.zip vs).lookup y <;> rfl
      rw [e9] at this
      exact this
  have newOf : ∀ b, Own env [] b → s.heap.get? b = none := fun b hb => by
    cases q : s.heap.get? b with
    | none => rfl
    | some oo =>
      have hlt := Heap.lt_size q
      exfalso
      rcases hb with z | ⟨y, z⟩ | z
      · rw [z, e2] at hlt; exact absurd hlt (Nat.lt_irrefl _)
      · rw [e3] at z
        have := (cellsFrom_mem _ _ _ _ (mem_of_lookup z)).1
        exact absurd hlt (Nat.not_lt.mpr (by exact om_27 this))
      · cases z
  have S : SR tb C P0 s.heap env h1 (startSt ps ds) (fun b => P0 b ∧ ¬ Own env [] b) [] g := by
    refine ⟨fm, kk, fun b e => ⟨(up.keep kk) b e, fun z => ?_⟩, fun b p => p.1, fun p => p.2 (.inl rfl), fun y c e => ⟨.inl ?_, fun p => p.2 (.inr (.inl ⟨y, e⟩))⟩, newOf, rfl, .nil, (fun b z => by cases z), (fun i b es hb => by cases hb), fun i y sl hi hy hv => ?_⟩
    · rcases z with z | ⟨y, z⟩ | z
      · refine oE3_2 x.toInCall.ns fun oo es ep q _ => ?_
        rw [z] at e; rw [show h1.get? env.locals = _ from q] at e; cases e
      · refine oE1_2 (x.cell y b z) fun oo q _ => ?_
        rw [show h1.get? b = _ from q] at e; cases e
      · cases z
    · rw [ek]; exact cellsOf y c (e3 ▸ e)
    · have hi' : ((ps.zip ds).lookup i).map Slot.val = some sl := hi
      cases q : (ps.zip ds).lookup i with
      | none => rw [q] at hi'; cases hi'
      | some dd =>
        rw [q] at hi'; cases hi'
        refine oE1_2 (zip_look nd ps pn vs ds hps ra hlen i y dd hy q) fun v hv1 hv2 => ?_
        exact ⟨v, hv1, (hv2.mono fun b oo e p => ⟨p, fun z => by rw [newOf b z] at e; cases e⟩).keeps kk⟩
  refine cxs_snd X H nd ndot cs s.heap P0 env body (startSt ps ds) stE (.ret d) (A.deeper env) _ { s with heap := h1, toks := tk1 } _ [] g _ (by rw [e1]; exact hck) ok (hr.deeper env) kp S hrun fun h' tk v kc rv => ?_
  exact k v _ ⟨h', tk, rfl, kc⟩ rv
end
end Mine
end
section
open PySem PySem.W PyProof.Rows
set_option autoImplicit false
namespace Mine
noncomputable def fdAt (K : Frag) (f : Addr) : Option FuncData := match K.lookup f with
  | some ⟨_, _, .func fd, _⟩ => some fd
  | _ => none
set_option tactic.hygienic true in
theorem fdAt_is {K : Frag} {f : Addr} {fd : FuncData} (h : fdAt K f = some fd) : ∃ o, K.lookup f = some o ∧ o.data = .func fd := by
  unfold fdAt at h
  split at h
  · rename_i q; cases h; exact ⟨_, q, rfl⟩
  · cases h
noncomputable def fnFacts (tb : List Str) (cs : List CS) (ps : List Nat) (pn : List Str) (fd : FuncData) : Bool :=
  decide tb.Nodup && decide ((".0" : Str) ∉ tb) && (match fd.body with | .stmts b => chkSs tb cs fd.scope b | _ => false) && fd.closure.isEmpty && decide (fd.globals = mainGlobals) && decide (fd.builtins = builtinsNs) &&
  defScope fd.scope && decide (ps.map (tb[·]?) = pn.map some) && decide pn.Nodup && paramKinds fd.scope pn
set_option tactic.hygienic true in
theorem fn_K {prog : Program} {w : World} {h0 : Heap} {C : Addr} {N : Nat} {Φ : Fns} {K : Frag} {mg mb : Str → Option Value} (KX : K.In h0) (G : h0.Ns mainGlobals mg) (B : h0.Ns builtinsNs mb) (X : HdrHyp prog w h0 C N Φ) (H : Hyp prog w h0 C N Φ)
    {tb : List Str} {cs : List CS} {ps : List Nat} {pn : List Str} {f : String} {a : Addr} {fd : FuncData} (hg : nsIn K mainGlobals (Str.ofString f) = some (some (.ref a))) (hfd : fdAt K a = some fd) (hcode : codeIn K fd.code fd.qualname = true)
    (hf : fnFacts tb cs ps pn fd = true) (hbind : ∀ vals : List Value, vals.length = pn.length → bindArgs fd ⟨vals, []⟩ = pure (pn.zip vals)) : FnOK prog w h0 C (N + 1) f (runF Φ ps cs) := by
  refine oE1_2 (fdAt_is hfd) fun o ho hd => ?_
  simp only [fnFacts, Bool.and_eq_true, decide_eq_true_eq] at hf
  refine oE0_2 hf fun zq1 f10 => ?_; clear hf; refine oE0_2 zq1 fun zq2 f9 => ?_; clear zq1; refine oE0_2 zq2 fun zq3 f8 => ?_; clear zq2; refine oE0_2 zq3 fun zq4 f7 => ?_; clear zq3; refine oE0_2 zq4 fun zq5 f6 => ?_; clear zq4; refine oE0_2 zq5 fun zq6 f5 => ?_; clear zq5; refine oE0_2 zq6 fun zq7 f4 => ?_; clear zq6; refine oE0_2 zq7 fun zq8 f3 => ?_; clear zq7; refine oE0_2 zq8 fun f1 f2 => ?_; clear zq8
  split at f3
  · rename_i b hb
    exact fn_sound X H f1 f2 ⟨mg, mb, G, B, .inl (mg_of KX G hg)⟩ (KX _ _ ho) hd (codeRec_of KX hcode) hb (List.isEmpty_iff.mp f4) f5 f6 f7 hbind f8 f9 f10 f3
  · cases f3
theorem FnOK.up {prog : Program} {w : World} {h0 : Heap} {C : Addr} {N M : Nat} {f : String} {F : List D → Option D} (x : FnOK prog w h0 C N f F) (h : N ≤ M) : FnOK prog w h0 C M f F := by
  refine oE3_4 x fun a o fd h1 h2 h3 k => ?_; clear x
  exact ⟨a, o, fd, h1, h2, h3, fun A E s P vs ds d Q hr => k A E s P vs ds d Q (hr.mono h)⟩
theorem MethOK.up {prog : Program} {w : World} {h0 : Heap} {C : Addr} {N M : Nat} {m : HM} (x : MethOK prog w h0 C N m) (h : N ≤ M) : MethOK prog w h0 C M m := by
  refine oE3_4 x fun f o fd h1 h2 h3 k => ?_; clear x
  exact ⟨f, o, fd, h1, h2, h3, fun A E s P x dx l vs as ds es d Q hr => k A E s P x dx l vs as ds es d Q (hr.mono h)⟩
theorem MutOK.up {prog : Program} {w : World} {h0 : Heap} {C : Addr} {N M : Nat} {m : String} {F : Str → Str → List D → Option (List D × D)} (x : MutOK prog w h0 C N m F) (h : N ≤ M) : MutOK prog w h0 C M m F := by
  refine oE3_4 x fun f o fd h1 h2 h3 k => ?_; clear x
  exact ⟨f, o, fd, h1, h2, h3, fun A E s P x dx l vs ds es d n v tn tv Q hr => k A E s P x dx l vs ds es d n v tn tv Q (hr.mono h)⟩
theorem HdrHyp.up {prog : Program} {w : World} {h0 : Heap} {C : Addr} {N M : Nat} {Φ : Fns} (x : HdrHyp prog w h0 C N Φ) (h : N ≤ M) : HdrHyp prog w h0 C M Φ where
  cls := x.cls
  callC := x.callC
  new := fun A E s a Q hr => x.new A E s a Q (hr.mono h)
  add := x.add.up h
  del := fun A E s P y dx l vs ds es n tn Q hr => x.del A E s P y dx l vs ds es n tn Q (hr.mono h)
theorem ConvOK.up {prog : Program} {w : World} {h0 : Heap} {C : Addr} {N M : Nat} (x : ConvOK prog w h0 C N) (h : N ≤ M) : ConvOK prog w h0 C M := by
  refine oE3_4 x fun f o fd h1 h2 h3 k => ?_; clear x
  exact ⟨f, o, fd, h1, h2, h3, fun A E s y v tv b Q hr => k A E s y v tv b Q (hr.mono h)⟩
theorem Hyp.up {prog : Program} {w : World} {h0 : Heap} {C : Addr} {N M : Nat} {Φ : Fns} (x : Hyp prog w h0 C N Φ) (h : N ≤ M) : Hyp prog w h0 C M Φ :=
  { x with
    fns := fun f F e n => (x.fns f F e n).up h
    meths := fun m F e => (x.meths m F e).up h
    conv := x.conv.up h
    sortP := fun g A E s P v ds d t Q hr => x.sortP g A E s P v ds d t Q (hr.mono h)
    sortSet := fun g A E s P v ds d t Q hr => x.sortSet g A E s P v ds d t Q (hr.mono h) }
noncomputable def Fns.set (Φ : Fns) (f : String) (F : List D → Option D) : Fns := fun g => if g = f then some F else Φ g
theorem HdrHyp.set' {prog : Program} {w : World} {h0 : Heap} {C : Addr} {N : Nat} {Φ : Fns} (x : HdrHyp prog w h0 C N Φ) {f : String} {F : List D → Option D} (hf : f ≠ ".setdefault") : HdrHyp prog w h0 C N (Φ.set f F) :=
  ⟨x.cls, x.callC, x.new, x.add, x.del⟩
set_option tactic.hygienic true in
theorem Hyp.add {prog : Program} {w : World} {h0 : Heap} {C : Addr} {N : Nat} {Φ : Fns} (x : Hyp prog w h0 C N Φ) {f : String} {F : List D → Option D} (k : FnOK prog w h0 C N f F) (hf : f ∉ hmKeys) : Hyp prog w h0 C N (Φ.set f F) := by
  have q : ∀ g G, Φ.set f F g = some G → g ∉ hmKeys → FnOK prog w h0 C N g G := by
    intro g G e n
    unfold Fns.set at e
    split at e
    · rename_i q
      cases e
      rw [q]
      exact k
    · exact x.fns g G e n
  have q2 : ∀ m G, Φ.set f F (hmKey m) = some G → MethOK prog w h0 C N m := by
    intro m G e
    unfold Fns.set at e
    split at e
    · rename_i q
      exact absurd (by rw [← q]; cases m <;> decide) hf
    · exact x.meths m G e
  exact { x with fns := q, meths := q2, sortP := fun g => x.sortP (by unfold Fns.set at g; rw [if_neg (show ¬ (".sortedP" = f) from fun q => hf (by rw [← q]; decide))] at g; exact g), sortSet := fun g => x.sortSet (by unfold Fns.set at g; rw [if_neg (show ¬ (".sortedSet" = f) from fun q => hf (by rw [← q]; decide))] at g; exact g) }
set_option tactic.hygienic true in
theorem Hyp.addM {prog : Program} {w : World} {h0 : Heap} {C : Addr} {N : Nat} {Φ : Fns} (x : Hyp prog w h0 C N Φ) {m : HM} (k : MethOK prog w h0 C N m) (F : List D → Option D) : Hyp prog w h0 C N (Φ.set (hmKey m) F) := by
  have q : ∀ g G, Φ.set (hmKey m) F g = some G → g ∉ hmKeys → FnOK prog w h0 C N g G := by
    intro g G e n
    unfold Fns.set at e
    split at e
    · rename_i q
      exact absurd (by rw [q]; cases m <;> decide) n
    · exact x.fns g G e n
  have q2 : ∀ m' G, Φ.set (hmKey m) F (hmKey m') = some G → MethOK prog w h0 C N m' := by
    intro m' G e
    unfold Fns.set at e
    split at e
    · rename_i q
      have : m' = m := by cases m <;> cases m' <;> first | rfl | (exact absurd q (by decide))
      rw [this]; exact k
    · exact x.meths m' G e
  exact { x with fns := q, meths := q2, sortP := fun g => x.sortP (by unfold Fns.set at g; rw [if_neg (show ¬ (".sortedP" = hmKey m) from by cases m <;> decide)] at g; exact g), sortSet := fun g => x.sortSet (by unfold Fns.set at g; rw [if_neg (show ¬ (".sortedSet" = hmKey m) from by cases m <;> decide)] at g; exact g) }
end Mine
end
section
open PySem PySem.W PyProof.Rows
set_option autoImplicit false
namespace Mine
noncomputable def startS (ps : List Nat) (sls : List Slot) : St := { ρ := fun i => (ps.zip sls).lookup i, σ := [] }
noncomputable def ArgS (P : Addr → Prop) (C : Addr) (h : Heap) (v : Value) : Slot → Prop
  | .val d => Rp P C h v d
  | .raw d a => v = .ref a ∧ RpT true P C h v d
  | _ => False
inductive ArgsS (P : Addr → Prop) (C : Addr) (h : Heap) : List Value → List Slot → Prop
  | nil : ArgsS P C h [] []
  | cons {v : Value} {vs : List Value} {d : Slot} {ds : List Slot} : ArgS P C h v d → ArgsS P C h vs ds → ArgsS P C h (v :: vs) (d :: ds)
theorem ArgsS.length {P : Addr → Prop} {C : Addr} {h : Heap} {vs : List Value} {ds : List Slot} (r : ArgsS P C h vs ds) : vs.length = ds.length := by
  induction r with
  | nil => rfl
  | cons _ _ ih => rw [List.length_cons, List.length_cons, ih]
theorem RpA.argsS {P : Addr → Prop} {C : Addr} {h : Heap} : ∀ {vs : List Value} {ds : List D}, RpA P C h vs ds → ArgsS P C h vs (ds.map Slot.val)
  | _, _, .nil => .nil
  | _, _, .cons a r => .cons a (RpA.argsS r)
set_option tactic.hygienic true in
theorem zip_lookS {tb : List Str} (nd : tb.Nodup) {P : Addr → Prop} {C : Addr} {h : Heap} : ∀ (ps : List Nat) (pn : List Str) (vs : List Value) (ds : List Slot), ps.map (tb[·]?) = pn.map some → ArgsS P C h vs ds → ps.length = ds.length → ∀ i x d, tb[i]? = some x → (ps.zip ds).lookup i = some d →
    ∃ v, (pn.zip vs).lookup x = some v ∧ ArgS P C h v d
  | [], _, _, _, _, _, _, i, x, d, _, e => by simp at e
  | p :: ps, [], _, _, hp, _, _, _, _, _, _, _ => by cases hp
  | p :: ps, n :: pn, vs, ds, hp, r, l, i, x, d, hx, e => by
    cases r with
    | nil => cases l
    | cons r1 r2 =>
      rename_i v vs d' ds'
      rw [List.map_cons, List.map_cons, List.cons.injEq] at hp
      rw [List.zip_cons_cons, List.lookup_cons] at e
      rw [List.zip_cons_cons, List.lookup_cons]
      by_cases hi : i = p
      · subst hi
        rw [beq_self_eq_true] at e
        cases e
        rw [hx] at hp
        cases hp.1
        rw [beq_self_eq_true]
        exact ⟨v, rfl, r1⟩
      · rw [beq_eq_false_iff_ne.mpr hi] at e
        have hne : ¬ x = n := fun q => hi (tb_inj nd hx (q ▸ hp.1))
        rw [beq_eq_false_iff_ne.mpr hne]
        exact zip_lookS nd ps pn vs ds' hp.2 r2 (by simpa using l) i x d hx e
section
variable {prog : Program} {w : World} {h0 : Heap} {C : Addr} {N : Nat} {Φ : Fns} {tb : List Str}
set_option tactic.hygienic true in
theorem call_sound (H : Hyp prog w h0 C N Φ) (nd : tb.Nodup) {cs : List CS} (hcs : SndSs prog w h0 C N Φ tb cs) {ps : List Nat} {pn : List Str} {a : Addr} {o : Obj} {fd : FuncData} {body : List Stmt}
    (ho : h0.get? a = some o) (hd : o.data = .func fd) (hcd : h0.CodeRec fd.code fd.qualname) (hbody : fd.body = .stmts body) (hclo : fd.closure = []) (hglob : fd.globals = mainGlobals) (hblt : fd.builtins = builtinsNs)
    (hsc : defScope fd.scope = true) (hbind : ∀ vals : List Value, vals.length = pn.length → bindArgs fd ⟨vals, []⟩ = pure (pn.zip vals)) (hps : ps.map (tb[·]?) = pn.map some) (hpn : pn.Nodup) (hk : paramKinds fd.scope pn = true)
    (hck : chkSs tb cs fd.scope body = true) {A : Around} {E : Value → Shared → Prop} {s : Shared} {P0 : Addr → Prop} {vs : List Value} {sls : List Slot} {d : D} {stE : St} {Q : Value → Shared → Prop} (hr : Rm (N + 1) A) (kp : Keep h0 s.heap) (up : Up P0 s.heap)
    (ra : ArgsS P0 C s.heap vs sls) (hlen : ps.length = sls.length) (hrun : cxs Φ cs (startS ps sls) = some (stE, .ret d)) (k : ∀ v s', Keeps s s' → Rp P0 C s'.heap v d → Q v s') : wpAny (model prog w) A (call (.ref a) vs) Q E s := by
  unfold defScope at hsc; rw [Bool.and_eq_true, Bool.and_eq_true, Bool.and_eq_true, Bool.and_eq_true, decide_eq_true_eq, decide_eq_true_eq, beq_iff_eq, beq_iff_eq] at hsc
  refine oE0_2 hsc fun zq2 hgen => ?_; clear hsc; refine oE0_2 zq2 fun zq3 hco => ?_; clear zq2; refine oE0_2 zq3 fun zq4 hnd => ?_; clear zq3; refine oE0_2 zq4 fun hkind hnames => ?_; clear zq4
  have hlook : ∀ x k, (x, k) ∈ fd.scope.names → fd.scope.names.lookup x = some k ∧ k ≠ .free := fun x k hm => by
    have := List.all_eq_true.mp hnames (x, k) hm
    rw [Bool.and_eq_true] at this
    refine ⟨of_decide_eq_true this.1, ?_⟩
    rintro rfl
    cases this.2
  have hpl : ps.length = pn.length := by
    have := congrArg List.length hps
    simpa using this
  have hvl : vs.length = pn.length := by rw [ra.length, ← hlen, hpl]
  have cellsOf : ∀ x c, (cellsFrom (s.heap.objs.size + 1) fd.scope.names []).lookup x = some c → fd.scope.names.lookup x = some .cell := fun x c e => (hlook x _ (cellsFrom_mem _ _ _ _ (mem_of_lookup e)).2).1
  have hpk : ∀ x ∈ pn.zip vs, fd.scope.names.lookup x.1 = some .local ∨ (fd.scope.names.lookup x.1 = some .cell ∧ ((cellsFrom (s.heap.objs.size + 1) fd.scope.names []).lookup x.1).isSome = true) := fun x hx => by
    have := List.all_eq_true.mp hk x.1 (List.of_mem_zip hx).1
    split at this
    · rename_i q; exact .inl q
    · rename_i q
      obtain ⟨c, e⟩ := cellsFrom_has fd.scope.names (s.heap.objs.size + 1) x.1 (mem_of_lookup q)
      exact .inr ⟨q, by rw [e]; rfl⟩
    · cases this
  have hr1 : Rm N A := hr.mono (Nat.le_succ N)
  refine wpAny_call (codeAny_call_cells (by have := hr.depth; exact om_44 this) (kp _ _ ho) hd (H.nolimit.keeps kp) (hcd.keeps kp) hbody (hbind vs hvl) hclo hpk (fun s₁ x => ?_) hco hgen hkind)
  refine oE2_1 x.toInCall.same fun h1 tk1 rq1 => ?_; subst rq1
  have kk : Keep s.heap h1 := x.toInCall.keep
  generalize henv : callEnvC fd s.heap.objs.size a = env at x
  have e1 : env.scope = fd.scope := by rw [← henv]; rfl
  have e2 : env.locals = s.heap.objs.size := by rw [← henv]; rfl
  have e3 : env.cells = cellsFrom (s.heap.objs.size + 1) fd.scope.names [] := by rw [← henv]; rfl
  have e4 : env.globals = mainGlobals := by rw [← henv]; exact hglob
  have e5 : env.builtins = builtinsNs := by rw [← henv]; exact hblt
  have ek : ∀ y, env.kindOf y = fd.scope.names.lookup y := fun y => by rw [← henv]; rfl
  have ok : EnvOK env := by
    refine ⟨by rw [e1]; exact hkind, e4, e5, fun y hy => ?_, fun y z c hy hz => ?_⟩
    · rw [ek] at hy
      rcases hy with hy | hy
      · rw [e3]; exact cellsFrom_has fd.scope.names _ y (mem_of_lookup hy)
      · exact absurd rfl (hlook y _ (mem_of_lookup hy)).2
    · refine name_of_addr x.apart (mem_of_lookup hy) (mem_of_lookup hz)
  let g : Str → Option Value := fun y => (pn.zip vs).lookup y
  have fm : Fm env h1 g := by
    refine ⟨⟨_, x.toInCall.ns, fun y hy => ?_⟩, fun y c hc hyk => ?_⟩
    · rw [(bindLC (kindOf := env.kindOf) pn vs _ (fun _ => none) hpn hvl.symm y).1 hy]
      show _ = (pn.zip vs).lookup y
      cases (pn.zip vs).lookup y <;> rfl
    · have := x.cell y c hc
      have hnl : env.kindOf y ≠ some .local := by
        rcases hyk with q | q <;> rw [q] <;> simp
      rw [(bindLC (kindOf := env.kindOf) pn vs (fun _ => none) (fun _ => none) hpn hvl.symm y).2 hnl] at this
      show h1.IsCell c ((pn.zip vs).lookup y)
      revert this
      cases (pn.zip vs).lookup y <;> exact id
  have newOf : ∀ b, Own env [] b → s.heap.get? b = none := fun b hb => by
    cases q : s.heap.get? b with
    | none => rfl
    | some oo =>
      have hlt := Heap.lt_size q
      exfalso
      rcases hb with z | ⟨y, z⟩ | z
      · rw [z, e2] at hlt; exact absurd hlt (Nat.lt_irrefl _)
      · rw [e3] at z
        have := (cellsFrom_mem _ _ _ _ (mem_of_lookup z)).1
        exact absurd hlt (Nat.not_lt.mpr (by exact om_27 this))
      · cases z
  have S : SR tb C P0 s.heap env h1 (startS ps sls) (fun b => P0 b ∧ ¬ Own env [] b) [] g := by
    refine ⟨fm, kk, fun b e => ⟨(up.keep kk) b e, fun z => ?_⟩, fun b p => p.1, fun p => p.2 (.inl rfl), fun y c e => ⟨.inl ?_, fun p => p.2 (.inr (.inl ⟨y, e⟩))⟩, newOf, rfl, .nil, (fun b z => by cases z), (fun i b es hb => by cases hb), fun i y sl hi hy hv => ?_⟩
    · rcases z with z | ⟨y, z⟩ | z
      · refine oE3_2 x.toInCall.ns fun oo es ep q _ => ?_
        rw [z] at e; rw [show h1.get? env.locals = _ from q] at e; cases e
      · refine oE1_2 (x.cell y b z) fun oo q _ => ?_
        rw [show h1.get? b = _ from q] at e; cases e
      · cases z
    · rw [ek]; exact cellsOf y c (e3 ▸ e)
    · have hi' : (ps.zip sls).lookup i = some sl := hi
      refine oE1_2 (zip_lookS nd ps pn vs sls hps ra hlen i y sl hy hi') fun v hv1 hv2 => ?_
      have mo : ∀ b oo, s.heap.get? b = some oo → P0 b → P0 b ∧ ¬ Own env [] b := fun b oo e p => ⟨p, fun z => by rw [newOf b z] at e; cases e⟩
      cases sl with
      | val dd => exact ⟨v, hv1, (Rp.mono mo hv2).keeps kk⟩
      | raw dd a => obtain ⟨rfl, hv2⟩ := hv2; exact ⟨hv1, RpT.mono hv2 mo⟩
      | own _ => exact hv2.elim
      | hob _ => exact hv2.elim
      | nest _ => exact hv2.elim
      | fix _ => exact hv2.elim
  refine hcs s.heap P0 env body (startS ps sls) stE (.ret d) (A.deeper env) _ { s with heap := h1, toks := tk1 } _ [] g _ (by rw [e1]; exact hck) ok (hr.deeper env) kp S hrun fun h' tk v kc rv => ?_
  exact k v _ ⟨h', tk, rfl, kc⟩ rv
end
end Mine
end
section
open PySem PySem.W PyProof.Rows
set_option autoImplicit false
namespace Mine
open PySem.Sre (inSet)
noncomputable def rxName : Array Nat := #[14, 10, 4, 1, 1, 22, 0, 31, 16, 127, 0, 13, 7, 22, 0, 31, 16, 127, 0, 1]
noncomputable def rxValue : Array Nat := #[14, 14, 4, 1, 1, 9, 4294966783, 0, 0, 2147483648, 0, 0, 0, 0, 0, 13, 11, 9, 4294966783, 0, 0, 2147483648, 0, 0, 0, 0, 0, 1]
theorem letter_num {c : Nat} (h : letter c = true) : 65 ≤ c ∧ c ≤ 122 := by
  simp only [letter, Bool.or_eq_true, Bool.and_eq_true, decide_eq_true_eq] at h
  exact om_45 h
theorem inSet_name {c : Nat} (h : letter c = true) (seen : Sre.Seen) : ∃ s', inSet rxName c rxName.size 5 true seen = .ok (false, s') := by
  have hn := letter_num h
  have e1 : ∃ s1, inSet rxName c rxName.size 5 true seen = if (decide (0 ≤ c) && decide (c ≤ 31)) = true then .ok (true, s1) else inSet rxName c 19 8 true s1 := ⟨_, rfl⟩
  refine oE1_1 e1 fun s1 e1 => ?_
  have e2 : ∃ s2, inSet rxName c 19 8 true s1 = if (c == 127) = true then .ok (true, s2) else inSet rxName c 18 10 true s2 := ⟨_, rfl⟩
  refine oE1_1 e2 fun s2 e2 => ?_
  rw [e1, if_neg (by rw [Bool.and_eq_true, decide_eq_true_eq, decide_eq_true_eq]; exact om_46 hn.1), e2, if_neg (by rw [beq_iff_eq]; exact om_47 hn.2)]
  exact ⟨_, rfl⟩
theorem bits_value : ∀ c, c < 128 → letter c = true → (rxValue.getD (5 + (1 + c / 32)) 0).testBit (c % 32) = false := by decide +kernel
theorem inSet_value {c : Nat} (h : letter c = true) (seen : Sre.Seen) : ∃ s', inSet rxValue c rxValue.size 5 true seen = .ok (false, s') := by
  have hn := letter_num h
  have e1 : ∃ s1, inSet rxValue c rxValue.size 5 true seen = if (decide (c < 256) && (rxValue.getD (5 + (1 + c / 32)) 0).testBit (c % 32)) = true then .ok (true, s1) else inSet rxValue c 27 14 true s1 := ⟨_, rfl⟩
  refine oE1_1 e1 fun s1 e1 => ?_
  rw [e1, if_neg (by rw [bits_value c (by exact om_48 hn.2) h, Bool.and_false]; exact Bool.false_ne_true)]
  exact ⟨_, rfl⟩
set_option tactic.hygienic true in
theorem admitted_none {code : Array Nat} (hset : ∀ c, letter c = true → ∀ seen, ∃ s', inSet code c code.size 5 true seen = .ok (false, s')) {m : Sre.M} (hc : m.code = code) (hl : ∀ s, s < m.lim → letter (m.text.getD s 0) = true) :
    ∀ fuel s seen, ∃ s', Sre.M.admitted m fuel s seen = .ok (none, s')
  | 0, s, seen => ⟨seen, rfl⟩
  | fuel + 1, s, seen => by
    unfold Sre.M.admitted
    split
    · exact ⟨seen, rfl⟩
    · rename_i h
      obtain ⟨s', e⟩ := hset _ (hl s (by simpa using h)) seen
      rw [hc, e]
      exact admitted_none hset hc hl fuel (s + 1) s'
theorem search_says {code : Array Nat} (hset : ∀ c, letter c = true → ∀ seen, ∃ s', inSet code c code.size 5 true seen = .ok (false, s')) (h0 : (match Sre.ops[code.getD 0 0]? with | some .INFO => true | _ => false) = true) (h2 : code.getD 2 0 = 4) (text : Array Nat) (ht : ∀ s, s < text.size → letter (text.getD s 0) = true) (g : Nat) :
    ∃ m, Sre.forSearch code text g 0 text.size false = m ∧ m.answer = some false ∧ m.frames = [] ∧ m.outcome = none := by
  refine ⟨_, rfl, ?_⟩
  have key : ∀ (m : Sre.M) (b : Bool), m.code = code → m.text = text → m.lim = text.size → m.frames = [] → m.outcome = none → (m.attemptFrom 0 b).answer = some false ∧ (m.attemptFrom 0 b).frames = [] ∧ (m.attemptFrom 0 b).outcome = none := by
    intro m b hm1 hm2 hm3 hm4 hm5
    have hf : m.hasFirstSet = true := by
      unfold Sre.M.hasFirstSet
      rw [hm1, h2, Bool.and_eq_true]
      exact ⟨h0, rfl⟩
    unfold Sre.M.attemptFrom
    rw [hf]
    simp only [Bool.not_true, Bool.false_eq_true, if_false]
    obtain ⟨s', e⟩ := admitted_none hset hm1 (by rw [hm2, hm3]; exact ht) (m.lim + 1 - 0) 0 m.seen
    rw [e]
    exact ⟨rfl, hm4, hm5⟩
  unfold Sre.forSearch
  dsimp only
  split
  · exact ⟨rfl, rfl, rfl⟩
  · exact key _ _ rfl rfl rfl rfl rfl
theorem wpAny_rules {M : Model} {A : Around} {E : Value → Shared → Prop} {s : Shared} {α : Type} (f : α → PUnit → Sem (ForInStep PUnit)) (hf : ∀ x u, f x u = pure (ForInStep.yield ⟨⟩) ∨ ∃ nm, f x u = (rule nm >>= fun _ => pure (ForInStep.yield ⟨⟩))) {Q : PUnit → Shared → Prop} : ∀ (l : List α), Q ⟨⟩ s → wpAny M A (forIn l PUnit.unit f) Q E s
  | [], h => wpAny_pure h
  | x :: l, h => by
    rw [List.forIn_cons]
    refine wpAny_bind ?_
    rcases hf x ⟨⟩ with e | ⟨nm, e⟩
    · rw [e]; exact wpAny_pure (wpAny_rules f hf l h)
    · rw [e]; exact wpAny_bind (wpAny_rule (wpAny_pure (wpAny_rules f hf l h)))
open PySem.Builtin.Re in
theorem run_none {M : Model} {A : Around} {E : Value → Shared → Prop} {s : Shared} {m : Sre.M} {Q : Option Sre.M → Shared → Prop} (h1 : m.answer = some false) (h2 : m.frames = []) (h3 : m.outcome = none) (h : Q none s) : wpAny M A (reRunToEnd m) Q E s := by
  unfold reRunToEnd
  have hd : reDrive (2 ^ 64) m = pure (m.runFor reTurnSteps) := by
    show reDrive ((2 ^ 64 - 1) + 1) m = _
    rw [reDrive]
    have : (m.runFor reTurnSteps).outcome.isSome = true := by
      unfold reTurnSteps Sre.M.runFor
      rw [h3]
      simp only [Option.isSome_none, Bool.false_eq_true, if_false]
      have e : m.step = { m with outcome := some .failed } := by
        unfold Sre.M.step
        rw [h3]
        simp only [Option.isSome_none, Bool.false_eq_true, if_false, h1, h2]
      rw [e]
      rfl
    simp only [this, if_true]
  have ho : (m.runFor reTurnSteps).outcome = some .failed := by
    unfold reTurnSteps Sre.M.runFor
    rw [h3]
    simp only [Option.isSome_none, Bool.false_eq_true, if_false]
    have e : m.step = { m with outcome := some .failed } := by
      unfold Sre.M.step
      rw [h3]
      simp only [Option.isSome_none, Bool.false_eq_true, if_false, h1, h2]
    rw [e]
    rfl
  rw [hd]
  refine wpAny_bind (wpAny_pure (wpAny_bind (wpAny_rules _ (fun i u => ?_) _ ?_)))
  · split
    · exact .inr ⟨_, rfl⟩
    · exact .inl rfl
  · rw [ho]
    exact wpAny_pure h
end Mine
end
section
open PySem PySem.W PyProof.Rows
set_option autoImplicit false
set_option maxRecDepth 100000
namespace Mine
theorem plainAttrs_rx : PlainAttrs "re.Pattern" :=
  ⟨⟨"object.__getattribute__", by rw [typeLookup_type, builtinLookup_eq_fast]; kernel_rfl, by decide +kernel⟩, by rw [typeLookup_type, builtinLookup_eq_fast]; kernel_rfl⟩
theorem slot_rx_search : PySem.Slot "re.Pattern" "search" "re.Pattern.search" :=
  .of (owner := "re.Pattern") (n := "search") (by rw [typeLookup_type, builtinLookup_eq_fast]; kernel_rfl) (by decide +kernel) (by decide +kernel) (by decide +kernel)
    (by first | exact .inl (by decide +kernel) | exact .inr (by decide +kernel)) (by rw [isSubtype_type]; kernel_rfl)
theorem type_rx_search : typeOf (.builtin "re.Pattern.search") = pure (.type "method_descriptor") := by show builtinType _ = _; rw [builtinType_eq_fast]; kernel_rfl
theorem entry_rx_search : entryFor table "re.Pattern.search" = some Builtin.«re.Pattern.search» := entryFor_of_tree (by kernel_rfl)
theorem owner_rx : Manifest.owners.lookup (String.ofList ['n', 'r', 'e', 't', 't', 'a', 'P', '.', 'e', 'r'].reverse) = some Manifest.sig_re_Pattern := by kernel_rfl
theorem args_rx_search (a b : Value) : argsOk "re.Pattern.search" ⟨[a, b], []⟩ := by
  unfold argsOk; rw [signature?_of (id := "re.Pattern.search") (n := ['h', 'c', 'r', 'a', 'e', 's']) (o := ['n', 'r', 'e', 't', 't', 'a', 'P', '.', 'e', 'r']) (by kernel_rfl) owner_rx]; kernel_rfl
noncomputable def RxAt (h : Heap) (p : Addr) (code : Array Nat) : Prop :=
  ∃ (sv : Str) (t1 t2 t3 t4 : Tok) (fl : Int) (c : Addr) (items : Array Value) (n : Nat) (d1 d2 : Option Addr) (sl1 sl2 : Array (Option Value)),
    h.get? p = some { cls := .type "re.Pattern", dict := none, data := .fields #[.str sv t1, .int fl t2, .int 0 t3, .none, .none, .ref c, .int 0 t4], slots := sl1 } ∧
    h.get? c = some { cls := .type "tuple", dict := d2, data := .seq items n, slots := sl2 } ∧ (items.map Builtin.Re.reRawOf).map (·.toNat) = code
section
variable {prog : Program} {w : World} {A : Around} {E : Value → Shared → Prop} {s : Shared}
open PySem.Builtin PySem.Builtin.Re in
theorem search_sound {p : Addr} {code : Array Nat} {v : Str} {tv : Tok} {Q : Value → Shared → Prop} (hset : ∀ c, letter c = true → ∀ seen, ∃ s', Sre.inSet code c code.size 5 true seen = .ok (false, s')) (h0 : (match Sre.ops[code.getD 0 0]? with | some .INFO => true | _ => false) = true) (h2 : code.getD 2 0 = 4)
    (hp : RxAt s.heap p code) (hv : plainS v = true) (k : Q .none s) : wpAny (model prog w) A (call (.builtin "re.Pattern.search") [.ref p, .str v tv]) Q E s := by
  refine oE13_3 hp fun sv t1 t2 t3 t4 fl c items n d1 d2 sl1 sl2 hp1 hp2 hcode => ?_; clear hp
  have ht : ∀ i, i < v.cps.size → letter (v.cps.getD i 0) = true := fun i hi => by
    simp only [plainS, Bool.and_eq_true] at hv
    have := hv.1
    rw [Array.all_eq_true] at this
    have h3 := this i hi
    simpa [Array.getD, hi] using h3
  refine wpAny_call_entry slot_rx_search ⟨_, hp1, rfl⟩ entry_rx_search ?_ (args_rx_search _ _)
  unfold Builtin.«re.Pattern.search»
  have hsz : v.cps.size ≤ 64 := by simp only [plainS, Bool.and_eq_true, decide_eq_true_eq] at hv; exact hv.2
  refine oE1_4 (search_says hset h0 h2 v.cps ht 0) fun m hm a1 a2 a3 => ?_
  have tgt : ∀ (Q' : ReTarget → Shared → Prop) (E' : Value → Shared → Prop), Q' { pattern := .ref p, string := .str v tv, code := code, text := v.cps, kind := 0, groups := 0, pos := 0, lim := v.cps.size } s →
      wpAny (model prog w) A.in1 (reTarget "re.Pattern.search" "search" ⟨[.ref p, .str v tv], []⟩) Q' E' s := by
    intro Q' E' hq
    have e1 : reNamed "re.Pattern.search" "search" ["string", "pos", "endpos"] 1 [(.str v tv : Value)] [] = pure [some (.str v tv), none, none] := rfl
    have e2 : reTextOf (.str v tv) = pure (v.cps, 0) := rfl
    have e3 : reNoCollectionInside (.str v tv) 0 = pure () := rfl
    unfold reTarget
    dsimp only
    rw [e1]
    refine wpAny_bind (wpAny_pure ?_)
    dsimp only
    refine wpAny_bind (wpAny_pure (wpAny_bind (wpAny_pure ?_)))
    refine wpAny_bind (wpAny_fieldsOf hp1 rfl ?_)
    rw [e2]
    refine wpAny_bind (wpAny_pure ?_)
    dsimp only
    rw [if_neg (show ¬ ((reRawNat ((#[.str sv t1, .int fl t2, .int 0 t3, .none, .none, .ref c, .int 0 t4] : Array Value).getD 6 .none) == 0 && (0 : Nat) == 1) = true) from Bool.false_ne_true)]
    rw [if_neg (show ¬ ((reRawNat ((#[.str sv t1, .int fl t2, .int 0 t3, .none, .none, .ref c, .int 0 t4] : Array Value).getD 6 .none) == 1 && (0 : Nat) == 0) = true) from Bool.false_ne_true)]
    rw [e3]
    refine wpAny_bind (wpAny_pure ?_)
    show wpAny _ _ (reRawItems (.ref c) >>= _) _ _ s
    unfold reRawItems
    refine wpAny_bind (wpAny_bind (wpAny_seqItems hp2 rfl (wpAny_pure (wpAny_pure ?_))))
    have el : Min.min ((2 ^ 63 - 1 : Int)).toNat v.cps.size = v.cps.size := by
      apply Nat.min_eq_right
      have : ((2 ^ 63 - 1 : Int)).toNat = 9223372036854775807 := by decide
      exact om_49 hsz
    have e9 : ({ pattern := .ref p, string := .str v tv, code := Array.map (fun x => x.toNat) (Array.map reRawOf ((some items).getD #[])), text := v.cps, kind := 0, groups := reRawNat ((#[.str sv t1, .int fl t2, .int 0 t3, .none, .none, .ref c, .int 0 t4] : Array Value).getD 2 .none), pos := Min.min (Int.toNat 0) v.cps.size, lim := Min.min ((2 ^ 63 - 1 : Int)).toNat v.cps.size } : ReTarget) = { pattern := .ref p, string := .str v tv, code := code, text := v.cps, kind := 0, groups := 0, pos := 0, lim := v.cps.size } := by
      rw [el]
      congr 1
    rw [e9]
    exact hq
  refine wpAny_bind (tgt _ _ ?_)
  unfold reAnswer
  refine wpAny_bind (run_none (m := Sre.forSearch code v.cps 0 0 v.cps.size false) (by rw [hm]; exact a1) (by rw [hm]; exact a2) (by rw [hm]; exact a3) ?_)
  exact wpAny_pure ⟨.none, rfl, k⟩
end
end Mine
end
section
open PySem PySem.W PyProof.Rows
set_option autoImplicit false
set_option maxRecDepth 100000
namespace Mine
section
variable {prog : Program} {w : World} {h0 : Heap} {C : Addr} {N : Nat} {Φ : Fns} {tb : List Str}
set_option tactic.hygienic true in
theorem enterC (nl : h0.NoLimit) {a : Addr} {o : Obj} {fd : FuncData} {body : List Stmt} {pn : List Str} {args : Args} (ho : h0.get? a = some o) (hd : o.data = .func fd) (hcd : h0.CodeRec fd.code fd.qualname) (hbody : fd.body = .stmts body) (hclo : fd.closure = []) (hglob : fd.globals = mainGlobals) (hblt : fd.builtins = builtinsNs)
    (hsc : defScope fd.scope = true) (hpn : pn.Nodup) (hk : paramKinds fd.scope pn = true) {A : Around} {s : Shared} {RR : Result → Shared → Prop} {R : List Value → Shared → Prop} (hr : Rm (N + 1) A) (kp : Keep h0 s.heap)
    (hb : ∀ (E' : Value → Shared → Prop) (Q' : List (Str × Value) → Shared → Prop), (∀ vs s1, Keeps s s1 → vs.length = pn.length → R vs s1 → Q' (pn.zip vs) s1) → wpAny (model prog w) A.in1 (bindArgs fd args) Q' E' s)
    (k : ∀ vs env h1 tk1 E', R vs { s with heap := h1, toks := tk1 } ∨ True → (∃ s1, Keeps s s1 ∧ R vs s1 ∧ Keep s1.heap h1 ∧ (∀ b, Own env [] b → s1.heap.get? b = none)) → vs.length = pn.length → EnvOK env → env.scope = fd.scope → Fm env h1 (fun y => (pn.zip vs).lookup y) → Keep s.heap h1 → (∀ b, Own env [] b → s.heap.get? b = none) → (∀ x c, env.cells.lookup x = some c → env.kindOf x = some .cell) → Rm N (A.deeper env) →
      wpAny (model prog w) (A.deeper env) (execs body env) (fun f s' => RR (.ok (.ret (match f with | .ret v => v | _ => .none))) s') E' { s with heap := h1, toks := tk1 }) :
    codeAny (model prog w) A (.call (.ref a) args) RR s := by
  unfold defScope at hsc; rw [Bool.and_eq_true, Bool.and_eq_true, Bool.and_eq_true, Bool.and_eq_true, decide_eq_true_eq, decide_eq_true_eq, beq_iff_eq, beq_iff_eq] at hsc
  refine oE0_2 hsc fun zq3 hgen => ?_; clear hsc; refine oE0_2 zq3 fun zq4 hco => ?_; clear zq3; refine oE0_2 zq4 fun zq5 hnd => ?_; clear zq4; refine oE0_2 zq5 fun hkind hnames => ?_; clear zq5
  have hlook : ∀ x k, (x, k) ∈ fd.scope.names → fd.scope.names.lookup x = some k ∧ k ≠ .free := fun x k hm => by
    have := List.all_eq_true.mp hnames (x, k) hm
    rw [Bool.and_eq_true] at this
    refine ⟨of_decide_eq_true this.1, ?_⟩
    rintro rfl
    cases this.2
  refine codeAny_call_function (by have := hr.depth; exact om_44 this) (kp _ _ ho) hd hco hgen hbody (hcd.keeps kp) (hb _ _ fun vs s0 k0 hvl hR => ?_)
  rw [hclo]
  have kk0 := Keeps.keep k0
  have cellsOf : ∀ x c, (cellsFrom (s0.heap.objs.size + 1) fd.scope.names []).lookup x = some c → fd.scope.names.lookup x = some .cell := fun x c e => (hlook x _ (cellsFrom_mem _ _ _ _ (mem_of_lookup e)).2).1
  have hpk : ∀ x ∈ pn.zip vs, fd.scope.names.lookup x.1 = some .local ∨ (fd.scope.names.lookup x.1 = some .cell ∧ ((cellsFrom (s0.heap.objs.size + 1) fd.scope.names []).lookup x.1).isSome = true) := fun x hx => by
    have := List.all_eq_true.mp hk x.1 (List.of_mem_zip hx).1
    split at this
    · rename_i q; exact .inl q
    · rename_i q
      obtain ⟨c, e⟩ := cellsFrom_has fd.scope.names (s0.heap.objs.size + 1) x.1 (mem_of_lookup q)
      exact .inr ⟨q, by rw [e]; rfl⟩
    · cases this
  refine wpAny_newFunctionEnv_cells hkind hpk fun env he s₁ x => ?_
  refine oE2_1 x.toInCall.same fun h1 tk1 rq2 => ?_; subst rq2
  have kk : Keep s0.heap h1 := x.toInCall.keep
  refine ⟨(nl.keeps kp).keeps (kk0.trans kk), codeAny_func ?_⟩
  have e1 : env.scope = fd.scope := by rw [he]; rfl
  have e2 : env.locals = s0.heap.objs.size := by rw [he]; rfl
  have e3 : env.cells = cellsFrom (s0.heap.objs.size + 1) fd.scope.names [] := by rw [he]; rfl
  have e4 : env.globals = mainGlobals := by rw [he]; exact hglob
  have e5 : env.builtins = builtinsNs := by rw [he]; exact hblt
  have ek : ∀ y, env.kindOf y = fd.scope.names.lookup y := fun y => by rw [he]; rfl
  have ok : EnvOK env := by
    refine ⟨by rw [e1]; exact hkind, e4, e5, fun y hy => ?_, fun y z c hy hz => ?_⟩
    · rw [ek] at hy
      rcases hy with hy | hy
      · rw [e3]; exact cellsFrom_has fd.scope.names _ y (mem_of_lookup hy)
      · exact absurd rfl (hlook y _ (mem_of_lookup hy)).2
    · refine name_of_addr x.apart (mem_of_lookup hy) (mem_of_lookup hz)
  have fm : Fm env h1 (fun y => (pn.zip vs).lookup y) := by
    refine ⟨⟨_, x.toInCall.ns, fun y hy => ?_⟩, fun y c hc hyk => ?_⟩
    · rw [(bindLC (kindOf := env.kindOf) pn vs _ (fun _ => none) hpn hvl.symm y).1 hy]
      show _ = (pn.zip vs).lookup y
      cases (pn.zip vs).lookup y <;> rfl
    · have := x.cell y c hc
      have hnl : env.kindOf y ≠ some .local := by
        rcases hyk with q | q <;> rw [q] <;> simp
      rw [(bindLC (kindOf := env.kindOf) pn vs (fun _ => none) (fun _ => none) hpn hvl.symm y).2 hnl] at this
      show h1.IsCell c ((pn.zip vs).lookup y)
      revert this
      cases (pn.zip vs).lookup y <;> exact id
  have newOf : ∀ b, Own env [] b → s0.heap.get? b = none := fun b hb => by
    cases q : s0.heap.get? b with
    | none => rfl
    | some oo =>
      have hlt := Heap.lt_size q
      exfalso
      rcases hb with z | ⟨y, z⟩ | z
      · rw [z, e2] at hlt; exact absurd hlt (Nat.lt_irrefl _)
      · rw [e3] at z
        have := (cellsFrom_mem _ _ _ _ (mem_of_lookup z)).1
        exact absurd hlt (Nat.not_lt.mpr (by exact om_27 this))
      · cases z
  have newOf0 : ∀ b, Own env [] b → s.heap.get? b = none := fun b hb => by
    cases q : s.heap.get? b with
    | none => rfl
    | some oo => have := newOf b hb; rw [kk0 _ _ q] at this; cases this
  refine oE2_2 (id k0) fun h' tk' rq1 kk0' => ?_; subst rq1
  exact k vs env h1 tk1 _ (.inr trivial) ⟨_, k0, hR, kk, newOf⟩ hvl ok e1 fm (kk0.trans kk) newOf0 (fun x c e => by rw [ek]; exact cellsOf x c (e3 ▸ e)) (hr.deeper env)
theorem enter (nl : h0.NoLimit) {a : Addr} {o : Obj} {fd : FuncData} {body : List Stmt} {pn : List Str} {args : Args} (ho : h0.get? a = some o) (hd : o.data = .func fd) (hcd : h0.CodeRec fd.code fd.qualname) (hbody : fd.body = .stmts body) (hclo : fd.closure = []) (hglob : fd.globals = mainGlobals) (hblt : fd.builtins = builtinsNs)
    (hsc : defScope fd.scope = true) (hpn : pn.Nodup) (hk : paramKinds fd.scope pn = true) {A : Around} {E : Value → Shared → Prop} {s : Shared} {Q : Value → Shared → Prop} {R : List Value → Shared → Prop} (hr : Rm (N + 1) A) (kp : Keep h0 s.heap)
    (hb : ∀ (E' : Value → Shared → Prop) (Q' : List (Str × Value) → Shared → Prop), (∀ vs s1, Keeps s s1 → vs.length = pn.length → R vs s1 → Q' (pn.zip vs) s1) → wpAny (model prog w) A.in1 (bindArgs fd args) Q' E' s)
    (k : ∀ vs env h1 tk1 E', R vs { s with heap := h1, toks := tk1 } ∨ True → (∃ s1, Keeps s s1 ∧ R vs s1 ∧ Keep s1.heap h1 ∧ (∀ b, Own env [] b → s1.heap.get? b = none)) → vs.length = pn.length → EnvOK env → env.scope = fd.scope → Fm env h1 (fun y => (pn.zip vs).lookup y) → Keep s.heap h1 → (∀ b, Own env [] b → s.heap.get? b = none) → (∀ x c, env.cells.lookup x = some c → env.kindOf x = some .cell) → Rm N (A.deeper env) →
      wpAny (model prog w) (A.deeper env) (execs body env) (fun f s' => Q (match f with | .ret v => v | _ => .none) s') E' { s with heap := h1, toks := tk1 }) :
    wpAny (model prog w) A (call (.ref a) args.pos args.kw) Q E s :=
  wpAny_call (enterC (args := args) nl ho hd hcd hbody hclo hglob hblt hsc hpn hk hr kp hb k)
end
end Mine
end
section
open PySem PySem.W PyProof.Rows
set_option autoImplicit false
set_option maxRecDepth 100000
namespace Mine
noncomputable def convT (t : Expr) : Bool := isCmp1 t fun c op sn => isCall c fun tn as kw _ => nul kw (one as fun v => isName tn fun tn _ => isName v fun v _ => isName sn fun sn _ => decide (op = .Is) && (decide (tn = ("type" : Str)) && (decide (v = ("value" : Str)) && decide (sn = ("str" : Str)))))
theorem convT_ {t : Expr} (h : convT t = true) : ∃ p1 p2 p3 p4 p5, t = .Compare (.Call (.Name ("type" : Str) p1) [.Name ("value" : Str) p2] [] p3) [.Is] [.Name ("str" : Str) p4] p5 := by
  refine oE4_2 (isCmp1_ h) fun c op sn p5 eZ h1 => ?_; clear h; subst eZ
  refine oE4_2 (isCall_ h1) fun tn as kw p3 eZ h2 => ?_; clear h1; subst eZ
  obtain ⟨eZ, h3⟩ := nul_ h2; clear h2; subst eZ
  refine oE1_2 (one_ h3) fun v eZ h4 => ?_; clear h3; subst eZ
  refine oE2_2 (isName_ h4) fun tn p1 eZ h5 => ?_; clear h4; subst eZ
  refine oE2_2 (isName_ h5) fun v p2 eZ h6 => ?_; clear h5; subst eZ
  refine oE2_2 (isName_ h6) fun sn p4 eZ h7 => ?_; clear h6; subst eZ
  obtain ⟨q1, h8⟩ := and_ h7; clear h7; cases of_decide_eq_true q1
  obtain ⟨q2, h9⟩ := and_ h8; clear h8
  obtain ⟨q3, q4⟩ := and_ h9; clear h9
  have e2 := of_decide_eq_true q2; have e3 := of_decide_eq_true q3; have e4 := of_decide_eq_true q4
  subst e2 e3 e4
  exact ⟨p1, p2, p3, p4, p5, rfl⟩
noncomputable def convA (s : Stmt) : Bool := isAsgN s fun rx _ v => isIfE v fun a b c => isName a fun a _ => isName b fun b _ => isName c fun c _ => decide (rx = ("regex" : Str)) && (decide (a = ("name" : Str)) && (decide (b = ("_name_disallowed_re" : Str)) && decide (c = ("_value_disallowed_re" : Str))))
theorem convA_ {s : Stmt} (h : convA s = true) : ∃ p1 p2 p3 p4 p5 p6, s = .Assign [.Name ("regex" : Str) p1] (.IfExp (.Name ("name" : Str) p2) (.Name ("_name_disallowed_re" : Str) p3) (.Name ("_value_disallowed_re" : Str) p4) p5) p6 := by
  refine oE4_2 (isAsgN_ h) fun rx p1 v p6 eZ h1 => ?_; clear h; subst eZ
  refine oE4_2 (isIfE_ h1) fun a b c p5 eZ h2 => ?_; clear h1; subst eZ
  refine oE2_2 (isName_ h2) fun a p2 eZ h3 => ?_; clear h2; subst eZ
  refine oE2_2 (isName_ h3) fun b p3 eZ h4 => ?_; clear h3; subst eZ
  refine oE2_2 (isName_ h4) fun c p4 eZ h5 => ?_; clear h4; subst eZ
  obtain ⟨q1, h6⟩ := and_ h5; clear h5
  obtain ⟨q2, h7⟩ := and_ h6; clear h6
  obtain ⟨q3, q4⟩ := and_ h7; clear h7
  have e1 := of_decide_eq_true q1; have e2 := of_decide_eq_true q2; have e3 := of_decide_eq_true q3; have e4 := of_decide_eq_true q4
  subst e1 e2 e3 e4
  exact ⟨p1, p2, p3, p4, p5, p6, rfl⟩
noncomputable def convB (s : Stmt) : Bool := isIf s fun t _ o => nul o (isMeth t fun rx se ap as p => one as fun v => isName rx fun rx _ => isName v fun v _ => (ap.endLine == p.line) && (decide (rx = ("regex" : Str)) && (decide (se = ("search" : Str)) && decide (v = ("value" : Str)))))
theorem convB_ {s : Stmt} (h : convB s = true) : ∃ a1 a2 apos pos bd q1, s = .If (.Call (.Attribute (.Name ("regex" : Str) a1) ("search" : Str) apos) [.Name ("value" : Str) a2] [] pos) bd [] q1 ∧ (apos.endLine == pos.line) = true := by
  refine oE4_2 (isIf_ h) fun t bd o q eZ h1 => ?_; clear h; subst eZ
  obtain ⟨eZ, h2⟩ := nul_ h1; clear h1; subst eZ
  refine oE5_2 (isMeth_ h2) fun rx se ap as p eZ h3 => ?_; clear h2; subst eZ
  refine oE1_2 (one_ h3) fun v eZ h4 => ?_; clear h3; subst eZ
  refine oE2_2 (isName_ h4) fun rx a1 eZ h5 => ?_; clear h4; subst eZ
  refine oE2_2 (isName_ h5) fun v a2 eZ h6 => ?_; clear h5; subst eZ
  obtain ⟨hl, h7⟩ := and_ h6; clear h6
  obtain ⟨q1, h8⟩ := and_ h7; clear h7
  obtain ⟨q2, q3⟩ := and_ h8; clear h8
  have e1 := of_decide_eq_true q1; have e2 := of_decide_eq_true q2; have e3 := of_decide_eq_true q3
  subst e1 e2 e3
  exact ⟨a1, a2, ap, p, bd, q, rfl, hl⟩
noncomputable def convC (s : Stmt) : Bool := isRet s fun v => som v fun v => isName v fun v _ => decide (v = ("value" : Str))
theorem convC_ {s : Stmt} (h : convC s = true) : ∃ p q, s = .Return (some (.Name ("value" : Str) p)) q := by
  refine oE2_2 (isRet_ h) fun v q eZ h1 => ?_; clear h; subst eZ
  refine oE1_2 (som_ h1) fun v eZ h2 => ?_; clear h1; subst eZ
  refine oE2_2 (isName_ h2) fun v p eZ h3 => ?_; clear h2; subst eZ
  have e1 := of_decide_eq_true h3; subst e1
  exact ⟨p, q, rfl⟩
noncomputable def convScope (sc : Scope) : Bool := isVar sc ("value" : Str) && isVar sc ("name" : Str) && isVar sc ("regex" : Str) && isGlob sc ("type" : Str) && isGlob sc ("str" : Str) && isGlob sc ("_name_disallowed_re" : Str) && isGlob sc ("_value_disallowed_re" : Str)
noncomputable def convBody (sc : Scope) (b : List Stmt) : Bool := tgtName sc ("regex" : Str) && (convScope sc && two b fun s1 _ => isIf s1 fun t bd o => nul o (three bd fun a1 a2 a3 => convT t && (convA a1 && (convB a2 && convC a3))))
theorem convBody_ {sc : Scope} {b : List Stmt} (h : convBody sc b = true) : tgtName sc ("regex" : Str) = true ∧ convScope sc = true ∧ ∃ t a1 a2 a3 p s2, b = [.If t [a1, a2, a3] [] p, s2] ∧ convT t = true ∧ convA a1 = true ∧ convB a2 = true ∧ convC a3 = true := by
  obtain ⟨g1, h1⟩ := and_ h; clear h
  obtain ⟨g2, h2⟩ := and_ h1; clear h1
  refine oE2_2 (two_ h2) fun s1 s2 eZ h3 => ?_; clear h2; subst eZ
  refine oE4_2 (isIf_ h3) fun t bd o p eZ h4 => ?_; clear h3; subst eZ
  obtain ⟨eZ, h5⟩ := nul_ h4; clear h4; subst eZ
  refine oE3_2 (three_ h5) fun a1 a2 a3 eZ h6 => ?_; clear h5; subst eZ
  obtain ⟨i1, h7⟩ := and_ h6; clear h6
  obtain ⟨i2, h8⟩ := and_ h7; clear h7
  obtain ⟨i3, i4⟩ := and_ h8
  exact ⟨g1, g2, t, a1, a2, a3, p, s2, rfl, i1, i2, i3, i4⟩
section
variable {prog : Program} {w : World} {h0 : Heap} {C : Addr} {N : Nat}
theorem type_of_str {A : Around} {E : Value → Shared → Prop} {s : Shared} {x : Str} {t : Tok} {Q : Value → Shared → Prop} (h : Q (.type "str") s) : wpAny (model prog w) A (call (.type "type") [.str x t]) Q E s := by
  obtain ⟨hh, g, d, tk, os⟩ := s
  refine wpAny_call (codeAny_of_tree ?_)
  show wpAny _ _ (callAny (.type "type") ⟨[.str x t], []⟩) _ _ _
  simp only [callAny]
  refine wpAny_pure ⟨Code.quiet_builtin _ (by decide +kernel), codeAny_builtin entry_type_call ?_⟩
  unfold Builtin.«type.__call__»
  dsimp only
  unfold shownTypeOf
  repeat (first | wp_step)
  exact h
theorem conv_tail {env : Env} {A : Around} {E : Value → Shared → Prop} {s : Shared} {g : Str → Option Value} {v : Str} {tv : Tok} {p : Addr} {code : Array Nat} {Q : Flow → Shared → Prop} {a1 a2 apos pos q1 q2 q3 : Pos} {bd : List Stmt} (ok : EnvOK env) (kp : Keep h0 s.heap) (fm : Fm env s.heap g)
    (gr : g ("regex" : Str) = some (.ref p)) (gv : g ("value" : Str) = some (.str v tv)) (ir : isVar env.scope ("regex" : Str) = true) (iv : isVar env.scope ("value" : Str) = true) (hline : (apos.endLine == pos.line) = true)
    (hset : ∀ c, letter c = true → ∀ seen, ∃ s', Sre.inSet code c code.size 5 true seen = .ok (false, s')) (hi : (match Sre.ops[code.getD 0 0]? with | some .INFO => true | _ => false) = true) (h2 : code.getD 2 0 = 4)
    (R : RxAt h0 p code) (pv : plainS v = true) (k : Q (.ret (.str v tv)) s) :
    wpAny (model prog w) A (execs [.If (.Call (.Attribute (.Name ("regex" : Str) a1) ("search" : Str) apos) [.Name ("value" : Str) a2] [] pos) bd [] q1, .Return (some (.Name ("value" : Str) q2)) q3] env) Q E s := by
  have R' : RxAt s.heap p code := by
    refine oE13_3 R fun sv t1 t2 t3 t4 fl c items n d1 d2 sl1 sl2 hp1 hp2 hcode => ?_; clear R
    exact ⟨sv, t1, t2, t3, t4, fl, c, items, n, d1, d2, sl1, sl2, kp _ _ hp1, kp _ _ hp2, hcode⟩
  have hd : ∃ ob, s.heap.get? p = some ob ∧ ob.cls = .type "re.Pattern" ∧ ob.dict = none := by
    refine oE13_3 R' fun sv t1 t2 t3 t4 fl c items n d1 d2 sl1 sl2 hp1 hp2 hcode => ?_; clear R'
    exact ⟨_, hp1, rfl, rfl⟩
  refine oE1_3 hd fun ob ho1 ho2 ho3 => ?_; clear hd
  refine wpAny_execs_cons (wpAny_If (wpAny_isTrue_value (methcall rfl (Nat.lt_of_le_of_lt (Nat.le_refl 1) (by decide)) hline (Name_var ok (by decide) (fm.var ok gr ir) fun pl => ?_)) (by rfl)))
  refine getMethod_builtin (T := "re.Pattern") (id := "re.Pattern.search") ⟨ob, ho1, ho2⟩ plainAttrs_rx slot_rx_search type_rx_search ?_ ?_
  · intro a q; cases q; exact ⟨ob, ho1, ho3⟩
  refine Calls.callWith_builtin rfl (Calls.evalArgs_plain (Calls.spliced_cons (Name_var ok (by decide) (fm.var ok gv iv) (Calls.spliced_nil ?_))))
  refine search_sound hset hi h2 R' pv (truthy_none ?_)
  rw [if_neg Bool.false_ne_true]
  exact wpAny_execs_nil (wpAny_execs_cons (wpAny_Return_some (Name_var ok (by decide) (fm.var ok gv iv) k)))
theorem conv_body {sc : Scope} {body : List Stmt} {env : Env} {A : Around} {E : Value → Shared → Prop} {s : Shared} {g : Str → Option Value} {v : Str} {tv : Tok} {b : Bool} {p1 p2 : Addr} {Q : Flow → Shared → Prop} (hb : convBody sc body = true) (ok : EnvOK env) (hsc : env.scope = sc) (kp : Keep h0 s.heap) (fm : Fm env s.heap g)
    (gv : g ("value" : Str) = some (.str v tv)) (gn : g ("name" : Str) = some (.bool b)) (G1 : GlobalAt h0 ("type" : Str) (.type "type")) (G2 : GlobalAt h0 ("str" : Str) (.type "str")) (G3 : GlobalAt h0 ("_name_disallowed_re" : Str) (.ref p1)) (G4 : GlobalAt h0 ("_value_disallowed_re" : Str) (.ref p2))
    (R1 : RxAt h0 p1 rxName) (R2 : RxAt h0 p2 rxValue) (pv : plainS v = true) (hnew : ∀ a, slotOf env ("regex" : Str) = a → h0.get? a = none) (k : ∀ h' tk, KeepW (· = slotOf env ("regex" : Str)) s.heap h' → Q (.ret (.str v tv)) { s with heap := h', toks := tk }) : wpAny (model prog w) A (execs body env) Q E s := by
  subst hsc
  refine oE0_3 (convBody_ hb) fun tr hsc zq6 => ?_; refine oE6_5 zq6 fun t a1 a2 a3 p s2 eb i1 i2 i3 i4 => ?_; clear zq6
  refine oE5_1 (convT_ i1) fun _ _ _ _ _ eq1 => ?_
  refine oE6_1 (convA_ i2) fun _ _ _ _ _ _ eq2 => ?_
  refine oE6_2 (convB_ i3) fun _ _ apos pos _ _ eq3 hline => ?_
  refine oE2_1 (convC_ i4) fun _ _ eq4 => ?_
  rw [eb, eq1, eq2, eq3, eq4]
  clear i1 i2 i3 i4 eb eq1 eq2 eq3 eq4 hb
  simp only [convScope, Bool.and_eq_true] at hsc
  refine oE0_2 hsc fun zq1 i2 => ?_; clear hsc; refine oE0_2 zq1 fun zq2 i1 => ?_; clear zq1; refine oE0_2 zq2 fun zq3 is => ?_; clear zq2; refine oE0_2 zq3 fun zq4 it => ?_; clear zq3; refine oE0_2 zq4 fun zq5 ir => ?_; clear zq4; refine oE0_2 zq5 fun iv iN => ?_; clear zq5
  refine wpAny_execs_cons (wpAny_If (wpAny_isTrue_Compare1 (wpAny_Call_NameR (Name_glob ok (by decide) it G1 kp (PySem.callWith_type rfl (Calls.evalArgs_plain (Calls.spliced_cons (Name_var ok (by decide) (fm.var ok gv iv) (Calls.spliced_nil ?_))))))) (by rfl)))
  refine type_of_str (Name_glob ok (by decide) is G2 kp (wpAny_is_plain rfl (wpAny_truthy_bool ?_)))
  rw [if_pos (by decide)]
  refine wpAny_execs_cons (wpAny_Assign_Name (wpAny_IfExp (wpAny_isTrue_value (Name_var ok (by decide) (fm.var ok gn iN) (wpAny_truthy_bool ?_)) (by rfl))) (by rfl))
  have reg : ∀ (p : Addr) (code : Array Nat) (q : Unit → Shared → Prop), (∀ h' tk, Fm env h' (fun y => if y = ("regex" : Str) then some (.ref p) else g y) → KeepW (· = slotOf env ("regex" : Str)) s.heap h' → q () { s with heap := h', toks := tk }) → wpAny (model prog w) A (storeName env ("regex" : Str) (.ref p)) q E s :=
    fun p code q hq => store_sound ok fm tr fun h' tk fm' sb => hq h' tk fm' (keepW_of_same sb)
  cases b with
  | true =>
    rw [if_pos rfl]
    refine Name_glob ok (by decide) i1 G3 kp (reg p1 rxName _ fun h' tk fm' kw => ?_)
    exact conv_tail (s := { s with heap := h', toks := tk }) (code := rxName) ok (fun b o e => kw b o (fun z => by rw [hnew b z.symm] at e; cases e) (kp b o e)) fm' (by simp) (by rw [if_neg (by decide)]; exact gv) ir iv hline (fun c h seen => inSet_name h seen) (by decide) (by decide) R1 pv (k h' tk kw)
  | false =>
    rw [if_neg Bool.false_ne_true]
    refine Name_glob ok (by decide) i2 G4 kp (reg p2 rxValue _ fun h' tk fm' kw => ?_)
    exact conv_tail (s := { s with heap := h', toks := tk }) (code := rxValue) ok (fun b o e => kw b o (fun z => by rw [hnew b z.symm] at e; cases e) (kp b o e)) fm' (by simp) (by rw [if_neg (by decide)]; exact gv) ir iv hline (fun c h seen => inSet_value h seen) (by decide) (by decide) R2 pv (k h' tk kw)
end
end Mine
end
section
open PySem PySem.W PyProof.Rows
set_option autoImplicit false
set_option maxRecDepth 100000
namespace Mine
noncomputable def hdrNames : List String := ["_convert_string_type", "add_header", "get_all", "get", "keys", "items", "setdefault", "__setitem__", "__delitem__", "__init__"]
section
variable {prog : Program} {w : World} {h0 : Heap} {C : Addr} {N : Nat} {K : Frag}
theorem instAt {h : Heap} {x dx l : Addr} {vs : List Value} (H : HdrAt C h x dx l vs) : ∃ es n, InstAt h x (instObj C dx) C (some (dictOf es n)) ∧ getL (Str.ofString "_headers") es = some (some (.ref l)) ∧ ∀ nm ∈ hdrNames, getL (Str.ofString nm) es = some none := by
  refine oE2_3 H.dict fun es n e hl hn => ?_
  exact ⟨es, n, ⟨H.obj, rfl, rfl, e⟩, hl, hn⟩
theorem getm_K (X : K.In h0) {f : Addr} {nm : String} (hg : plainGet K C (Str.ofString nm) = true) (hf : findIn K (.ref C) (Str.ofString nm) = some (some (.ref f))) (ht : isFn K (.ref f) = true) (hm : nm ∈ hdrNames)
    (A : Around) (E : Value → Shared → Prop) (s : Shared) (x dx l : Addr) (vs : List Value) (pl : Sem Bool) (Q : Value × List Value → Shared → Prop) (kp : Keep h0 s.heap) (H : HdrAt C s.heap x dx l vs) (k : Q (.ref f, [.ref x]) s) :
    wpAny (model prog w) A (getMethod (.ref x) (Str.ofString nm) pl) Q E s := by
  refine oE2_3 (instAt H) fun es n I _ hn => ?_
  exact method_fn (X.keeps kp) I (plainGet_of hg).1 (plainGet_of hg).2 hf (beq_iff_eq.mp ht) (by show (lookIn (Str.ofString nm) (dictOf es n)).map _ = _; rw [lookIn_dict, hn nm hm]; rfl) k
theorem attr_K (X : K.In h0) (hg : plainGet K C (Str.ofString "_headers") = true) (hh : hasDictIn K C = true) (ha : findIn K (.ref C) (Str.ofString "_headers") = some none) : AttrOK prog w h0 C := by
  intro A E s x dx l vs Q kp H k
  refine oE2_3 (instAt H) fun es n I hl _ => ?_
  exact get_value (X.keeps kp) I (plainGet_of hg).1 (findObj_own hh ha rfl (by rw [lookIn_dict]; exact hl)) rfl (k _ (keeps_toks _ _))
structure ConvFacts (K : Frag) (C f p1 p2 : Addr) : Prop where
  get : plainGet K C (Str.ofString "_convert_string_type") = true
  find : findIn K (.ref C) (Str.ofString "_convert_string_type") = some (some (.ref f))
  fn : isFn K (.ref f) = true
  fd : ∃ fd b, fdAt K f = some fd ∧ fd.body = .stmts b ∧ codeIn K fd.code fd.qualname = true ∧ fd.closure = [] ∧ fd.globals = mainGlobals ∧ fd.builtins = builtinsNs ∧ defScope fd.scope = true ∧ paramKinds fd.scope [Str.ofString "self", Str.ofString "value", Str.ofString "name"] = true ∧ convBody fd.scope b = true ∧
    ∀ x v n, bindArgs fd ⟨[x, v], [(Str.ofString "name", n)]⟩ = pure [(Str.ofString "self", x), (Str.ofString "value", v), (Str.ofString "name", n)]
theorem conv_K (X : K.In h0) (nl : h0.NoLimit) {f p1 p2 : Addr} (F : ConvFacts K C f p1 p2) (G1 : GlobalAt h0 ("type" : Str) (.type "type")) (G2 : GlobalAt h0 ("str" : Str) (.type "str")) (G3 : GlobalAt h0 ("_name_disallowed_re" : Str) (.ref p1)) (G4 : GlobalAt h0 ("_value_disallowed_re" : Str) (.ref p2))
    (R1 : RxAt h0 p1 rxName) (R2 : RxAt h0 p2 rxValue) : ConvOK prog w h0 C (N + 1) := by
  refine oE2_10 F.fd fun fd b hfd hb hcode hclo hglob hblt hsc hpk hcv hbind => ?_
  refine oE1_2 (fdAt_is hfd) fun o ho hd => ?_
  refine ⟨f, o, fd, X _ _ ho, hd, getm_K X F.get F.find F.fn (by decide), fun A E s x v tv bb Q hr kp pv k => ?_⟩
  refine enter (args := ⟨[.ref x, .str v tv], [(Str.ofString "name", .bool bb)]⟩) (pn := [Str.ofString "self", Str.ofString "value", Str.ofString "name"]) (R := fun vs _ => vs = [.ref x, .str v tv, .bool bb]) nl (X _ _ ho) hd (codeRec_of X hcode) hb hclo hglob hblt hsc (by decide) hpk hr kp (fun E' Q' hq => ?_) fun vs env h1 tk1 E' _ hR hvl ok es fm kk newO hcell hr1 => ?_
  · rw [hbind]
    exact wpAny_pure (hq [.ref x, .str v tv, .bool bb] s (Keeps.rfl' s) rfl rfl)
  · refine oE1_4 hR fun s1 _ rq1 _ _ => ?_; clear hR; subst rq1
    have hv : (([Str.ofString "self", Str.ofString "value", Str.ofString "name"] : List Str).zip ([.ref x, .str v tv, .bool bb] : List Value)).lookup ("value" : Str) = some (.str v tv) := by
      simp only [List.zip_cons_cons, List.lookup_cons]
      rw [show ((("value" : Str)) == Str.ofString "self") = false from by decide, show ((("value" : Str)) == Str.ofString "value") = true from by decide]
    have hn : (([Str.ofString "self", Str.ofString "value", Str.ofString "name"] : List Str).zip ([.ref x, .str v tv, .bool bb] : List Value)).lookup ("name" : Str) = some (.bool bb) := by
      simp only [List.zip_cons_cons, List.lookup_cons]
      rw [show ((("name" : Str)) == Str.ofString "self") = false from by decide, show ((("name" : Str)) == Str.ofString "value") = false from by decide, show ((("name" : Str)) == Str.ofString "name") = true from by decide]
    have tr : tgtName env.scope ("regex" : Str) = true := by
      rw [es]
      exact (and_ hcv).1
    have own : Own env [] (slotOf env ("regex" : Str)) := by
      rcases slot_own ok tr with z | ⟨y, z⟩
      · exact .inl z
      · exact .inr (.inl ⟨y, z⟩)
    refine conv_body (h0 := h0) (s := { s with heap := h1, toks := tk1 }) hcv ok es (kp.trans kk) fm hv hn G1 G2 G3 G4 R1 R2 pv (fun a e => ?_) fun h' tk kw => ?_
    · cases q : h0.get? a with
      | none => rfl
      | some oo => have := newO a (e ▸ own); rw [kp _ _ q] at this; cases this
    · exact k _ ⟨h', tk, rfl, fun b o e => kw b o (fun z => by rw [z, newO _ own] at e; cases e) (kk b o e)⟩
end
end Mine
end
section
open PySem PySem.W PyProof.Rows
set_option autoImplicit false
set_option maxRecDepth 100000
namespace Mine
noncomputable def tbGetAll : List Str := [Str.ofString "self", Str.ofString "name", Str.ofString "kv"]
noncomputable def csGetAll : List CS := [.asg 1 (.conv 0 (.low (.var 1)) true), .ret (.comp (.idx (.var 2) (.cint 1)) (.one 2) (.ce (.attr 0)) [.cmp .Eq (.low (.idx (.var 2) (.cint 0))) (.var 1)])]
noncomputable def tbKeys : List Str := [Str.ofString "self", Str.ofString "k", Str.ofString "v"]
noncomputable def csKeys : List CS := [.ret (.comp (.var 1) (.many [1, 2]) (.ce (.attr 0)) [])]
noncomputable def tbItems : List Str := [Str.ofString "self"]
noncomputable def csItems : List CS := [.ret (.copy (.attr 0))]
structure MethFacts (K : Frag) (C f : Addr) (nm : String) (tb : List Str) (cs : List CS) (ps : List Nat) (pn : List Str) : Prop where
  get : plainGet K C (Str.ofString nm) = true
  find : findIn K (.ref C) (Str.ofString nm) = some (some (.ref f))
  fn : isFn K (.ref f) = true
  fd : ∃ fd, fdAt K f = some fd ∧ codeIn K fd.code fd.qualname = true ∧ fnFacts tb cs ps pn fd = true ∧ ∀ vals : List Value, vals.length = pn.length → bindArgs fd ⟨vals, []⟩ = pure (pn.zip vals)
theorem pairOf_ {d : D} {p : Str × Str} (h : pairOf d = some p) : d = pairD p := by
  refine oE1_2 (tupD_ h) fun l rq13 h1 => ?_; subst rq13
  refine oE2_2 (on2_ h1) fun x y rq12 h2 => ?_; subst rq12
  refine oE1_2 (strD_ h2) fun a rq11 h3 => ?_; subst rq11
  refine oE1_2 (strD_ h3) fun b rq10 h4 => ?_; subst rq10
  cases h4; rfl
theorem asPairs_map : ∀ {ds : List D} {ps : List (Str × Str)}, asPairs ds = some ps → ds = ps.map pairD
  | [], ps, h => by cases h; rfl
  | d :: ds, ps, h => by
    unfold asPairs at h
    cases q1 : pairOf d with
    | none => rw [q1] at h; cases h
    | some p =>
      rw [q1] at h
      refine oE1_2 (Option.map_eq_some_iff.mp h) fun qs q rq9 => ?_; subst rq9
      rw [List.map_cons, ← asPairs_map q, ← pairOf_ q1]
theorem eqD_str (a b : Str) : eqD (.str a) (.str b) = decide (a = b) := by
  unfold eqD
  rw [tp_str, tp_str]
  show (a == b) = _
  by_cases h : a = b
  · simp [h]
  · simp [h]
theorem okc_str {a : Str} (h : plainS a = true) : okc (.str a) = true := by
  simp only [plainS, Bool.and_eq_true, decide_eq_true_eq] at h
  have hs : PyData.strOk a = true := by
    unfold PyData.strOk
    rw [Array.all_eq_true] at h ⊢
    intro i hi
    have := letter_num (h.1 i hi)
    simp only [decide_eq_true_eq]
    exact om_50 this.2
  unfold okc
  simp only [tp_str, nh_str, Bool.true_and]
  unfold SeqAt.shaped
  simp [PyData.canLay0, PyData.depth, hs]
theorem lowL_letter {c : Nat} (h : letter c = true) : letter (lowL c) = true := by
  simp only [letter, lowL, Bool.or_eq_true, Bool.and_eq_true, decide_eq_true_eq] at h ⊢
  split <;> omega
theorem plainS_low {x : Str} (h : plainS x = true) : plainS (lowS x) = true := by
  simp only [plainS, Bool.and_eq_true, decide_eq_true_eq] at h ⊢
  refine ⟨?_, ?_⟩
  · unfold lowS
    rw [Array.all_map]
    rw [Array.all_eq_true] at h ⊢
    intro i hi
    exact lowL_letter (h.1 i hi)
  · show (x.cps.map lowL).size ≤ 64
    rw [Array.size_map]; exact h.2
section
variable {prog : Program} {w : World} {h0 : Heap} {C : Addr} {N : Nat} {Φ : Fns} {K : Frag}
set_option tactic.hygienic true in
theorem meth_core (X : K.In h0) (H : Hyp prog w h0 C N Φ) {f : Addr} {nm : String} {tb : List Str} {cs : List CS} {ps : List Nat} {pn : List Str} (F : MethFacts K C f nm tb cs ps pn) (hcs : tb.Nodup → (".0" : Str) ∉ tb → SndSs prog w h0 C N Φ tb cs)
    {A : Around} {E : Value → Shared → Prop} {s : Shared} {P : Addr → Prop} {x dx l : Addr} {vs as : List Value} {ds es : List D} {d : D} {stE : St} {Q : Value → Shared → Prop} (hr : Rm (N + 1) A) (kp : Keep h0 s.heap) (up : Up P s.heap) (pdx : P dx) (Hd : HdrAt C s.heap x dx l vs) (ra : RpA P C s.heap vs ds) (re : RpA P C s.heap as es)
    (hl : ps.length = es.length + 1) (hrun : cxs Φ cs (startS ps (.raw (.hdr ds) x :: es.map Slot.val)) = some (stE, .ret d)) (k : ∀ v s', Keeps s s' → Rp P C s'.heap v d → Q v s') : wpAny (model prog w) A (call (.ref f) (.ref x :: as)) Q E s := by
  refine oE1_4 F.fd fun fd hfd hcode hf hbind => ?_
  refine oE1_2 (fdAt_is hfd) fun o ho hd => ?_
  simp only [fnFacts, Bool.and_eq_true, decide_eq_true_eq] at hf
  refine oE0_2 hf fun zq1 f10 => ?_; clear hf; refine oE0_2 zq1 fun zq2 f9 => ?_; clear zq1; refine oE0_2 zq2 fun zq3 f8 => ?_; clear zq2; refine oE0_2 zq3 fun zq4 f7 => ?_; clear zq3; refine oE0_2 zq4 fun zq5 f6 => ?_; clear zq4; refine oE0_2 zq5 fun zq6 f5 => ?_; clear zq5; refine oE0_2 zq6 fun zq7 f4 => ?_; clear zq6; refine oE0_2 zq7 fun zq8 f3 => ?_; clear zq7; refine oE0_2 zq8 fun f1 f2 => ?_; clear zq8
  split at f3
  rotate_left
  · cases f3
  rename_i b hb
  exact call_sound H f1 (hcs f1 f2) (X _ _ ho) hd (codeRec_of X hcode) hb (List.isEmpty_iff.mp f4) f5 f6 f7 hbind f8 f9 f10 f3 hr kp up (ArgsS.cons (d := Slot.raw (.hdr ds) x) (show (Value.ref x) = .ref x ∧ RpT true P C s.heap (.ref x) (.hdr ds) from ⟨rfl, x, dx, l, vs, rfl, pdx, Hd, ra⟩) re.argsS) (by simp [hl]) hrun k
theorem compL_pairs {F : D → Option (Option D)} {g : Str × Str → D} {q : Str × Str → Bool} : ∀ {ps : List (Str × Str)}, (∀ p ∈ ps, F (pairD p) = if q p then some (some (g p)) else some none) → compL F (ps.map pairD) = some ((ps.filter q).map g)
  | [], _ => rfl
  | p :: ps, h => by
    rw [List.map_cons, cl_cons, h p (.head _), List.filter_cons]
    have ih := compL_pairs (ps := ps) fun p' hp => h p' (.tail _ hp)
    cases hq : q p with
    | true =>
      simp only [if_true]
      rw [ih]; rfl
    | false =>
      simp only [Bool.false_eq_true, if_false]
      exact ih
set_option tactic.hygienic true in
theorem keys_sem {ds : List D} {d : D} (a0 : Addr) (h : methD .keys ds [] = some d) : ∃ stE, cxs Φ csKeys (startS [0] (.raw (.hdr ds) a0 :: ([] : List D).map Slot.val)) = some (stE, .ret d) := by
  replace h := (show (if _ then _ else none) = some d from h)
  split at h
  rotate_left
  · cases h
  rename_i hl
  cases q : asPairs ds with
  | none => rw [q] at h; cases h
  | some ps =>
    rw [q] at h; cases h
    have hds := asPairs_map q
    refine ⟨startS [0] [.raw (.hdr ds) a0], ?_⟩
    have e1 : ev Φ (.comp (.var 1) (.many [1, 2]) (.ce (.attr 0)) []) (startS [0] [.raw (.hdr ds) a0]).view = some (.lst (ps.map fun p => .str p.1), false) := by
      simp only [q_var, q_comp, q_attr, qw_ce]
      have e2 : (startS [0] [.raw (.hdr ds) a0]).view 0 = some (.hdr ds, true) := rfl
      rw [e2]
      simp only [itemsD, hl, if_true]
      rw [hds, compL_pairs (q := fun _ => true) (g := fun p => D.str p.1) (fun p hp => ?_)]
      · rw [List.filter_eq_self.mpr (fun _ _ => rfl)]; rfl
      · rfl
    unfold csKeys
    simp only [qxs_nil, qxs_cons, qx_ret, List.map_nil]
    rw [e1]
set_option tactic.hygienic true in
theorem getAll_sem {ds : List D} {x : Str} {d : D} (a0 : Addr) (h : methD .getAll ds [.str x] = some d) : ∃ stE, cxs Φ csGetAll (startS [0, 1] (.raw (.hdr ds) a0 :: [D.str x].map Slot.val)) = some (stE, .ret d) := by
  replace h := (show (if _ then _ else none) = some d from h)
  split at h
  rotate_left
  · cases h
  rename_i hl
  simp only [Bool.and_eq_true, decide_eq_true_eq] at hl
  cases q : asPairs ds with
  | none => rw [q] at h; cases h
  | some ps =>
    rw [q] at h
    simp only [Option.bind_some] at h
    split at h
    rotate_left
    · cases h
    rename_i hps
    cases h
    have hds := asPairs_map q
    have e0 : ev Φ (.conv 0 (.low (.var 1)) true) (startS [0, 1] [.raw (.hdr ds) a0, .val (.str x)]).view = some (.str (lowS x), false) := by
      simp only [q_var, q_low, q_conv]
      have e2 : (startS [0, 1] [.raw (.hdr ds) a0, .val (.str x)]).view 0 = some (.hdr ds, true) := rfl
      have e3 : (startS [0, 1] [.raw (.hdr ds) a0, .val (.str x)]).view 1 = some (.str x, false) := rfl
      rw [e2, e3]
      simp only [hl.1, if_true, plainS_low hl.1]
    let st1 : St := (startS [0, 1] [.raw (.hdr ds) a0, .val (.str x)]).set 1 (.val (.str (lowS x)))
    refine ⟨st1, ?_⟩
    have e1 : ev Φ (.comp (.idx (.var 2) (.cint 1)) (.one 2) (.ce (.attr 0)) [.cmp .Eq (.low (.idx (.var 2) (.cint 0))) (.var 1)]) st1.view = some (.lst ((ps.filter fun p => decide (lowS p.1 = lowS x)).map fun p => .str p.2), false) := by
      simp only [q_var, q_cint, q_idx, q_comp, q_attr, qw_ce]
      have e2 : st1.view 0 = some (.hdr ds, true) := rfl
      rw [e2]
      simp only [itemsD, hl.2, if_true]
      rw [hds, compL_pairs (q := fun p => decide (lowS p.1 = lowS x)) (g := fun p => D.str p.2) (fun p hp => ?_)]
      · rfl
      · have hp1 : plainS p.1 = true := List.all_eq_true.mp hps p hp
        have e3 : bind1 st1.view 2 (pairD p) 2 = some (pairD p, false) := rfl
        have e4 : bind1 st1.view 2 (pairD p) 1 = some (.str (lowS x), false) := rfl
        have i0 : idxD (pairD p) (.int 0) = some (.str p.1) := rfl
        have i1 : idxD (pairD p) (.int 1) = some (.str p.2) := rfl
        have ec : cmpD .Eq (.str (lowS p.1)) (.str (lowS x)) = some (decide (lowS p.1 = lowS x)) := by
          show (if okc (.str (lowS p.1)) && okc (.str (lowS x)) then some (eqD (.str (lowS p.1)) (.str (lowS x))) else none) = _
          rw [okc_str (plainS_low hp1), okc_str (plainS_low hl.1), Bool.and_self, if_pos rfl, eqD_str]
        simp only [bindT, qa_nil, qa_cons, qt_cmp, q_var, q_cint, q_idx, q_low, e3, e4, i0, i1, Option.map_some, hp1, if_true, ec]
        cases decide (lowS p.1 = lowS x) <;> rfl
    unfold csGetAll
    simp only [qxs_nil, qxs_cons, qx_asg, qx_ret, List.map_cons, List.map_nil]
    rw [e0]
    simp only [emb, Bool.not_false, Bool.true_or, if_true, Option.map_some]
    rw [e1]
set_option tactic.hygienic true in
theorem items_sem {ds : List D} {d : D} (a0 : Addr) (h : methD .items ds [] = some d) : ∃ stE, cxs Φ csItems (startS [0] (.raw (.hdr ds) a0 :: ([] : List D).map Slot.val)) = some (stE, .ret d) := by
  replace h := (show (if _ then _ else none) = some d from h)
  split at h
  rotate_left
  · cases h
  rename_i hl
  cases h
  refine ⟨startS [0] [.raw (.hdr ds) a0], ?_⟩
  have e1 : ev Φ (.copy (.attr 0)) (startS [0] [.raw (.hdr ds) a0]).view = some (.lst ds, false) := by
    simp only [q_attr, q_copy]
    show (match (match (some (.hdr ds, true) : Option TD) with | some (.hdr ds, t) => some (D.lst ds, t) | _ => none) with | some (.lst ds, _) => if ds.length ≤ lineN then some (D.lst ds, false) else none | _ => none) = _
    simp only [hl, if_true]
  unfold csItems
  simp only [qxs_nil, qxs_cons, qx_ret, List.map_nil]
  rw [e1]
theorem getAll_K (X : K.In h0) (H : Hyp prog w h0 C N Φ) {f : Addr} (F : MethFacts K C f "get_all" tbGetAll csGetAll [0, 1] [Str.ofString "self", Str.ofString "name"]) : MethOK prog w h0 C (N + 1) .getAll := by
  refine oE1_2 F.fd fun fd hfd _ => ?_
  refine oE1_2 (fdAt_is hfd) fun o ho hd => ?_
  refine ⟨f, o, fd, X _ _ ho, hd, getm_K X F.get F.find F.fn (by decide), fun A E s P x dx l vs as ds es d Q hr kp up pdx Hd ra re hm k => ?_⟩
  refine oE1_2 (on1_ (show _ = some d from hm)) fun y0 eS hm2 => ?_; subst eS
  refine oE1_2 (strD_ hm2) fun y eS _ => ?_; clear hm2; subst eS
  obtain ⟨stE, hrun⟩ := getAll_sem (Φ := Φ) x hm
  have re' : RpA P C s.heap as [.str y] := by
    cases re with
    | cons a r => cases r; exact .cons (RpT.flat (t := false) (P := fun _ => True) a rfl) .nil
  exact meth_core X H F (fun nd ndot => snss_cons (sns_asg H nd ndot _ _) (snss_cons (sns_ret H nd ndot _) snss_nil)) hr kp up pdx Hd ra re' rfl hrun k
theorem keys_K (X : K.In h0) (H : Hyp prog w h0 C N Φ) {f : Addr} (F : MethFacts K C f "keys" tbKeys csKeys [0] [Str.ofString "self"]) : MethOK prog w h0 C (N + 1) .keys := by
  refine oE1_2 F.fd fun fd hfd _ => ?_
  refine oE1_2 (fdAt_is hfd) fun o ho hd => ?_
  refine ⟨f, o, fd, X _ _ ho, hd, getm_K X F.get F.find F.fn (by decide), fun A E s P x dx l vs as ds es d Q hr kp up pdx Hd ra re hm k => ?_⟩
  have hes : es = [] := (nil0_ (show _ = some d from hm)).1
  subst hes
  obtain ⟨stE, hrun⟩ := keys_sem (Φ := Φ) x hm
  have re' : RpA P C s.heap as [] := by cases re; exact .nil
  exact meth_core X H F (fun nd ndot => snss_cons (sns_ret H nd ndot _) snss_nil) hr kp up pdx Hd ra re' rfl hrun k
theorem items_K (X : K.In h0) (H : Hyp prog w h0 C N Φ) {f : Addr} (F : MethFacts K C f "items" tbItems csItems [0] [Str.ofString "self"]) : MethOK prog w h0 C (N + 1) .items := by
  refine oE1_2 F.fd fun fd hfd _ => ?_
  refine oE1_2 (fdAt_is hfd) fun o ho hd => ?_
  refine ⟨f, o, fd, X _ _ ho, hd, getm_K X F.get F.find F.fn (by decide), fun A E s P x dx l vs as ds es d Q hr kp up pdx Hd ra re hm k => ?_⟩
  have hes : es = [] := (nil0_ (show _ = some d from hm)).1
  subst hes
  obtain ⟨stE, hrun⟩ := items_sem (Φ := Φ) x hm
  have re' : RpA P C s.heap as [] := by cases re; exact .nil
  exact meth_core X H F (fun nd ndot => snss_cons (sns_ret H nd ndot _) snss_nil) hr kp up pdx Hd ra re' rfl hrun k
end
end Mine
end
section
open PySem PySem.W PyProof.Rows
set_option autoImplicit false
set_option maxRecDepth 100000
namespace Mine
section
variable {prog : Program} {w : World} {h0 : Heap} {C : Addr} {N : Nat} {K : Frag}
set_option tactic.hygienic true in
theorem no_items {env : Env} {A : Around} {E : Value → Shared → Prop} {s : Shared} {g : Str → Option Value} {x : Str} {px apos cpos fpos : Pos} {target : Expr} {body : List Stmt} {d : Addr} {Q : Flow → Shared → Prop} (ok : EnvOK env) (hh : A.handled = none) (hok : okName x = true) (hv : isVar env.scope x = true) (hline : (apos.endLine == cpos.line) = true)
    (fm : Fm env s.heap g) (gx : g x = some (.ref d)) (hd : s.heap.get? d = some { cls := .type "dict", data := .dict #[] }) (hsys : (d == sysModules) = false) (k : ∀ h' tk, Keep s.heap h' → Q .next { s with heap := h', toks := tk }) :
    wpAny (model prog w) A (exec (.For target (.Call (.Attribute (.Name x px) ("items" : Str) apos) [] [] cpos) body [] fpos) env) Q E s := by
  have hD : ∀ h : Heap, Keep s.heap h → h.DictAt (PySem.strKind prog w) d [] 0 := fun h kk => ⟨_, #[], kk _ _ hd, ⟨rfl, rfl, rfl⟩, rfl, (fun e he => absurd he (by simp)), .nil, .nil⟩
  refine wpAny_For (methcall rfl (by decide) hline (Name_var ok hok (fm.var ok gx hv) fun pl => ?_)) (by intro _; rfl)
  refine getMethod_builtin (T := "dict") (id := "dict.items") ⟨_, hd, rfl⟩ PySem.F.plainAttrs_dict PySem.F.slot_dict_items PySem.F.type_dict_items (fun a q => by cases q; exact ⟨_, hd, rfl⟩) ?_
  refine Calls.callWith_builtin rfl (PySem.evalArgs_none ?_)
  refine call_meetsIn PySem.F.slot_dict_items ⟨_, hd, rfl⟩ PySem.F.entry_dict_items (PySem.F.args_dict_items_1 _) (meets_dict_items (PySem.strKind prog w) d hsys) ⟨⟨[], (hD s.heap (Keep.refl _)).dictOf⟩, ?_⟩
  have k1 : Keep s.heap (s.heap.push { cls := .type "dict_items", data := .fields #[.ref d] }) := Keep.push _ _
  refine wpAny_pyIter_items (knd := PySem.strKind prog w) (d := d) (kvs := []) (ep := 0) ⟨_, Heap.get?_push_size _ rfl, rfl, rfl⟩ (hD _ k1) ?_
  have k2 : Keep s.heap ((s.heap.push { cls := .type "dict_items", data := .fields #[.ref d] }).push { cls := .type "dict_itemiterator", data := .fields #[.none, .bool false, .ref d, .int 0 0, .int (([] : List (Str × Value)).length) 0, .int 0 0, .none, .none] }) := k1.trans (Keep.push _ _)
  have hit := Heap.get?_push_size (s.heap.push { cls := .type "dict_items", data := .fields #[.ref d] }) (o := { cls := .type "dict_itemiterator", data := .fields #[.none, .bool false, .ref d, .int 0 0, .int (([] : List (Str × Value)).length) 0, .int 0 0, .none, .none] }) rfl
  refine codeAny_forLoop_any (fun n s' => s' = _ ∧ n = 0) (fun n s' hI => ?_) 0 ⟨rfl, rfl⟩
  obtain ⟨rfl, rfl⟩ := hI
  refine wpAny_pyNext_items_end (knd := PySem.strKind prog w) (d := d) (i := 0) (kvs := []) (ep := 0) hh hit (hD _ k2) rfl fun h' eb => wpAny_execs_nil ?_
  refine k h' _ fun b o e => ?_
  have hb : b ≠ (s.heap.push { cls := .type "dict_items", data := .fields #[.ref d] }).objs.size := fun z => by
    have := Heap.lt_size e
    rw [z, Heap.size_push] at this
    exact absurd this (Nat.not_lt.mpr (Nat.le_succ _))
  exact eb b o hb (k2 b o e)
end
end Mine
end
section
open PySem PySem.W PyProof.Rows
set_option autoImplicit false
set_option maxRecDepth 100000
namespace Mine
noncomputable def tbAdd : List Str := [Str.ofString "self", Str.ofString "_name", Str.ofString "_value", Str.ofString "_params", Str.ofString "parts"]
noncomputable def cAdd1 : CS := .own 4 (.dlst [])
noncomputable def cAdd2 : CS := .ite (.cmp .IsNot (.var 2) .cnone) [.asg 2 (.conv 0 (.var 2) false), .app 4 (.var 2)] []
noncomputable def tAdd : CE := .dtup [.conv 0 (.var 1) true, .prim (.join "; ") [.var 4]]
noncomputable def appH (tb : List Str) (sc : Scope) (s : Stmt) (f : Expr → Bool) : Bool := isExprS s fun c => isMeth c fun o ap a3 as p2 => isAttr o fun o hd _ => isName o fun _ _ => one as fun t => isVarE tb sc 0 o && decide (hd = ("_headers" : Str)) && decide (ap = ("append" : Str)) && (a3.endLine == p2.line) && f t
theorem appH_ {tb : List Str} {sc : Scope} {s : Stmt} {f : Expr → Bool} (h : appH tb sc s f = true) : ∃ se q1 a2 a3 t p2 p3, s = .Expr (.Call (.Attribute (.Attribute (.Name se q1) ("_headers" : Str) a2) ("append" : Str) a3) [t] [] p2) p3 ∧ isVarE tb sc 0 (.Name se q1) = true ∧ (a3.endLine == p2.line) = true ∧ f t = true := by
  refine oE2_2 (isExprS_ h) fun c p3 eZ h1 => ?_; clear h; subst eZ
  refine oE5_2 (isMeth_ h1) fun o ap a3 as p2 eZ h2 => ?_; clear h1; subst eZ
  refine oE3_2 (isAttr_ h2) fun o hd a2 eZ h3 => ?_; clear h2; subst eZ
  refine oE2_2 (isName_ h3) fun se q1 eZ h4 => ?_; clear h3; subst eZ
  refine oE1_2 (one_ h4) fun t eZ h5 => ?_; clear h4; subst eZ
  simp only [Bool.and_eq_true, decide_eq_true_eq] at h5
  refine oE0_2 h5 fun zq1 h8 => ?_; clear h5; refine oE0_2 zq1 fun zq2 h7 => ?_; clear zq1; refine oE0_2 zq2 fun zq3 rq4 => ?_; clear zq2; subst rq4; refine oE0_2 zq3 fun h6 rq5 => ?_; clear zq3; subst rq5
  exact ⟨se, q1, a2, a3, t, p2, p3, rfl, h6, h7, h8⟩
noncomputable def addBody (sc : Scope) (b : List Stmt) : Bool := four b fun s1 s2 s3 s4 => isFor s3 fun _ it _ o => nul o (isMeth it fun px itn a1 as p1 => isName px fun _ _ => nul as (appH tbAdd sc s4 fun t =>
    chkS tbAdd cAdd1 sc s1 && chkS tbAdd cAdd2 sc s2 && isVarE tbAdd sc 3 px && decide (itn = ("items" : Str)) && (a1.endLine == p1.line) && chk tbAdd tAdd sc t && notStar t))
theorem tbAdd_nd : tbAdd.Nodup := by decide
theorem tbAdd_dot : (".0" : Str) ∉ tbAdd := by decide
noncomputable def stA (ds : List D) (n v : Str) (dd a0 : Addr) : St := { ρ := fun i => if i = 0 then some (.raw (.hdr ds) a0) else if i = 1 then some (.val (.str n)) else if i = 2 then some (.val (.str v)) else if i = 3 then some (.fix dd) else none, σ := [] }
set_option tactic.hygienic true in
theorem cx1 {Φ : Fns} (ds : List D) (n v : Str) (dd a0 : Addr) : cx Φ cAdd1 (stA ds n v dd a0) = some ({ ρ := fun y => if y = 4 then some (.own 0) else (stA ds n v dd a0).ρ y, σ := [[]] }, .next) := by
  simp only [cAdd1, qx_own, q_dlst, qs_nil]
  rfl
noncomputable def stB (ds : List D) (n v : Str) (dd a0 : Addr) : St := { ρ := fun y => if y = 2 then some (.val (.str v)) else if y = 4 then some (.own 0) else (stA ds n v dd a0).ρ y, σ := [[.str v]] }
set_option tactic.hygienic true in
theorem cx2 {Φ : Fns} (ds : List D) (n v : Str) (dd a0 : Addr) (hv : plainS v = true) : ∃ st, cx Φ cAdd2 { ρ := fun y => if y = 4 then some (.own 0) else (stA ds n v dd a0).ρ y, σ := [[]] } = some (st, .next) ∧ st = stB ds n v dd a0 := by
  let s0 : St := { ρ := fun y => if y = 4 then some (.own 0) else (stA ds n v dd a0).ρ y, σ := [[]] }
  have e2 : s0.view 2 = some (.str v, false) := rfl
  have e0 : s0.view 0 = some (.hdr ds, true) := rfl
  let s1 : St := s0.set 2 (.val (.str v))
  have f2 : s1.view 2 = some (.str v, false) := rfl
  have f4 : s1.ρ 4 = some (.own 0) := rfl
  have t1 : tr Φ (.cmp .IsNot (.var 2) .cnone) s0.view = some true := by
    simp only [qt_cmp, q_var, q_cnone, e2]; rfl
  have t2 : cx Φ (.asg 2 (.conv 0 (.var 2) false)) s0 = some (s1, .next) := by
    simp only [qx_asg, q_var, q_conv, e2, e0, hv, if_true]; rfl
  have t3 : cx Φ (.app 4 (.var 2)) s1 = some (stB ds n v dd a0, .next) := by
    simp only [qx_app, q_var, f2, f4]
    have em : emb (D.str v, false) = some (D.str v) := rfl
    rw [em]
    simp only [Option.bind_some]
    have : St.upd s1 0 (fun ds => if ds.length ≤ lineN then some (ds ++ [D.str v]) else none) = some (stB ds n v dd a0) := by
      show (match (some ([] : List D)) with | some ds => ((if ds.length ≤ lineN then some (ds ++ [D.str v]) else none).map fun es => ({ s1 with σ := s1.σ.set 0 es } : St)) | none => none) = _
      simp only
      rw [if_pos (show ([] : List D).length ≤ lineN from Nat.zero_le _)]
      rfl
    rw [this]; rfl
  refine ⟨stB ds n v dd a0, ?_, rfl⟩
  show cx Φ cAdd2 s0 = _
  unfold cAdd2
  rw [qx_ite, t1]
  simp only [qxs_nil, qxs_cons]
  rw [t2]
  simp only
  rw [t3]
theorem evA {Φ : Fns} (ds : List D) (n v : Str) (dd a0 : Addr) (hn : plainS n = true) (hv : plainS v = true) : ev Φ tAdd (stB ds n v dd a0).view = some (.tup [.str n, .str v], false) := by
  have e0 : (stB ds n v dd a0).view 0 = some (.hdr ds, true) := rfl
  have e1 : (stB ds n v dd a0).view 1 = some (.str n, false) := rfl
  have e4 : (stB ds n v dd a0).view 4 = some (.lst [.str v], true) := rfl
  have j : primT Φ (.join "; ") [(.lst [.str v], true)] = some (.str v) := by
    have hl : v.length ≤ 64 := plainS_len hv
    show (if ((([v] : List Str).map (·.length)).sum + ([v] : List Str).length ≤ 1048576 ∧ (Str.ofString "; ").length ≤ 16) then some (D.str (Txt.join (Str.ofString "; ") [v])) else none) = _
    rw [if_pos ⟨by simp; exact om_51 hl, by decide⟩]
    rfl
  simp only [tAdd, q_var, q_dtup, q_prim, q_conv, qs_nil, qs_cons, e0, e1, e4, hn, if_true, j]
  rfl
end Mine
end
section
open PySem PySem.W PyProof.Rows
set_option autoImplicit false
set_option maxRecDepth 100000
namespace Mine
noncomputable abbrev pnAdd : List Str := [Str.ofString "self", Str.ofString "_name", Str.ofString "_value", Str.ofString "_params"]
structure AddFacts (K : Frag) (C f : Addr) : Prop where
  get : plainGet K C (Str.ofString "add_header") = true
  find : findIn K (.ref C) (Str.ofString "add_header") = some (some (.ref f))
  fn : isFn K (.ref f) = true
  fd : ∃ fd b, fdAt K f = some fd ∧ fd.body = .stmts b ∧ codeIn K fd.code fd.qualname = true ∧ fd.closure = [] ∧ fd.globals = mainGlobals ∧ fd.builtins = builtinsNs ∧ defScope fd.scope = true ∧ paramKinds fd.scope pnAdd = true ∧ addBody fd.scope b = true ∧
    ∀ x n v, bindArgs fd ⟨[x, n, v], []⟩ = (alloc { cls := .type "dict", data := .dict #[] } >>= fun d => pure [(Str.ofString "self", x), (Str.ofString "_name", n), (Str.ofString "_value", v), (Str.ofString "_params", .ref d)])
section
variable {prog : Program} {w : World} {h0 : Heap} {C : Addr} {N : Nat} {Φ : Fns} {K : Frag}
set_option tactic.hygienic true in
theorem add_K (X : K.In h0) (H : Hyp prog w h0 C N Φ) {f : Addr} (F : AddFacts K C f) : MutOK prog w h0 C (N + 1) "add_header" addF := by
  refine oE2_10 F.fd fun fd b hfd hb hcode hclo hglob hblt hsc hpk hbody hbind => ?_
  refine oE1_2 (fdAt_is hfd) fun o ho hd => ?_
  refine ⟨f, o, fd, X _ _ ho, hd, getm_K X F.get F.find F.fn (by decide), fun A E s P x dx l vs ds es d n v tn tv Q hr kp up nPl pdx Hd ra hF k => ?_⟩
  have hF2 : plainS n = true ∧ plainS v = true ∧ ds.length ≤ lineN ∧ es = ds ++ [.tup [.str n, .str v]] ∧ d = .none := by
    unfold addF addHdr at hF
    split at hF
    · rename_i q
      simp only [plainP, Bool.and_eq_true, decide_eq_true_eq] at q
      cases hF
      exact ⟨q.1.1, q.1.2, q.2, rfl, rfl⟩
    · cases hF
  refine oE0_5 hF2 fun pn pv hlen rq12 rq13 => ?_; clear hF2; subst rq12; subst rq13
  refine enter (args := ⟨[.ref x, .str n tn, .str v tv], []⟩) (pn := pnAdd) (R := fun us s1 => ∃ dd, us = [.ref x, .str n tn, .str v tv, .ref dd] ∧ s1.heap.get? dd = some { cls := .type "dict", data := .dict #[] } ∧ (dd == sysModules) = false) H.nolimit (X _ _ ho) hd (codeRec_of X hcode) hb hclo hglob hblt hsc (by decide) hpk hr kp (fun E' Q' hq => ?_) fun us env h1 tk1 E' _ hR hvl ok esc fm kk newO hcell hr1 => ?_
  · rw [hbind]
    refine wpAny_bind (wpAny_alloc (wpAny_pure ?_))
    refine hq [.ref x, .str n tn, .str v tv, .ref s.heap.objs.size] _ (keeps_push _ _) rfl ⟨_, rfl, Heap.get?_push_size _ rfl, ?_⟩
    exact beq_eq_false_iff_ne.mpr (Nat.ne_of_gt (modules_low (H.nolimit.keeps kp)))
  · refine oE1_4 hR fun s1 ks zq10 kk1 newO1 => ?_; clear hR; refine oE1_3 zq10 fun dd rq11 hdd hsys => ?_; clear zq10; subst rq11
    have hdd1 := kk1 _ _ hdd
    rw [← esc] at hbody
    clear hbind hcode hclo hglob hblt hsc hpk ho hd hfd hb
    refine byG fun gg kgg => ?_
    refine oE4_2 (four_ hbody) fun s1' s2' s3' s4' eZ hb1 => ?_; clear hbody; subst eZ
    refine oE5_2 (isFor_ hb1) fun tg it0 fb orr p2 eZ hb2 => ?_; clear hb1; subst eZ
    obtain ⟨eZ, hb3⟩ := nul_ hb2; clear hb2; subst eZ
    refine oE5_2 (isMeth_ hb3) fun px0 it a1 as0 p1 eZ hb4 => ?_; clear hb3; subst eZ
    refine oE2_2 (isName_ hb4) fun px q0 eZ hb5 => ?_; clear hb4; subst eZ
    obtain ⟨eZ, hb6⟩ := nul_ hb5; clear hb5; subst eZ
    refine oE7_4 (appH_ hb6) fun se q1 a2 a3 tupE p3 p4 rq9 b6 b9 hb7 => ?_; subst rq9
    simp only [Bool.and_eq_true, decide_eq_true_eq] at hb7
    refine oE0_2 hb7 fun zq3 b11 => ?_; clear hb7; refine oE0_2 zq3 fun zq4 b10 => ?_; clear zq3; refine oE0_2 zq4 fun zq5 b5 => ?_; clear zq4; refine oE0_2 zq5 fun zq6 rq7 => ?_; clear zq5; subst rq7; refine oE0_2 zq6 fun zq8 b3 => ?_; clear zq6; refine oE0_2 zq8 fun b1 b2 => ?_; clear zq8
    refine kgg ?_
    clear kgg gg
    have mo : ∀ b oo, s.heap.get? b = some oo → P b → P b ∧ ¬ Own env [] b := fun b oo e p => ⟨p, fun z => by rw [newO b z] at e; cases e⟩
    have S : SR tbAdd C P s.heap env h1 (stA ds n v dd x) (fun b => P b ∧ ¬ Own env [] b) [] (fun y => (pnAdd.zip [.ref x, .str n tn, .str v tv, .ref dd]).lookup y) := by
      refine ⟨fm, kk, fun b e => ⟨(up.keep kk) b e, fun z => ?_⟩, fun b p => p.1, fun p => p.2 (.inl rfl), fun y c e => ⟨.inl (hcell y c e), fun p => p.2 (.inr (.inl ⟨y, e⟩))⟩, newO, rfl, .nil, (fun b z => by cases z), (fun i b es hb => by cases hb), fun i y sl hi hy hv => ?_⟩
      · rcases z with z | ⟨y, z⟩ | z
        · refine oE1_2 fm.ns fun m zq2 _ => ?_; refine oE3_2 zq2 fun oo es ep q _ => ?_; clear zq2
          rw [z] at e; rw [e] at q; cases q
        · refine oE1_2 (fm.cell y b z (.inl (hcell y b z))) fun oo q _ => ?_
          rw [e] at q; cases q
        · cases z
      · have hi' : (if i = 0 then some (Slot.raw (.hdr ds) x) else if i = 1 then some (.val (.str n)) else if i = 2 then some (.val (.str v)) else if i = 3 then some (.fix dd) else none) = some sl := hi
        by_cases i0 : i = 0
        · subst i0
          rw [if_pos rfl] at hi'; cases hi'
          have : y = Str.ofString "self" := (Option.some.inj hy).symm
          subst this
          exact ⟨rfl, RpT.mono (show RpT true P C s.heap (.ref x) (.hdr ds) from ⟨x, dx, l, vs, rfl, pdx, Hd, ra⟩) mo⟩
        · rw [if_neg i0] at hi'
          by_cases i1 : i = 1
          · subst i1
            rw [if_pos rfl] at hi'; cases hi'
            have : y = Str.ofString "_name" := (Option.some.inj hy).symm
            subst this
            exact ⟨.str n tn, rfl, .str _ _⟩
          · rw [if_neg i1] at hi'
            by_cases i2 : i = 2
            · subst i2
              rw [if_pos rfl] at hi'; cases hi'
              have : y = Str.ofString "_value" := (Option.some.inj hy).symm
              subst this
              exact ⟨.str v tv, rfl, .str _ _⟩
            · rw [if_neg i2] at hi'
              by_cases i3 : i = 3
              · subst i3
                rw [if_pos rfl] at hi'; cases hi'
                have : y = Str.ofString "_params" := (Option.some.inj hy).symm
                subst this
                rfl
              · rw [if_neg i3] at hi'; cases hi'
    refine oE1_2 (cx2 (Φ := Φ) ds n v dd x pv) fun stB' hB rq1 => ?_; subst rq1
    refine wpAny_execs_cons (sns_own H tbAdd_nd tbAdd_dot 4 (.dlst []) s.heap P env s1' (stA ds n v dd x) _ .next _ _ _ _ [] _ _ b1 ok hr1 kp S (cx1 ds n v dd x) fun h2 tk2 P2 adr2 g2 S2 V2 => ?_)
    refine wpAny_execs_cons (sns_ite H tbAdd_nd tbAdd_dot (snss_cons (sns_asg H tbAdd_nd tbAdd_dot _ _) (snss_cons (sns_app H tbAdd_nd tbAdd_dot _ _) snss_nil)) snss_nil s.heap P env s2' _ (stB ds n v dd x) .next _ _ _ P2 adr2 g2 _ b2 ok hr1 kp S2 hB fun h3 tk3 P3 adr3 g3 S3 V3 => ?_)
    refine oE2_4 (isVarE_is b3) fun px' q0' q hpx hpv hpo => ?_
    cases q
    refine oE2_4 (isVarE_is b6) fun se' q1' q hse hsv hso => ?_
    cases q
    have gp : g3 px = some (.ref dd) := S3.vars 3 px (.fix dd) rfl hpx hpv
    have gse : g3 se = some (.ref x) := (S3.vars 0 se (.raw (.hdr ds) x) rfl hse hsv).1
    have nOd : ¬ Own env [] dd := fun z => by rw [newO1 dd z] at hdd; cases hdd
    have hdd2 := V2.kw dd _ nOd hdd1
    have nOd2 : ¬ Own env adr2 dd := fun z => by
      refine oE1_2 V2.pre fun r hr' hr0 => ?_
      rcases z with z | z | z
      · exact nOd (.inl z)
      · exact nOd (.inr (.inl z))
      · rw [hr', List.nil_append] at z
        have := hr0 dd z
        rw [hdd1] at this; cases this
    have hdd3 := V3.kw dd _ nOd2 hdd2
    refine wpAny_execs_cons (no_items (s := { s with heap := h3, toks := tk3 }) ok hr1.handled hpo hpv b5 S3.fm gp hdd3 hsys fun h4 tk4 k4 => ?_)
    have S4 := S3.keeps k4
    have hst : ([tupE] : List Expr).all notStar = true := by rw [List.all_cons, b11]; rfl
    have k04 : Keep s.heap h4 := S4.keep
    have Hd4 : HdrAt C h4 x dx l vs := ⟨k04 _ _ Hd.obj, (let ⟨es, m, e, r⟩ := Hd.dict; ⟨es, m, k04 _ _ e, r⟩), Hd.list.at fun o e => k04 _ _ e⟩
    refine wpAny_execs_cons (wpAny_Expr (methcallG rfl hst (Nat.lt_of_le_of_lt (Nat.le_refl 1) (by decide)) b9 ?_) (interactive_not ok) (by rfl))
    rw [arm_eval_Attribute]
    refine wpAny_bind (Name_var ok hso (S4.fm.var ok gse hsv) ?_)
    refine wpAny_bind (wpAny_standAt (wpAny_bind (wpAny_holding (H.attr _ _ { s with heap := h4, toks := tk4 } x dx l vs _ (kp.trans k04) Hd4 fun s5 k5 => ?_))))
    refine wpAny_bind (wpAny_letTemporaryGo (wpAny_pure fun pl => ?_))
    cases k5 using keepsE; rename_i h5 tk5 k45
    have S5 := S4.keeps k45
    have k05 : Keep s.heap h5 := S5.keep
    have hpl5 : h5.PlainList l vs.toArray := Hd.list.at fun o e => k05 _ _ e
    refine gm_append hpl5 (Calls.callWith_builtin (any_false hst) ?_)
    rw [star_plain _ _ _ hst]
    refine Calls.evalArgs_plain (Calls.spliced_cons (ev_snd H tbAdd_nd tbAdd_dot tAdd env tupE (stB ds n v dd x).view _ _ _ _ P3 _ b10 ok hr1 (kp.trans k05) S5.up S5.view (evA ds n v dd x pn pv) fun tv6 s6 k6 r6 => Calls.spliced_nil ?_))
    cases k6 using keepsE; rename_i h6 tk6 k56
    have k06 : Keep s.heap h6 := k05.trans k56
    have hpl6 : h6.PlainList l vs.toArray := Hd.list.at fun o e => k06 _ _ e
    refine wpAny_list_append_plain hpl6 (fun h7 hp7 sb => wpAny_execs_nil ?_) ?_
    · have kw7 := keepW_of_same sb
      have kp7 : KeepP P C h6 h7 := keepP_of_W kw7 fun b z => by rw [z]; exact ⟨nPl, notVal_list hpl6.isList⟩
      have e7 : (List.toArray vs).push tv6 = List.toArray (vs ++ [tv6]) := by simp
      rw [e7] at hp7
      refine k h7 tk6 (vs ++ [tv6]) .none (fun b o nb e => kw7 b o nb (k06 b o e)) hp7 ?_ .none
      refine ((ra.keeps k06).keepP kp7).append (.one (Rp.keepP kp7 (Rp.mono (fun a _ _ p => S3.sub a p) (show Rp P3 C h6 tv6 (.tup [.str n, .str v]) from r6))))
    · rw [List.size_toArray, ra.length]; exact Nat.le_trans hlen lineN_le
end
end Mine
end
section
open PySem PySem.W PyProof.Rows
set_option autoImplicit false
set_option maxRecDepth 100000
namespace Mine
section
variable {prog : Program} {w : World}
theorem list_setAll {A : Around} {E : Value → Shared → Prop} {s : Shared} {l sl nl : Addr} {its items : Array Value} {Q : Unit → Shared → Prop} (hl : s.heap.PlainList l its) (hn : s.heap.IsList nl items) (hs : s.heap.IsSliceOf sl .none .none .none) (hne : (l == nl) = false)
    (h1 : its.size ≤ 2 ^ 20) (h2 : items.size ≤ 2 ^ 20) (hQ : ∀ h', h'.PlainList l items → Heap.SameBut l s.heap h' → Q () { s with heap := h' }) :
    wpAny (model prog w) A (setItem (.ref l) (.ref sl) (.ref nl)) Q E s := by
  obtain ⟨n, ho⟩ := id hl
  refine oE1_3 (id hn) fun on hon hcn zq1 => ?_; refine oE1_1 zq1 fun nn hdn => ?_; clear zq1
  refine oE1_3 (id hs) fun os hos hcs hds => ?_
  have hTs : s.TypeIs (.ref sl) "slice" := ⟨os, hos, hcs⟩
  unfold setItem
  try with_reducible refine wpAny_holding ?_
  first | refine wpAny_bind (wpAny_pure ?_) | skip
  refine wpAny_bind (wpAny_sequenceKey hl.isList.typeIs (by decide) ?_)
  refine wpAny_bind (wpAny_callSpecial?_slot (name := Str.ofString "__setitem__") hl.isList.typeIs slot_list_setitem
    (wpAny_call_entry slot_list_setitem hl.isList.typeIs entry_list_setitem ?_ (args_list_setitem _ _ _)))
  show wpAny _ _ (Builtin.List.listSubscript? (.ref sl) >>= _) _ _ s
  refine wpAny_bind ?_
  unfold Builtin.List.listSubscript?
  refine wpAny_bind (wpAny_specialOf hTs slice_no_index ?_)
  simp only [Option.isNone_none, if_true]
  refine wpAny_pure ?_
  show wpAny _ _ (typeOf (.ref sl) >>= _) _ _ s
  refine wpAny_bind (wpAny_typeOf hTs ?_)
  rw [if_neg (by decide)]
  rw [listSliceParts_eq]
  refine wpAny_bind (wpAny_bind (wpAny_field hos hds (x := .none) rfl (wpAny_bind (wpAny_listPart .none ?_))))
  rw [if_neg (by exact Bool.false_ne_true)]
  refine wpAny_bind (wpAny_field hos hds (x := .none) rfl (wpAny_bind (wpAny_listPart .none ?_)))
  refine wpAny_bind (wpAny_field hos hds (x := .none) rfl (wpAny_bind (wpAny_listPart .none (wpAny_pure ?_))))
  simp only [Builtin.List.listSameRef, hne, Bool.false_eq_true, if_false]
  refine wpAny_bind ?_
  unfold Builtin.List.listAllItems
  refine wpAny_bind (wpAny_typeOf hn.typeIs ?_)
  rw [if_pos (by decide)]
  unfold Builtin.List.listItems
  refine wpAny_bind (wpAny_seqItems hon hdn (wpAny_pure ?_))
  refine wpAny_bind (wpAny_bind (wpAny_seqItems ho rfl (wpAny_pure ?_)))
  refine wpAny_bind (wpAny_of_eq (sliceIndices_raw none none none its.size (by simp)) ?_)
  have eb : sliceBounds none none none its.size = (0, (its.size : Int), 1) := rfl
  rw [eb]
  simp only [show ((1 : Int) == 1) = true from rfl, if_true]
  refine wpAny_bind (wpAny_rule ?_)
  rw [if_neg (by unfold Builtin.List.listTooLong; rw [sizeLine_eq]; simp; exact om_52 h1 h2)]
  have ef : (its.extract 0 (Int.toNat 0) ++ items ++ its.extract (max 0 (its.size : Int)).toNat) = items := by
    have e2 : (max 0 (its.size : Int)).toNat = its.size := by exact om_53
    rw [e2]
    apply Array.ext'
    simp
  show wpAny _ _ (updateSeq l (fun xs => xs.extract 0 (Int.toNat 0) ++ items ++ xs.extract (max 0 (its.size : Int)).toNat) >>= _) _ _ s
  refine wpAny_bind (wpAny_updateSeq ho rfl (wpAny_bind (wpAny_letGo (wpAny_pure ⟨.none, rfl, wpAny_pure (hQ _ ?_ (Heap.SameBut.update ..))⟩))) (by rw [sizeLine_eq]; exact om_54 h1) (by show (its.extract 0 (Int.toNat 0) ++ items ++ its.extract (max 0 (its.size : Int)).toNat).size ≤ _; rw [ef, sizeLine_eq]; exact om_55 h2))
  obtain ⟨n', hd'⟩ := Obj.data_mapSeq (o := { cls := .type "list", data := .seq its n }) rfl (fun xs => xs.extract 0 (Int.toNat 0) ++ items ++ xs.extract (max 0 (its.size : Int)).toNat)
  refine ⟨n', ?_⟩
  rw [Heap.get?_update_self _ ho (Obj.isFreed_of_seq hd')]
  have e3 : (Obj.mapSeq (fun xs => xs.extract 0 (Int.toNat 0) ++ items ++ xs.extract (max 0 (its.size : Int)).toNat) { cls := .type "list", data := .seq its n }) = { cls := .type "list", data := .seq items n' } := by
    have : (Obj.mapSeq (fun xs => xs.extract 0 (Int.toNat 0) ++ items ++ xs.extract (max 0 (its.size : Int)).toNat) { cls := .type "list", data := .seq its n }).data = .seq items n' := by rw [hd', ef]
    generalize hg : (Obj.mapSeq (fun xs => xs.extract 0 (Int.toNat 0) ++ items ++ xs.extract (max 0 (its.size : Int)).toNat) { cls := .type "list", data := .seq its n }) = oo at this ⊢
    have : oo = { cls := .type "list", data := oo.data } := by rw [← hg]; rfl
    rw [this]; congr
  rw [e3]
end
end Mine
end
section
open PySem PySem.W PyProof.Rows
set_option autoImplicit false
set_option maxRecDepth 100000
namespace Mine
inductive GAt (g : Str → Option Value) : List Str → List Value → Prop
  | nil : GAt g [] []
  | cons {x : Str} {v : Value} {xs : List Str} {vs : List Value} : g x = some v → GAt g xs vs → GAt g (x :: xs) (v :: vs)
theorem vars_at {P : Addr → Prop} {C : Addr} {h : Heap} {sc : Scope} {g : Str → Option Value} : ∀ {xs : List Str} {vs : List Value} {tds : List TD}, GAt g xs vs → RpTA P C h vs tds → ∀ (i : Nat) x d t, tds[i]? = some (d, t) → xs[i]? = some x → ∃ v, g x = some v ∧ RpT t P C h v d
  | _, _, _, .nil, .nil, i, x, d, t, e, _ => by simp at e
  | _, _, _, .cons e1 r1, .cons e2 r2, 0, x, d, t, e, q => by
    cases e; cases q; exact ⟨_, e1, e2⟩
  | _, _, _, .cons e1 r1, .cons e2 r2, i + 1, x, d, t, e, q => vars_at (sc := sc) r1 r2 i x d t e q
theorem GAt.len {g : Str → Option Value} {xs : List Str} {vs : List Value} (r : GAt g xs vs) : xs.length = vs.length := by
  induction r with
  | nil => rfl
  | cons _ _ ih => simp [ih]
theorem RpTA.len {P : Addr → Prop} {C : Addr} {h : Heap} {vs : List Value} {ds : List TD} (r : RpTA P C h vs ds) : vs.length = ds.length := by
  induction r with
  | nil => rfl
  | cons _ _ ih => simp [ih]
theorem vars_of {P : Addr → Prop} {C : Addr} {h : Heap} {env : Env} {g : Str → Option Value} {xs ys : List Str} {vs : List Value} {tds : List TD} (fm : Fm env h g) (a : GAt g xs vs) (r : RpTA P C h vs tds) : Vars (xs ++ ys) P C h env (fun i => tds[i]?) := by
  refine ⟨g, fm, fun i x d t _ e q _ => ?_⟩
  have hi : i < xs.length := by
    rw [a.len, r.len]
    rcases Nat.lt_or_ge i tds.length with z | z
    · exact z
    · have e' : tds[i]? = some (d, t) := e
      rw [List.getElem?_eq_none z] at e'; cases e'
  rw [List.getElem?_append_left hi] at q
  exact vars_at (sc := env.scope) a r i x d t e q
noncomputable def tbDel : List Str := [Str.ofString "self", Str.ofString "name", Str.ofString "kv"]
noncomputable abbrev pnDel : List Str := [Str.ofString "self", Str.ofString "name"]
noncomputable def cLow : CE := .conv 0 (.low (.var 1)) true
noncomputable def cDel : CE := .comp (.var 2) (.one 2) (.ce (.attr 0)) [.cmp .NotEq (.low (.idx (.var 2) (.cint 0))) (.var 1)]
noncomputable def delBody (sc : Scope) (b : List Stmt) : Bool := two b fun s1 s2 => isAsgN s1 fun y p v1 => isAsg1 s2 fun t v2 => isSub t fun o sl => isAttr o fun o hd _ => isName o fun _ _ => isSlice sl fun lo hi st => non lo (non hi (non st (
    tgtAt tbDel sc 1 (.Name y p) && chk tbDel cLow sc v1 && notComp v1 && chk tbDel cDel sc v2 && isVarE tbDel sc 0 o && decide (hd = ("_headers" : Str)))))
theorem tbDel_nd : tbDel.Nodup := by decide
theorem tbDel_dot : (".0" : Str) ∉ tbDel := by decide
theorem tgtS_false {v : Expr} {o i : Expr} {p : Pos} {l : Nat} {env : Env} : swapsWith v (some (.Subscript o i p)) l env = pure false := by
  cases v <;> rfl
set_option tactic.hygienic true in
theorem del_sem {Φ : Fns} {n : Str} {ds es : List D} (h : delHdr (.str n) ds = some es) : plainS n = true ∧ ds.length ≤ lineN ∧ ev Φ cLow (fun i => ([(.hdr ds, true), (.str n, false)] : List TD)[i]?) = some (.str (lowS n), false) ∧
    ev Φ cDel (fun i => ([(.hdr ds, true), (.str (lowS n), false)] : List TD)[i]?) = some (.lst es, false) := by
  unfold delHdr at h
  simp only at h
  split at h
  rotate_left
  · cases h
  rename_i q
  simp only [Bool.and_eq_true, decide_eq_true_eq] at q
  cases h
  refine oE0_2 q fun zq8 q3 => ?_; clear q; refine oE0_2 zq8 fun q1 q2 => ?_; clear zq8
  have e0 : ((fun i => ([(.hdr ds, true), (.str n, false)] : List TD)[i]?) : Env') 0 = some (.hdr ds, true) := rfl
  have e1 : ((fun i => ([(.hdr ds, true), (.str n, false)] : List TD)[i]?) : Env') 1 = some (.str n, false) := rfl
  refine ⟨q1, q3, ?_, ?_⟩
  · simp only [cLow, q_var, q_low, q_conv, e0, e1, q1, if_true, plainS_low q1]
  · unfold goodPairs at q2
    split at q2
    rotate_left
    · cases q2
    rename_i ps hps
    have hds := asPairs_map hps
    let ρ : Env' := fun i => ([(.hdr ds, true), (.str (lowS n), false)] : List TD)[i]?
    have f0 : ρ 0 = some (.hdr ds, true) := rfl
    show ev Φ cDel ρ = _
    simp only [cDel, q_var, q_comp, q_attr, qw_ce, f0]
    simp only [itemsD, q3, if_true]
    rw [hds, compL_pairs (q := fun p => !nameIs n (pairD p)) (g := fun p => pairD p) (fun p hp => ?_)]
    · rw [List.filter_map]
      rfl
    · have hp1 : plainS p.1 = true := List.all_eq_true.mp q2 p hp
      have e3 : bind1 ρ 2 (pairD p) 2 = some (pairD p, false) := rfl
      have e4 : bind1 ρ 2 (pairD p) 1 = some (.str (lowS n), false) := rfl
      have i0 : idxD (pairD p) (.int 0) = some (.str p.1) := rfl
      have ec : cmpD .NotEq (.str (lowS p.1)) (.str (lowS n)) = some (!decide (lowS p.1 = lowS n)) := by
        show (if okc (.str (lowS p.1)) && okc (.str (lowS n)) then some (!eqD (.str (lowS p.1)) (.str (lowS n))) else none) = _
        rw [okc_str (plainS_low hp1), okc_str (plainS_low q1), Bool.and_self, if_pos rfl, eqD_str]
      have en : nameIs n (pairD p) = decide (lowS p.1 = lowS n) := rfl
      simp only [bindT, qa_nil, qa_cons, qt_cmp, q_var, q_cint, q_idx, q_low, e3, e4, i0, Option.map_some, hp1, if_true, ec, en]
      cases decide (lowS p.1 = lowS n) <;> rfl
structure DelFacts (K : Frag) (C f : Addr) : Prop where
  seq : noSeq K C = true
  find : findIn K (.ref C) "__delitem__" = some (some (.ref f))
  fn : isFn K (.ref f) = true
  fd : ∃ fd b, fdAt K f = some fd ∧ fd.body = .stmts b ∧ codeIn K fd.code fd.qualname = true ∧ fd.closure = [] ∧ fd.globals = mainGlobals ∧ fd.builtins = builtinsNs ∧ defScope fd.scope = true ∧ paramKinds fd.scope pnDel = true ∧ delBody fd.scope b = true ∧
    ∀ x n, bindArgs fd ⟨[x, n], []⟩ = pure [(Str.ofString "self", x), (Str.ofString "name", n)]
section
variable {prog : Program} {w : World} {h0 : Heap} {C : Addr} {N : Nat} {Φ : Fns} {K : Frag}
theorem HdrAt.kp {h h' : Heap} {x dx l : Addr} {vs : List Value} (H : HdrAt C h x dx l vs) (k : Keep h h') : HdrAt C h' x dx l vs := ⟨k _ _ H.obj, (let ⟨es, m, e, r⟩ := H.dict; ⟨es, m, k _ _ e, r⟩), H.list.at fun o e => k _ _ e⟩
set_option tactic.hygienic true in
theorem del_call (X : K.In h0) (H : Hyp prog w h0 C N Φ) {f : Addr} (F : DelFacts K C f) {A : Around} {E : Value → Shared → Prop} {s : Shared} {P : Addr → Prop} {x dx l : Addr} {vs : List Value} {ds es : List D} {n : Str} {tn : Tok} {Q : Value → Shared → Prop} (hr : Rm (N + 1) A) (kp : Keep h0 s.heap) (up : Up P s.heap) (nPl : ¬ P l) (pdx : P dx) (Hd : HdrAt C s.heap x dx l vs) (ra : RpA P C s.heap vs ds)
    (hF : delHdr (.str n) ds = some es) (k : ∀ h' tk vs', KeepW (· = l) s.heap h' → h'.PlainList l (List.toArray vs') → RpA P C h' vs' es → Q .none { s with heap := h', toks := tk }) : wpAny (model prog w) A (call (.ref f) [.ref x, .str n tn]) Q E s := by
  refine oE2_10 F.fd fun fd b hfd hb hcode hclo hglob hblt hsc hpk hbody hbind => ?_
  refine oE1_2 (fdAt_is hfd) fun o ho hd => ?_
  refine oE0_4 (del_sem (Φ := Φ) hF) fun pn hlen ev1 ev2 => ?_
  refine enter (args := ⟨[.ref x, .str n tn], []⟩) (pn := pnDel) (R := fun us _ => us = [.ref x, .str n tn]) H.nolimit (X _ _ ho) hd (codeRec_of X hcode) hb hclo hglob hblt hsc (by decide) hpk hr kp (fun E' Q' hq => ?_) fun us env h1 tk1 E' _ hR hvl ok esc fm kk newO hcell hr1 => ?_
  · rw [hbind]
    exact wpAny_pure (hq [.ref x, .str n tn] s (Keeps.rfl' s) rfl rfl)
  · refine oE1_4 hR fun s1 ks rq7 kk1 newO1 => ?_; clear hR; subst rq7
    rw [← esc] at hbody
    refine oE2_2 (two_ hbody) fun st1 st2 eZ hb1 => ?_; clear hbody; subst eZ
    refine oE4_2 (isAsgN_ hb1) fun y p v1 ps1 eZ hb2 => ?_; clear hb1; subst eZ
    refine oE3_2 (isAsg1_ hb2) fun t0 v2 ps2 eZ hb3 => ?_; clear hb2; subst eZ
    refine oE3_2 (isSub_ hb3) fun o0 sl0 sp2 eZ hb4 => ?_; clear hb3; subst eZ
    refine oE3_2 (isAttr_ hb4) fun o1 hdn ap eZ hb5 => ?_; clear hb4; subst eZ
    refine oE2_2 (isName_ hb5) fun se q1 eZ hb6 => ?_; clear hb5; subst eZ
    refine oE4_2 (isSlice_ hb6) fun lo hi stp sp eZ hb7 => ?_; clear hb6; subst eZ
    obtain ⟨eZ, hb8⟩ := non_ hb7; clear hb7; subst eZ
    obtain ⟨eZ, hb9⟩ := non_ hb8; clear hb8; subst eZ
    obtain ⟨eZ, hb10⟩ := non_ hb9; clear hb9; subst eZ
    simp only [Bool.and_eq_true, decide_eq_true_eq] at hb10
    refine oE0_2 hb10 fun zq2 rq3 => ?_; clear hb10; subst rq3; refine oE0_2 zq2 fun zq4 b5 => ?_; clear zq2; refine oE0_2 zq4 fun zq5 b4 => ?_; clear zq4; refine oE0_2 zq5 fun zq6 b3 => ?_; clear zq5; refine oE0_2 zq6 fun b1 b2 => ?_; clear zq6
    obtain ⟨hy, ht⟩ := tgtAt_is b1
    have hyn : y = Str.ofString "name" := (Option.some.inj hy).symm
    subst hyn
    refine oE2_4 (isVarE_is b5) fun se' q1' q hse hsv hso => ?_
    cases q
    have hsen : se = Str.ofString "self" := (Option.some.inj hse).symm
    subst hsen
    have ga : GAt (fun y => (pnDel.zip [.ref x, .str n tn]).lookup y) pnDel [.ref x, .str n tn] := .cons rfl (.cons rfl .nil)
    have Hd1 := Hd.kp kk
    have ra1 := ra.keeps kk
    have rt (h : Heap) (Hh : HdrAt C h x dx l vs) (rh : RpA P C h vs ds) (m : Str) (tm : Tok) : RpTA P C h [.ref x, .str m tm] [(.hdr ds, true), (.str m, false)] := .cons ⟨x, dx, l, vs, rfl, pdx, Hh, rh⟩ (.cons (show Rp P C h _ _ from .str _ _) .nil)
    refine wpAny_execs_cons (wpAny_Assign_Name (ev_snd H tbDel_nd tbDel_dot cLow env v1 _ _ _ E' { s with heap := h1, toks := tk1 } P _ b2 ok hr1 (kp.trans kk) (up.keep kk) (vars_of (xs := pnDel) (ys := [Str.ofString "kv"]) fm ga (rt h1 Hd1 ra1 n tn)) ev1 fun v s2 k2 r2 => ?_) (swaps_not b3 _ _ _))
    cases k2 using keepsE; rename_i h2 tk2 kk2
    obtain ⟨t2, rfl⟩ := r2.str
    have k02 := kk.trans kk2
    refine store_sound (s := { s with heap := h2, toks := tk2 }) ok (fm.keeps kk2) ht fun h3 tk3 fm3 sb => ?_
    have own : Own env [] (slotOf env (Str.ofString "name")) := by
      rcases slot_own ok ht with z | ⟨y, z⟩
      · exact .inl z
      · exact .inr (.inl ⟨y, z⟩)
    have k03 : Keep s.heap h3 := fun b o e => keepW_of_same sb b o (fun z => by rw [z, newO _ own] at e; cases e) (k02 b o e)
    have Hd3 := Hd.kp k03
    have ra3 := ra.keeps k03
    have ga3 : GAt (fun z => if z = Str.ofString "name" then some (Value.str (lowS n) t2) else (pnDel.zip [.ref x, .str n tn]).lookup z) pnDel [.ref x, .str (lowS n) t2] := .cons rfl (.cons rfl .nil)
    refine wpAny_execs_cons (wpAny_Assign_Subscript ?_ tgtS_false)
    refine ev_snd H tbDel_nd tbDel_dot cDel env v2 _ _ _ E' { s with heap := h3, toks := tk3 } P _ b4 ok hr1 (kp.trans k03) (up.keep k03) (vars_of (xs := pnDel) (ys := [Str.ofString "kv"]) fm3 ga3 (rt h3 Hd3 ra3 _ t2)) ev2 fun v s4 k4 r4 => ?_
    cases k4 using keepsE; rename_i h4 tk4 kk4
    refine oE2_3 r4.list fun nl ws rq1 hnl rws => ?_; subst rq1
    have pnl : P nl := by
      cases (show Rp P C h4 _ _ from r4) with
      | lst p _ _ => exact p
    have k04 := k03.trans kk4
    have Hd4 := Hd.kp k04
    rw [arm_eval_Attribute]
    refine wpAny_bind (Name_var ok hso ((fm3.keeps kk4).var ok (v := .ref x) rfl hsv) ?_)
    refine wpAny_bind (wpAny_standAt (wpAny_bind (wpAny_holding (H.attr _ _ { s with heap := h4, toks := tk4 } x dx l vs _ (kp.trans k04) Hd4 fun s5 k5 => ?_))))
    refine wpAny_bind (wpAny_letTemporaryGo (wpAny_pure ?_))
    cases k5 using keepsE; rename_i h5 tk5 kk5
    have k05 := k04.trans kk5
    refine wpAny_Slice ?_
    refine wpAny_pure (wpAny_pure (wpAny_pure ?_))
    have kk6 : Keep h5 (h5.push { cls := .type "slice", data := .fields #[.none, .none, .none] }) := Keep.push _ _
    have k06 := k05.trans kk6
    have hl6 := (Hd.kp k06).list
    have hne : (l == nl) = false := beq_eq_false_iff_ne.mpr fun z => nPl (z ▸ pnl)
    refine list_setAll (s := { s with heap := h5.push { cls := .type "slice", data := .fields #[.none, .none, .none] }, toks := tk5 }) hl6 (hnl.at fun o e => (Keep.trans kk5 kk6) _ _ e) (Heap.IsSliceOf.new ..) hne ?_ ?_ fun h7 hp7 sb7 => wpAny_execs_nil ?_
    · rw [List.size_toArray, ra.length]; exact hlen
    · rw [List.size_toArray, rws.length]
      have : es.length ≤ ds.length := by
        unfold delHdr at hF
        simp only at hF
        split at hF
        · cases hF; exact List.length_filter_le _ _
        · cases hF
      exact Nat.le_trans this hlen
    · have kw7 := keepW_of_same sb7
      have kp7 : KeepP P C _ h7 := keepP_of_W kw7 fun b z => by rw [z]; exact ⟨nPl, notVal_list hl6.isList⟩
      exact k h7 tk5 ws (fun b o nb e => kw7 b o nb (k06 b o e)) hp7 ((rws.keeps (Keep.trans kk5 kk6)).keepP kp7)
theorem del_K (X : K.In h0) (H : Hyp prog w h0 C N Φ) {f : Addr} (F : DelFacts K C f) (A : Around) (E : Value → Shared → Prop) (s : Shared) (P : Addr → Prop) (x dx l : Addr) (vs : List Value) (ds es : List D) (n : Str) (tn : Tok) (Q : Unit → Shared → Prop) (hr : Rm (N + 1) A) (kp : Keep h0 s.heap) (up : Up P s.heap) (nPl : ¬ P l) (pdx : P dx) (Hd : HdrAt C s.heap x dx l vs) (ra : RpA P C s.heap vs ds)
    (hF : delHdr (.str n) ds = some es) (k : ∀ h' tk vs', KeepW (· = l) s.heap h' → h'.PlainList l (List.toArray vs') → RpA P C h' vs' es → Q () { s with heap := h', toks := tk }) : wpAny (model prog w) A (delItem (.ref x) (.str n tn)) Q E s := by
  have X' := X.keeps kp
  refine oE2_3 (instAt Hd) fun es0 n0 I _ _ => ?_
  unfold delItem sequenceKey
  refine wpAny_holding (wpAny_bind (wpAny_bind (I.type.here ?_)))
  refine wpAny_bind ((anyM_none X' F.seq).here ?_)
  rw [if_pos (show (!false) = true from rfl)]
  exact wpAny_pure (wpAny_bind (special_fn X' I F.find (beq_iff_eq.mp F.fn) (wpAny_mono (del_call X H F hr kp up nPl pdx Hd ra hF k) (fun _ _ z => wpAny_pure z) fun _ _ z => z)))
end
end Mine
end
section
open PySem PySem.W PyProof.Rows
set_option autoImplicit false
set_option maxRecDepth 100000
namespace Mine
noncomputable def appStmt (tb : List Str) (c : CE) (sc : Scope) (s : Stmt) : Bool := appH tb sc s fun t => chk tb c sc t && notStar t
section
variable {prog : Program} {w : World} {h0 : Heap} {C : Addr} {N : Nat} {Φ : Fns} {K : Frag} {tb : List Str}
end
noncomputable def cTup : CE := .dtup [.conv 0 (.var 1) true, .conv 0 (.var 2) false]
theorem HdrAt.kw {C : Addr} {h h' : Heap} {x dx l : Addr} {vs vs' : List Value} (H : HdrAt C h x dx l vs) (kw : KeepW (· = l) h h') (hp : h'.PlainList l vs'.toArray) : HdrAt C h' x dx l vs' := by
  have n1 : x ≠ l := fun z => by
    obtain ⟨n, e⟩ := H.list
    have := H.obj
    rw [z, e] at this
    cases this
  have n2 : dx ≠ l := fun z => by
    obtain ⟨n, e⟩ := H.list
    refine oE2_2 H.dict fun es m e' _ => ?_
    rw [z, e] at e'
    have q := congrArg Obj.cls (Option.some.inj e')
    exact absurd q (by simp [dictOf])
  exact ⟨kw _ _ n1 H.obj, (let ⟨es, m, e, r⟩ := H.dict; ⟨es, m, kw _ _ n2 e, r⟩), hp⟩
theorem Fm.keepL {env : Env} {h h' : Heap} {g : Str → Option Value} {l : Addr} {its : Array Value} (hcell : ∀ x c, env.cells.lookup x = some c → env.kindOf x = some .cell) (f : Fm env h g) (hl : h.IsList l its) (k : KeepW (· = l) h h') : Fm env h' g := by
  refine f.keepW k (fun z => ?_) fun x c e z => ?_
  · refine oE1_2 f.ns fun m n _ => ?_
    rw [z] at n; exact list_not_ns hl n
  · rw [← z] at hl
    exact list_not_cell hl (f.cell x c e (.inl (hcell x c e)))
section
variable {prog : Program} {w : World} {h0 : Heap} {C : Addr} {N : Nat} {Φ : Fns} {K : Frag}
theorem Up.keepL {P : Addr → Prop} {h h' : Heap} {l : Addr} (u : Up P h) (k : KeepW (· = l) h h') (hl : ∃ o, h'.get? l = some o) : Up P h' := u.keepW k fun a z => by rw [z]; exact hl
theorem PlainList.obj {h : Heap} {l : Addr} {its : Array Value} (x : h.PlainList l its) : ∃ o, h.get? l = some o := let ⟨_, e⟩ := x; ⟨_, e⟩
end
end Mine
end
section
open PySem PySem.W PyProof.Rows
set_option autoImplicit false
set_option maxRecDepth 100000
namespace Mine
section
variable {prog : Program} {w : World} {h0 : Heap} {C : Addr} {N : Nat} {Φ : Fns} {K : Frag} {tb : List Str}
theorem sr_start (nd : tb.Nodup) {P0 : Addr → Prop} {hs h1 : Heap} {env : Env} {vs : List Value} {pn : List Str} {ps : List Nat} {sls : List Slot} (up : Up P0 hs) (fm : Fm env h1 (fun y => (pn.zip vs).lookup y)) (kk : Keep hs h1) (newO : ∀ b, Own env [] b → hs.get? b = none) (hcell : ∀ x c, env.cells.lookup x = some c → env.kindOf x = some .cell)
    (hps : ps.map (tb[·]?) = pn.map some) (ra : ArgsS P0 C hs vs sls) (hlen : ps.length = sls.length) : SR tb C P0 hs env h1 (startS ps sls) (fun b => P0 b ∧ ¬ Own env [] b) [] (fun y => (pn.zip vs).lookup y) := by
  refine ⟨fm, kk, fun b e => ⟨(up.keep kk) b e, fun z => ?_⟩, fun b p => p.1, fun p => p.2 (.inl rfl), fun y c e => ⟨.inl (hcell y c e), fun p => p.2 (.inr (.inl ⟨y, e⟩))⟩, newO, rfl, .nil, (fun b z => by cases z), (fun i b es hb => by cases hb), fun i y sl hi hy hv => ?_⟩
  · rcases z with z | ⟨y, z⟩ | z
    · refine oE1_2 fm.ns fun m zq10 _ => ?_; refine oE3_2 zq10 fun oo es ep q _ => ?_; clear zq10
      rw [z] at e; rw [e] at q; cases q
    · refine oE1_2 (fm.cell y b z (.inl (hcell y b z))) fun oo q _ => ?_
      rw [e] at q; cases q
    · cases z
  · have hi' : (ps.zip sls).lookup i = some sl := hi
    refine oE1_2 (zip_lookS nd ps pn vs sls hps ra hlen i y sl hy hi') fun v hv1 hv2 => ?_
    have mo : ∀ b oo, hs.get? b = some oo → P0 b → P0 b ∧ ¬ Own env [] b := fun b oo e p => ⟨p, fun z => by rw [newO b z] at e; cases e⟩
    cases sl with
    | val dd => exact ⟨v, hv1, (Rp.mono mo hv2).keeps kk⟩
    | raw dd a => obtain ⟨rfl, hv2⟩ := hv2; exact ⟨hv1, RpT.mono hv2 mo⟩
    | own _ => exact hv2.elim
    | hob _ => exact hv2.elim
    | nest _ => exact hv2.elim
    | fix _ => exact hv2.elim
theorem iterf_list {A : Around} {E : Value → Shared → Prop} {s : Shared} {P : Addr → Prop} {Q : Value → Shared → Prop} {a : Addr} {vs : List Value} {ds : List D} (hh : A.handled = none) (hl : s.heap.IsList a vs.toArray) (r : RpA P C s.heap vs ds)
    (k : ∀ s2 I, Keeps s s2 → IterF prog w A (· = a) P C s.heap s2.heap I ds → s.heap.get? I = none → (∃ o, s2.heap.get? I = some o) → Q (.ref I) s2) : wpAny (model prog w) A (pyIter (.ref a)) Q E s := by
  refine wpAny_pyIter_list hl (k _ _ (keeps_push _ _) ?_ (get_size_none _) ⟨_, Heap.get?_push_size _ rfl⟩)
  have ha : a ≠ s.heap.objs.size := by refine oE1_2 hl fun o e _ => ?_; clear hl; exact Nat.ne_of_lt (Heap.lt_size e)
  have W := Walks.list (prog := prog) (w := w) hh s.heap.objs.size a ha vs.toArray
  have e : vs.toArray.size = ds.length := by rw [List.size_toArray, r.length]
  rw [e] at W
  refine ⟨_, _, _, W, ⟨⟨_, Heap.get?_push_size _ rfl, rfl, rfl⟩, hl.push _⟩, fun b hb => ?_, fun i v _ hv => ?_, fun i h st => ?_⟩
  · rcases List.mem_cons.mp hb with rfl | hb
    · exact .inl rfl
    · rw [List.mem_singleton.mp hb]
      refine oE1_2 hl fun o e _ => ?_; clear hl
      exact .inr ⟨rfl, o, e⟩
  · exact r.getv (by simpa using hv)
  · refine oE0_2 st fun zq9 _ => ?_; clear st; refine oE1_3 zq9 fun o e c _ => ?_; clear zq9
    exact ⟨o, _, e, c, .head _⟩
end
noncomputable def noneIn (K : Frag) (a : Addr) : Bool := match K.lookup a with
  | some ⟨_, _, .seq its _, _⟩ => its.toList == [.none]
  | _ => false
set_option tactic.hygienic true in
theorem noneIn_of {K : Frag} {h : Heap} {a : Addr} (X : K.In h) (e : noneIn K a = true) : ∃ o n, h.get? a = some o ∧ o.data = .seq #[.none] n := by
  unfold noneIn at e
  split at e
  · rename_i c d its n sl q
    have e' := beq_iff_eq.mp e
    have : its = #[.none] := by rw [← Array.toArray_toList (xs := its), e']
    subst this
    exact ⟨_, _, X _ _ q, rfl⟩
  · cases e
theorem bind_none {M : Model} {A : Around} {E : Value → Shared → Prop} {s : Shared} {fd : FuncData} {args : Args} {da : Addr} {k : Option (Array Value) → Sem (List (Str × Value))} {bs : List (Str × Value)} {Q : List (Str × Value) → Shared → Prop} (h : ∃ o n, s.heap.get? da = some o ∧ o.data = .seq #[.none] n)
    (e1 : bindArgs fd args = (seqItems? (.ref da) >>= k)) (e2 : k (some #[.none]) = pure bs) (q : Q bs s) : wpAny M A (bindArgs fd args) Q E s := by
  refine oE2_2 h fun o n ho hd => ?_; clear h
  rw [e1]
  refine wpAny_bind (wpAny_seqItems ho hd ?_)
  rw [e2]
  exact wpAny_pure q
section
variable {prog : Program} {w : World} {h0 : Heap} {C : Addr} {N : Nat} {Φ : Fns} {K : Frag}
end
end Mine
end
section
open PySem PySem.W PyProof.Rows
set_option autoImplicit false
set_option maxRecDepth 100000
namespace Mine
noncomputable def tbDflt : List Str := [Str.ofString "self", Str.ofString "name", Str.ofString "value", Str.ofString "result"]
noncomputable def dA (sc : Scope) (s : Stmt) : Bool := isAsgN s fun y p v => tgtAt tbDflt sc 3 (.Name y p) && isMeth v fun o ge apos as cpos => isVarE tbDflt sc 0 o && (decide (ge = ("get" : Str)) && ((apos.endLine == cpos.line) && one as fun a => isVarE tbDflt sc 1 a))
noncomputable def dB (sc : Scope) (s : Stmt) : Bool := isIf s fun t bd oe => (isCmp1 t fun r op c => isVarE tbDflt sc 3 r && (decide (op = .Is) && isConst c fun c => decide (c = .none))) &&
  ((two bd fun st s4 => appStmt tbDflt cTup sc st && isRet s4 fun va => som va fun va => isVarE tbDflt sc 2 va) && one oe fun s5 => isRet s5 fun r => som r fun r => isVarE tbDflt sc 3 r)
section
variable {prog : Program} {w : World} {h0 : Heap} {C : Addr} {N : Nat} {Φ : Fns} {K : Frag}
end
end Mine
end
section
open PySem PySem.W PyProof.Rows
set_option autoImplicit false
set_option maxRecDepth 100000
namespace Mine
section
variable {prog : Program} {w : World} {h0 : Heap} {C : Addr} {N : Nat} {Φ : Fns} {K : Frag}
theorem type_of_list {A : Around} {E : Value → Shared → Prop} {s : Shared} {a : Addr} {its : Array Value} {Q : Value → Shared → Prop} (hl : s.heap.IsList a its) (h : Q (.type "list") s) : wpAny (model prog w) A (call (.type "type") [.ref a]) Q E s := by
  obtain ⟨hh, g, d, tk, os⟩ := s
  refine wpAny_call (codeAny_of_tree ?_)
  show wpAny _ _ (callAny (.type "type") ⟨[.ref a], []⟩) _ _ _
  simp only [callAny]
  refine wpAny_pure ⟨Code.quiet_builtin _ (by decide +kernel), codeAny_builtin entry_type_call ?_⟩
  unfold Builtin.«type.__call__»
  dsimp only
  unfold shownTypeOf
  refine wpAny_bind (wpAny_bind (wpAny_typeOf hl.typeIs ?_))
  rw [if_neg (by decide)]
  exact wpAny_pure (wpAny_pure h)
theorem set_first {A : Around} {E : Value → Shared → Prop} {s : Shared} {x dx : Addr} {nm : Str} {v : Value} {Q : Unit → Shared → Prop} (X : K.In s.heap) (hx : s.heap.get? x = some (instObj C dx)) (hdx : s.heap.get? dx = some emptyDict)
    (hs : findIn K (.ref C) "__setattr__" = some (some (.builtin "object.__setattr__"))) (hp : plainOver K C = true) (ht : takerIn K C nm = some none) (hh : hasDictIn K C = true)
    (h : ∀ h' tk hsh key, h'.get? dx = some (dictOf [⟨hsh, key, v⟩] 1) → key.isStr nm = true → (∃ t, key = .str nm t) → Heap.SameBut dx s.heap h' → Q () { s with heap := h', toks := tk }) :
    wpAny (model prog w) A (setAttr (.ref x) nm v) Q E s := by
  have I : InstAt s.heap x (instObj C dx) C (some emptyDict) := ⟨hx, rfl, rfl, hdx⟩
  refine set_plain X I hs (osa_open (s := { s with toks := s.toks + 1 }) X I hp ht fun b => ?_)
  refine oE1_2 (any_some hh) fun cd hc hd' => ?_
  have D : s.heap.get? dx = some emptyDict := hdx
  refine wpAny_bind (wpAny_pure (wpAny_bind (wpAny_bind (wpAny_loadPart hx (wpAny_bind ((looks_clsIn X hc).here (s := { s with toks := s.toks + 1 }) ?_))))))
  rw [hd']
  refine wpAny_pure (a := some dx) (wpAny_bind (wpAny_pure (wpAny_bind ?_)))
  unfold nsSet
  refine wpAny_bind (wpAny_bind (wpAny_askSetting (wpAny_pure (wpAny_bind (wpAny_mkText (wpAny_bind (wpAny_loadPart D ?_)))))))
  dsimp only
  have c : ¬ (aRefKeyMayBeTheName nm #[] = true) := by rw [aRefKeyMayBeTheName_at]; simp
  rw [if_neg c]
  refine wpAny_updatePart D ?_
  have e1 := putName_dict nm (if nm.cps.isEmpty = true then 0 else reduceHash ((model prog w).w.params.strHash nm.cps)) (Value.str nm (s.toks + 1)) v [] 0
  have D' : (s.heap.update dx (Obj.putName nm (if nm.cps.isEmpty = true then 0 else reduceHash ((model prog w).w.params.strHash nm.cps)) (Value.str nm (s.toks + 1)) v)).get? dx = some (dictOf [⟨(if nm.cps.isEmpty = true then 0 else reduceHash ((model prog w).w.params.strHash nm.cps)), .str nm (s.toks + 1), v⟩] 1) := by
    rw [Heap.get?_update_self _ D (by rw [show emptyDict = dictOf [] 0 from rfl, e1]; rfl), show emptyDict = dictOf [] 0 from rfl, e1]
    rfl
  refine wpAny_bind (wpAny_lookBehind D' (pastItsLine_dict (by rw [sizeLine_eq]; show 1 ≤ _; decide)) ?_)
  exact wpAny_pure (h _ _ _ _ D' (by show (nm == nm) = true; exact beq_self_eq_true nm) ⟨_, rfl⟩ (Heap.SameBut.update ..))
end
noncomputable def tbInit : List Str := [Str.ofString "self", Str.ofString "headers"]
noncomputable abbrev pnInit : List Str := [Str.ofString "self", Str.ofString "headers"]
noncomputable abbrev nHd : Str := Str.ofString "headers"
noncomputable abbrev nSf : Str := Str.ofString "self"
noncomputable def init1 (sc : Scope) (s : Stmt) : Bool := isAsgN s fun y p v => isIfE v fun t x _ => isCmp1 t fun a op c => isConst c fun c => decide (op = .IsNot) && (decide (c = .none) && (tgtAt tbInit sc 1 (.Name y p) && (isVarE tbInit sc 1 a && isVarE tbInit sc 1 x)))
theorem init1_ {sc : Scope} {s : Stmt} (h : init1 sc s = true) : ∃ p p1 k p2 pc p3 eo pi pa, s = .Assign [.Name nHd p] (.IfExp (.Compare (.Name nHd p1) [.IsNot] [.Constant .none k p2] pc) (.Name nHd p3) eo pi) pa ∧ tgtName sc nHd = true ∧ isVar sc nHd = true ∧ okName nHd = true := by
  refine oE4_2 (isAsgN_ h) fun y p v pa eZ h1 => ?_; clear h; subst eZ
  refine oE4_2 (isIfE_ h1) fun t x eo pi eZ h2 => ?_; clear h1; subst eZ
  refine oE4_2 (isCmp1_ h2) fun a op c pc eZ h3 => ?_; clear h2; subst eZ
  refine oE3_2 (isConst_ h3) fun c k p2 eZ h4 => ?_; clear h3; subst eZ
  obtain ⟨q1, h5⟩ := and_ h4; clear h4; cases of_decide_eq_true q1
  obtain ⟨q2, h6⟩ := and_ h5; clear h5; cases of_decide_eq_true q2
  obtain ⟨q3, h7⟩ := and_ h6; clear h6
  obtain ⟨q4, q5⟩ := and_ h7; clear h7
  obtain ⟨hy, ht⟩ := tgtAt_is q3
  cases hy
  refine oE1_3 (isVarE_at (nm := nHd) q4 rfl) fun p1 eZ hv hk => ?_; subst eZ
  refine oE1_3 (isVarE_at (nm := nHd) q5 rfl) fun p3 eZ _ _ => ?_; subst eZ
  exact ⟨p, p1, k, p2, pc, p3, eo, pi, pa, rfl, ht, hv, hk⟩
noncomputable def init2 (sc : Scope) (s : Stmt) : Bool := isIf s fun t _ o => nul o (isCmp1 t fun ca op ln => isCall ca fun tn as kw _ => nul kw (one as fun a => isName tn fun tn _ => isName ln fun ln _ => decide (op = .IsNot) && (decide (tn = ("type" : Str)) && (decide (ln = ("list" : Str)) && isVarE tbInit sc 1 a))))
theorem init2_ {sc : Scope} {s : Stmt} (h : init2 sc s = true) : ∃ pt p3 pc pl pcc bd pif, s = .If (.Compare (.Call (.Name ("type" : Str) pt) [.Name nHd p3] [] pc) [.IsNot] [.Name ("list" : Str) pl] pcc) bd [] pif := by
  refine oE4_2 (isIf_ h) fun t bd o pif eZ h1 => ?_; clear h; subst eZ
  obtain ⟨eZ, h2⟩ := nul_ h1; clear h1; subst eZ
  refine oE4_2 (isCmp1_ h2) fun ca op ln pcc eZ h3 => ?_; clear h2; subst eZ
  refine oE4_2 (isCall_ h3) fun tn as kw pc eZ h4 => ?_; clear h3; subst eZ
  obtain ⟨eZ, h5⟩ := nul_ h4; clear h4; subst eZ
  refine oE1_2 (one_ h5) fun a eZ h6 => ?_; clear h5; subst eZ
  refine oE2_2 (isName_ h6) fun tn pt eZ h7 => ?_; clear h6; subst eZ
  refine oE2_2 (isName_ h7) fun ln pl eZ h8 => ?_; clear h7; subst eZ
  obtain ⟨q1, h9⟩ := and_ h8; clear h8; cases of_decide_eq_true q1
  obtain ⟨q2, h10⟩ := and_ h9; clear h9
  have e2 := of_decide_eq_true q2; subst e2
  obtain ⟨q3, q4⟩ := and_ h10; clear h10
  have e3 := of_decide_eq_true q3; subst e3
  refine oE1_3 (isVarE_at (nm := nHd) q4 rfl) fun p3 eZ _ _ => ?_; subst eZ
  exact ⟨pt, p3, pc, pl, pcc, bd, pif, rfl⟩
noncomputable def init3 (sc : Scope) (s : Stmt) : Bool := isAsg1 s fun t a => isAttr t fun se hd _ => decide (hd = ("_headers" : Str)) && (isVarE tbInit sc 0 se && isVarE tbInit sc 1 a)
theorem init3_ {sc : Scope} {s : Stmt} (h : init3 sc s = true) : ∃ q1 pat p4 pas, s = .Assign [.Attribute (.Name nSf q1) ("_headers" : Str) pat] (.Name nHd p4) pas ∧ isVar sc nSf = true ∧ okName nSf = true := by
  refine oE3_2 (isAsg1_ h) fun t a pas eZ h1 => ?_; clear h; subst eZ
  refine oE3_2 (isAttr_ h1) fun se hd pat eZ h2 => ?_; clear h1; subst eZ
  obtain ⟨q1, h3⟩ := and_ h2; clear h2
  have e1 := of_decide_eq_true q1; subst e1
  obtain ⟨q2, q3⟩ := and_ h3; clear h3
  refine oE1_3 (isVarE_at (nm := nSf) q2 rfl) fun q eZ hv hk => ?_; subst eZ
  refine oE1_3 (isVarE_at (nm := nHd) q3 rfl) fun p4 eZ _ _ => ?_; subst eZ
  exact ⟨q, pat, p4, pas, rfl, hv, hk⟩
noncomputable def init4 (sc : Scope) (s : Stmt) : Bool := isIf s fun t bd o => nul o (isConst t fun c => one bd fun f => isFor f fun _ a _ o => nul o (decide (c = .bool true) && isVarE tbInit sc 1 a))
theorem init4_ {sc : Scope} {s : Stmt} (h : init4 sc s = true) : ∃ k p tg p5 fbd pf pif, s = .If (.Constant (.bool true) k p) [.For tg (.Name nHd p5) fbd [] pf] [] pif := by
  refine oE4_2 (isIf_ h) fun t bd o pif eZ h1 => ?_; clear h; subst eZ
  obtain ⟨eZ, h2⟩ := nul_ h1; clear h1; subst eZ
  refine oE3_2 (isConst_ h2) fun c k p eZ h3 => ?_; clear h2; subst eZ
  refine oE1_2 (one_ h3) fun f eZ h4 => ?_; clear h3; subst eZ
  refine oE5_2 (isFor_ h4) fun tg a fbd o pf eZ h5 => ?_; clear h4; subst eZ
  obtain ⟨eZ, h6⟩ := nul_ h5; clear h5; subst eZ
  obtain ⟨q1, q2⟩ := and_ h6; clear h6
  have e1 := of_decide_eq_true q1; subst e1
  refine oE1_3 (isVarE_at (nm := nHd) q2 rfl) fun p5 eZ _ _ => ?_; subst eZ
  exact ⟨k, p, tg, p5, fbd, pf, pif, rfl⟩
noncomputable def initBody (sc : Scope) (b : List Stmt) : Bool := isGlob sc ("type" : Str) && (isGlob sc ("list" : Str) && four b fun s1 s2 s3 s4 => init1 sc s1 && (init2 sc s2 && (init3 sc s3 && init4 sc s4)))
theorem initBody_ {sc : Scope} {b : List Stmt} (h : initBody sc b = true) : isGlob sc ("type" : Str) = true ∧ isGlob sc ("list" : Str) = true ∧ ∃ s1 s2 s3 s4, b = [s1, s2, s3, s4] ∧ init1 sc s1 = true ∧ init2 sc s2 = true ∧ init3 sc s3 = true ∧ init4 sc s4 = true := by
  obtain ⟨g1, h1⟩ := and_ h
  obtain ⟨g2, h2⟩ := and_ h1
  refine oE4_2 (four_ h2) fun s1 s2 s3 s4 e h3 => ?_
  obtain ⟨i1, h4⟩ := and_ h3
  obtain ⟨i2, h5⟩ := and_ h4
  obtain ⟨i3, i4⟩ := and_ h5
  exact ⟨g1, g2, s1, s2, s3, s4, e, i1, i2, i3, i4⟩
structure InitFacts (K : Frag) (C f : Addr) : Prop where
  makes : makesIn K C = true
  find : findIn K (.ref C) "__init__" = some (some (.ref f))
  fn : typeIn K (.ref f) = some (.type "function")
  setattr : findIn K (.ref C) "__setattr__" = some (some (.builtin "object.__setattr__"))
  over : plainOver K C = true
  taker : takerIn K C (Str.ofString "_headers") = some none
  has : hasDictIn K C = true
  fd : ∃ fd b, fdAt K f = some fd ∧ fd.body = .stmts b ∧ codeIn K fd.code fd.qualname = true ∧ fd.closure = [] ∧ fd.globals = mainGlobals ∧ fd.builtins = builtinsNs ∧ defScope fd.scope = true ∧ paramKinds fd.scope pnInit = true ∧ initBody fd.scope b = true ∧
    ∃ da, noneIn K da = true ∧ ∀ x n, ∃ k, bindArgs fd ⟨[x, n], []⟩ = (seqItems? (.ref da) >>= k) ∧ k (some #[.none]) = pure [(Str.ofString "self", x), (Str.ofString "headers", n)]
theorem Rm.tc {n : Nat} {A : Around} (r : Rm (n + 1) A) (C : Addr) (rest : List Value) : Rm n (A.under (.builtin "type.__call__" ⟨.ref C :: rest, []⟩)) :=
  ⟨by have := r.depth; show A.depth + 1 + n < _; exact om_23 this, by have := r.units; show A.units + 1 + 16 * n + 200 < _; exact om_26 this, r.handled⟩
section
variable {prog : Program} {w : World} {h0 : Heap} {C : Addr} {N : Nat} {Φ : Fns} {K : Frag}
set_option tactic.hygienic true in
theorem new_K (X : K.In h0) (nl : h0.NoLimit) {f : Addr} (F : InitFacts K C f) (G1 : GlobalAt h0 ("type" : Str) (.type "type")) (G2 : GlobalAt h0 ("list" : Str) (.type "list")) (A : Around) (E : Value → Shared → Prop) (s : Shared) (a : Addr) (Q : Value → Shared → Prop) (hr : Rm (N + 2) A) (kp : Keep h0 s.heap) (ha : s.heap.PlainList a #[])
    (k : ∀ x dx h' tk, Keep s.heap h' → s.heap.get? x = none → s.heap.get? dx = none → h'.get? x = some (instObj C dx) → DictHdr h' dx a → Q (.ref x) { s with heap := h', toks := tk }) : wpAny (model prog w) A (call (.ref C) [.ref a]) Q E s := by
  refine oE2_10 F.fd fun fd b hfd hb hcode hclo hglob hblt hsc hpk hbody zq3 => ?_; refine oE1_2 zq3 fun da hda hbind => ?_; clear zq3
  refine oE1_2 (fdAt_is hfd) fun o ho hd => ?_
  obtain ⟨hh, gg, dd, tk, os⟩ := s
  have X' := X.keeps kp
  refine wpAny_call (make_core (makes_of X' F.makes) (looks_findIn X' F.find) (fun self => bind_fn X' self F.fn) (.inl rfl) ?_)
  have kk0 : Keep hh ((hh.push emptyDict).push (instObj C hh.objs.size)) := (Keep.push _ _).trans (Keep.push _ _)
  have hx0 : ((hh.push emptyDict).push (instObj C hh.objs.size)).get? (hh.objs.size + 1) = some (instObj C hh.objs.size) := by heap_get
  have hd0 : ((hh.push emptyDict).push (instObj C hh.objs.size)).get? hh.objs.size = some emptyDict := by heap_get
  have nx : hh.get? (hh.objs.size + 1) = none := by
    cases q : hh.get? (hh.objs.size + 1) with
    | none => rfl
    | some o => exact absurd (Heap.lt_size q) (Nat.not_lt.mpr (Nat.le_succ _))
  have nd : hh.get? hh.objs.size = none := get_size_none hh
  generalize hh.objs.size + 1 = x at *
  generalize hh.objs.size = dx at *
  generalize (hh.push emptyDict).push (instObj C dx) = h00 at *
  have hr1 := hr.tc C [.ref a]
  refine enterC (args := ⟨[.ref x, .ref a], []⟩) (pn := pnInit) (s := ⟨h00, gg, dd, tk, os⟩) (R := fun us _ => us = [.ref x, .ref a]) nl (X _ _ ho) hd (codeRec_of X hcode) hb hclo hglob hblt hsc (by decide) hpk hr1 (kp.trans kk0) (fun E' Q' hq => ?_) fun us env h1 tk1 E' _ hR hvl ok esc fm kk newO hcell hr2 => ?_
  · refine oE1_2 (hbind (.ref x) (.ref a)) fun kb e1 e2 => ?_
    exact bind_none (noneIn_of (X.keeps (kp.trans kk0)) hda) e1 e2 (hq [.ref x, .ref a] _ (Keeps.rfl' _) rfl rfl)
  · refine oE1_4 hR fun s1 ks rq2 kk1 newO1 => ?_; clear hR; subst rq2
    rw [← esc] at hbody
    refine oE0_3 (initBody_ hbody) fun gt gl zq1 => ?_; refine oE4_5 zq1 fun u1 u2 u3 u4 eb i1 i2 i3 i4 => ?_; clear zq1
    refine oE9_4 (init1_ i1) fun p p1 c1 c2 c3 p2 eo pi pa eq1 ht hv hok => ?_
    refine oE7_1 (init2_ i2) fun pt p3 pc pl pcc bd pif eq2 => ?_
    refine oE4_3 (init3_ i3) fun q1 pat p4 pas eq3 hsv hso => ?_
    refine oE7_1 (init4_ i4) fun pdb pdb2 tg p5 fbd pf pif2 eq4 => ?_
    rw [eb, eq1, eq2, eq3, eq4]
    clear i1 i2 i3 i4 eb eq1 eq2 eq3 eq4
    have k01 : Keep hh h1 := kk0.trans kk
    refine wpAny_execs_cons (wpAny_Assign_Name (wpAny_IfExp (wpAny_isTrue_Compare1 (Name_var ok hok (fm.var ok (v := .ref a) rfl hv) (wpAny_Constant_none (wpAny_isNot_plain rfl (wpAny_truthy_bool ?_)))) (by rfl))) (by rfl))
    rw [if_pos (by rfl)]
    refine Name_var ok hok (fm.var ok (v := .ref a) rfl hv) ?_
    refine store_sound (s := ⟨h1, gg, dd, tk1, os⟩) ok fm ht fun h3 tk3 fm3 sb => ?_
    have own : Own env [] (slotOf env (Str.ofString "headers")) := by
      rcases slot_own ok ht with z | ⟨y, z⟩
      · exact .inl z
      · exact .inr (.inl ⟨y, z⟩)
    have k3 : Keep h00 h3 := fun b o e => keepW_of_same sb b o (fun z => by rw [z, newO _ own] at e; cases e) (kk b o e)
    have k03 : Keep hh h3 := kk0.trans k3
    have gh : (fun z => if z = Str.ofString "headers" then some (Value.ref a) else (pnInit.zip [.ref x, .ref a]).lookup z) (Str.ofString "headers") = some (.ref a) := rfl
    have gs : (fun z => if z = Str.ofString "headers" then some (Value.ref a) else (pnInit.zip [.ref x, .ref a]).lookup z) (Str.ofString "self") = some (.ref x) := rfl
    have ha3 : h3.PlainList a #[] := ha.at fun o e => k03 _ _ e
    refine wpAny_execs_cons (wpAny_If (wpAny_isTrue_Compare1 (wpAny_Call_NameR (Name_glob (s := ⟨h3, gg, dd, tk3, os⟩) ok (by decide) gt G1 (kp.trans k03) (PySem.callWith_type rfl (Calls.evalArgs_plain (Calls.spliced_cons (Name_var ok hok (fm3.var ok gh hv) (Calls.spliced_nil ?_))))))) (by rfl)))
    refine type_of_list ha3.isList (Name_glob (s := ⟨h3, gg, dd, tk3, os⟩) ok (by decide) gl G2 (kp.trans k03) (wpAny_isNot_plain rfl (wpAny_truthy_bool ?_)))
    rw [if_neg (by decide)]
    refine wpAny_execs_nil (wpAny_execs_cons (plainObj_wpAny_Assign_Attribute (Name_var ok hok (fm3.var ok gh hv) (Name_var ok hso (fm3.var ok gs hsv) ?_)) (by rfl)))
    refine set_first (s := ⟨h3, gg, dd, tk3, os⟩) (X.keeps (kp.trans k03)) (k3 _ _ hx0) (k3 _ _ hd0) F.setattr F.over F.taker F.has fun h4 tk4 hsh key hd4 hk4 hkk sb4 => ?_
    obtain ⟨tky, rfl⟩ := hkk
    have kw4 := keepW_of_same sb4
    have k04 : Keep hh h4 := fun b o e => kw4 b o (fun z => by rw [z, nd] at e; cases e) (k03 b o e)
    have hxd : x ≠ dx := fun z => by
      rw [z, hd0] at hx0
      exact absurd (congrArg Obj.data (Option.some.inj hx0)) (by simp)
    have hx4 : h4.get? x = some (instObj C dx) := kw4 _ _ hxd (k3 _ _ hx0)
    have fm4 : Fm env h4 _ := fm3.keepW kw4 (fun z => by
        refine oE1_2 fm3.ns fun m n _ => ?_
        rw [z] at n
        refine oE3_3 n fun oo es ep q r1 r2 => ?_; clear n
        have := k3 _ _ hd0
        have e5 := newO _ (.inl rfl : Own env [] env.locals)
        rw [z] at e5; rw [e5] at hd0; cases hd0) fun y c e z => by
        have e5 := newO _ (.inr (.inl ⟨y, e⟩) : Own env [] c)
        rw [z] at e5; rw [e5] at hd0; cases hd0
    have ha4 : h4.PlainList a #[] := ha.at fun o e => k04 _ _ e
    refine wpAny_execs_cons (wpAny_If (wpAny_isTrue_value (wpAny_Constant_bool (wpAny_truthy_bool ?_)) (by rfl)))
    rw [if_pos rfl]
    refine wpAny_execs_cons (wpAny_For (Name_var (s := ⟨h4, gg, dd, tk4, os⟩) ok hok (fm4.var ok gh hv) ?_) (by intro _; rfl))
    refine iterf_list (s := ⟨h4, gg, dd, tk4, os⟩) (P := fun _ => True) (C := C) (vs := []) (ds := []) hr2.handled ha4.isList .nil fun s6 I k6 hit hn hs => ?_
    cases k6 using keepsE; rename_i h6 tk6 kk6
    refine oE3_5 hit fun fp Pv St W hst hfp hPv hcls => ?_; clear hit
    refine codeAny_forLoop_any (fun n s' => s' = { heap := h6, gens := gg, drawn := dd, toks := tk6, os := os } ∧ n = 0) (fun n s' hI => ?_) 0 ⟨rfl, rfl⟩
    obtain ⟨rfl, rfl⟩ := hI
    refine W.done _ _ _ hst fun h7 tk7 kI => wpAny_execs_nil ?_
    have kw7 : KeepW (· = I) h6 h7 := fun b o n e => kI b o (by simpa using n) e
    have nI : ∀ b o, h4.get? b = some o → h7.get? b = some o := fun b o e => kw7 b o (fun z => by rw [z, hn] at e; cases e) (kk6 b o e)
    refine wpAny_execs_nil (wpAny_execs_nil ?_)
    refine ⟨rfl, ?_⟩
    refine k x dx h7 tk7 (fun b o e => nI b o (k04 b o e)) nx nd (nI _ _ hx4) ⟨_, _, nI _ _ hd4, rfl, ?_⟩
    intro nm hnm
    simp only [List.mem_cons, List.not_mem_nil, or_false] at hnm
    rcases hnm with rfl | rfl | rfl | rfl | rfl | rfl | rfl | rfl | rfl | rfl <;> rfl
end
end Mine
end
section
open PySem PySem.W PyProof.Rows
set_option autoImplicit false
set_option maxRecDepth 100000
namespace Mine
section
variable {prog : Program} {w : World} {h0 : Heap} {C : Addr} {N : Nat} {Φ : Fns} {K : Frag}
theorem callC_K (X : K.In h0) (hm : makesIn K C = true) (A : Around) (E : Value → Shared → Prop) (s : Shared) (pos : Pos) (args : List (Bool × Sem Value)) (Q : Value → Shared → Prop) (_ : Keep h0 s.heap) (hst : args.any (·.1) = false)
    (h : wpAny (model prog w) A (evalArgs (.ref C) true args []) (fun x s1 => Keep h0 s1.heap ∧ wpAny (model prog w) A (call (.ref C) x.pos x.kw) Q E s1) E s) : wpAny (model prog w) A (callWith pos (.ref C) [] args []) Q E s := by
  unfold callWith
  refine wpAny_bind (wpAny_holding (wpAny_mono h (fun as s₁ h₁ => ?_) fun _ _ x => x))
  obtain ⟨hk, hc⟩ := h₁
  have Y := makes_of (M := model prog w) (X.keeps hk) hm
  obtain ⟨⟨oc, od, cd, sl, hC, e1, e2, e4⟩, made, base, self, top, call, typ⟩ := Y
  refine wpAny_bind (wpAny_standAt ?_)
  show wpAny _ _ (keeperOf (.ref C) >>= _) _ _ _
  refine wpAny_bind ?_
  unfold keeperOf
  refine wpAny_bind (wpAny_load hC (wpAny_bind (call.here ?_)))
  rw [if_pos (by rfl)]
  refine wpAny_pure ?_
  rw [hst]
  show wpAny _ _ (PySem.call (.ref C) as.pos as.kw >>= fun r => do holding [r] point; pure r) _ _ _
  exact wpAny_bind (wpAny_mono hc (fun r s' hr => wpAny_bind (wpAny_holding (wpAny_point (wpAny_pure hr)))) fun _ _ x => x)
structure ClassFacts (K : Frag) (C fI fA fS fD : Addr) : Prop where
  init : InitFacts K C fI
  add : AddFacts K C fA
  del : DelFacts K C fD
theorem hdr_K (X : K.In h0) (H : Hyp prog w h0 C N Φ) {fI fA fS fD : Addr} (F : ClassFacts K C fI fA fS fD) (G0 : GlobalAt h0 (Str.ofString "Headers") (.ref C)) (G1 : GlobalAt h0 ("type" : Str) (.type "type")) (G2 : GlobalAt h0 ("list" : Str) (.type "list")) : HdrHyp prog w h0 C (N + 2) Φ where
  cls := G0
  callC := fun A E s pos args Q kp hst h => callC_K X F.init.makes A E s pos args Q kp hst h
  new := fun A E s a Q hr kp ha k => new_K X H.nolimit F.init G1 G2 A E s a Q hr kp ha k
  add := (add_K X H F.add).up (Nat.le_succ _)
  del := fun A E s P x dx l vs ds es n tn Q hr kp up nPl pdx Hd ra hF k => del_K X H F.del A E s P x dx l vs ds es n tn Q (hr.mono (Nat.le_succ _)) kp up nPl pdx Hd ra hF k
end
end Mine
end
section
open PySem PySem.W PyProof.Rows
set_option autoImplicit false
set_option maxRecDepth 100000
namespace Mine
noncomputable def vType (v : Value) (f : String → Bool) : Bool := match v with
  | .type t => f t
  | _ => false
theorem vType_ {v : Value} {f : String → Bool} (h : vType v f = true) : ∃ t, v = .type t ∧ f t = true := by
  cases v <;> first | exact ⟨_, rfl, h⟩ | exact absurd h Bool.false_ne_true
noncomputable def vInt (v : Value) (f : Int → Bool) : Bool := match v with
  | .int t _ => f t
  | _ => false
theorem vInt_ {v : Value} {f : Int → Bool} (h : vInt v f = true) : ∃ t u, v = .int t u ∧ f t = true := by
  cases v <;> first | exact ⟨_, _, rfl, h⟩ | exact absurd h Bool.false_ne_true
noncomputable def vStr (v : Value) (b : Bool) : Bool := match v with
  | .str _ _ => b
  | _ => false
theorem vStr_ {v : Value} {b : Bool} (h : vStr v b = true) : ∃ t u, v = .str t u ∧ b = true := by
  cases v <;> first | exact ⟨_, _, rfl, h⟩ | exact absurd h Bool.false_ne_true
noncomputable def vNone (v : Value) (b : Bool) : Bool := match v with
  | .none => b
  | _ => false
theorem vNone_ {v : Value} {b : Bool} (h : vNone v b = true) : v = .none ∧ b = true := by
  cases v <;> first | exact ⟨rfl, h⟩ | exact absurd h Bool.false_ne_true
noncomputable def vRef (v : Value) (f : Addr → Bool) : Bool := match v with
  | .ref t => f t
  | _ => false
theorem vRef_ {v : Value} {f : Addr → Bool} (h : vRef v f = true) : ∃ t, v = .ref t ∧ f t = true := by
  cases v <;> first | exact ⟨_, rfl, h⟩ | exact absurd h Bool.false_ne_true
noncomputable def vFields (v : Data) (f : List Value → Bool) : Bool := match v with
  | .fields fs => f fs.toList
  | _ => false
theorem vFields_ {v : Data} {f : List Value → Bool} (h : vFields v f = true) : ∃ l : List Value, v = .fields l.toArray ∧ f l = true := by
  cases v <;> first | exact ⟨_, rfl, h⟩ | exact absurd h Bool.false_ne_true
noncomputable def vSeq (v : Data) (f : Array Value → Bool) : Bool := match v with
  | .seq fs _ => f fs
  | _ => false
theorem vSeq_ {v : Data} {f : Array Value → Bool} (h : vSeq v f = true) : ∃ fs n, v = .seq fs n ∧ f fs = true := by
  cases v <;> first | exact ⟨_, _, rfl, h⟩ | exact absurd h Bool.false_ne_true
theorem cns_ {α : Type} {l : List α} {f : α → List α → Bool} (h : cns l f = true) : ∃ a r, l = a :: r ∧ f a r = true := by
  cases l with
  | nil => exact absurd h Bool.false_ne_true
  | cons a r => exact ⟨a, r, rfl, h⟩
noncomputable def rxIn (K : Frag) (p : Addr) (code : Array Nat) : Bool := som (K.lookup p) fun o => vType o.cls fun t => non o.dict (vFields o.data fun l => decide (t = "re.Pattern") && cns l fun x1 l => cns l fun x2 l => cns l fun x3 l => cns l fun x4 l => three l fun x5 x6 x7 =>
  vStr x1 (vInt x2 fun _ => vInt x3 fun z => vNone x4 (vNone x5 (vRef x6 fun c => vInt x7 fun z2 => decide (z = 0) && (decide (z2 = 0) && som (K.lookup c) fun o => vType o.cls fun t => vSeq o.data fun items => decide (t = "tuple") && decide ((items.map Builtin.Re.reRawOf).map (·.toNat) = code))))))
theorem rx_of {K : Frag} {h : Heap} {p : Addr} {code : Array Nat} (X : K.In h) (e : rxIn K p code = true) : RxAt h p code := by
  obtain ⟨⟨cls, dict, data, sl⟩, q, e1⟩ := som_ e; clear e
  refine oE1_2 (vType_ e1) fun t eZ e2 => ?_; clear e1; dsimp only at eZ; subst eZ
  obtain ⟨eZ, e3⟩ := non_ e2; clear e2; dsimp only at eZ; subst eZ
  refine oE1_2 (vFields_ e3) fun l eZ e4 => ?_; clear e3; dsimp only at eZ; subst eZ
  obtain ⟨q1, e5⟩ := and_ e4; clear e4
  have eZ := of_decide_eq_true q1; subst eZ
  refine oE2_2 (cns_ e5) fun x1 l eZ e6 => ?_; clear e5; subst eZ
  refine oE2_2 (cns_ e6) fun x2 l eZ e7 => ?_; clear e6; subst eZ
  refine oE2_2 (cns_ e7) fun x3 l eZ e8 => ?_; clear e7; subst eZ
  refine oE2_2 (cns_ e8) fun x4 l eZ e9 => ?_; clear e8; subst eZ
  refine oE3_2 (three_ e9) fun x5 x6 x7 eZ e10 => ?_; clear e9; subst eZ
  refine oE2_2 (vStr_ e10) fun sv t1 eZ e11 => ?_; clear e10; subst eZ
  refine oE2_2 (vInt_ e11) fun fl t2 eZ e12 => ?_; clear e11; subst eZ
  refine oE2_2 (vInt_ e12) fun z t3 eZ e13 => ?_; clear e12; subst eZ
  obtain ⟨eZ, e14⟩ := vNone_ e13; clear e13; subst eZ
  obtain ⟨eZ, e15⟩ := vNone_ e14; clear e14; subst eZ
  refine oE1_2 (vRef_ e15) fun c eZ e16 => ?_; clear e15; subst eZ
  refine oE2_2 (vInt_ e16) fun z2 t4 eZ e17 => ?_; clear e16; subst eZ
  obtain ⟨q2, e18⟩ := and_ e17; clear e17
  obtain ⟨q3, e19⟩ := and_ e18; clear e18
  have eZ := of_decide_eq_true q2; subst eZ
  have eZ := of_decide_eq_true q3; subst eZ
  obtain ⟨⟨cls, d2, data, sl2⟩, q4, e20⟩ := som_ e19; clear e19
  refine oE1_2 (vType_ e20) fun t eZ e21 => ?_; clear e20; dsimp only at eZ; subst eZ
  refine oE2_2 (vSeq_ e21) fun items n eZ e22 => ?_; clear e21; dsimp only at eZ; subst eZ
  obtain ⟨q5, q6⟩ := and_ e22; clear e22
  have eZ := of_decide_eq_true q5; subst eZ
  exact ⟨sv, t1, t2, t3, t4, fl, c, items, n, none, d2, sl, sl2, X _ _ q, X _ _ q4, of_decide_eq_true q6⟩
noncomputable def bootNames : List String := ["len", "sum", "sorted", "max", "ord", "set", "range", "type", "list", "str"]
theorem b_len : bootBuiltins (Str.ofString "len") = some (.builtin "len") := by decide +kernel
theorem b_sum : bootBuiltins (Str.ofString "sum") = some (.builtin "sum") := by decide +kernel
theorem b_sorted : bootBuiltins (Str.ofString "sorted") = some (.builtin "sorted") := by decide +kernel
theorem b_max : bootBuiltins (Str.ofString "max") = some (.builtin "max") := by decide +kernel
theorem b_ord : bootBuiltins (Str.ofString "ord") = some (.builtin "ord") := by decide +kernel
theorem b_set : bootBuiltins (Str.ofString "set") = some (.type "set") := by decide +kernel
theorem b_range : bootBuiltins (Str.ofString "range") = some (.type "range") := by decide +kernel
theorem b_type : bootBuiltins (Str.ofString "type") = some (.type "type") := by decide +kernel
theorem b_list : bootBuiltins (Str.ofString "list") = some (.type "list") := by decide +kernel
theorem b_str : bootBuiltins (Str.ofString "str") = some (.type "str") := by decide +kernel
structure RowFacts (K : Frag) (C fC p1 p2 : Addr) : Prop where
  hdr : nsIn K mainGlobals (Str.ofString "Headers") = some (some (.ref C))
  n1 : nsIn K mainGlobals ("_name_disallowed_re" : Str) = some (some (.ref p1))
  n2 : nsIn K mainGlobals ("_value_disallowed_re" : Str) = some (some (.ref p2))
  boots : (bootNames.all fun x => nsIn K mainGlobals (Str.ofString x) == some none) = true
  conv : ConvFacts K C fC p1 p2
  ag : plainGet K C (Str.ofString "_headers") = true
  ah : hasDictIn K C = true
  af : findIn K (.ref C) (Str.ofString "_headers") = some none
  r1 : rxIn K p1 rxName = true
  r2 : rxIn K p2 rxValue = true
section
variable {prog : Program} {w : World} {h0 : Heap} {C : Addr} {N : Nat} {Φ : Fns} {K : Frag}
theorem boot_at (X : K.In h0) {mg mb : Str → Option Value} (G : h0.Ns mainGlobals mg) (B : h0.Ns builtinsNs mb) (hb : ∀ x : Str, x ≠ "__name__" → mb x = bootBuiltins x) (hn : (bootNames.all fun x => nsIn K mainGlobals (Str.ofString x) == some none) = true)
    {x : String} {v : Value} (hx : x ∈ bootNames) (hne : Str.ofString x ≠ "__name__") (hv : bootBuiltins (Str.ofString x) = some v) : GlobalAt h0 (Str.ofString x) v :=
  ⟨mg, mb, G, B, .inr ⟨mg_none_of X G (beq_iff_eq.mp (List.all_eq_true.mp hn x hx)), by rw [hb _ hne]; exact hv⟩⟩
theorem glob_at (X : K.In h0) {mg mb : Str → Option Value} (G : h0.Ns mainGlobals mg) (B : h0.Ns builtinsNs mb) {x : Str} {v : Value} (e : nsIn K mainGlobals x = some (some v)) : GlobalAt h0 x v :=
  ⟨mg, mb, G, B, .inl (mg_of X G e)⟩
theorem base_K (X : K.In h0) (nl : h0.NoLimit) {mg mb : Str → Option Value} (G : h0.Ns mainGlobals mg) (B : h0.Ns builtinsNs mb) (hb : ∀ x : Str, x ≠ "__name__" → mb x = bootBuiltins x) {fC p1 p2 : Addr} (F : RowFacts K C fC p1 p2) : Hyp prog w h0 C 1 (fun _ => none) where
  nolimit := nl
  len := boot_at X G B hb F.boots (by decide) (by decide) b_len
  sum := boot_at X G B hb F.boots (by decide) (by decide) b_sum
  sorted := boot_at X G B hb F.boots (by decide) (by decide) b_sorted
  max := boot_at X G B hb F.boots (by decide) (by decide) b_max
  ord := boot_at X G B hb F.boots (by decide) (by decide) b_ord
  set := boot_at X G B hb F.boots (by decide) (by decide) b_set
  range := boot_at X G B hb F.boots (by decide) (by decide) b_range
  fns := fun _ _ e => nomatch e
  meths := fun _ _ e => nomatch e
  conv := (conv_K (N := 0) X nl F.conv (boot_at X G B hb F.boots (x := "type") (by decide) (by decide) b_type) (boot_at X G B hb F.boots (x := "str") (by decide) (by decide) b_str) (glob_at X G B F.n1) (glob_at X G B F.n2) (rx_of X F.r1) (rx_of X F.r2))
  attr := attr_K X F.ag F.ah F.af
  sortP := fun g => nomatch g
  sortSet := fun g => nomatch g
end
section
variable {prog : Program} {w : World} {h0 : Heap} {C : Addr} {N : Nat} {Φ : Fns} {tb : List Str}
theorem call_code (H : Hyp prog w h0 C N Φ) (nd : tb.Nodup) {cs : List CS} (hcs : SndSs prog w h0 C N Φ tb cs) {ps : List Nat} {pn : List Str} {a : Addr} {o : Obj} {fd : FuncData} {body : List Stmt}
    (ho : h0.get? a = some o) (hd : o.data = .func fd) (hcd : h0.CodeRec fd.code fd.qualname) (hbody : fd.body = .stmts body) (hclo : fd.closure = []) (hglob : fd.globals = mainGlobals) (hblt : fd.builtins = builtinsNs)
    (hsc : defScope fd.scope = true) (hbind : ∀ vals : List Value, vals.length = pn.length → bindArgs fd ⟨vals, []⟩ = pure (pn.zip vals)) (hps : ps.map (tb[·]?) = pn.map some) (hpn : pn.Nodup) (hk : paramKinds fd.scope pn = true)
    (hck : chkSs tb cs fd.scope body = true) {A : Around} {s : Shared} {P0 : Addr → Prop} {vs : List Value} {sls : List Slot} {d : D} {stE : St} {R : Result → Shared → Prop} (hr : Rm (N + 1) A) (kp : Keep h0 s.heap) (up : Up P0 s.heap)
    (ra : ArgsS P0 C s.heap vs sls) (hlen : ps.length = sls.length) (hrun : cxs Φ cs (startS ps sls) = some (stE, .ret d)) (k : ∀ v s', Keeps s s' → Rp P0 C s'.heap v d → R (.ok (.ret v)) s') : codeAny (model prog w) A (.call (.ref a) ⟨vs, []⟩) R s := by
  have hpl : ps.length = pn.length := by
    have := congrArg List.length hps
    simpa using this
  have hvl : vs.length = pn.length := by rw [ra.length, ← hlen, hpl]
  refine enterC (args := ⟨vs, []⟩) (pn := pn) (R := fun us s1 => us = vs ∧ s1 = s) H.nolimit ho hd hcd hbody hclo hglob hblt hsc hpn hk hr kp (fun E' Q' hq => ?_) fun us env h1 tk1 E' _ hR _ ok esc fm kk newO hcell hr1 => ?_
  · rw [hbind vs hvl]
    exact wpAny_pure (hq vs s (Keeps.rfl' s) hvl ⟨rfl, rfl⟩)
  · refine oE1_4 hR fun s1 ks zq9 kk1 newO1 => ?_; clear hR; refine oE0_2 zq9 fun rq10 rq11 => ?_; clear zq9; subst rq10; subst rq11
    have S := sr_start (C := C) nd up fm kk newO hcell hps ra hlen
    refine hcs s1.heap P0 env body (startS ps sls) stE (.ret d) (A.deeper env) _ { s1 with heap := h1, toks := tk1 } _ [] _ _ (by rw [esc]; exact hck) ok hr1 kp S hrun fun h' tk v kc rv => ?_
    exact k v _ ⟨h', tk, rfl, kc⟩ rv
end
end Mine
namespace Mine
theorem all1 {F : List Value → Prop} (k : ∀ a, F [a]) (vals : List Value) (h : vals.length = 1) : F vals := by
  obtain ⟨a, rfl⟩ := List.length_eq_one_iff.mp h
  exact k a
theorem allS {F : List Value → Prop} {n : Nat} (k : ∀ a r, r.length = n → F (a :: r)) (vals : List Value) (h : vals.length = n + 1) : F vals := by
  cases vals with
  | nil => cases h
  | cons a r => exact k a r (Nat.succ.inj h)
theorem all2 {F : List Value → Prop} (k : ∀ a b, F [a, b]) (vals : List Value) (h : vals.length = 2) : F vals := allS (fun a r h => all1 (F := fun r => F (a :: r)) (k a) r h) vals h
theorem all3 {F : List Value → Prop} (k : ∀ a b c, F [a, b, c]) (vals : List Value) (h : vals.length = 3) : F vals := allS (fun a r h => all2 (F := fun r => F (a :: r)) (k a) r h) vals h
structure DefFacts (K : Frag) (a : Addr) (f : String) (tb : List Str) (cs : List CS) (ps : List Nat) (pn : List Str) : Prop where
  ns : nsIn K mainGlobals (Str.ofString f) = some (some (.ref a))
  fd : ∃ fd, fdAt K a = some fd ∧ codeIn K fd.code fd.qualname = true ∧ fnFacts tb cs ps pn fd = true ∧ ∀ vals : List Value, vals.length = pn.length → bindArgs fd ⟨vals, []⟩ = pure (pn.zip vals)
section
variable {prog : Program} {w : World} {h0 : Heap} {C : Addr} {N : Nat} {Φ : Fns} {K : Frag}
theorem def_K (X : K.In h0) {mg mb : Str → Option Value} (G : h0.Ns mainGlobals mg) (B : h0.Ns builtinsNs mb) (Y : HdrHyp prog w h0 C N Φ) (H : Hyp prog w h0 C N Φ) {tb : List Str} {cs : List CS} {ps : List Nat} {pn : List Str} {f : String} {a : Addr} (F : DefFacts K a f tb cs ps pn) : FnOK prog w h0 C (N + 1) f (runF Φ ps cs) := by
  refine oE1_4 F.fd fun fd h1 h2 h3 h4 => ?_
  exact fn_K X G B Y H F.ns h1 h2 h3 h4
theorem lookup_map (i : Nat) : ∀ (ps : List Nat) (ds : List D), ((ps.zip ds).lookup i).map Slot.val = (ps.zip (ds.map Slot.val)).lookup i
  | [], _ => rfl
  | _ :: _, [] => rfl
  | p :: ps, d :: ds => by
    simp only [List.map_cons, List.zip_cons_cons, List.lookup_cons]
    cases (i == p) with
    | true => rfl
    | false => exact lookup_map i ps ds
theorem startSt_eq (ps : List Nat) (ds : List D) : startSt ps ds = startS ps (ds.map Slot.val) := by
  unfold startSt startS
  congr 1
  funext i
  exact lookup_map i ps ds
set_option tactic.hygienic true in
theorem law_code (X : K.In h0) (Y : HdrHyp prog w h0 C N Φ) (H : Hyp prog w h0 C N Φ) {mg : Str → Option Value} (G : h0.Ns mainGlobals mg) {tb : List Str} {cs : List CS} {ps : List Nat} {pn : List Str} {a fa : Addr} (F : DefFacts K a "law" tb cs ps pn) (hg : mg "law" = some (.ref fa))
    {A : Around} {s : Shared} {vs : List Value} {ds : List D} {d : D} {R : Result → Shared → Prop} (hr : Rm (N + 1) A) (kp : Keep h0 s.heap) (ra : RpA (fun _ => True) C s.heap vs ds) (hrun : runF Φ ps cs ds = some d) (k : ∀ v s', Keeps s s' → Rp (fun _ => True) C s'.heap v d → R (.ok (.ret v)) s') :
    codeAny (model prog w) A (.call (.ref fa) ⟨vs, []⟩) R s := by
  refine oE1_4 F.fd fun fd hfd hcode hf hbind => ?_
  have e : fa = a := by
    have e1 := mg_of X G F.ns
    rw [show (Str.ofString "law" : Str) = ("law" : Str) from rfl, hg] at e1
    injection e1 with e1
    injection e1 with e1
  subst e
  refine oE1_2 (fdAt_is hfd) fun o ho hd => ?_
  simp only [fnFacts, Bool.and_eq_true, decide_eq_true_eq] at hf
  refine oE0_2 hf fun zq1 f10 => ?_; clear hf; refine oE0_2 zq1 fun zq2 f9 => ?_; clear zq1; refine oE0_2 zq2 fun zq3 f8 => ?_; clear zq2; refine oE0_2 zq3 fun zq4 f7 => ?_; clear zq3; refine oE0_2 zq4 fun zq5 f6 => ?_; clear zq4; refine oE0_2 zq5 fun zq6 f5 => ?_; clear zq5; refine oE0_2 zq6 fun zq7 f4 => ?_; clear zq6; refine oE0_2 zq7 fun zq8 f3 => ?_; clear zq7; refine oE0_2 zq8 fun f1 f2 => ?_; clear zq8
  split at f3
  rotate_left
  · cases f3
  rename_i b hb
  unfold runF at hrun
  split at hrun
  rotate_left
  · cases hrun
  rename_i hlen
  split at hrun
  rotate_left
  · cases hrun
  rename_i stE d' hrun'
  cases hrun
  have e2 : startSt ps ds = startS ps (ds.map Slot.val) := startSt_eq ps ds
  rw [e2] at hrun'
  exact call_code H f1 (cxs_snd Y H f1 f2 cs) (X _ _ ho) hd (codeRec_of X hcode) hb (List.isEmpty_iff.mp f4) f5 f6 f7 hbind f8 f9 f10 f3 hr kp (fun _ _ => trivial) ra.argsS (by simpa using hlen) hrun' k
end
end Mine
end
section
open PySem PySem.W PyProof.Rows
set_option autoImplicit false
namespace Mine
noncomputable def KOk {α : Type} (lt : Nat → Nat → Bool) (n : Nat) (I : α → Prop) : KasT α → Prop
  | .ret a => I a
  | .ask i j k => i < n ∧ j < n ∧ KOk lt n I (k (lt i j))
theorem KOk.bind {α β : Type} {lt : Nat → Nat → Bool} {n : Nat} {J : β → Prop} {f : α → KasT β} : ∀ {t : KasT α}, KOk lt n (fun a => KOk lt n J (f a)) t → KOk lt n J (t.bind f)
  | .ret _, h => h
  | .ask _ _ k, h => ⟨h.1, h.2.1, KOk.bind (t := k _) h.2.2⟩
theorem KOk.mono {α : Type} {lt : Nat → Nat → Bool} {n : Nat} {I J : α → Prop} (hij : ∀ a, I a → J a) : ∀ {t : KasT α}, KOk lt n I t → KOk lt n J t
  | .ret _, h => hij _ h
  | .ask _ _ k, h => ⟨h.1, h.2.1, KOk.mono hij (t := k _) h.2.2⟩
theorem KOk.wp {α : Type} {lt : Nat → Nat → Bool} {n : Nat} {I : α → Prop} {cmp : Nat → Nat → (Bool → Shared → Prop) → Shared → Prop} {Q : α → Shared → Prop} {s : Shared} (hc : ∀ i j, i < n → j < n → ∀ (C : Bool → Shared → Prop), C (lt i j) s → cmp i j C s) (hq : ∀ a, I a → Q a s) :
    ∀ {t : KasT α}, KOk lt n I t → t.kasWp cmp Q s
  | .ret _, h => hq _ h
  | .ask i j k, h => hc i j h.1 h.2.1 _ (KOk.wp hc hq (t := k _) h.2.2)
structure Ord {α : Type} (blt : α → α → Bool) : Prop where
  asym : ∀ a b, blt a b = true → blt b a = false
  trans : ∀ a b c, blt b a = false → blt c b = false → blt c a = false
  anti : ∀ a b, blt b a = false → blt a b = false → a = b
theorem Ord.refl {α : Type} {blt : α → α → Bool} (O : Ord blt) (a : α) : blt a a = false := by
  cases h : blt a a with
  | false => rfl
  | true => rw [O.asym a a h] at h; exact h.symm
section
variable {α : Type} {blt : α → α → Bool} {K : Nat → α} {N : Nat}
noncomputable abbrev kAt (K : Nat → α) (p : Array Nat) (i : Nat) : α := K (p.getD i 0)
noncomputable abbrev kLt (blt : α → α → Bool) (K : Nat → α) (i j : Nat) : Bool := blt (K i) (K j)
noncomputable def Up' (blt : α → α → Bool) (K : Nat → α) (p : Array Nat) (n : Nat) : Prop := ∀ i j, i ≤ j → j < n → blt (kAt K p j) (kAt K p i) = false
noncomputable def Dn (blt : α → α → Bool) (K : Nat → α) (p : Array Nat) (n : Nat) : Prop := ∀ i j, i ≤ j → j < n → blt (kAt K p i) (kAt K p j) = false
noncomputable def Pm (N : Nat) (p : Array Nat) : Prop := p.Perm (List.range N).toArray
theorem Pm.size {p : Array Nat} (h : Pm N p) : p.size = N := by rw [Array.Perm.size_eq h]; simp
theorem Pm.lt {p : Array Nat} (h : Pm N p) (hN : 0 < N) (i : Nat) : p.getD i 0 < N := by
  rw [Array.getD_eq_getD_getElem?]
  cases q : p[i]? with
  | none => exact hN
  | some x =>
    have h1 : x ∈ p := Array.mem_of_getElem? q
    have h2 := (Array.Perm.mem_iff h).mp h1
    simpa using h2
theorem getD_of {p q : Array Nat} {i j : Nat} (h : p[i]? = q[j]?) : p.getD i 0 = q.getD j 0 := by rw [Array.getD_eq_getD_getElem?, Array.getD_eq_getD_getElem?, h]
theorem kAt_mirror {p : Array Nat} {i j : Nat} (hj : j ≤ p.size) (k : Nat) : kAt K (kas_rev p i j) k = if i ≤ k ∧ k < j then kAt K p (i + j - 1 - k) else kAt K p k := by
  have e := getElem?_mirror_all (i := i) hj k
  by_cases h : i ≤ k ∧ k < j
  · rw [if_pos h] at e ⊢; exact congrArg K (getD_of e)
  · rw [if_neg h] at e ⊢; exact congrArg K (getD_of e)
theorem Pm.rev {p : Array Nat} (h : Pm N p) (i j : Nat) : Pm N (kas_rev p i j) := (mirror_perm p i j _).trans h
set_option tactic.hygienic true in
theorem kAt_mirror_eq {p : Array Nat} {i j : Nat} (hj : j ≤ p.size) (he : ∀ k, i ≤ k → k < j → kAt K p k = kAt K p (j - 1)) (k : Nat) : kAt K (kas_rev p i j) k = kAt K p k := by
  rw [kAt_mirror hj]
  split
  · rename_i h; rw [he _ (by exact om_92 h.2) (by exact om_93 h.1 h.2), he k h.1 h.2]
  · rfl
theorem Up'.step (O : Ord blt) {p : Array Nat} {n : Nat} (h : Up' blt K p n) (h1 : 1 ≤ n) (hn : blt (kAt K p n) (kAt K p (n - 1)) = false) : Up' blt K p (n + 1) := by
  intro i j hij hj
  rcases Nat.lt_or_ge j n with q | q
  · exact h i j hij q
  · have : j = n := by exact om_94 hj q
    subst this
    rcases Nat.lt_or_ge i j with q' | q'
    · exact O.trans _ _ _ (h i (j - 1) (by exact om_20 q') (by exact om_95 h1)) hn
    · have : i = j := by exact om_96 hij q'
      subst this; exact O.refl _
theorem Dn.step (O : Ord blt) {p : Array Nat} {n : Nat} (h : Dn blt K p n) (h1 : 1 ≤ n) (hn : blt (kAt K p (n - 1)) (kAt K p n) = false) : Dn blt K p (n + 1) := by
  intro i j hij hj
  rcases Nat.lt_or_ge j n with q | q
  · exact h i j hij q
  · have : j = n := by exact om_94 hj q
    subst this
    rcases Nat.lt_or_ge i j with q' | q'
    · exact O.trans _ _ _ hn (h i (j - 1) (by exact om_20 q') (by exact om_95 h1))
    · have : i = j := by exact om_96 hij q'
      subst this; exact O.refl _
theorem Up'.one (O : Ord blt) (p : Array Nat) : Up' blt K p 1 := fun i j hij hj => by
  have : i = j := by exact om_97 hij hj
  subst this; exact O.refl _
theorem Dn.one (O : Ord blt) (p : Array Nat) : Dn blt K p 1 := fun i j hij hj => by
  have : i = j := by exact om_97 hij hj
  subst this; exact O.refl _
theorem asc_ok (O : Ord blt) {p : Array Nat} (hp : Pm N p) (hN : 0 < N) : ∀ (f n : Nat), 1 ≤ n → Up' blt K p n →
    KOk (kLt blt K) N (fun m => n ≤ m ∧ m ≤ n + f ∧ Up' blt K p m ∧ (m < n + f → blt (kAt K p m) (kAt K p (m - 1)) = true)) (kas_asc p f n)
  | 0, n, _, h => ⟨Nat.le_refl _, Nat.le_refl _, h, fun q => absurd q (Nat.lt_irrefl _)⟩
  | f + 1, n, h1, h => by
    refine ⟨hp.lt hN _, hp.lt hN _, ?_⟩
    show KOk _ N _ (if kLt blt K (p.getD n 0) (p.getD (n - 1) 0) = true then KasT.ret n else kas_asc p f (n + 1))
    cases hb : kLt blt K (p.getD n 0) (p.getD (n - 1) 0) with
    | true => rw [if_pos rfl]; exact ⟨Nat.le_refl _, by exact om_98, h, fun _ => hb⟩
    | false =>
      rw [if_neg (by decide)]
      refine (asc_ok O hp hN f (n + 1) (by exact om_99) (h.step O h1 hb)).mono fun m hm => ⟨by exact om_27 hm.1, by exact om_100 hm.2.1, hm.2.2.1, fun q => hm.2.2.2 (by exact om_101 q)⟩
noncomputable def Eqs (K : Nat → α) (p : Array Nat) (n q : Nat) : Prop := ∀ k, n - (q + 1) ≤ k → k < n → kAt K p k = kAt K p (n - 1)
theorem desc_ok (O : Ord blt) (hN : 0 < N) : ∀ (f n q : Nat) (p : Array Nat), Pm N p → n + f = N → q + 1 ≤ n → Dn blt K p n → Eqs K p n q →
    KOk (kLt blt K) N (fun r : Array Nat × Nat × Nat => Pm N r.1 ∧ r.2.2 + 1 ≤ r.2.1 ∧ r.2.1 ≤ N ∧ Dn blt K r.1 r.2.1 ∧ Eqs K r.1 r.2.1 r.2.2) (kas_desc f p n q)
  | 0, n, q, p, hp, hn, h1, h, he => ⟨hp, h1, by show n ≤ N; exact om_102 hn, h, he⟩
  | f + 1, n, q, p, hp, hn, h1, h, he => by
    refine ⟨hp.lt hN _, hp.lt hN _, ?_⟩
    show KOk _ N _ (if kLt blt K (p.getD n 0) (p.getD (n - 1) 0) = true then _ else _)
    cases hb : kLt blt K (p.getD n 0) (p.getD (n - 1) 0) with
    | true =>
      rw [if_pos rfl]
      have hd : Dn blt K p (n + 1) := h.step O (by exact om_103 h1) (O.asym _ _ hb)
      by_cases hq : q > 0
      · rw [if_pos hq]
        have hk : ∀ k, kAt K (kas_rev p (n - (q + 1)) n) k = kAt K p k := kAt_mirror_eq (by rw [hp.size]; exact om_104 hn) fun k a b => he k a b
        refine desc_ok O hN f (n + 1) 0 _ (hp.rev _ _) (by exact om_105 hn) (by exact om_106) (fun i j a b => by rw [hk, hk]; exact hd i j a b) fun k a b => ?_
        have : k = n := by exact om_107 a b
        subst this; rfl
      · rw [if_neg hq]
        refine desc_ok O hN f (n + 1) 0 p hp (by exact om_105 hn) (by exact om_106) hd fun k a b => ?_
        have : k = n := by exact om_107 a b
        subst this; rfl
    | false =>
      rw [if_neg (by decide)]
      refine ⟨hp.lt hN _, hp.lt hN _, ?_⟩
      show KOk _ N _ (if kLt blt K (p.getD (n - 1) 0) (p.getD n 0) = true then _ else _)
      cases hb2 : kLt blt K (p.getD (n - 1) 0) (p.getD n 0) with
      | true => rw [if_pos rfl]; exact ⟨hp, h1, by show n ≤ N; exact om_104 hn, h, he⟩
      | false =>
        rw [if_neg (by decide)]
        have heq : kAt K p (n - 1) = kAt K p n := O.anti _ _ hb hb2
        refine desc_ok O hN f (n + 1) (q + 1) p hp (by exact om_105 hn) (by exact om_108 h1) (h.step O (by exact om_103 h1) hb2) fun k a b => ?_
        rcases Nat.lt_or_ge k n with z | z
        · rw [he k (by exact om_109 a) z]; exact heq
        · have : k = n := by exact om_94 b z
          subst this; rfl
theorem tail_ok (O : Ord blt) (hN : 0 < N) {p : Array Nat} {n : Nat} (hp : Pm N p) (h1 : 1 ≤ n) (hn : n ≤ N) (h : Dn blt K p n) : KOk (kLt blt K) N (fun r : Nat × Array Nat => Pm N r.2 ∧ 1 ≤ r.1 ∧ r.1 ≤ N ∧ Up' blt K r.2 r.1) (kas_tail3 n N p) := by
  have hr : Pm N (kas_rev p 0 n) := hp.rev _ _
  have hu : Up' blt K (kas_rev p 0 n) n := fun i j hij hj => by
    rw [kAt_mirror (by rw [hp.size]; exact hn), kAt_mirror (by rw [hp.size]; exact hn), if_pos ⟨Nat.zero_le _, hj⟩, if_pos ⟨Nat.zero_le _, by exact om_110 hij hj⟩]
    exact h _ _ (by exact om_111 hij) (by exact om_112 hj)
  exact KOk.bind ((asc_ok O hr hN (N - n) n h1 hu).mono fun m hm => ⟨hr, by show 1 ≤ m; exact om_113 h1 hm.1, by show m ≤ N; exact om_114 hn hm.2.1, hm.2.2.1⟩)
theorem descPart_ok (O : Ord blt) (hN : 0 < N) {p : Array Nat} {n : Nat} (hp : Pm N p) (h1 : 1 ≤ n) (hn : n < N) (h : Dn blt K p (n + 1)) : KOk (kLt blt K) N (fun r : Nat × Array Nat => Pm N r.2 ∧ 1 ≤ r.1 ∧ r.1 ≤ N ∧ Up' blt K r.2 r.1) (kas_descPart n N p) := by
  refine KOk.bind ((desc_ok O hN (N - (n + 1)) (n + 1) 0 p hp (by exact om_115 hn) (by exact om_106) h fun k a b => ?_).mono fun r hr => ?_)
  · have : k = n := by exact om_107 a b
    subst this; rfl
  · obtain ⟨q, m, c⟩ := r
    obtain ⟨a1, a2, a3, a4, a5⟩ := hr
    dsimp only at a1 a2 a3 a4 a5 ⊢
    split
    · have hk : ∀ k, kAt K (kas_rev q (m - (c + 1)) m) k = kAt K q k := kAt_mirror_eq (by rw [a1.size]; exact a3) fun k a b => a5 k a b
      exact tail_ok O hN (a1.rev _ _) (by omega) a3 fun i j a b => by rw [hk, hk]; exact a4 i j a b
    · exact tail_ok O hN a1 (by omega) a3 a4
theorem count_ok (O : Ord blt) (hN : 1 < N) {p : Array Nat} (hp : Pm N p) : KOk (kLt blt K) N (fun r : Nat × Array Nat => Pm N r.2 ∧ 1 ≤ r.1 ∧ r.1 ≤ N ∧ Up' blt K r.2 r.1) (kas_count N p) := by
  have h0 : 0 < N := by exact om_116 hN
  refine KOk.bind ((asc_ok O hp h0 (N - 1) 1 (Nat.le_refl _) (Up'.one O p)).mono fun n hn => ?_)
  obtain ⟨a1, a2, a3, a4⟩ := hn
  by_cases e : n = N
  · rw [if_pos (by simpa using e)]; exact ⟨hp, a1, by show n ≤ N; exact om_117 e, a3⟩
  · rw [if_neg (by simpa using e)]
    have hd := a4 (by exact om_118 hN a2 e)
    by_cases g : n > 1
    · rw [if_pos g]
      refine ⟨hp.lt h0 _, hp.lt h0 _, ?_⟩
      show KOk _ N _ (if kLt blt K (p.getD 0 0) (p.getD (n - 1) 0) = true then _ else _)
      cases hb : kLt blt K (p.getD 0 0) (p.getD (n - 1) 0) with
      | true => rw [if_pos rfl]; exact ⟨hp, a1, by show n ≤ N; exact om_119 hN a2, a3⟩
      | false =>
        rw [if_neg (by decide)]
        have heq : ∀ k, 0 ≤ k → k < n → kAt K p k = kAt K p (n - 1) := fun k _ hk => O.anti _ _ (a3 k (n - 1) (by exact om_20 hk) (by exact om_120 g)) (O.trans _ (kAt K p 0) _ hb (a3 0 k (Nat.zero_le _) hk))
        have hk : ∀ k, kAt K (kas_rev p 0 n) k = kAt K p k := kAt_mirror_eq (by rw [hp.size]; exact om_119 hN a2) heq
        refine descPart_ok O h0 (hp.rev _ _) (by exact om_121 a1) (by exact om_122 hN a2 e) ?_
        refine Dn.step O (fun i j a b => ?_) (by exact om_121 a1) ?_
        · rw [hk, hk, heq i (by exact om_123) (by exact om_110 a b), heq j (by exact om_123) b]; exact O.refl _
        · rw [hk, hk]; exact O.asym _ _ hd
    · rw [if_neg g]
      have : n = 1 := by exact om_124 a1 g
      subst this
      exact descPart_ok O h0 hp (Nat.le_refl _) (by exact om_125 hN) (Dn.step O (Dn.one O p) (Nat.le_refl _) (O.asym _ _ hd))
theorem place_ok (O : Ord blt) (hN : 0 < N) {p : Array Nat} {k : Nat} (hp : Pm N p) (hu : Up' blt K p k) : ∀ (f l r : Nat), l ≤ r → r ≤ k → r - l ≤ f → (∀ i, i < l → blt (kAt K p k) (kAt K p i) = false) → (∀ i, r ≤ i → i < k → blt (kAt K p i) (kAt K p k) = false) →
    KOk (kLt blt K) N (fun m => m ≤ k ∧ (∀ i, i < m → blt (kAt K p k) (kAt K p i) = false) ∧ ∀ i, m ≤ i → i < k → blt (kAt K p i) (kAt K p k) = false) (kas_place p k f l r)
  | 0, l, r, h1, h2, h3, ha, hb => ⟨by exact om_126 h1 h2, ha, fun i hi => hb i (by exact om_127 h3 hi)⟩
  | f + 1, l, r, h1, h2, h3, ha, hb => by
    rw [kas_place]
    by_cases e : l ≥ r
    · rw [if_pos e]; exact ⟨by exact om_126 h1 h2, ha, fun i hi => hb i (by exact om_128 e hi)⟩
    · rw [if_neg e]
      refine ⟨hp.lt hN _, hp.lt hN _, ?_⟩
      show KOk _ N _ (if kLt blt K (p.getD k 0) (p.getD ((l + r) / 2) 0) = true then _ else _)
      cases hc : kLt blt K (p.getD k 0) (p.getD ((l + r) / 2) 0) with
      | true =>
        rw [if_pos rfl]
        exact place_ok O hN hp hu f l ((l + r) / 2) (by exact om_129 e) (by exact om_130 h2 e) (by exact om_131 h3) ha fun i hi hk => O.trans _ _ _ (O.asym _ _ hc) (hu _ i hi hk)
      | false =>
        rw [if_neg (by decide)]
        exact place_ok O hN hp hu f ((l + r) / 2 + 1) r (by exact om_132 e) h2 (by exact om_133 h3) (fun i hi => O.trans _ _ _ (hu i ((l + r) / 2) (by exact om_134 hi) (by exact om_135 h2 e)) hc) hb
set_option tactic.hygienic true in
theorem bin_ok (O : Ord blt) (hN : 0 < N) : ∀ (f k : Nat) (p : Array Nat), Pm N p → k + f = N → 1 ≤ k → Up' blt K p k → KOk (kLt blt K) N (fun q => Pm N q ∧ Up' blt K q N) (kas_bin f p k)
  | 0, k, p, hp, hk, _, h => ⟨hp, by have : k = N := by exact om_136 hk
                                     subst this; exact h⟩
  | f + 1, k, p, hp, hk, h1, h => by
    rw [kas_bin]
    refine KOk.bind ((place_ok O hN hp h k 0 k (Nat.zero_le _) (Nat.le_refl _) (by exact om_137) (fun i hi => absurd hi (Nat.not_lt_zero _)) (fun i a b => absurd a (Nat.not_le.mpr b))).mono fun l hl => ?_)
    obtain ⟨l1, l2, l3⟩ := hl
    have hs : k < p.size := by rw [hp.size]; exact om_138 hk
    have hb : ∀ i, kAt K (bubble p k (k - l)) i = if i = l then kAt K p k else if l < i ∧ i ≤ k then kAt K p (i - 1) else kAt K p i := fun i => by
      have e := getElem?_bubble hs (k - l) (by exact om_139) i
      have e2 : k - (k - l) = l := by exact om_140 l1
      rw [e2] at e
      repeat' split at e
      all_goals first | (rename_i q; rw [if_pos q]; exact congrArg K (getD_of e)) | (rename_i q1 q2; rw [if_neg q1, if_pos q2]; exact congrArg K (getD_of e)) | (rename_i q1 q2; rw [if_neg q1, if_neg q2]; exact congrArg K (getD_of e))
    refine bin_ok O hN f (k + 1) _ ((bubble_perm p k _).trans hp) (by exact om_105 hk) (by exact om_99) fun i j hij hj => ?_
    rw [hb, hb]
    by_cases c1 : i = l
    · rw [if_pos c1]
      by_cases c2 : j = l
      · rw [if_pos c2]; exact O.refl _
      · rw [if_neg c2, if_pos (by exact om_141 hij hj c1 c2)]; exact l3 _ (by exact om_142 hij c1 c2) (by exact om_143 h1 hj)
    · rw [if_neg c1]
      by_cases c2 : j = l
      · rw [if_pos c2, if_neg (by exact om_144 hij c2)]; exact l2 i (by exact om_145 hij c1 c2)
      · rw [if_neg c2]
        by_cases c3 : l < i ∧ i ≤ k
        · rw [if_pos c3, if_pos (by exact om_146 hij hj c3.1)]; exact h _ _ (by exact om_147 hij) (by exact om_148 hj c3.1 c3.2)
        · rw [if_neg c3]
          by_cases c4 : l < j ∧ j ≤ k
          · rw [if_pos c4]; exact h _ _ (by exact om_149 hij c3 c4.1 c4.2) (by exact om_150 c4.1 c4.2)
          · rw [if_neg c4]; exact h _ _ hij (by exact om_151 l1 hj c2 c4)
theorem sort_ok (O : Ord blt) (hN : 1 < N) : KOk (kLt blt K) N (fun q => Pm N q ∧ Up' blt K q N) (kas_sort N) := by
  have h0 : 0 < N := by exact om_116 hN
  unfold kas_sort
  refine KOk.bind ((count_ok O hN (Array.Perm.refl _)).mono fun r hr => ?_)
  obtain ⟨m, p⟩ := r
  obtain ⟨a1, a2, a3, a4⟩ := hr
  dsimp only at a1 a2 a3 a4 ⊢
  split
  · have : max m 1 = m := by exact om_152 a2
    rw [this]
    exact bin_ok O h0 (N - m) m p a1 (by omega) a2 a4
  · have : m = N := by omega
    subst this; exact ⟨a1, a4⟩
end
end Mine
end
section
open PySem PySem.W PyProof.Rows
set_option autoImplicit false
set_option maxRecDepth 100000
namespace Mine
noncomputable def pLt (a b : Str × Str) : Bool := if a.1 = b.1 then decide (a.2.cps.toList < b.2.cps.toList) else decide (a.1.cps.toList < b.1.cps.toList)
theorem str_cps {a b : Str} (h : a.cps.toList = b.cps.toList) : a = b := by
  cases a; cases b
  congr 1
  exact Array.toList_inj.mp h
theorem pLe_iff (a b : Str × Str) : pLt b a = false ↔ pairLe a b = true := by
  unfold pLt pairLe strLe
  by_cases h : a.1 = b.1
  · rw [if_pos h, if_pos h.symm]; simp [List.not_lt]
  · rw [if_neg h, if_neg (fun q => h q.symm)]; simp [List.not_lt]
theorem pLt_ord : Ord pLt where
  asym a b h := by
    unfold pLt at h ⊢
    by_cases e : a.1 = b.1
    · rw [if_pos e, decide_eq_true_eq] at h
      rw [if_pos e.symm, decide_eq_false_iff_not]
      exact fun q => List.lt_irrefl _ (List.lt_trans h q)
    · rw [if_neg e, decide_eq_true_eq] at h
      rw [if_neg (fun q => e q.symm), decide_eq_false_iff_not]
      exact fun q => List.lt_irrefl _ (List.lt_trans h q)
  trans a b c h1 h2 := by
    unfold pLt at h1 h2 ⊢
    by_cases e1 : a.1 = b.1
    · rw [if_pos e1.symm, decide_eq_false_iff_not, List.not_lt] at h1
      by_cases e2 : b.1 = c.1
      · rw [if_pos e2.symm, decide_eq_false_iff_not, List.not_lt] at h2
        rw [if_pos (e1.trans e2).symm, decide_eq_false_iff_not, List.not_lt]
        exact List.le_trans h1 h2
      · rw [if_neg (fun q => e2 q.symm), decide_eq_false_iff_not, List.not_lt] at h2
        rw [if_neg (fun q => e2 (e1.symm.trans q.symm)), decide_eq_false_iff_not, List.not_lt, e1]
        exact h2
    · rw [if_neg (fun q => e1 q.symm), decide_eq_false_iff_not, List.not_lt] at h1
      by_cases e2 : b.1 = c.1
      · rw [if_neg (fun q => e1 (q.symm.trans e2.symm)), decide_eq_false_iff_not, List.not_lt, ← e2]
        exact h1
      · rw [if_neg (fun q => e2 q.symm), decide_eq_false_iff_not, List.not_lt] at h2
        have h3 := List.le_trans h1 h2
        rw [if_neg (fun q => ?_), decide_eq_false_iff_not, List.not_lt]
        · exact h3
        · rw [q] at h2
          exact e1 (str_cps (List.le_antisymm h1 h2))
  anti a b h1 h2 := by
    unfold pLt at h1 h2
    by_cases e : a.1 = b.1
    · rw [if_pos e.symm, decide_eq_false_iff_not, List.not_lt] at h1
      rw [if_pos e, decide_eq_false_iff_not, List.not_lt] at h2
      exact Prod.ext e (str_cps (List.le_antisymm h1 h2))
    · rw [if_neg (fun q => e q.symm), decide_eq_false_iff_not, List.not_lt] at h1
      rw [if_neg e, decide_eq_false_iff_not, List.not_lt] at h2
      exact absurd (str_cps (List.le_antisymm h1 h2)) e
theorem insP_perm (a : Str × Str) : ∀ l, (insP a l).Perm (a :: l)
  | [] => .refl _
  | b :: r => by
    rw [ip_cons]
    split
    · exact .refl _
    · exact ((insP_perm a r).cons b).trans (List.Perm.swap a b r)
theorem sortP_perm : ∀ l : List (Str × Str), (sortP l).Perm l
  | [] => .refl _
  | a :: r => (insP_perm a _).trans ((sortP_perm r).cons a)
noncomputable def pRel (a b : Str × Str) : Prop := pLt b a = false
set_option tactic.hygienic true in
theorem insP_sorted (a : Str × Str) : ∀ l : List (Str × Str), l.Pairwise pRel → (insP a l).Pairwise pRel
  | [], _ => List.pairwise_singleton ..
  | b :: r, h => by
    rw [ip_cons]
    have h1 := List.pairwise_cons.mp h
    split
    · rename_i hab
      have hab' : pRel a b := (pLe_iff a b).mpr hab
      refine List.pairwise_cons.mpr ⟨fun x hx => ?_, h⟩
      rcases List.mem_cons.mp hx with rfl | hx
      · exact hab'
      · exact pLt_ord.trans _ _ _ hab' (h1.1 x hx)
    · rename_i hab
      refine List.pairwise_cons.mpr ⟨fun x hx => ?_, insP_sorted a r h1.2⟩
      rcases List.mem_cons.mp ((insP_perm a r).mem_iff.mp hx) with rfl | hx
      · cases q : pLt x b with
        | false => exact q
        | true => exact absurd ((pLe_iff x b).mp (pLt_ord.asym x b q)) hab
      · exact h1.1 x hx
theorem sortP_sorted : ∀ l : List (Str × Str), (sortP l).Pairwise pRel
  | [] => .nil
  | a :: r => insP_sorted a _ (sortP_sorted r)
theorem sortP_of {l m : List (Str × Str)} (p : m.Perm l) (s : m.Pairwise pRel) : m = sortP l :=
  List.Perm.eq_of_pairwise (fun _ _ _ _ h1 h2 => pLt_ord.anti _ _ h1 h2) s (sortP_sorted l) (p.trans (sortP_perm l).symm)
noncomputable def PairAt (h : Heap) (v : Value) (p : Str × Str) : Prop := ∃ a o n t u, v = .ref a ∧ h.get? a = some o ∧ o.cls = .type "tuple" ∧ o.data = .seq #[.str p.1 t, .str p.2 u] n
section
variable {prog : Program} {w : World} {A : Around} {E : Value → Shared → Prop} {s : Shared}
theorem pair_lt {x y : Value} {p q : Str × Str} {Q : Bool → Shared → Prop} (hx : PairAt s.heap x p) (hy : PairAt s.heap y q) (h : Q (pLt p q) s) : wpAny (model prog w) A (keyLt' (tuples' true) x y) Q (fun _ _ => False) s := by
  obtain ⟨a, o, n, t, u, rfl, ho, _, hd⟩ := hx
  obtain ⟨b, o', n', t', u', rfl, ho', _, hd'⟩ := hy
  refine kat_lt ho hd ho' hd' ?_
  show KatLex prog w A true false Q [(.str p.1 t, .str q.1 t'), (.str p.2 u, .str q.2 u')] 0 s
  refine kat_cons (eqBool_str (kat_go (fun e => ?_) fun e => ?_))
  · have e1 : p.1 = q.1 := by simpa using e
    refine kat_yes (kat_cons (eqBool_str (kat_go (fun e => ?_) fun e => ?_)))
    · have e2 : p.2 = q.2 := by simpa using e
      refine kat_yes (kat_nil ?_)
      have : pLt p q = false := by unfold pLt; rw [if_pos e1, e2]; simp [List.lt_irrefl]
      rwa [this] at h
    · refine kat_no ?_
      show wpAny (model prog w) A (oneLt' false _ _) Q _ s
      refine kat_one _ _ (PySem.P.lt_str ?_)
      have : pLt p q = decide (p.2.cps.toList < q.2.cps.toList) := by unfold pLt; rw [if_pos e1]
      rw [this] at h
      exact h
  · have e1 : ¬ p.1 = q.1 := by simpa using e
    refine kat_no (oneLt_str ?_)
    have : pLt p q = decide (p.1.cps.toList < q.1.cps.toList) := by unfold pLt; rw [if_neg e1]
    rw [this] at h
    exact h
noncomputable def PairRow (h : Heap) (vs : List Value) (ps : List (Str × Str)) : Prop := vs.length = ps.length ∧ ∀ (i : Nat) (v : Value) (p : Str × Str), vs[i]? = some v → ps[i]? = some p → PairAt h v p
theorem PairRow.tups {h : Heap} : ∀ {vs : List Value} {ps : List (Str × Str)}, PairRow h vs ps → ∃ fs, KatTups h vs fs ∧ fs.length = vs.length ∧ ∀ f ∈ fs, ∃ x t, f = .str x t
  | [], [], _ => ⟨[], KatTups.nil, rfl, by simp⟩
  | [], _ :: _, r => by cases r.1
  | _ :: _, [], r => by cases r.1
  | v :: vs, p :: ps, r => by
    obtain ⟨a, o, n, t, u, rfl, ho, hc, hd⟩ := r.2 0 v p rfl rfl
    obtain ⟨fs, h1, h2, h3⟩ := PairRow.tups (h := h) (vs := vs) (ps := ps) ⟨Nat.succ.inj r.1, fun i v p hv hp => r.2 (i + 1) v p hv hp⟩
    refine ⟨.str p.1 t :: fs, KatTups.cons ho hc hd rfl h1, by rw [List.length_cons, List.length_cons, h2], fun f hf => ?_⟩
    rcases List.mem_cons.mp hf with rfl | hf
    · exact ⟨_, _, rfl⟩
    · exact h3 f hf
theorem list_sort_pairs {a : Addr} {vs : List Value} {ps : List (Str × Str)} {n : Nat} {P : PySem.Fin → Shared → Prop} (ho : s.heap.get? a = some (seqObj "list" vs.toArray n)) (hr : PairRow s.heap vs ps) (h64 : vs.length < 64)
    (h : ∀ (out : Array Value) (p : List Nat), out.toList = p.map (fun i => vs.getD i Value.none) → p.Perm (List.range vs.length) → (p.map fun i => ps.getD i default) = sortP ps → P (.done (.ret .none)) { s with heap := sortedHeap s.heap a vs out }) :
    wpAny (model prog w) A (Builtin.«list.sort» ⟨[.ref a], []⟩) P E s := by
  rw [list_sort_plain]
  have ha : a < s.heap.objs.size := Heap.lt_size ho
  have h64' : vs.toArray.size < 64 := by rw [List.size_toArray]; exact h64
  refine wpAny_bind (listItems_at ho rfl ?_)
  refine wpAny_bind (listUpdate_at ho rfl ?_ (by rw [List.size_toArray, sizeLine_eq]; exact om_153 h64) (Nat.zero_le _))
  obtain ⟨e1, ho1⟩ : ∃ e1, (s.heap.update a (Obj.mapSeq fun _ => #[])).get? a = some (seqObj "list" #[] e1) := ⟨_, get?_update_seq ho (fun _ => #[])⟩
  refine wpAny_bind (seqEpoch_at ho1 rfl ?_)
  refine wpAny_bind (wpAny_newTuple ?_ (by show vs.length ≤ _; rw [sizeLine_eq]; exact om_153 h64))
  refine wpAny_bind (wpAny_newList ?_ (Nat.zero_le _))
  refine wpAny_holding ?_
  have hkeep : ∀ b o, b ≠ a → s.heap.get? b = some o → (((s.heap.update a (Obj.mapSeq fun _ => #[])).push (seqObj "tuple" vs.toArray 0)).push (seqObj "list" #[] 0)).get? b = some o := fun b o hb e => by
    refine Heap.get?_push_of_some _ (Heap.get?_push_of_some _ ?_)
    rw [Heap.get?_update_ne _ _ _ _ hb]; exact e
  have ho6 : (((s.heap.update a (Obj.mapSeq fun _ => #[])).push (seqObj "tuple" vs.toArray 0)).push (seqObj "list" #[] 0)).get? a = some (seqObj "list" #[] e1) := Heap.get?_push_of_some _ (Heap.get?_push_of_some _ ho1)
  have hr6 : PairRow (((s.heap.update a (Obj.mapSeq fun _ => #[])).push (seqObj "tuple" vs.toArray 0)).push (seqObj "list" #[] 0)) vs ps := ⟨hr.1, fun i v p hv hp => by
    obtain ⟨x, o, k, t, u, e, hx, hc, hd⟩ := hr.2 i v p hv hp
    refine ⟨x, o, k, t, u, e, hkeep x o (fun q => ?_) hx, hc, hd⟩
    rw [q, ho] at hx; cases hx
    exact absurd (Value.type.inj (show (Value.type "list") = .type "tuple" from hc)) (by decide)⟩
  show wpAny (model prog w) A _ P E { s with heap := ((s.heap.update a (Obj.mapSeq fun _ => #[])).push (seqObj "tuple" vs.toArray 0)).push (seqObj "list" #[] 0) }
  dsimp only
  have out : ∀ (o : Array Value), o.size ≤ 63 → P (.done (.ret .none)) { s with heap := sortedHeap s.heap a vs o } → wpAny (model prog w) A (do
      let touched := (← seqEpoch a) != e1
      Builtin.List.listUpdate (.ref a) fun _ => o
      if let some e := (none : Option Value) then rule "list.sort.comparison-raised"; throw e
      if touched then rule "list.sort.modified"; raiseError "ValueError" "list modified during sort"
      ret .none) P E { s with heap := ((s.heap.update a (Obj.mapSeq fun _ => #[])).push (seqObj "tuple" vs.toArray 0)).push (seqObj "list" #[] 0) } := fun o hs hP => by
    refine wpAny_bind (seqEpoch_at ho6 rfl ?_)
    refine wpAny_bind (listUpdate_at ho6 rfl ?_ (Nat.zero_le _) (by rw [sizeLine_eq]; exact om_154 hs))
    simp only [bne_self_eq_false, Bool.false_eq_true, if_false]
    exact wpAny_pure hP
  by_cases h2 : vs.toArray.size < 2
  · rw [if_pos h2, if_pos h2]
    refine wpAny_bind (wpAny_pure ?_)
    rw [StateT.run_pure]
    refine wpAny_bind (wpAny_pure ?_)
    rw [List.size_toArray] at h2
    refine out _ ?_ (h _ (List.range vs.length) ?_ (.refl _) ?_)
    · show (((vs.toArray.zip vs.toArray).map (·.2))).size ≤ 63
      simp; exact om_155 h2
    · show ((vs.toArray.zip vs.toArray).map (·.2)).toList = _
      have hv : vs.length = 0 ∨ vs.length = 1 := by exact om_156 h2
      rcases hv with hv | hv
      · have : vs = [] := List.eq_nil_of_length_eq_zero hv
        subst this; simp
      · obtain ⟨x, rfl⟩ := List.length_eq_one_iff.mp hv
        simp [List.range_succ]
    · have hp := hr.1
      have hv : vs.length = 0 ∨ vs.length = 1 := by exact om_156 h2
      rcases hv with hv | hv
      · have : ps = [] := List.eq_nil_of_length_eq_zero (by exact om_157 hp hv)
        subst this; rw [hv]; rfl
      · obtain ⟨x, rfl⟩ := List.length_eq_one_iff.mp (show ps.length = 1 by exact om_158 hp hv)
        rw [hv]; rfl
  · rw [if_neg h2, if_neg h2]
    rw [List.size_toArray] at h2
    obtain ⟨fs, f1, f2, f3⟩ := hr6.tups
    refine wpAny_bind (kat_kind (T := .type "str") f1 (by exact om_159 h2 f2) (fun v hv => ?_) (by decide) ?_)
    · obtain ⟨x, t, rfl⟩ := f3 v hv
      exact Looks.of_pure rfl
    · show wpAny _ _ _ _ _ _
      refine wpAny_bind (wpAny_mono (kat_run (κ := tuples' true) (ks := vs) (vs := vs) (Q := fun st' s' => s' = { s with heap := ((s.heap.update a (Obj.mapSeq fun _ => #[])).push (seqObj "tuple" vs.toArray 0)).push (seqObj "list" #[] 0) } ∧ failedOf st' = none ∧ ∃ p : Array Nat, Pm vs.length p ∧ Up' pLt (fun i => ps.getD i default) p vs.length ∧ arrOf st' = p.map (kas_item (vs.toArray.zip vs.toArray)))
        (G := fun p s' => s' = { s with heap := ((s.heap.update a (Obj.mapSeq fun _ => #[])).push (seqObj "tuple" vs.toArray 0)).push (seqObj "list" #[] 0) } ∧ Pm vs.length p ∧ Up' pLt (fun i => ps.getD i default) p vs.length)
        rfl (by exact om_160 h2) h64 (fun p st' s' a1 a2 a3 a4 => ⟨a4.1, a3, p, a4.2.1, a4.2.2, a2⟩) ?_) ?_ fun _ _ e => e)
      · refine KOk.wp (lt := kLt pLt fun i => ps.getD i default) (n := vs.length) (fun i j hi hj C hC => ?_) (fun p hp => ⟨rfl, hp.1, hp.2⟩) (sort_ok pLt_ord (by exact om_161 h2))
        have get : ∀ i, i < vs.length → ∃ v p, vs.getD i Value.none = v ∧ ps.getD i default = p ∧ PairAt (((s.heap.update a (Obj.mapSeq fun _ => #[])).push (seqObj "tuple" vs.toArray 0)).push (seqObj "list" #[] 0)) v p := fun i hi => by
          have hi' : i < ps.length := by rw [← hr.1]; exact hi
          refine ⟨vs[i], ps[i], ?_, ?_, hr6.2 i _ _ (List.getElem?_eq_getElem hi) (List.getElem?_eq_getElem hi')⟩
          · rw [List.getD_eq_getElem?_getD, List.getElem?_eq_getElem hi]; rfl
          · rw [List.getD_eq_getElem?_getD, List.getElem?_eq_getElem hi']; rfl
        obtain ⟨v, p, e1, e2, e3⟩ := get i hi
        obtain ⟨v', p', e1', e2', e3'⟩ := get j hj
        unfold kas_ask
        rw [e1, e1']
        refine pair_lt e3 e3' ?_
        rw [← e2, ← e2']; exact hC
      · rintro ⟨⟨⟩, st'⟩ s' ⟨rfl, hf, p, hp, hu, har⟩
        dsimp only
        have hsn := kat_snds (ks := vs) (vs := vs) rfl har
        rw [hsn, hf]
        refine out _ ?_ (h _ p.toList ?_ ?_ ?_)
        · rw [List.size_toArray, List.length_map, Array.length_toList, hp.size]; exact om_162 h64
        · rfl
        · exact Array.Perm.toList hp
        · have hpl : p.toList.Perm (List.range ps.length) := by rw [← hr.1]; exact Array.Perm.toList hp
          refine sortP_of ?_ ?_
          · have e : ps = (List.range ps.length).map fun i => ps.getD i default := by
              apply List.ext_getElem?
              intro i
              rw [List.getElem?_map]
              rcases Nat.lt_or_ge i ps.length with q | q
              · rw [List.getElem?_range q, List.getElem?_eq_getElem q, Option.map_some, List.getD_eq_getElem?_getD, List.getElem?_eq_getElem q]; rfl
              · rw [List.getElem?_eq_none q, List.getElem?_eq_none (by simpa using q)]; rfl
            have e2 := hpl.map (fun i => ps.getD i default)
            rw [← e] at e2
            exact e2
          · rw [List.pairwise_iff_getElem]
            intro i j hi hj hij
            rw [List.length_map, Array.length_toList, hp.size] at hi hj
            have gk : ∀ k (hk : k < vs.length) (hk' : k < (p.toList.map fun i => ps.getD i default).length), (p.toList.map fun i => ps.getD i default)[k] = kAt (fun i => ps.getD i default) p k := fun k hk hk' => by
              rw [List.getElem_map]
              show ps.getD _ default = ps.getD (p.getD k 0) default
              have hk2 : k < p.size := by rw [hp.size]; exact hk
              congr 1
              rw [Array.getElem_toList, Array.getD_eq_getD_getElem?, Array.getElem?_eq_getElem hk2]; rfl
            rw [gk i hi, gk j hj]
            exact hu i j (by exact om_163 hij) hj
end
end Mine
end
section
open PySem PySem.W PyProof.Rows
set_option autoImplicit false
set_option maxRecDepth 100000
namespace Mine
theorem rp_pair {P : Addr → Prop} {C : Addr} {h : Heap} {v : Value} {p : Str × Str} (r : Rp P C h v (pairD p)) : PairAt h v p := by
  refine oE2_3 (RpT.tup (t := false) (show RpT false P C h v (.tup [.str p.1, .str p.2]) from r)) fun a vs e ht ra => ?_
  subst e
  cases ra with
  | cons r1 ra =>
    cases ra with
    | cons r2 ra =>
      cases ra
      cases r1; cases r2
      refine oE1_2 (show ∃ o, h.get? a = some o ∧ _ from ht) fun o ho hc => ?_
      exact ⟨a, o, hc.2.choose, _, _, rfl, ho, hc.1, hc.2.choose_spec⟩
theorem rp_pairs {P : Addr → Prop} {C : Addr} {h : Heap} {vs : List Value} {ps : List (Str × Str)} (r : RpA P C h vs (ps.map pairD)) : PairRow h vs ps := by
  refine ⟨by rw [r.length, List.length_map], fun i v p hv hp => ?_⟩
  refine oE1_2 (r.getv hv) fun d hd rd => ?_
  rw [List.getElem?_map, hp] at hd
  cases hd
  exact rp_pair rd
theorem rpA_pick {P : Addr → Prop} {C : Addr} {h : Heap} {vs : List Value} {ps : List (Str × Str)} (r : RpA P C h vs (ps.map pairD)) : ∀ {l : List Nat}, (∀ i ∈ l, i < vs.length) → RpA P C h (l.map fun i => vs.getD i Value.none) ((l.map fun i => ps.getD i default).map pairD)
  | [], _ => .nil
  | i :: l, hl => by
    have hi := hl i (.head _)
    have hi' : i < ps.length := by have := r.length; rw [List.length_map] at this; exact om_164 hi this
    refine .cons ?_ (rpA_pick r fun j hj => hl j (.tail _ hj))
    refine oE1_2 (r.get (k := i) (d := pairD (ps.getD i default)) ?_) fun v hv rv => ?_
    · rw [List.getElem?_map, List.getD_eq_getElem?_getD, List.getElem?_eq_getElem hi']; rfl
    · have : vs.getD i Value.none = v := by rw [List.getD_eq_getElem?_getD, hv]; rfl
      show Rp P C h (vs.getD i Value.none) _
      rw [this]; exact rv
section
variable {prog : Program} {w : World} {A : Around} {E : Value → Shared → Prop} {s : Shared} {P : Addr → Prop} {C : Addr} {Q : Value → Shared → Prop}
theorem sorted_pairs_sound {l : Addr} {vs : List Value} {ps : List (Str × Str)} (hl : s.heap.IsList l vs.toArray) (r : RpA P C s.heap vs (ps.map pairD)) (h64 : vs.length < 64) (up : Up P s.heap)
    (k : ∀ v s', Keeps s s' → Rp P C s'.heap v (.lst ((sortP ps).map pairD)) → Q v s') : wpAny (model prog w) A (call (.builtin "sorted") [.ref l]) Q E s := by
  refine Calls.call_function_entry kind_sorted plain_sorted entry_sorted (args_sorted1 _) ?_
  unfold Builtin.«sorted»
  refine wpAny_bind (m := checkCount "sorted" 1 1 _) (wpAny_pure ?_)
  refine wpAny_bind (collect_list hl ?_ (by rw [sizeLine_eq]; exact om_153 h64))
  refine wpAny_bind (wpAny_newList ?_ (by rw [sizeLine_eq]; exact om_153 h64))
  have hsz : ((s.heap.push (seqObj "list" #[] 0)).update s.heap.objs.size (Obj.mapSeq (· ++ vs.toArray))).objs.size = s.heap.objs.size + 1 := by
    rw [Heap.size_update, size_push']
  have hoL : (((s.heap.push (seqObj "list" #[] 0)).update s.heap.objs.size (Obj.mapSeq (· ++ vs.toArray))).push (seqObj "list" vs.toArray 0)).get? (s.heap.objs.size + 1) = some (seqObj "list" vs.toArray 0) := by
    rw [← hsz]; exact Heap.get?_push_size _ rfl
  have hkeep : ∀ b o, s.heap.get? b = some o → (((s.heap.push (seqObj "list" #[] 0)).update s.heap.objs.size (Obj.mapSeq (· ++ vs.toArray))).push (seqObj "list" vs.toArray 0)).get? b = some o := fun b o e => by
    refine Heap.get?_push_of_some _ ?_
    rw [Heap.get?_update_ne _ _ _ _ (Nat.ne_of_lt (Heap.lt_size e))]
    exact Heap.get?_push_of_some _ e
  show wpAny _ _ _ _ _ { s with heap := ((s.heap.push (seqObj "list" #[] 0)).update s.heap.objs.size (Obj.mapSeq (· ++ vs.toArray))).push (seqObj "list" vs.toArray 0) }
  rw [hsz]
  refine wpAny_bind (wpAny_holding (wpAny_call_entry slot_list_sort ⟨_, hoL, rfl⟩ entry_list_sort (list_sort_pairs hoL (rp_pairs (r.keeps hkeep)) h64 fun out p a1 a2 a3 => ⟨_, rfl, ?_⟩) (args_list_sort _)))
  refine wpAny_pure ⟨_, rfl, ?_⟩
  refine k _ _ ⟨_, s.toks, rfl, fun _ _ => sortedAll_old⟩ ?_
  refine oE1_1 (sortedAll_at s.heap vs out) fun e he => ?_
  refine .lst (up _ (Heap.get?_none_of_le (Nat.le_succ _))) ⟨_, he, rfl, e, rfl⟩ (vs := out.toList) ?_
  rw [a1, ← a3]
  exact (rpA_pick r fun i hi => by have := a2.mem_iff.mp hi; simpa using this).keeps fun _ _ => sortedAll_old
set_option tactic.hygienic true in
theorem sortP_sound (v : Value) (ds : List D) (d : D) (t : Bool) (up : Up P s.heap) (r : RpT t P C s.heap v (.lst ds)) (hd : primD .sortedP [.lst ds] = some d) (k : ∀ v s', Keeps s s' → Rp P C s'.heap v d → Q v s') : wpAny (model prog w) A (call (.builtin "sorted") [v]) Q E s := by
  replace hd : (if ds.length < 64 then (asPairs ds).map (fun ps => D.lst ((sortP ps).map pairD)) else none) = some d := hd
  split at hd
  rotate_left
  · cases hd
  rename_i hl
  obtain ⟨ps, hp, rfl⟩ := Option.map_eq_some_iff.mp hd
  have e := asPairs_map hp
  subst e
  refine oE2_3 r.list fun a vs e hx ra => ?_
  subst e
  exact sorted_pairs_sound hx ra (by rw [ra.length]; exact hl) up k
end
end Mine
end
section
open PySem PySem.W PyProof.Rows
set_option autoImplicit false
set_option maxRecDepth 100000
namespace Mine
noncomputable def Rise (xs : Array Nat) : Prop := ∀ i k, i < k → k < xs.size → xs.getD i 0 < xs.getD k 0
theorem bg_0 {xs j l h} : SetTable.below.go xs j 0 l h = l := rfl
theorem bg_s {xs j f l h} : SetTable.below.go xs j (f + 1) l h = (if l < h then (if xs.getD ((l + h) / 2) j < j then SetTable.below.go xs j f ((l + h) / 2 + 1) h else SetTable.below.go xs j f l ((l + h) / 2)) else l) := rfl
theorem below_go {xs : Array Nat} {j : Nat} (hr : Rise xs) : ∀ (f l h : Nat), l ≤ h → h ≤ xs.size → h - l ≤ f → (∀ i, i < l → xs.getD i 0 < j) → (∀ i, h ≤ i → i < xs.size → j ≤ xs.getD i 0) →
    SetTable.below.go xs j f l h ≤ xs.size ∧ (∀ i, i < SetTable.below.go xs j f l h → xs.getD i 0 < j) ∧ ∀ i, SetTable.below.go xs j f l h ≤ i → i < xs.size → j ≤ xs.getD i 0
  | 0, l, h, h1, h2, h3, ha, hb => by
    rw [bg_0]
    exact ⟨by exact om_126 h1 h2, ha, fun i hi => hb i (by exact om_127 h3 hi)⟩
  | f + 1, l, h, h1, h2, h3, ha, hb => by
    rw [bg_s]
    by_cases e : l < h
    · rw [if_pos e]
      have hm : (l + h) / 2 < xs.size := by exact om_165 h2 e
      have hg : xs.getD ((l + h) / 2) j = xs.getD ((l + h) / 2) 0 := by
        rw [Array.getD_eq_getD_getElem?, Array.getD_eq_getD_getElem?, Array.getElem?_eq_getElem hm]; rfl
      rw [hg]
      have mono : ∀ i k, i ≤ k → k < xs.size → xs.getD i 0 ≤ xs.getD k 0 := fun i k a b => by
        rcases Nat.lt_or_ge i k with q | q
        · exact Nat.le_of_lt (hr i k q b)
        · have : i = k := by exact om_96 a q
          subst this; exact Nat.le_refl _
      by_cases c : xs.getD ((l + h) / 2) 0 < j
      · rw [if_pos c]
        exact below_go hr f ((l + h) / 2 + 1) h (by exact om_166 e) h2 (by exact om_133 h3) (fun i hi => Nat.lt_of_le_of_lt (mono i ((l + h) / 2) (by exact om_134 hi) hm) c) hb
      · rw [if_neg c]
        exact below_go hr f l ((l + h) / 2) (by exact om_167 e) (by exact om_168 hm) (by exact om_131 h3) ha fun i hi hk => Nat.le_trans (Nat.le_of_not_lt c) (mono _ i hi hk)
    · rw [if_neg e]
      exact ⟨by exact om_126 h1 h2, ha, fun i hi => hb i (by exact om_169 e hi)⟩
theorem below_spec {xs : Array Nat} (hr : Rise xs) (j : Nat) : SetTable.below xs j ≤ xs.size ∧ (∀ i, i < SetTable.below xs j → xs.getD i 0 < j) ∧ ∀ i, SetTable.below xs j ≤ i → i < xs.size → j ≤ xs.getD i 0 :=
  below_go hr xs.size 0 xs.size (Nat.zero_le _) (Nat.le_refl _) (Nat.le_refl _) (fun i hi => absurd hi (Nat.not_lt_zero _)) (fun i a b => absurd b (Nat.not_lt.mpr a))
theorem getD_get {xs : Array Nat} {i : Nat} (h : i < xs.size) : xs[i]? = some (xs.getD i 0) := by
  rw [Array.getD_eq_getD_getElem?, Array.getElem?_eq_getElem h]; rfl
theorem below_next {xs : Array Nat} (hr : Rise xs) {i : Nat} (hi : i < xs.size) : SetTable.below xs (xs.getD i 0 + 1) = i + 1 := by
  obtain ⟨h1, h2, h3⟩ := below_spec hr (xs.getD i 0 + 1)
  rcases Nat.lt_trichotomy (SetTable.below xs (xs.getD i 0 + 1)) (i + 1) with q | q | q
  · have a := h3 i (by exact om_172 q) hi
    exact om_173 a
  · exact q
  · have a := h2 (i + 1) q
    rcases Nat.lt_or_ge (i + 1) xs.size with z | z
    · have := hr i (i + 1) (Nat.lt_succ_self _) z
      exact om_174 a this
    · exact om_175 h1 q z
theorem below_zero {xs : Array Nat} (hr : Rise xs) : SetTable.below xs 0 = 0 := by
  obtain ⟨h1, h2, h3⟩ := below_spec hr 0
  rcases Nat.eq_zero_or_pos (SetTable.below xs 0) with q | q
  · exact q
  · exact absurd (h2 0 q) (Nat.not_lt_zero _)
theorem slot_free {t : SetTable} (hr : Rise t.place) (hd : t.dummies = #[]) {j : Nat} (hj : j ∉ t.place.toList) : t.slot j = .empty := by
  unfold SetTable.slot
  dsimp only
  have h1 : (t.place[SetTable.below t.place j]? == some j) = false := by
    rw [beq_eq_false_iff_ne]
    intro q
    exact hj (by rw [← Array.getElem?_toList] at q; exact List.mem_of_getElem? q)
  have h2 : SetTable.has t.dummies j = false := by rw [hd]; rfl
  rw [h1, h2]
  simp
theorem insertAt_list {α : Type} (xs : Array α) (p : Nat) (x : α) : (SetTable.insertAt xs p x).toList = xs.toList.take p ++ x :: xs.toList.drop p := by
  unfold SetTable.insertAt
  simp only [Array.toList_append, Array.toList_push, Array.toList_extract, List.extract_eq_take_drop, List.drop_zero, Nat.sub_zero, List.append_assoc, List.singleton_append]
  rw [List.take_of_length_le (l := List.drop p xs.toList) (by rw [List.length_drop, Array.length_toList]; exact Nat.le_refl _)]
theorem rise_iff {xs : Array Nat} : Rise xs ↔ xs.toList.Pairwise (· < ·) := by
  rw [List.pairwise_iff_getElem]
  constructor
  · intro h i j hi hj hij
    rw [Array.length_toList] at hi hj
    have := h i j hij hj
    have e1 := getD_get hi
    have e2 := getD_get hj
    rw [Array.getElem?_eq_getElem hi] at e1
    rw [Array.getElem?_eq_getElem hj] at e2
    rw [← Option.some.inj e1, ← Option.some.inj e2] at this
    simpa using this
  · intro h i k hik hk
    have hi : i < xs.size := by exact om_176 hik hk
    have := h i k (by rw [Array.length_toList]; exact hi) (by rw [Array.length_toList]; exact hk) hik
    have e1 := getD_get hi
    have e2 := getD_get hk
    rw [Array.getElem?_eq_getElem hi] at e1
    rw [Array.getElem?_eq_getElem hk] at e2
    rw [← Option.some.inj e1, ← Option.some.inj e2]
    simpa using this
theorem take_mem {xs : Array Nat} {p a : Nat} (h : a ∈ xs.toList.take p) : ∃ i, i < p ∧ i < xs.size ∧ xs.getD i 0 = a := by
  obtain ⟨i, hi, e⟩ := List.mem_iff_getElem.mp h
  rw [List.length_take, Array.length_toList] at hi
  refine ⟨i, by omega, by omega, ?_⟩
  have e1 := getD_get (xs := xs) (i := i) (by omega)
  rw [Array.getElem?_eq_getElem (by omega)] at e1
  rw [← Option.some.inj e1, ← e]
  simp
theorem drop_mem {xs : Array Nat} {p a : Nat} (h : a ∈ xs.toList.drop p) : ∃ i, p ≤ i ∧ i < xs.size ∧ xs.getD i 0 = a := by
  obtain ⟨i, hi, e⟩ := List.mem_iff_getElem.mp h
  rw [List.length_drop, Array.length_toList] at hi
  refine ⟨p + i, by omega, by omega, ?_⟩
  have e1 := getD_get (xs := xs) (i := p + i) (by omega)
  rw [Array.getElem?_eq_getElem (by omega)] at e1
  rw [← Option.some.inj e1, ← e]
  simp
theorem rise_insert {xs : Array Nat} (hr : Rise xs) {j : Nat} (hj : j ∉ xs.toList) : Rise (SetTable.insertAt xs (SetTable.below xs j) j) := by
  obtain ⟨h1, h2, h3⟩ := below_spec hr j
  rw [rise_iff, insertAt_list]
  have hp := rise_iff.mp hr
  refine List.pairwise_append.mpr ⟨hp.sublist (List.take_sublist _ _), List.pairwise_cons.mpr ⟨fun a ha => ?_, hp.sublist (List.drop_sublist _ _)⟩, fun a ha b hb => ?_⟩
  · obtain ⟨i, a1, a2, a3⟩ := drop_mem ha
    have q := h3 i a1 a2
    rw [a3] at q
    have : a ≠ j := fun z => hj (z ▸ List.mem_of_mem_drop ha)
    exact om_177 q this
  · obtain ⟨i, a1, a2, a3⟩ := take_mem ha
    have q := h2 i a1
    rw [a3] at q
    rcases List.mem_cons.mp hb with rfl | hb
    · exact q
    · obtain ⟨k, b1, b2, b3⟩ := drop_mem hb
      have := h3 k b1 b2
      rw [b3] at this
      exact om_178 q this
theorem insert_mem {α : Type} {xs : Array α} {p : Nat} {x a : α} : a ∈ (SetTable.insertAt xs p x).toList ↔ a = x ∨ a ∈ xs.toList := by
  rw [insertAt_list, List.mem_append, List.mem_cons]
  constructor
  · rintro (h | h | h)
    · exact .inr (List.mem_of_mem_take h)
    · exact .inl h
    · exact .inr (List.mem_of_mem_drop h)
  · rintro (h | h)
    · exact .inr (.inl h)
    · rw [← List.take_append_drop p xs.toList] at h
      rcases List.mem_append.mp h with h | h
      · exact .inl h
      · exact .inr (.inr h)
theorem insert_size {α : Type} (xs : Array α) (p : Nat) (x : α) : (SetTable.insertAt xs p x).size = xs.size + 1 := by
  rw [← Array.length_toList, insertAt_list, List.length_append, List.length_cons, List.length_take, List.length_drop, Array.length_toList]
  exact om_179
end Mine
end
section
open PySem PySem.W PyProof.Rows
set_option autoImplicit false
set_option maxRecDepth 100000
namespace Mine
theorem pr_0 {t : SetTable} {f h p} : SetTable.probe.go t f h 0 p = none := rfl
theorem pr_s {t : SetTable} {f h n p} : SetTable.probe.go t f h (n + 1) p = (match t.slot p.j with
      | .empty => some (.empty p.j p.dummy)
      | .dummy => SetTable.probe.go t f h n (t.advance { p with dummy := some p.j })
      | .live i => if f i == h then some (.candidate p.j i (t.advance p)) else SetTable.probe.go t f h n (t.advance p)) := rfl
theorem probe_congr {t t' : SetTable} (hs : ∀ j, t.slot j = t'.slot j) (ha : ∀ p, t.advance p = t'.advance p) (f : Nat → Int) (h : Int) : ∀ (n : Nat) (p : SetTable.Probe), SetTable.probe.go t f h n p = SetTable.probe.go t' f h n p
  | 0, _ => by rw [pr_0, pr_0]
  | n + 1, p => by
    rw [pr_s, pr_s, hs p.j]
    cases t'.slot p.j with
    | empty => rfl
    | dummy => dsimp only; rw [ha, probe_congr hs ha f h n]
    | live i => dsimp only; rw [ha, probe_congr hs ha f h n]
noncomputable def tab (mask : Nat) (pl : List Nat) : SetTable := ⟨mask, pl.toArray, #[], 0, true, 0, true⟩
theorem probeStart_congr {t t' : SetTable} (h : t.mask = t'.mask) (x : Int) : t.probeStart x = t'.probeStart x := by unfold SetTable.probeStart; rw [h]
theorem freeSlot_congr {t t' : SetTable} (hm : t.mask = t'.mask) (hs : ∀ j, t.slot j = t'.slot j) (h : Int) : t.freeSlot h = t'.freeSlot h := by
  have ha : ∀ p, t.advance p = t'.advance p := fun p => by unfold SetTable.advance; rw [hm]
  unfold SetTable.freeSlot SetTable.probe
  rw [probe_congr hs ha, probeStart_congr hm, hm]
theorem freeSlot_tab {t : SetTable} {mask : Nat} {pl : List Nat} (hm : t.mask = mask) (hp : t.place = pl.toArray) (hd : t.dummies = #[]) (h : Int) : t.freeSlot h = (tab mask pl).freeSlot h := by
  refine freeSlot_congr hm (fun j => ?_) h
  unfold SetTable.slot
  rw [hp, hd]; rfl
noncomputable def pl8 (b0 b1 b2 b3 b4 b5 b6 b7 : Bool) : List Nat := (List.range 8).filter fun j => [b0, b1, b2, b3, b4, b5, b6, b7].getD j false
noncomputable def free8 (pl : List Nat) (h : Nat) : Bool := match (tab 7 pl).freeSlot (h : Int) with
  | some (j, false) => decide (j < 8) && !pl.contains j
  | _ => false
noncomputable def bb : List Bool := [false, true]
theorem bb_mem (b : Bool) : b ∈ bb := by cases b <;> decide
noncomputable def chk8 : Bool := bb.all fun b0 => bb.all fun b1 => bb.all fun b2 => bb.all fun b3 => bb.all fun b4 => bb.all fun b5 => bb.all fun b6 => bb.all fun b7 => (List.range 16).all fun h => Nat.blt 4 (pl8 b0 b1 b2 b3 b4 b5 b6 b7).length || free8 (pl8 b0 b1 b2 b3 b4 b5 b6 b7) h
theorem chk8_true : chk8 = true := by decide +kernel
theorem free_tab (b0 b1 b2 b3 b4 b5 b6 b7 : Bool) (h : Nat) (hh : h < 16) : (Nat.blt 4 (pl8 b0 b1 b2 b3 b4 b5 b6 b7).length || free8 (pl8 b0 b1 b2 b3 b4 b5 b6 b7) h) = true := by
  have all {f : Bool → Bool} (q : bb.all f = true) (b : Bool) : f b = true := List.all_eq_true.mp q b (bb_mem b)
  exact List.all_eq_true.mp (all (all (all (all (all (all (all (all chk8_true b0) b1) b2) b3) b4) b5) b6) b7) h (List.mem_range.mpr hh)
theorem sorted_range {l : List Nat} {n : Nat} (hp : l.Pairwise (· < ·)) (hl : ∀ a ∈ l, a < n) : l = (List.range n).filter fun j => decide (j ∈ l) := by
  have hnd : l.Nodup := hp.imp fun h => Nat.ne_of_lt h
  have hpf : ((List.range n).filter fun j => decide (j ∈ l)).Pairwise (· < ·) := (List.pairwise_lt_range).sublist List.filter_sublist
  have hperm : l.Perm ((List.range n).filter fun j => decide (j ∈ l)) := by
    refine (List.perm_ext_iff_of_nodup hnd (hpf.imp fun h => Nat.ne_of_lt h)).mpr fun a => ?_
    rw [List.mem_filter, List.mem_range, decide_eq_true_eq]
    exact ⟨fun h => ⟨hl a h, h⟩, fun h => h.2⟩
  exact List.Perm.eq_of_pairwise (fun _ _ _ _ h1 h2 => absurd h1 (Nat.lt_asymm h2)) hp hpf hperm
set_option tactic.hygienic true in
theorem free_seven {t : SetTable} {h : Nat} (hm : t.mask = 7) (hd : t.dummies = #[]) (hr : Rise t.place) (hl : t.place.size ≤ 4) (hp : ∀ a ∈ t.place.toList, a < 8) (hh : h < 16) :
    ∃ j, t.freeSlot (h : Int) = some (j, false) ∧ j < 8 ∧ j ∉ t.place.toList := by
  have e := sorted_range (rise_iff.mp hr) hp
  let b : Nat → Bool := fun j => decide (j ∈ t.place.toList)
  have e8 : t.place.toList = pl8 (b 0) (b 1) (b 2) (b 3) (b 4) (b 5) (b 6) (b 7) := by
    rw [e]
    unfold pl8
    apply List.filter_congr
    intro j hj
    have hj8 := List.mem_range.mp hj
    have : j = 0 ∨ j = 1 ∨ j = 2 ∨ j = 3 ∨ j = 4 ∨ j = 5 ∨ j = 6 ∨ j = 7 := by exact om_180 hj8
    rcases this with rfl | rfl | rfl | rfl | rfl | rfl | rfl | rfl <;> rfl
  have htab := free_tab (b 0) (b 1) (b 2) (b 3) (b 4) (b 5) (b 6) (b 7) h hh
  have hb4 : Nat.blt 4 t.place.toList.length = false := by
    rw [Array.length_toList, ← Bool.not_eq_true]
    intro q
    have := Nat.le_of_ble_eq_true q
    exact om_181 hl this
  rw [← e8, hb4, Bool.false_or] at htab
  have ef : t.freeSlot (h : Int) = (tab 7 t.place.toList).freeSlot (h : Int) := freeSlot_tab hm (by simp) hd _
  unfold free8 at htab
  split at htab
  · rename_i j q
    rw [Bool.and_eq_true, decide_eq_true_eq] at htab
    refine ⟨j, ef.trans q, htab.1, fun z => ?_⟩
    have := htab.2
    rw [List.contains_iff_mem.mpr z] at this
    cases this
  · cases htab
theorem free_big {t : SetTable} {h : Nat} (hm : t.mask = 31) (hd : t.dummies = #[]) (hr : Rise t.place) (hh : h < 16) (hn : h ∉ t.place.toList) : t.freeSlot (h : Int) = some (h, false) := by
  have hs : t.slot h = .empty := slot_free hr hd hn
  have hb : SetTable.bits (h : Int) % (t.mask + 1) = h := by
    rw [hm]
    unfold SetTable.bits
    have : ((h : Int) % (2 ^ 64 : Int)).toNat = h := by exact om_182 hh
    rw [this]; omega
  unfold SetTable.freeSlot SetTable.probe
  have hf : 10 * SetTable.turns t.mask = 459 + 1 := by rw [hm]; rfl
  rw [hf, pr_s]
  have hj : (t.probeStart (h : Int)).j = h := hb
  rw [hj, hs]
  rfl
end Mine
end
section
open PySem PySem.W PyProof.Rows
set_option autoImplicit false
set_option maxRecDepth 100000
namespace Mine
theorem nodup_le16 {l : List Nat} (hn : l.Nodup) (hl : ∀ a ∈ l, a < 16) : l.length ≤ 16 := by
  have h : l.Perm ((List.range 16).filter fun j => decide (j ∈ l)) := by
    refine (List.perm_ext_iff_of_nodup hn (List.nodup_range.sublist List.filter_sublist)).mpr fun a => ?_
    rw [List.mem_filter, List.mem_range, decide_eq_true_eq]
    exact ⟨fun h => ⟨hl a h, h⟩, fun h => h.2⟩
  have := List.length_filter_le (fun j => decide (j ∈ l)) (List.range 16)
  rw [← h.length_eq, List.length_range] at this
  exact this
structure TabOk (led : Bool) (t : SetTable) (ks : List Nat) : Prop where
  dm : t.dummies = #[]
  pn : t.plain = true
  ld : t.led = led
  ri : Rise t.place
  sz : t.place.size = ks.length
  nd : ks.Nodup
  lt : ∀ k ∈ ks, k < 16
  st : (t.mask = 7 ∧ ∀ a ∈ t.place.toList, a < 8) ∨ (t.mask = 31 ∧ ∀ a ∈ t.place.toList, a ∈ ks)
theorem TabOk.fits {led : Bool} {t : SetTable} {ks : List Nat} (T : TabOk led t ks) (h : t.mask = 7 → ks.length ≤ 7) : t.fits ks.length = true := by
  unfold SetTable.fits SetTable.fill
  rw [T.sz, T.dm]
  have := nodup_le16 T.nd T.lt
  have : ks.length ≤ t.mask := by
    rcases T.st with ⟨m, _⟩ | ⟨m, _⟩
    · rw [m]; exact h m
    · rw [m]; exact om_183 this
  simp [this]
theorem lay_new {led : Bool} {t : SetTable} {ks : List Nat} (T : TabOk led t ks) (h4 : t.mask = 7 → ks.length ≤ 4) {k : Nat} (hk : k < 16) (hn : k ∉ ks) {es : Array (Int × Value)} (hes : es.size = ks.length) (x : Value) :
    ∃ p t1, layNew t es (k : Int) x = (SetTable.insertAt es p ((k : Int), x), t1, false, false) ∧ t1.mask = t.mask ∧ ∀ ks1 : List Nat, ks1.Perm (k :: ks) → TabOk led t1 ks1 := by
  have hfree : ∃ j, t.freeSlot (k : Int) = some (j, false) ∧ j ∉ t.place.toList ∧ ((t.mask = 7 ∧ j < 8) ∨ (t.mask = 31 ∧ j = k)) := by
    rcases T.st with ⟨m, hp⟩ | ⟨m, hp⟩
    · obtain ⟨j, a, b, c⟩ := free_seven m T.dm T.ri (by rw [T.sz]; exact h4 m) hp hk
      exact ⟨j, a, c, .inl ⟨m, b⟩⟩
    · have c : k ∉ t.place.toList := fun z => hn (hp k z)
      exact ⟨k, free_big m T.dm T.ri hk c, c, .inr ⟨m, rfl⟩⟩
  obtain ⟨j, hf, hj, hc⟩ := hfree
  have hd : SetTable.has t.dummies j = false := by rw [T.dm]; rfl
  let t1 : SetTable := { t with place := SetTable.insertAt t.place (SetTable.below t.place j) j }
  have hput : t.put j = (t1, SetTable.below t.place j) := by
    unfold SetTable.put
    dsimp only
    rw [hd]; rfl
  have hT : ∀ ks1 : List Nat, ks1.Perm (k :: ks) → TabOk led t1 ks1 := fun ks1 hp => by
    refine ⟨T.dm, T.pn, T.ld, rise_insert T.ri hj, ?_, hp.nodup_iff.mpr (List.nodup_cons.mpr ⟨hn, T.nd⟩), fun a ha => ?_, ?_⟩
    · show (SetTable.insertAt t.place _ j).size = _
      rw [insert_size, T.sz, hp.length_eq, List.length_cons]
    · rcases List.mem_cons.mp (hp.mem_iff.mp ha) with rfl | h
      · exact hk
      · exact T.lt a h
    · rcases hc with ⟨m, q⟩ | ⟨m, q⟩
      · refine .inl ⟨m, fun a ha => ?_⟩
        rcases insert_mem.mp ha with rfl | h
        · exact q
        · rcases T.st with ⟨_, hp'⟩ | ⟨m', _⟩
          · exact hp' a h
          · rw [m] at m'; cases m'
      · refine .inr ⟨m, fun a ha => hp.mem_iff.mpr ?_⟩
        rcases insert_mem.mp ha with rfl | h
        · rw [q]; exact .head _
        · rcases T.st with ⟨m', _⟩ | ⟨_, hp'⟩
          · rw [m] at m'; cases m'
          · exact .tail _ (hp' a h)
  refine ⟨SetTable.below t.place j, t1, ?_, rfl, hT⟩
  have hfit : t1.fits (SetTable.insertAt es (SetTable.below t.place j) ((k : Int), x)).size = true := by
    have := (hT (k :: ks) (.refl _)).fits fun m => by rw [List.length_cons]; have := h4 m; exact om_184 this
    rw [insert_size, hes]; exact this
  unfold layNew
  rw [hf]
  dsimp only
  rw [hput]
  dsimp only
  unfold SetTable.orStandIn
  rw [hfit, if_pos rfl]; rfl
theorem foldl_pre {α β : Type} {f : β → α → β} (I : List α → β → Prop) {l : List α} {b : β} (h0 : I [] b) (hs : ∀ pre x post b, l = pre ++ x :: post → I pre b → I (pre ++ [x]) (f b x)) : I l (l.foldl f b) := by
  have key : ∀ (r pre : List α) (b : β), pre ++ r = l → I pre b → I l (r.foldl f b) := by
    intro r
    induction r with
    | nil => intro pre b e h; rw [List.append_nil] at e; rw [← e]; exact h
    | cons x r ih =>
      intro pre b e h
      exact ih (pre ++ [x]) (f b x) (by rw [← e]; simp) (hs pre x r b e.symm h)
  exact key l [] b rfl h0
noncomputable def Own31 (ow : Array (Option Nat)) (hs : List Nat) : Prop := ow.size = 32 ∧ ∀ j, j < 32 → ow.getD j none = if j ∈ hs then some (hs.idxOf j) else none
theorem lf_s {mask ow f i p} : SetTable.layClean.free mask ow (f + 1) i p = (match (List.range (SetTable.runEnd mask i + 1 - i)).find? fun k => (ow.getD (i + k) (some 0)).isNone with
      | some k => some (i + k)
      | none => let (i, p) := SetTable.leap mask i p; SetTable.layClean.free mask ow f i p) := rfl
theorem lay_clean {hs : List Nat} (hn : hs.Nodup) (hl : ∀ a ∈ hs, a < 16) : ∃ ow, SetTable.layClean 31 (hs.map fun (k : Nat) => (k : Int)).toArray = some ow ∧ Own31 ow hs := by
  unfold SetTable.layClean
  rw [← Array.foldl_toList, List.toList_toArray, List.foldl_map]
  have key := foldl_pre (l := hs) (f := fun acc (k : Nat) => (do
      let (owner, i) ← acc
      let j ← SetTable.layClean.free 31 owner (SetTable.turns 31) (SetTable.bits (k : Int) % (31 + 1)) (SetTable.bits (k : Int))
      pure (owner.setIfInBounds j (some i), i + 1) : Option (Array (Option Nat) × Nat))) (b := some (Array.replicate (31 + 1) none, 0)) (fun pre acc => ∃ ow, acc = some (ow, pre.length) ∧ Own31 ow pre)
    ⟨_, rfl, by simp, fun j hj => by simp [Array.getD_eq_getD_getElem?, Array.getElem?_replicate, hj]⟩ (fun pre k post acc he hI => by
      obtain ⟨ow, rfl, h32, hg⟩ := hI
      have hk : k < 16 := hl k (by rw [he]; simp)
      have hkp : k ∉ pre := fun z => by
        rw [he] at hn
        exact (List.nodup_append.mp hn).2.2 k z k (.head _) rfl
      have hb : SetTable.bits (k : Int) % (31 + 1) = k := by
        unfold SetTable.bits
        have : ((k : Int) % (2 ^ 64 : Int)).toNat = k := by exact om_182 hk
        rw [this]; omega
      have hfree : SetTable.layClean.free 31 ow (SetTable.turns 31) k (SetTable.bits (k : Int)) = some k := by
        have ht : SetTable.turns 31 = 45 + 1 := rfl
        rw [ht, lf_s]
        have hre : SetTable.runEnd 31 k + 1 - k = 9 + 1 := by unfold SetTable.runEnd; rw [if_pos (by exact om_185 hk)]; exact om_186
        have hgo : ow.getD (k + 0) (some 0) = none := by
          have := hg k (by omega)
          rw [if_neg hkp] at this
          rw [Array.getD_eq_getD_getElem?] at this ⊢
          rw [Nat.add_zero, Array.getElem?_eq_getElem (by omega)] at *
          exact this
        rw [hre, List.range_succ_eq_map, List.find?_cons, hgo]
        rfl
      refine ⟨ow.setIfInBounds k (some pre.length), ?_, by simp [h32], fun j hj => ?_⟩
      · simp only [Option.bind_eq_bind, Option.bind_some, hb, hfree]
        simp
      · rw [Array.getD_eq_getD_getElem?, Array.getElem?_setIfInBounds]
        by_cases e : k = j
        · subst e
          rw [if_pos rfl, if_pos (by omega), if_pos (by simp)]
          show some pre.length = _
          rw [List.idxOf_append, if_neg hkp]; simp
        · rw [if_neg e, ← Array.getD_eq_getD_getElem?, hg j hj]
          by_cases c : j ∈ pre
          · rw [if_pos c, if_pos (List.mem_append_left _ c), List.idxOf_append, if_pos c]
          · rw [if_neg c, if_neg (fun z => by
              rcases List.mem_append.mp z with z | z
              · exact c z
              · exact e (List.mem_singleton.mp z).symm)])
  obtain ⟨ow, h1, h2⟩ := key
  exact ⟨ow, (congrArg (Option.map (·.1)) h1).trans rfl, h2⟩
end Mine
end
section
open PySem PySem.W PyProof.Rows
set_option autoImplicit false
set_option maxRecDepth 100000
namespace Mine
theorem filterMap_if {α β : Type} {f : α → Option β} {p : α → Bool} {g : α → β} : ∀ {l : List α}, (∀ a ∈ l, f a = if p a then some (g a) else none) → l.filterMap f = (l.filter p).map g
  | [], _ => rfl
  | a :: l, h => by
    have ih := filterMap_if (l := l) fun x hx => h x (.tail _ hx)
    rw [List.filterMap_cons, h a (.head _), List.filter_cons]
    cases p a with
    | true => simp only [if_true]; rw [ih]; rfl
    | false => simp only [Bool.false_eq_true, if_false]; exact ih
theorem idx_range {hs : List Nat} (hn : hs.Nodup) : hs.map (fun j => hs.idxOf j) = List.range hs.length := by
  apply List.ext_getElem (by simp)
  intro i h1 h2
  rw [List.getElem_map, List.getElem_range]
  exact hn.idxOf_getElem i (by simpa using h1)
theorem relay_new {led : Bool} {t : SetTable} {hs : List Nat} (hp : t.plain = true) (hled : t.led = led) (hn : hs.Nodup) (hl : ∀ a ∈ hs, a < 16) {es : Array (Int × Value)} (he : es.toList.map (·.1) = hs.map fun (k : Nat) => (k : Int)) (h5 : hs.length = 5) :
    ∃ es2 t2, relayAll t es (SetTable.grown es.size) = (es2, t2, false) ∧ es2.toList.Perm es.toList ∧ t2.mask = 31 ∧ ∀ ks2 : List Nat, ks2.Perm hs → TabOk led t2 ks2 := by
  have hsz : es.size = hs.length := by
    have := congrArg List.length he
    rw [List.length_map, List.length_map, Array.length_toList] at this
    exact this
  have hgr : SetTable.sizeAbove (SetTable.grown es.size) - 1 = 31 := by rw [hsz, h5]; decide +kernel
  have hmap : es.map (·.1) = (hs.map fun (k : Nat) => (k : Int)).toArray := by
    apply Array.toList_inj.mp
    rw [Array.toList_map, he]
  obtain ⟨ow, hc, ho⟩ := lay_clean hn hl
  let S := (List.range 32).filter fun j => decide (j ∈ hs)
  have hlive : (List.range (31 + 1)).filterMap (fun j => (ow.getD j none).map (j, ·)) = S.map fun j => (j, hs.idxOf j) := by
    refine filterMap_if (p := fun j => decide (j ∈ hs)) fun j hj => ?_
    rw [ho.2 j (List.mem_range.mp hj)]
    by_cases c : j ∈ hs
    · rw [if_pos c, if_pos (decide_eq_true c)]; rfl
    · rw [if_neg c, if_neg (by simpa using c)]; rfl
  let t2 : SetTable := { mask := 31, place := S.toArray, dummies := #[], finger := t.finger, led := t.led, moves := t.movedTo 31, plain := t.plain }
  have hre : t.relaid (es.map (·.1)) (SetTable.grown es.size) = some (t2, (S.map fun j => hs.idxOf j).toArray) := by
    unfold SetTable.relaid SetTable.laid
    rw [hgr, hmap, hc]
    simp only [Option.bind_eq_bind, Option.bind_some]
    rw [hlive, List.map_map, List.map_map]
    show some (_, _) = some (_, _)
    have e1 : S.map ((fun x : Nat × Nat => x.1) ∘ fun j => (j, hs.idxOf j)) = S := by
      show S.map (fun j => j) = S
      exact List.map_id' S
    rw [e1]; rfl
  have hSn : S.Nodup := List.nodup_range.sublist List.filter_sublist
  have hSm : ∀ a, a ∈ S ↔ a ∈ hs := fun a => by
    rw [List.mem_filter, List.mem_range, decide_eq_true_eq]
    exact ⟨fun h => h.2, fun h => ⟨by have := hl a h; exact om_187 this, h⟩⟩
  have hSp : S.Perm hs := (List.perm_ext_iff_of_nodup hSn hn).mpr hSm
  have hord : (S.map fun j => hs.idxOf j).Perm (List.range hs.length) := by
    rw [← idx_range hn]; exact hSp.map _
  have hall : (List.range es.size).filterMap (es[·]?) = es.toList := by
    rw [filterMap_if (p := fun _ => true) (g := fun i => es.getD i (0, .none)) fun i hi => by
      have hi' := List.mem_range.mp hi
      rw [if_pos rfl, Array.getD_eq_getD_getElem?, Array.getElem?_eq_getElem hi']; rfl]
    rw [List.filter_eq_self.mpr fun _ _ => rfl]
    apply List.ext_getElem (by simp)
    intro i h1 h2
    rw [List.getElem_map, List.getElem_range]
    have hi : i < es.size := by simpa using h1
    rw [Array.getD_eq_getD_getElem?, Array.getElem?_eq_getElem hi]; simp
  have hes2 : ((S.map fun j => hs.idxOf j).toArray.filterMap (es[·]?)).toList.Perm es.toList := by
    rw [Array.toList_filterMap, List.toList_toArray]
    have := hord.filterMap (es[·]?)
    rw [← hsz, hall] at this
    exact this
  have hes2s : ((S.map fun j => hs.idxOf j).toArray.filterMap (es[·]?)).size = hs.length := by rw [← Array.length_toList, hes2.length_eq, Array.length_toList, hsz]
  have hT : ∀ ks2 : List Nat, ks2.Perm hs → TabOk led t2 ks2 := fun ks2 hk => by
    refine ⟨rfl, hp, hled, ?_, ?_, hk.nodup_iff.mpr hn, fun a ha => hl a (hk.mem_iff.mp ha), .inr ⟨rfl, fun a ha => ?_⟩⟩
    · rw [rise_iff]
      show S.toArray.toList.Pairwise _
      rw [List.toList_toArray]
      exact List.pairwise_lt_range.sublist List.filter_sublist
    · show S.toArray.size = _
      rw [List.size_toArray, hSp.length_eq, hk.length_eq]
    · have : a ∈ S := by
        have h2 : a ∈ S.toArray.toList := ha
        rwa [List.toList_toArray] at h2
      exact hk.mem_iff.mpr ((hSm a).mp this)
  have hfit : t2.fits hs.length = true := (hT hs (.refl _)).fits fun m => by cases m
  refine ⟨(S.map fun j => hs.idxOf j).toArray.filterMap (es[·]?), t2, ?_, hes2, rfl, hT⟩
  unfold relayAll
  rw [hre]
  dsimp only
  have hcov : coversAll (S.map fun j => hs.idxOf j).toArray es.size = true := by
    unfold coversAll
    rw [List.toList_toArray, List.isPerm_iff, hsz]
    exact hord
  rw [hcov, hes2s, hfit]
  rfl
end Mine
end
section
open PySem PySem.W PyProof.Rows
set_option autoImplicit false
set_option maxRecDepth 100000
namespace Mine
noncomputable def EntOk (e : Int × Value) : Prop := ∃ (k : Nat) (t : Tok), e = ((k : Int), .int (k : Int) t) ∧ k < 16
noncomputable def keyE (e : Int × Value) : Nat := e.1.toNat
theorem hash_small {k : Nat} (hk : k < 16) : hashInt (k : Int) = (k : Int) := by
  have : ∀ k < 16, hashInt ((k : Nat) : Int) = ((k : Nat) : Int) := by decide +kernel
  exact this k hk
noncomputable def SetX (led : Bool) (h : Heap) (a : Addr) (ds : List Nat) : Prop :=
  ∃ o es ep t, h.get? a = some o ∧ o.ExactSet ∧ o.data = .set es ep t ∧ (∀ e ∈ es.toList, EntOk e) ∧ (es.toList.map keyE).Perm ds ∧ TabOk led t (es.toList.map keyE) ∧ (t.mask = 7 → es.size ≤ 4)
section
variable {prog : Program} {w : World} {A : Around} {E : Value → Shared → Prop} {s : Shared} {led : Bool}
theorem ents_elems {l : List (Int × Value)} (h : ∀ e ∈ l, EntOk e) : ElemsOf (intKind prog w) l := fun e he => by
  obtain ⟨k, t, rfl, hk⟩ := h e he
  exact ⟨⟨(k : Int), intKind_is _ _ _ _, (hash_small hk).symm⟩, rfl⟩
theorem ent_key {e : Int × Value} (h : EntOk e) (k : Nat) : (intKind prog w).is (k : Int) e.2 = decide (keyE e = k) := by
  obtain ⟨j, t, rfl, _⟩ := h
  show Value.isInt (k : Int) (.int (j : Int) t) = _
  show ((j : Int) == (k : Int)) = decide ((j : Int).toNat = k)
  rw [Int.toNat_natCast]
  by_cases e : j = k
  · subst e; simp
  · have : ¬ (j : Int) = (k : Int) := by exact om_188 e
    simp [e, this]
theorem tab_fits {es : Array (Int × Value)} {t : SetTable} (T : TabOk led t (es.toList.map keyE)) (h7 : t.mask = 7 → es.size ≤ 5) : t.fits es.size = true := by
  have := T.fits fun m => by rw [List.length_map, Array.length_toList]; have := h7 m; exact om_189 this
  rwa [List.length_map, Array.length_toList] at this
theorem tab_size {es : Array (Int × Value)} {t : SetTable} (T : TabOk led t (es.toList.map keyE)) : es.size ≤ 16 := by
  have := nodup_le16 T.nd T.lt
  rwa [List.length_map, Array.length_toList] at this
theorem store_x {a : Addr} {o : Obj} {es es' : Array (Int × Value)} {ep : Nat} {t t' : SetTable} {Q : Unit → Shared → Prop} (ho : s.heap.get? a = some o) (hex : o.ExactSet) (hd : o.data = .set es ep t) (hz : es'.size ≤ 16)
    (h : ∀ h', Heap.SameBut a s.heap h' → (∃ o', h'.get? a = some o' ∧ o'.ExactSet ∧ o'.data = .set es' (ep + 1) t') → Q () { s with heap := h' }) : wpAny (model prog w) A (storeSet a es' t') Q E s := by
  have hg : (s.heap.update a (Obj.putSet es' t')).get? a = some { o with data := .set es' (ep + 1) t' } := by
    have := Heap.get?_update_self (Obj.putSet es' t') ho (by rw [putSet_of es' t' hd]; rfl)
    rw [putSet_of es' t' hd] at this; exact this
  exact wpAny_storeSet_of ho hd (h _ (Heap.SameBut.update _ a _) ⟨_, hg, hex, rfl⟩) (Nat.le_trans hz (by rw [sizeLine_eq]; exact om_190))
set_option tactic.hygienic true in
theorem add_tail {g : Bool → Sem Unit} (hg : ∀ (b : Bool) (s₁ : Shared) (Q' : Unit → Shared → Prop), Q' () s₁ → wpAny (model prog w) A (g b) Q' E s₁) {a : Addr} {o : Obj} {es es1 : Array (Int × Value)} {ep : Nat} {t t1 : SetTable} {ds : List Nat} (ho : s.heap.get? a = some o) (hex : o.ExactSet) (hd : o.data = .set es ep t)
    (he : ∀ e ∈ es1.toList, EntOk e) (hp : (es1.toList.map keyE).Perm ds) (T : TabOk led t1 (es1.toList.map keyE)) (h5 : t1.mask = 7 → es1.size ≤ 5) {R : Option Bool → Shared → Prop}
    (h : ∀ h', Heap.SameBut a s.heap h' → SetX led h' a ds → R (some true) { s with heap := h' }) :
    wpAny (model prog w) A (do
        storeSet a es1 t1
        if (!false && t1.tooFull) = true then do
            g (relayAll t1 es1 (SetTable.grown es1.size)).2.2
            storeSet a (relayAll t1 es1 (SetTable.grown es1.size)).1 (relayAll t1 es1 (SetTable.grown es1.size)).2.1
            pure (some true)
          else pure (some true)) R E s := by
  have hfull : t1.tooFull = true → t1.mask = 7 ∧ es1.size = 5 := fun q => by
    unfold SetTable.tooFull SetTable.fill at q
    rw [T.sz, T.dm, List.length_map, Array.length_toList, decide_eq_true_eq] at q
    have := tab_size T
    rcases T.st with ⟨m, _⟩ | ⟨m, _⟩
    · have := h5 m
      rw [m] at q
      refine ⟨m, ?_⟩
      have q' : (es1.size + 0) * 5 ≥ 7 * 3 := q
      omega
    · rw [m] at q
      have q' : (es1.size + 0) * 5 ≥ 31 * 3 := q
      exact om_191 this q'
  refine wpAny_bind (store_x ho hex hd (tab_size T) fun h1 sb1 hx1 => ?_)
  obtain ⟨o1, ho1, hex1, hd1⟩ := hx1
  split
  · rename_i q
    obtain ⟨hm, hs⟩ := hfull (by simpa using q)
    have hmap : es1.toList.map (·.1) = (es1.toList.map keyE).map fun (k : Nat) => (k : Int) := by
      rw [List.map_map]
      refine List.map_congr_left fun e hm => ?_
      obtain ⟨k, t, rfl, _⟩ := he e hm
      rfl
    obtain ⟨es2, t2, hr, hp2, h31, hT2⟩ := relay_new (led := led) T.pn T.ld T.nd T.lt hmap (by rw [List.length_map, Array.length_toList]; exact hs)
    rw [hr]
    dsimp only
    have hpk : (es2.toList.map keyE).Perm (es1.toList.map keyE) := hp2.map _
    have T2 := hT2 _ hpk
    refine wpAny_bind (hg _ _ _ ?_)
    refine wpAny_bind (store_x ho1 hex1 hd1 (tab_size T2) fun h2 sb2 hx2 => ?_)
    obtain ⟨o2, ho2, hex2, hd2⟩ := hx2
    refine wpAny_pure (h h2 (sb1.trans sb2) ⟨o2, es2, _, t2, ho2, hex2, hd2, fun e z => he e (hp2.mem_iff.mp z), hpk.trans hp, T2, fun m => ?_⟩)
    rw [h31] at m; cases m
  · rename_i q
    refine wpAny_pure (h h1 sb1 ⟨o1, es1, _, t1, ho1, hex1, hd1, he, hp, T, fun m => ?_⟩)
    have h5' := h5 m
    rcases Nat.lt_or_ge es1.size 5 with z | z
    · exact om_192 z
    · exfalso
      refine q ?_
      have hs : es1.size = 5 := by exact om_193 h5' z
      unfold SetTable.tooFull SetTable.fill
      rw [T.sz, T.dm, List.length_map, Array.length_toList, m, hs]
      rfl
end
end Mine
end
section
open PySem PySem.W PyProof.Rows
set_option autoImplicit false
set_option maxRecDepth 100000
namespace Mine
section
variable {prog : Program} {w : World} {A : Around} {E : Value → Shared → Prop} {s : Shared} {led : Bool}
noncomputable def addN (ds : List Nat) (k : Nat) : List Nat := if k ∈ ds then ds else k :: ds
theorem SetX.keep {h h' : Heap} {a : Addr} {ds : List Nat} (hS : SetX led h a ds) (k : ∀ o, h.get? a = some o → h'.get? a = some o) : SetX led h' a ds := by
  obtain ⟨o, es, ep, t, ho, rest⟩ := hS
  exact ⟨o, es, ep, t, k o ho, rest⟩
theorem add_small {a : Addr} {ds : List Nat} {k : Nat} {tk : Tok} {Q : Bool → Shared → Prop} (hk : k < 16) (hS : SetX led s.heap a ds)
    (h : ∀ h', Heap.SameBut a s.heap h' → SetX led h' a (addN ds k) → ∀ b, Q b { s with heap := h' }) :
    wpAny (model prog w) A (setAddHashed a (.int (k : Int) tk) (k : Int)) Q E s := by
  obtain ⟨o, es, ep, t, ho, hex, hd, he, hp, T, h4⟩ := hS
  have hf : t.fits es.size = true := tab_fits T fun m => by have := h4 m; exact om_194 this
  have hel := ents_elems (prog := prog) (w := w) he
  have h16 := tab_size T
  have hash : (intKind prog w).hash (k : Int) = (k : Int) := hash_small hk
  have hkey : (intKind prog w).is (k : Int) (.int (k : Int) tk) = true := intKind_is _ _ _ _
  unfold setAddHashed setAddHashedIn
  refine wpAny_holding (wpAny_bind (wpAny_setState_of ho hd hf ?_))
  dsimp only
  rw [byScan_of (knd := intKind prog w) (x := .int (k : Int) tk) rfl (by unfold scanBound; exact om_195 h16) hel]
  simp only [↓reduceIte]
  unfold setAddByScan
  refine wpAny_bind ?_
  refine wpAny_bind (wpAny_rule ?_)
  have hsc : ∀ {Q : ScanMet → Shared → Prop}, Q (match es.toList.findIdx? (fun e => (intKind prog w).is (k : Int) e.2) with | some j => .found (0 + j) | none => .absent) s → wpAny (model prog w) A (setScan a (.int (k : Int) tk) (k : Int) true es) Q E s := fun h => by
    have := wpAny_setScan_of (prog := prog) (w := w) (A := A) (E := E) (knd := intKind prog w) (adding := true) hkey ho hd hf hel h
    rwa [hash] at this
  refine wpAny_bind (hsc ?_)
  cases hr : List.findIdx? (fun e => (intKind prog w).is (k : Int) e.2) es.toList with
  | some j =>
    dsimp only
    obtain ⟨hj, hpj, _⟩ := List.findIdx?_eq_some_iff_getElem.mp hr
    have hm : es.toList[j] ∈ es.toList := List.getElem_mem hj
    have hkk := ent_key (prog := prog) (w := w) (he _ hm) k
    rw [hpj] at hkk
    have hin : k ∈ ds := hp.mem_iff.mp (List.mem_map.mpr ⟨_, hm, of_decide_eq_true hkk.symm⟩)
    refine wpAny_pure (wpAny_pure ?_)
    have e : s = { s with heap := s.heap } := by cases s; rfl
    have hh := h s.heap (Heap.SameBut.refl a s.heap) ⟨o, es, ep, t, ho, hex, hd, he, by unfold addN; rw [if_pos hin]; exact hp, T, h4⟩
    rw [e]; exact hh _
  | none =>
    dsimp only
    have hni : k ∉ es.toList.map keyE := fun z => by
      obtain ⟨e, hm, hke⟩ := List.mem_map.mp z
      have hkk := ent_key (prog := prog) (w := w) (he e hm) k
      rw [List.findIdx?_eq_none_iff.mp hr e hm] at hkk
      exact of_decide_eq_false hkk.symm hke
    have hnd : k ∉ ds := fun z => hni (hp.mem_iff.mpr z)
    obtain ⟨p, t1, hL, hmk, hT1⟩ := lay_new T (fun m => by rw [List.length_map, Array.length_toList]; exact h4 m) hk hni (es := es) (by rw [List.length_map, Array.length_toList]) (.int (k : Int) tk)
    have hperm := layNew_perm t es (k : Int) (.int (k : Int) tk)
    rw [hL] at hperm ⊢
    dsimp only at hperm ⊢
    rw [Array.toList_push] at hperm
    generalize SetTable.insertAt es p ((k : Int), Value.int (k : Int) tk) = es1 at hperm ⊢
    have he1 : ∀ e ∈ es1.toList, EntOk e := fun e z => by
      rcases List.mem_append.mp (hperm.mem_iff.mp z) with z | z
      · exact he e z
      · cases List.mem_singleton.mp z; exact ⟨k, tk, rfl, hk⟩
    have hp1 : (es1.toList.map keyE).Perm (k :: es.toList.map keyE) := by
      refine (hperm.map keyE).trans ?_
      rw [List.map_append]
      exact List.perm_append_comm
    have hpd : (es1.toList.map keyE).Perm (addN ds k) := by
      unfold addN; rw [if_neg hnd]; exact hp1.trans (hp.cons k)
    have T1 := hT1 _ hp1
    have hsz : es1.size = es.size + 1 := by rw [← Array.length_toList, hperm.length_eq, List.length_append, Array.length_toList]; rfl
    have h5 : t1.mask = 7 → es1.size ≤ 5 := fun m => by
      have := h4 (hmk ▸ m); exact om_196 hsz this
    refine wpAny_bind (wpAny_pure ?_)
    split
    · refine wpAny_bind ?_
      rw [hashByValue_scannable 8 rfl]
      refine wpAny_pure ?_
      refine add_tail ?_ ho hex hd he1 hpd T1 h5 ?_
      · intro b s₁ Q' hq; cases b <;> first | exact wpAny_pure hq | exact wpAny_rule hq
      · intro h' hsb hS'; dsimp only; exact wpAny_pure (h h' hsb hS' _)
    · refine wpAny_bind (wpAny_pure ?_)
      simp only [↓reduceIte]
      refine add_tail ?_ ho hex hd he1 hpd T1 h5 ?_
      · intro b s₁ Q' hq; cases b <;> first | exact wpAny_pure hq | exact wpAny_rule hq
      · intro h' hsb hS'; dsimp only; exact wpAny_pure (h h' hsb hS' _)
end
end Mine
end
section
open PySem PySem.W PyProof.Rows
set_option autoImplicit false
set_option maxRecDepth 100000
namespace Mine
noncomputable def accN (val : Nat → Nat) (i : Nat) : List Nat := ((List.range i).map val).foldl addN []
theorem accN_succ (val : Nat → Nat) (i : Nat) : accN val (i + 1) = addN (accN val i) (val i) := by
  unfold accN; rw [List.range_succ, List.map_append, List.foldl_append]; rfl
section
variable {prog : Program} {w : World} {A : Around} {R : Result → Shared → Prop} {I : Addr} {fp wr : List Addr} {G : Array GenState → Array GenState → Prop} {n : Nat} {P : Nat → Value → Prop} {St : Nat → Shared → Prop} {led : Bool}
theorem code_set_updX (W : WalksS prog w A.in1 I fp wr G n P St) (S : Addr) (hSf : S ∉ fp) (val : Nat → Nat) (hval : ∀ i v, P i v → val i < 16 ∧ ∃ t, v = .int (val i : Int) t) :
    ∀ (k i : Nat) (s : Shared), n - i = k → i ≤ n → St i s → SetX led s.heap S (accN val i) →
      (∀ s', Moved (S :: wr) G s s' → SetX led s'.heap S (accN val n) → R (.ok (.ret .none)) s') →
      codeAny (model prog w) A (.builtin "set.update.loop" ⟨[.ref S, .ref I], []⟩) R s := by
  have hSw : S ∉ wr := fun h => hSf (W.sub _ h)
  have hsub : ∀ b ∈ wr, b ∈ S :: wr := fun b hb => List.mem_cons_of_mem _ hb
  intro k
  induction k with
  | zero =>
    intro i s hk hi hst hS hR
    have hin : i = n := by exact om_197 hk hi
    subst hin
    refine codeAny_builtin F.entry_set_update_loop ?_
    rw [Around.under_plainId F.plain_set_update_loop _]
    show wpAny _ A.in1 (pyNext (.ref I) >>= _) _ _ s
    refine wpAny_bind (W.done s _ _ hst fun s' hm => ?_)
    show wpAny _ A.in1 (ret Value.none) _ _ s'
    exact wpAny_pure (hR s' (hm.mono hsub) (hS.keep fun o ho => hm.heap S _ hSw ho))
  | succ k ih =>
    intro i s hk hi hst hS hR
    have hlt : i < n := by exact om_198 hk
    refine codeAny_builtin F.entry_set_update_loop ?_
    rw [Around.under_plainId F.plain_set_update_loop _]
    show wpAny _ A.in1 (pyNext (.ref I) >>= _) _ _ s
    refine wpAny_bind (W.item i s _ _ hlt hst fun v s' hP hst' hm => ?_)
    obtain ⟨h16, t, rfl⟩ := hval i v hP
    have hS' : SetX led s'.heap S (accN val i) := hS.keep fun o ho => hm.heap S _ hSw ho
    show wpAny _ A.in1 (holding [Value.int (val i : Int) t] (setAdd S (.int (val i : Int) t)) >>= _) _ _ s'
    refine wpAny_bind (wpAny_holding ?_)
    unfold setAdd
    refine wpAny_holding ?_
    refine wpAny_bind ((intKind prog w).pyHash (k := (val i : Int)) (intKind_is _ _ _ _) ?_)
    have hash : (intKind prog w).hash (val i : Int) = (val i : Int) := hash_small h16
    rw [hash]
    refine add_small (s := { s' with toks := s'.toks + 1 }) h16 hS' fun h' hsb hS2 b => ?_
    rw [← accN_succ] at hS2
    refine wpAny_pure ⟨plainId_quiet F.plain_set_update_loop _, ih (i + 1) _ (by exact om_199 hk) hlt (W.frame _ s' _ _ hst' (Nat.le_succ _) fun b hb o e => ?_) hS2 fun s'' hm'' hS'' => ?_⟩
    · rw [hsb.2 b (fun h : b = S => hSf (by rw [← h]; exact hb))]; exact e
    · refine hR s'' (Moved.trans W.gtrans ((hm.mono hsub).then_heap (Nat.le_succ _) fun b o hb e => ?_) hm'') hS''
      rw [hsb.2 b (fun h : b = S => hb (by rw [h]; exact List.mem_cons_self))]; exact e
end
noncomputable abbrev ledOf (w : World) : Bool := !w.params.followText "set-order"
noncomputable abbrev newSetObj (led : Bool) : Obj := { cls := .type "set", dict := none, data := .set #[] 0 (.fresh 0 0 led) }
theorem tab_fresh (led : Bool) : TabOk led (.fresh 0 0 led) [] := by
  refine ⟨rfl, rfl, rfl, ?_, rfl, .nil, fun _ h => (by cases h), .inl ⟨rfl, fun a h => ?_⟩⟩
  · rw [rise_iff]; exact .nil
  · simp [SetTable.fresh] at h
theorem setX_fresh {led : Bool} {h : Heap} {a : Addr} (e : h.get? a = some (newSetObj led)) : SetX led h a [] :=
  ⟨_, #[], 0, _, e, ⟨rfl, rfl, rfl⟩, rfl, fun _ z => by simp at z, .nil, tab_fresh led, fun _ => by simp⟩
section
variable {prog : Program} {w : World} {A : Around} {E : Value → Shared → Prop} {s : Shared}
theorem code_new_led (a : Value) {Q₁ : Value → Shared → Prop} (h : Q₁ (.ref s.heap.objs.size) { s with heap := s.heap.push (newSetObj (ledOf w)) }) :
    codeAny (model prog w) A (.call (.builtin "set.__new__") ⟨[.type "set", a], []⟩) (wants Q₁ E) s := by
  refine codeAny_of_tree ?_
  show wpAny _ A.in1 (do checkBuiltinCall "set.__new__" ⟨[.type "set", a], []⟩; again (.builtin "set.__new__" ⟨[.type "set", a], []⟩)) _ _ s
  refine wpAny_bind (wpAny_of_eq (F.newCall_set_1 a) (wpAny_pure ⟨plainId_quiet F.plain_set_new _, codeAny_builtin F.entry_set_new ?_⟩))
  rw [Around.under_plainId F.plain_set_new _]
  unfold Builtin.«set.__new__» Builtin.Frozenset.newClass
  have hsub := sub_set_self
  obtain ⟨hp, g, d, tk, os⟩ := s
  dsimp only
  wp_walk
  refine wpAny_askSetting (wpAny_pure ?_)
  dsimp only
  simp only [newObj]
  refine wpAny_bind (wpAny_alloc (wpAny_pure ?_))
  exact wpAny_pure h
end
end Mine
end
section
open PySem PySem.W PyProof.Rows
set_option autoImplicit false
set_option maxRecDepth 100000
namespace Mine
theorem slot_setit_next : PySem.Slot "set_iterator" "__next__" "set_iterator.__next__" :=
  .of (owner := "set_iterator") (n := "__next__") (by rw [typeLookup_type, builtinLookup_eq_fast]; kernel_rfl) (by decide +kernel) (by decide +kernel) (by decide +kernel)
    (by first | exact .inl (by decide +kernel) | exact .inr (by decide +kernel)) (by rw [isSubtype_type]; kernel_rfl)
theorem slot_setit_iter : PySem.Slot "set_iterator" "__iter__" "set_iterator.__iter__" :=
  .of (owner := "set_iterator") (n := "__iter__") (by rw [typeLookup_type, builtinLookup_eq_fast]; kernel_rfl) (by decide +kernel) (by decide +kernel) (by decide +kernel)
    (by first | exact .inl (by decide +kernel) | exact .inr (by decide +kernel)) (by rw [isSubtype_type]; kernel_rfl)
theorem entry_setit_next : entryFor table "set_iterator.__next__" = some Builtin.«set_iterator.__next__» := entryFor_of_tree (by kernel_rfl)
theorem entry_setit_iter : entryFor table "set_iterator.__iter__" = some Builtin.«dict_keyiterator.__iter__» :=
  entryFor_alias (id' := "dict_keyiterator.__iter__") (by rw [fastTable_eq_tree]; kernel_rfl) rfl (by decide +kernel) (by rw [fastTable_eq_tree]; kernel_rfl)
theorem entry_set_iter : entryFor table "set.__iter__" = some Builtin.«frozenset.__iter__» :=
  entryFor_alias (id' := "frozenset.__iter__") (by rw [fastTable_eq_tree]; kernel_rfl) rfl (by decide +kernel) (by rw [fastTable_eq_tree]; kernel_rfl)
theorem args_setit_next (a : Value) : argsOk "set_iterator.__next__" ⟨[a], []⟩ := by unfold argsOk; kernel_rfl
theorem args_setit_iter (a : Value) : argsOk "set_iterator.__iter__" ⟨[a], []⟩ := by unfold argsOk; kernel_rfl
noncomputable def SetIt (h : Heap) (it a : Addr) (sl i n ep : Nat) : Prop :=
  ∃ o, h.get? it = some o ∧ o.cls = .type "set_iterator" ∧ o.data = .fields #[.int (sl : Int) 0, .int (i : Int) 0, .ref a, .int (n : Int) 0, .int (ep : Int) 0]
noncomputable def SetAt (h : Heap) (a : Addr) (es : Array (Int × Value)) (ep : Nat) (t : SetTable) : Prop := ∃ o, h.get? a = some o ∧ o.ExactSet ∧ o.data = .set es ep t
noncomputable def ordOf (w : World) (a : Addr) (ep : Nat) (es : Array (Int × Value)) : Array (Int × Value) := if w.params.followText "set-order" then pickOrder (w.params.setOrder a ep) es else es
noncomputable def slP (t : SetTable) : Nat → Nat
  | 0 => 0
  | j + 1 => t.place.getD j 0 + 1
noncomputable def slOf (w : World) (t : SetTable) (i : Nat) : Nat := if w.params.followText "set-order" then 0 else slP t i
section
variable {prog : Program} {w : World} {A : Around} {E : Value → Shared → Prop} {s : Shared} {a it : Addr} {es : Array (Int × Value)} {ep : Nat} {t : SetTable}
theorem SetIt.typeIs {sl i n : Nat} (x : SetIt s.heap it a sl i n ep) : s.TypeIs (.ref it) "set_iterator" :=
  let ⟨o, ho, hc, _⟩ := x; ⟨o, ho, hc⟩
theorem iter_set {Q : Value → Shared → Prop} (hs : SetAt s.heap a es ep t) (hf : t.fits es.size = true) (hp : t.plain = true)
    (hQ : Q (.ref s.heap.objs.size) { s with heap := s.heap.push { cls := .type "set_iterator", data := .fields #[.int 0 0, .int 0 0, .ref a, .int (es.size : Int) 0, .int (ep : Int) 0] } }) :
    wpAny (model prog w) A (pyIter (.ref a)) Q E s := by
  obtain ⟨o, ho, hex, hd⟩ := hs
  have hT : s.TypeIs (.ref a) "set" := ⟨o, ho, hex.1⟩
  refine wpAny_pyIter_slot hT F.slot_set_iter (wpAny_call_entry F.slot_set_iter hT entry_set_iter ?_ (F.args_set_iter_1 _))
  unfold Builtin.«frozenset.__iter__» Builtin.Frozenset.slot0 slotArgs
  simp only [List.isEmpty_nil, Bool.not_true, Bool.false_eq_true, ↓reduceIte, bind_assoc, List.length_nil, bne_self_eq_false]
  unfold Builtin.Frozenset.addrOf Builtin.Frozenset.sizeOf
  refine wpAny_bind (wpAny_pure ?_)
  try dsimp only
  refine wpAny_bind (wpAny_pure ?_)
  refine wpAny_bind (wpAny_bind (wpAny_setEntries_of ho hd hf (wpAny_pure ?_)))
  refine wpAny_bind ?_
  unfold setDrawn setsByText
  refine wpAny_bind (wpAny_setState_of ho hd hf ?_)
  refine wpAny_bind (wpAny_bind (wpAny_askSetting (wpAny_pure ?_)))
  refine wpAny_pure ?_
  show wpAny _ _ (if (!_ && (!t.plain && decide (es.size > 1))) = true then _ else _) _ _ s
  rw [hp]
  simp only [Bool.not_true, Bool.false_and, Bool.and_false, Bool.false_eq_true, ↓reduceIte]
  refine wpAny_bind (wpAny_pure ?_)
  refine wpAny_bind (wpAny_setEpoch_of ho hd hf ?_)
  exact wpAny_bind (wpAny_newObj_type (wpAny_pure ⟨_, rfl, "set_iterator", _, ⟨_, Heap.get?_push_size _ rfl, rfl⟩, slot_setit_next.lookup, hQ⟩))
end
end Mine
end
section
open PySem PySem.W PyProof.Rows
set_option autoImplicit false
set_option maxRecDepth 100000
namespace Mine
section
variable {prog : Program} {w : World} {A : Around} {E : Value → Shared → Prop} {s : Shared} {a it : Addr} {es : Array (Int × Value)} {ep : Nat} {t : SetTable}
theorem set_next {i : Nat} {Q : Option (Value × Nat) → Shared → Prop} (hs : SetAt s.heap a es ep t) (hf : t.fits es.size = true) (hp : t.plain = true) (hl : t.led = ledOf w) (hr : Rise t.place)
    (hi : i ≤ es.size) (h : Q (((ordOf w a ep es)[i]?).map fun e => (e.2, slOf w t (i + 1))) s) : wpAny (model prog w) A (setNext a (slOf w t i) i ep) Q E s := by
  obtain ⟨o, ho, hex, hd⟩ := hs
  have hsz : t.place.size = es.size := by
    simp only [SetTable.fits, Bool.and_eq_true, beq_iff_eq] at hf
    exact hf.1
  unfold setNext
  refine wpAny_bind (wpAny_setState_of ho hd hf ?_)
  dsimp only
  unfold setsByText
  refine wpAny_bind (wpAny_bind (wpAny_askSetting (wpAny_pure ?_)))
  by_cases ht : w.params.followText "set-order" = true
  · have ht' : (⟨(model prog w).prog, (model prog w).w.params⟩ : Setting).params.followText "set-order" = true := ht
    rw [if_pos ht', if_neg (by simp)]
    unfold setWalk
    refine wpAny_bind (wpAny_bind (wpAny_setState_of ho hd hf ?_))
    dsimp only
    unfold setsByText
    refine wpAny_bind (wpAny_bind (wpAny_askSetting (wpAny_pure ?_)))
    rw [if_pos ht']
    refine wpAny_bind (wpAny_askSetting (wpAny_pure (wpAny_pure ?_)))
    unfold ordOf slOf at h
    unfold slOf
    rw [if_pos ht, if_pos ht] at h
    rw [if_pos ht]
    exact h
  · have ht' : ¬ ((⟨(model prog w).prog, (model prog w).w.params⟩ : Setting).params.followText "set-order" = true) := ht
    have hled : t.led = true := by rw [hl]; unfold ledOf; simpa using ht
    rw [if_neg ht']
    unfold ordOf slOf at h
    unfold slOf
    rw [if_neg ht, if_neg ht] at h
    rw [if_neg ht]
    show wpAny _ _ (if (!t.plain && decide (es.size > 1)) = true then _ else _) _ _ s
    rw [hp]
    rw [Bool.not_true, Bool.false_and, if_neg Bool.false_ne_true]
    refine wpAny_bind ?_
    show wpAny _ _ (if (!t.led && !es.isEmpty) = true then _ else _) _ _ s
    rw [hled]
    rw [Bool.not_true, Bool.false_and, if_neg Bool.false_ne_true]
    refine wpAny_pure ?_
    have hb : SetTable.below t.place (slP t i) = i := by
      cases i with
      | zero => exact below_zero hr
      | succ j => exact below_next hr (by exact om_200 hsz hi)
    rw [hb]
    refine wpAny_pure ?_
    rcases Nat.lt_or_ge i es.size with q | q
    · have h1 : es[i]? = some es[i] := Array.getElem?_eq_getElem q
      rw [h1] at h ⊢
      rw [getD_get (xs := t.place) (i := i) (by exact om_201 hsz q)]
      exact h
    · rw [Array.getElem?_eq_none q] at h ⊢
      exact h
theorem next_item {i : Nat} {e : Int × Value} {Q : Option Value → Shared → Prop} (hs : SetAt s.heap a es ep t) (hit : SetIt s.heap it a (slOf w t i) i es.size ep) (hf : t.fits es.size = true) (hp : t.plain = true) (hl : t.led = ledOf w) (hr : Rise t.place)
    (hi : i < es.size) (hx : (ordOf w a ep es)[i]? = some e) (hQ : ∀ h', SetIt h' it a (slOf w t (i + 1)) (i + 1) es.size ep → Heap.SameBut it s.heap h' → Q (some e.2) { s with heap := h' }) :
    wpAny (model prog w) A (pyNext (.ref it)) Q E s := by
  obtain ⟨o, ho, hc, hd⟩ := id hit
  obtain ⟨os, hos, hex, hds⟩ := id hs
  unfold pyNext
  refine wpAny_bind (wpAny_attempt (wpAny_callSpecial?_slot (name := Str.ofString "__next__") hit.typeIs slot_setit_next
    (wpAny_call_entry slot_setit_next hit.typeIs entry_setit_next ?_ (args_setit_next _))))
  show wpAny _ _ (fieldsOf (.ref it) >>= _) _ _ s
  refine wpAny_bind (wpAny_fieldsOf ho hd ?_)
  dsimp only
  refine wpAny_bind (wpAny_setEntries_of hos hds hf ?_)
  rw [if_neg (by simp)]
  refine wpAny_bind ?_
  show wpAny _ _ (setNext a (slOf w t i) i ep) _ _ s
  refine set_next hs hf hp hl hr (Nat.le_of_lt hi) ?_
  rw [hx]
  dsimp only [Option.map]
  refine wpAny_bind (wpAny_setField ho hd (by simp) ?_)
  have hd1 := Obj.data_mapFields hd (·.setIfInBounds 0 (rawInt (slOf w t (i + 1) : Nat)))
  have ho1 := Heap.get?_update_self _ ho (Obj.isFreed_of_fields hd1)
  refine wpAny_bind (wpAny_setField ho1 hd1 (by simp) (wpAny_pure ⟨e.2, rfl, wpAny_pure (hQ _ ?_ ((Heap.SameBut.update _ it _).trans (Heap.SameBut.update _ it _)))⟩))
  have hd2 := Obj.data_mapFields hd1 (·.setIfInBounds 1 (rawInt ((i : Int) + 1)))
  exact ⟨_, Heap.get?_update_self _ ho1 (Obj.isFreed_of_fields hd2), (Obj.cls_mapFields ..).trans ((Obj.cls_mapFields ..).trans hc), by rw [hd2]; simp [rawInt]⟩
theorem next_end {Q : Option Value → Shared → Prop} (hh : A.handled = none) (hs : SetAt s.heap a es ep t) (hit : SetIt s.heap it a (slOf w t es.size) es.size es.size ep) (hf : t.fits es.size = true) (hp : t.plain = true) (hl : t.led = ledOf w) (hr : Rise t.place)
    (hx : (ordOf w a ep es)[es.size]? = none) (hQ : ∀ h', Heap.ExtBut it s.heap h' → Q none { s with heap := h' }) :
    wpAny (model prog w) A (pyNext (.ref it)) Q E s := by
  obtain ⟨o, ho, hc, hd⟩ := id hit
  obtain ⟨os, hos, hex, hds⟩ := id hs
  unfold pyNext
  refine wpAny_bind (wpAny_attempt (wpAny_callSpecial?_slot (name := Str.ofString "__next__") hit.typeIs slot_setit_next
    (wpAny_call_entry slot_setit_next hit.typeIs entry_setit_next ?_ (args_setit_next _))))
  show wpAny _ _ (fieldsOf (.ref it) >>= _) _ _ s
  refine wpAny_bind (wpAny_fieldsOf ho hd ?_)
  dsimp only
  refine wpAny_bind (wpAny_setEntries_of hos hds hf ?_)
  rw [if_neg (by simp)]
  refine wpAny_bind ?_
  show wpAny _ _ (setNext a (slOf w t es.size) es.size ep) _ _ s
  refine set_next hs hf hp hl hr (Nat.le_refl _) ?_
  rw [hx]
  dsimp only [Option.map]
  refine wpAny_bind (wpAny_setField ho hd (by simp) ?_)
  show wpAny _ _ (newExc (.type "StopIteration") [] >>= _) _ _ _
  refine wpAny_bind ?_
  simp only [newExc, newTuple]
  refine wpAny_bind (wpAny_newObj_type ?_ (by size_fits))
  refine wpAny_bind (m := firstArgMember _ _) (wpAny_of_eq (a := Value.none) (by first | rfl | (simp only [firstArgMember]; rfl)) ?_)
  refine wpAny_newObj_type ?_ (by size_fits)
  unfold raiseNew
  refine wpAny_bind (wpAny_handled ?_)
  rw [show A.in1.handled = none from hh]
  refine wpAny_bind (wpAny_pure (wpAny_throw ?_))
  refine wpAny_bind (wpAny_isInstance (T := "StopIteration") (b := true) ⟨_, Heap.get?_push_size _ rfl, rfl⟩ isSubtype_stop ?_)
  exact wpAny_pure (hQ _ (((Heap.SameBut.update ..).extBut.push _).push _))
end
end Mine
end
section
open PySem PySem.W PyProof.Rows
set_option autoImplicit false
set_option maxRecDepth 100000
namespace Mine
set_option tactic.hygienic true in
theorem pg_0 {α : Type} {next k l} {out : Array α} : pickOrder.go next 0 k l out = out := rfl
set_option tactic.hygienic true in
theorem pg_s {α : Type} {next f k l} {out : Array α} : pickOrder.go next (f + 1) k l out = (match l[next k % l.length]? with
      | some x => pickOrder.go next f (k + 1) (l.eraseIdx (next k % l.length)) (out.push x)
      | none => out) := rfl
set_option tactic.hygienic true in
theorem pick_perm {α : Type} (next : Nat → Nat) : ∀ (f k : Nat) (l : List α) (out : Array α), f = l.length → (pickOrder.go next f k l out).toList.Perm (out.toList ++ l)
  | 0, k, l, out, h => by
    rw [pg_0, List.length_eq_zero_iff.mp h.symm, List.append_nil]
  | f + 1, k, l, out, h => by
    rw [pg_s]
    have hl : next k % l.length < l.length := Nat.mod_lt _ (by exact om_202 h)
    rw [List.getElem?_eq_getElem hl]
    refine (pick_perm next f (k + 1) _ _ (by rw [List.length_eraseIdx_of_lt hl]; exact om_203 h)).trans ?_
    rw [Array.toList_push, List.append_assoc]
    refine List.Perm.append_left _ ?_
    rw [List.singleton_append]
    have e : l.take (next k % l.length) ++ l[next k % l.length] :: l.drop (next k % l.length + 1) = l := by
      rw [← List.drop_eq_getElem_cons hl, List.take_append_drop]
    rw [List.eraseIdx_eq_take_drop_succ]
    exact (List.perm_middle.symm).trans (.of_eq e)
theorem ord_perm (w : World) (a : Addr) (ep : Nat) (es : Array (Int × Value)) : (ordOf w a ep es).toList.Perm es.toList := by
  unfold ordOf
  split
  · exact (pick_perm _ _ _ _ _ (Array.length_toList).symm)
  · exact .refl _
theorem ord_size (w : World) (a : Addr) (ep : Nat) (es : Array (Int × Value)) : (ordOf w a ep es).size = es.size := by
  rw [← Array.length_toList, (ord_perm w a ep es).length_eq, Array.length_toList]
theorem plain_proto_collect : plainId "proto.collect" = true := by decide +kernel
theorem plain_list_iadd : plainId "list.__iadd__" = true := by decide +kernel
section
variable {prog : Program} {w : World} {A : Around} {E : Value → Shared → Prop} {s : Shared} {a it : Addr} {es : Array (Int × Value)} {ep : Nat} {t : SetTable}
theorem walk_set (hh : A.handled = none) (hne : a ≠ it) (hf : t.fits es.size = true) (hp : t.plain = true) (hl : t.led = ledOf w) (hr : Rise t.place) :
    Walks prog w A it [it, a] [it] es.size (fun i v => ∃ e, (ordOf w a ep es)[i]? = some e ∧ v = e.2) (fun i h => SetAt h a es ep t ∧ SetIt h it a (slOf w t i) i es.size ep) where
  sub := fun b hb => by simp at hb; simp [hb]
  frame := fun i h h' st hk => by
    refine ⟨?_, ?_⟩
    · obtain ⟨o, ho, r⟩ := st.1; exact ⟨o, hk a (by simp) o ho, r⟩
    · obtain ⟨o, ho, r⟩ := st.2; exact ⟨o, hk it (by simp) o ho, r⟩
  item := fun i s Q E hi st hQ => by
    have hi' : i < (ordOf w a ep es).size := by rw [ord_size]; exact hi
    refine next_item st.1 st.2 hf hp hl hr hi (Array.getElem?_eq_getElem hi') fun h' hit hs => ?_
    have hk : ∀ b o, b ∉ [it] → s.heap.get? b = some o → h'.get? b = some o := fun b o hb e => hs.extBut b o (fun h => hb (by simp [h])) e
    obtain ⟨o, ho, r⟩ := st.1
    exact hQ _ h' s.toks ⟨_, Array.getElem?_eq_getElem hi', rfl⟩ ⟨⟨o, hk a o (by simpa using hne) ho, r⟩, hit⟩ hk
  done := fun s Q E st hQ => by
    refine next_end hh st.1 st.2 hf hp hl hr (Array.getElem?_eq_none (by rw [ord_size]; exact Nat.le_refl _)) fun h' he => ?_
    exact hQ h' s.toks fun b o hb e => he b o (fun h => hb (by simp [h])) e
  self := fun i s Q E st hQ => by
    obtain ⟨o, ho, hc, hd⟩ := id st.2
    refine wpAny_pyIter_slot st.2.typeIs slot_setit_iter (wpAny_call_entry slot_setit_iter st.2.typeIs entry_setit_iter ?_ (args_setit_iter _))
    show wpAny _ _ (ret (.ref it)) _ _ s
    exact wpAny_pure ⟨_, rfl, "set_iterator", _, st.2.typeIs, slot_setit_next.lookup, hQ⟩
theorem collect_set {Q : List Value → Shared → Prop} (hh : A.handled = none) (hs : SetAt s.heap a es ep t) (hf : t.fits es.size = true) (hp : t.plain = true) (hl : t.led = ledOf w) (hr : Rise t.place) (hn : es.size ≤ 16)
    (hQ : ∀ s' acc, Keeps s s' → ItemsOf (fun i v => ∃ e, (ordOf w a ep es)[i]? = some e ∧ v = e.2) acc es.size → Q acc.toList s') : wpAny (model prog w) A (collect (.ref a)) Q E s := by
  obtain ⟨o, ho, hex, hd⟩ := id hs
  have hlt := Heap.lt_size ho
  unfold collect
  refine wpAny_bind (wpAny_runValue (codeAny_builtin entry_proto_collect' ?_))
  rw [Around.under_plainId plain_proto_collect _]
  show wpAny _ A.in1 (newList [] >>= fun l => again (.builtin "list.__iadd__" ⟨[l, .ref a], []⟩)) _ _ s
  refine wpAny_bind (wpAny_newList ?_)
  refine wpAny_pure ⟨plainId_quiet plain_list_iadd _, codeAny_builtin entry_list_iadd' ?_⟩
  rw [Around.under_plainId plain_list_iadd _]
  show wpAny _ A.in1 (Builtin.List.listExtendWith (.ref s.heap.objs.size) (.ref a) (.ref s.heap.objs.size)) _ _ { s with heap := s.heap.push (seqObj "list" #[] 0) }
  have hs1 : SetAt (s.heap.push (seqObj "list" #[] 0)) a es ep t := ⟨o, Heap.get?_push_of_some _ ho, hex, hd⟩
  have hT1 : Shared.TypeIs { s with heap := s.heap.push (seqObj "list" #[] 0) } (.ref a) "set" := ⟨o, Heap.get?_push_of_some _ ho, hex.1⟩
  unfold Builtin.List.listExtendWith
  refine wpAny_bind (wpAny_typeOf hT1 ?_)
  have h1 : Builtin.List.listSameRef (.ref s.heap.objs.size) (.ref a) = false := by simp [Builtin.List.listSameRef, Nat.ne_of_gt hlt]
  have h2 : (Value.type "set" == Value.type "list") = false := by decide
  have h3 : (Value.type "set" == Value.type "tuple") = false := by decide
  rw [if_neg (by rw [h1, h2, h3]; decide)]
  refine wpAny_bind (iter_set hs1 hf hp ?_)
  dsimp only
  rw [size_push']
  generalize hh2 : (s.heap.push (seqObj "list" #[] 0)).push { cls := .type "set_iterator", data := .fields #[.int 0 0, .int 0 0, .ref a, .int (es.size : Int) 0, .int (ep : Int) 0] } = h2
  have kp : ∀ b o, (s.heap.push (seqObj "list" #[] 0)).get? b = some o → h2.get? b = some o := fun b o e => by rw [← hh2]; exact Heap.get?_push_of_some _ e
  have hL2 : h2.get? s.heap.objs.size = some (seqObj "list" #[] 0) := kp _ _ (Heap.get?_push_size _ rfl)
  have hI2 : SetIt h2 (s.heap.objs.size + 1) a 0 0 es.size ep := ⟨_, by rw [← hh2, ← size_push' s.heap (seqObj "list" #[] 0)]; exact Heap.get?_push_size _ rfl, rfl, rfl⟩
  have hs2 : SetAt h2 a es ep t := ⟨o, kp _ _ (Heap.get?_push_of_some _ ho), hex, hd⟩
  have hT2 : Shared.TypeIs { s with heap := h2 } (.ref a) "set" := ⟨o, kp _ _ (Heap.get?_push_of_some _ ho), hex.1⟩
  have ks : ∀ b o, s.heap.get? b = some o → h2.get? b = some o := fun b o e => kp b o (Heap.get?_push_of_some _ e)
  clear hh2
  refine wpAny_bind (wpAny_holding ?_)
  unfold Builtin.List.listLengthHint
  refine wpAny_bind (wpAny_specialOf hT2 F.slot_set_len.lookup ?_)
  dsimp only
  rw [show splitId "set.__len__" = some ("set", "__len__") by decide +kernel]
  dsimp only
  refine wpAny_bind (wpAny_isInstance hT2 sub_set_self ?_)
  rw [if_neg (by decide)]
  rw [if_pos (by decide +kernel)]
  refine wpAny_bind (wpAny_typeOf hT2 ?_)
  dsimp only
  refine wpAny_pure ?_
  rw [if_pos (by decide +kernel)]
  refine wpAny_bind (wpAny_rule ?_)
  refine wpAny_bind ?_
  show wpAny _ A.in1 (updateSeq s.heap.objs.size (·.push .none) >>= fun _ => updateSeq s.heap.objs.size (·.pop)) _ _ _
  refine wpAny_bind (wpAny_updateSeq hL2 rfl ?_)
  have hS2 := Heap.get?_update_self (Obj.mapSeq (·.push Value.none)) hL2 rfl
  refine wpAny_updateSeq hS2 rfl ?_
  have hS3 := Heap.get?_update_self (Obj.mapSeq (·.pop)) hS2 rfl
  have oth : ∀ b o, b ≠ s.heap.objs.size → h2.get? b = some o → ((h2.update s.heap.objs.size (Obj.mapSeq (·.push Value.none))).update s.heap.objs.size (Obj.mapSeq (·.pop))).get? b = some o :=
    fun b o hb e => (Heap.get?_update_other _ _ (Ne.symm hb)).trans ((Heap.get?_update_other _ _ (Ne.symm hb)).trans e)
  generalize (h2.update s.heap.objs.size (Obj.mapSeq (·.push Value.none))).update s.heap.objs.size (Obj.mapSeq (·.pop)) = h3 at hS3 oth
  have hfp : s.heap.objs.size ∉ [s.heap.objs.size + 1, a] := by
    simp only [List.mem_cons, List.not_mem_nil, or_false, not_or]
    exact ⟨Nat.ne_of_lt (Nat.lt_succ_self _), Nat.ne_of_gt hlt⟩
  have hh1 : A.in1.handled = none := hh
  have W := (walk_set (prog := prog) (ep := ep) hh1 (Nat.ne_of_lt (Nat.lt_succ_of_lt hlt)) hf hp hl hr).toS
  have sl0 : slOf w t 0 = 0 := by unfold slOf; split <;> rfl
  refine wpAny_pure ⟨plainId_quiet F.plain_extend_loop _, codeAny_extend_loopS W (by rw [sizeLine_eq]; exact om_204 hn) s.heap.objs.size hfp _ es.size 0 _ _ _ rfl (Nat.zero_le _) ?_ hS3 (ItemsOf.nil _) ?_⟩
  · refine ⟨?_, ?_⟩
    · obtain ⟨o', ho', r⟩ := hs2
      exact ⟨o', oth a o' (Nat.ne_of_lt hlt) ho', r⟩
    · rw [sl0]
      obtain ⟨o', ho', r⟩ := hI2
      exact ⟨o', oth _ o' (Nat.ne_of_gt (Nat.lt_succ_self _)) ho', r⟩
  · intro s' acc' c' hm hS' hacc
    show wpAny _ A (load s.heap.objs.size >>= _) _ _ s'
    refine wpAny_bind (wpAny_load hS' ?_)
    refine wpAny_pure (hQ s' acc' ⟨s'.heap, s'.toks, ?_, fun b ob e => ?_⟩ hacc)
    · obtain ⟨p1, p2, p3, p4, p5⟩ := s'
      have g := hm.gens; have d := hm.drawn; have q := hm.os
      dsimp only at g d q
      subst g; subst d; subst q
      rfl
    · have hb := Heap.lt_size e
      refine hm.heap b ob (fun m => ?_) (oth b ob (Nat.ne_of_lt hb) (ks b ob e))
      rcases List.mem_cons.mp m with m | m
      · exact Nat.ne_of_lt hb m
      · exact Nat.ne_of_lt (Nat.lt_succ_of_lt hb) (List.mem_singleton.mp m)
end
end Mine
end
section
open PySem PySem.W PyProof.Rows
set_option autoImplicit false
set_option maxRecDepth 100000
namespace Mine
section
variable {prog : Program} {w : World} {A : Around} {E : Value → Shared → Prop} {s : Shared}
set_option maxHeartbeats 3200000 in
theorem call_set_small {l : Addr} {items : Array Value} {val : Nat → Nat} {Q : Value → Shared → Prop} (hh : A.handled = none) (hl : s.heap.IsList l items)
    (hv : ∀ i v, items[i]? = some v → val i < 16 ∧ ∃ t, v = .int (val i : Int) t)
    (h : ∀ (h' : Heap) (tk : Nat), SetX (ledOf w) h' s.heap.objs.size (accN val items.size) → (∀ b o, s.heap.get? b = some o → h'.get? b = some o) → Q (.ref s.heap.objs.size) { s with heap := h', toks := tk }) :
    wpAny (model prog w) A (call (.type "set") [.ref l]) Q E s := by
  obtain ⟨c, tl, hmro⟩ := F.called_set.mro
  have hmade := F.called_set.made
  have hsub := F.called_set.sub
  refine wpAny_call (codeAny_of_tree ?_)
  show wpAny _ _ (callAny (.type "set") _) _ _ _
  refine wpAny_pure ⟨Code.quiet_builtin _ (by decide +kernel), codeAny_builtin F.entry_type_call ?_⟩
  rw [Around.under_plain (weight_type_call_type "set" [.ref l] []) rfl]
  have h1 := F.called_set.notType
  have h2 := F.called_set.canCreate
  have hct := F.typeCall_set_1 (.ref l)
  repeat (any_goals (first | assumption | wp_step))
  have hS : (s.heap.push (newSetObj (ledOf w))).get? s.heap.objs.size = some (newSetObj (ledOf w)) := Heap.get?_push_size _ rfl
  have hT : Shared.TypeIs { s with heap := s.heap.push (newSetObj (ledOf w)) } (.ref s.heap.objs.size) "set" := ⟨_, hS, rfl⟩
  have keep1 : ∀ b o, s.heap.get? b = some o → (s.heap.push (newSetObj (ledOf w))).get? b = some o := fun b o e => Heap.get?_push_of_some _ e
  have hsz := size_push' s.heap (newSetObj (ledOf w))
  refine codeAny_mono (code_new_led (.ref l) (E := E) (Q₁ := fun obj s₁ => obj = .ref s.heap.objs.size ∧ s₁ = { s with heap := s.heap.push (newSetObj (ledOf w)) }) ⟨rfl, rfl⟩) fun r s₁ hr => ?_
  generalize s.heap.push (newSetObj (ledOf w)) = g1 at hS hT keep1 hsz hr
  cases r with
  | error e => exact hr
  | ok fl =>
    cases fl with
    | ret obj =>
      obtain ⟨rfl, rfl⟩ := hr
      have hli := F.called_set.init.lookup
      have hbi := F.called_set.init.bind (.ref s.heap.objs.size)
      repeat (any_goals (first | assumption | wp_step))
      refine codeAny_mono (codeAny_call_builtin (R := wants (fun r s₂ => r = .none ∧ ∃ h' tk, s₂ = { s with heap := h', toks := tk } ∧
          SetX (ledOf w) h' s.heap.objs.size (accN val items.size) ∧ (∀ b o, s.heap.get? b = some o → h'.get? b = some o)) E) F.called_set.init.plain F.entry_set_init (check_set_init_1 hT ?_)) fun r₂ s₂ hr₂ => ?_
      · have hl1 : g1.IsList l items := by
          obtain ⟨ol, hol, r⟩ := hl
          exact ⟨ol, keep1 _ _ hol, r⟩
        have hlS : l < s.heap.objs.size := by
          obtain ⟨ol, hol, _⟩ := hl
          exact Heap.lt_size hol
        obtain ⟨ol, hol, hcl, nl, hdl⟩ := id hl1
        obtain ⟨ocls, odict, odata, oslots⟩ := ol
        simp only at hcl hdl
        subst hcl; subst hdl
        have hsls := F.sub_list_set
        have hslf := F.sub_list_frozenset
        have hne : (Value.type "list" == Value.type "dict") = false := by decide
        unfold Builtin.«set.__init__» noKeywords Builtin.Frozenset.updateFrom
        generalize hPI : pyIter = PI
        wp_walk
        subst hPI
        refine wpAny_pyIter_list hl1 ?_
        dsimp only
        rw [hsz]
        have ho2 : (g1.push { cls := .type "list_iterator", data := .fields #[.ref l, .int 0 0] }).get? (s.heap.objs.size + 1) = some { cls := .type "list_iterator", data := .fields #[.ref l, .int 0 0] } := by
          rw [← hsz]; exact Heap.get?_push_size _ rfl
        have keep2 : ∀ b o, g1.get? b = some o → (g1.push { cls := .type "list_iterator", data := .fields #[.ref l, .int 0 0] }).get? b = some o := fun b o e => Heap.get?_push_of_some _ e
        have hl2 := hl1.push { cls := .type "list_iterator", data := .fields #[.ref l, .int 0 0] }
        generalize g1.push { cls := .type "list_iterator", data := .fields #[.ref l, .int 0 0] } = g2 at ho2 keep2 hl2
        refine wpAny_bind (wpAny_runValue ?_)
        have hh3 : A.in1.in1.in1.handled = none := by simp [hh]
        have hSf : s.heap.objs.size ∉ [s.heap.objs.size + 1, l] := by
          simp only [List.mem_cons, List.not_mem_nil, or_false, not_or]
          exact ⟨Nat.ne_of_lt (Nat.lt_succ_self _), Nat.ne_of_gt hlS⟩
        refine code_set_updX ((Walks.list hh3 _ l (Nat.ne_of_lt (Nat.lt_succ_of_lt hlS)) items).toS) s.heap.objs.size hSf val hv (items.size - 0) 0 _ (by exact om_205) (Nat.zero_le _) ⟨⟨_, ho2, rfl, rfl⟩, hl2⟩ (setX_fresh (keep2 _ _ hS)) ?_
        intro s' hm hS'
        obtain ⟨h', g', d', tk', os'⟩ := s'
        have eg : g' = s.gens := hm.gens
        have ed : d' = s.drawn := hm.drawn
        have eo : os' = s.os := hm.os
        subst eg; subst ed; subst eo
        show wpAny _ _ _ _ _ _
        refine wpAny_pure ?_
        show wpAny _ _ (ret Value.none) _ _ _
        refine wpAny_pure ⟨rfl, h', tk', rfl, hS', fun b o e => ?_⟩
        have hb := Heap.lt_size e
        refine hm.heap b o (fun m => ?_) (keep2 _ _ (keep1 _ _ e))
        rcases List.mem_cons.mp m with m | m
        · exact Nat.ne_of_lt hb m
        · exact Nat.ne_of_lt (Nat.lt_succ_of_lt hb) (List.mem_singleton.mp m)
      · cases r₂ with
        | error e => exact hr₂
        | ok fl₂ =>
          cases fl₂ with
          | ret r =>
            obtain ⟨rfl, h', tk, rfl, hS', hk'⟩ := hr₂
            repeat (any_goals (first | assumption | wp_step))
            exact h _ _ hS' hk'
          | _ => exact hr₂.elim
    | _ => exact hr.elim
end
end Mine
end
section
open PySem PySem.W PyProof.Rows
set_option autoImplicit false
set_option maxRecDepth 100000
namespace Mine
noncomputable def natL (ds : List Nat) : List Int := ds.map fun (k : Nat) => (k : Int)
theorem ints_of : ∀ {vs : List Value} {es : List (Int × Value)}, (∀ e ∈ es, EntOk e) → vs = es.map (·.2) → IntsAre vs (natL (es.map keyE))
  | _, [], _, h => by subst h; exact .nil
  | _, e :: es, hE, h => by
    subst h
    obtain ⟨k, t, rfl, _⟩ := hE e (.head _)
    exact .cons (k : Int) t (ints_of (fun e' m => hE e' (.tail _ m)) rfl)
theorem asInts_map' : ∀ {ds : List D} {is : List Int}, asInts ds = some is → ds.length = is.length
  | [], is, h => by cases h; rfl
  | d :: ds, is, h => by
    cases d <;> simp only [asInts] at h <;> first | (cases h; done) | skip
    obtain ⟨is', h1, rfl⟩ := Option.map_eq_some_iff.mp h
    rw [List.length_cons, List.length_cons, asInts_map' h1]
theorem nodup_dups (l : List Int) : l.eraseDups.Nodup := by
  generalize hn : l.length = n
  induction n using Nat.strongRecOn generalizing l with
  | _ n ih =>
    cases l with
    | nil => exact .nil
    | cons a l =>
      rw [List.eraseDups_cons]
      refine List.nodup_cons.mpr ⟨fun m => ?_, ih _ ?_ _ rfl⟩
      · rw [List.mem_eraseDups, List.mem_filter] at m
        simp at m
      · have := List.length_filter_le (fun b => !b == a) l
        rw [← hn, List.length_cons]; exact om_206 this
set_option tactic.hygienic true in
theorem addN_mem {ds : List Nat} {k j : Nat} : j ∈ addN ds k ↔ j = k ∨ j ∈ ds := by
  unfold addN
  split
  · rename_i h
    exact ⟨.inr, fun q => by rcases q with rfl | q; exact h; exact q⟩
  · exact List.mem_cons
set_option tactic.hygienic true in
theorem addN_nodup {ds : List Nat} {k : Nat} (h : ds.Nodup) : (addN ds k).Nodup := by
  unfold addN
  split
  · exact h
  · rename_i q; exact List.nodup_cons.mpr ⟨q, h⟩
theorem foldN_mem : ∀ (l acc : List Nat) (j : Nat), j ∈ l.foldl addN acc ↔ j ∈ l ∨ j ∈ acc
  | [], acc, j => by simp
  | a :: l, acc, j => by
    rw [List.foldl_cons, foldN_mem l, addN_mem, List.mem_cons]
    constructor
    · rintro (h | h | h)
      · exact .inl (.inr h)
      · exact .inl (.inl h)
      · exact .inr h
    · rintro ((h | h) | h)
      · exact .inr (.inl h)
      · exact .inl h
      · exact .inr (.inr h)
theorem foldN_nodup : ∀ (l acc : List Nat), acc.Nodup → (l.foldl addN acc).Nodup
  | [], _, h => h
  | _ :: l, _, h => foldN_nodup l _ (addN_nodup h)
theorem acc_perm {is : List Int} {n : Nat} (hn : n = is.length) (hs : (is.all fun i => decide (0 ≤ i) && decide (i < 16)) = true) : (natL (accN (fun i => (is.getD i 0).toNat) n)).Perm is.eraseDups := by
  have hb : ∀ i ∈ is, 0 ≤ i ∧ i < 16 := fun i m => by
    have := List.all_eq_true.mp hs i m
    simpa [Bool.and_eq_true, decide_eq_true_eq] using this
  have hmap : (List.range n).map (fun i => (is.getD i 0).toNat) = is.map Int.toNat := by
    refine List.ext_getElem? fun i => ?_
    rw [List.getElem?_map, List.getElem?_map]
    rcases Nat.lt_or_ge i n with q | q
    · rw [List.getElem?_range q, List.getElem?_eq_getElem (hn ▸ q)]
      simp [hn ▸ q]
    · rw [List.getElem?_eq_none (by simpa using q), List.getElem?_eq_none (hn ▸ q)]; rfl
  unfold accN
  rw [hmap]
  refine (List.perm_ext_iff_of_nodup ?_ (nodup_dups is)).mpr fun a => ?_
  · unfold natL
    refine List.Pairwise.map _ (fun a b (h : a ≠ b) => ?_) (foldN_nodup _ _ .nil)
    exact om_207 h
  · unfold natL
    rw [List.mem_eraseDups, List.mem_map]
    constructor
    · rintro ⟨k, hk, rfl⟩
      rcases (foldN_mem _ _ _).mp hk with h | h
      · obtain ⟨i, hi, rfl⟩ := List.mem_map.mp h
        rw [Int.toNat_of_nonneg (hb i hi).1]; exact hi
      · cases h
    · intro h
      exact ⟨a.toNat, (foldN_mem _ _ _).mpr (.inl (List.mem_map.mpr ⟨a, h, rfl⟩)), Int.toNat_of_nonneg (hb a h).1⟩
section
variable {prog : Program} {w : World} {A : Around} {E : Value → Shared → Prop} {s : Shared} {P : Addr → Prop} {C : Addr} {Q : Value → Shared → Prop}
set_option tactic.hygienic true in
theorem sorted_set_small {a : Addr} {ds : List Nat} (hh : A.handled = none) (hS : SetX (ledOf w) s.heap a ds)
    (k : ∀ (out : Array Value) (L : Addr) (s' : Shared) (e : Nat), Keeps s s' → s.heap.get? L = none → s'.heap.get? L = some (seqObj "list" out e) → IntsAre out.toList (sortI (natL ds)) → Q (.ref L) s') :
    wpAny (model prog w) A (call (.builtin "sorted") [.ref a]) Q E s := by
  obtain ⟨o, es, ep, t, ho, hex, hd, he, hp, T, h4⟩ := hS
  have h16 := tab_size T
  refine Calls.call_function_entry kind_sorted plain_sorted entry_sorted (args_sorted1 _) ?_
  unfold Builtin.«sorted»
  refine wpAny_bind (m := checkCount "sorted" 1 1 _) (wpAny_pure ?_)
  refine wpAny_bind (collect_set hh ⟨o, ho, hex, hd⟩ (tab_fits T fun m => Nat.le_succ_of_le (h4 m)) T.pn T.ld T.ri h16 fun s1 acc hk hacc => ?_)
  have hmap : acc.toList = (ordOf w a ep es).toList.map (·.2) := by
    refine List.ext_getElem? fun i => ?_
    rw [List.getElem?_map, Array.getElem?_toList, Array.getElem?_toList]
    rcases Nat.lt_or_ge i es.size with q | q
    · have q' : i < acc.size := by rw [hacc.1]; exact q
      have e1 : acc[i]? = some acc[i] := Array.getElem?_eq_getElem q'
      obtain ⟨e, h1, h2⟩ := hacc.2 i _ e1
      rw [e1, h1, h2]; rfl
    · rw [Array.getElem?_eq_none (by rw [hacc.1]; exact q), Array.getElem?_eq_none (by rw [ord_size]; exact q)]; rfl
  have hO := ord_perm w a ep es
  have hI := ints_of (fun e m => he e (hO.mem_iff.mp m)) hmap
  have hpd : ((ordOf w a ep es).toList.map keyE).Perm ds := (hO.map keyE).trans hp
  generalize (ordOf w a ep es).toList.map keyE = ks at hI hpd
  have hlen : acc.toList.length ≤ 16 := by rw [Array.length_toList, hacc.1]; exact h16
  generalize acc.toList = vs at hI hlen
  clear hmap hO hacc
  cases hk using keepsE
  rename_i h1 tk kk
  refine wpAny_bind (wpAny_newList ?_ (by rw [sizeLine_eq]; exact om_204 hlen))
  have hoL : (h1.push (seqObj "list" vs.toArray 0)).get? h1.objs.size = some (seqObj "list" vs.toArray 0) := Heap.get?_push_size _ rfl
  have hle : s.heap.get? h1.objs.size = none := by
    cases q : s.heap.get? h1.objs.size with
    | none => rfl
    | some ob => exact absurd (Heap.lt_size (kk _ _ q)) (Nat.lt_irrefl _)
  refine wpAny_bind (wpAny_holding (wpAny_call_entry slot_list_sort ⟨_, hoL, rfl⟩ entry_list_sort (list_sort_tree hoL hI (by exact om_208 hlen) fun out ns' a1 a2 a3 => ⟨_, rfl, ?_⟩) (args_list_sort _)))
  refine wpAny_pure ⟨_, rfl, ?_⟩
  obtain ⟨e, he2⟩ := sortedHeap_at (out := out) hoL
  refine k out h1.objs.size _ e ⟨_, tk, rfl, fun b ob eb => ?_⟩ hle he2 (sortI_of (a2.trans (hpd.map _)) a3 ▸ a1)
  have hb := Heap.lt_size (kk b ob eb)
  rw [sortedHeap_old (Nat.ne_of_lt hb) (by rw [size_push']; exact Nat.lt_succ_of_lt hb)]
  exact Heap.get?_push_of_some _ (kk b ob eb)
theorem small_at {P : Addr → Prop} {C : Addr} {h : Heap} {vs : List Value} {ds : List D} {is : List Int} (r : RpA P C h vs ds) (q : asInts ds = some is) (hs : (is.all fun i => decide (0 ≤ i) && decide (i < 16)) = true) (i : Nat) (v : Value) (hv : vs.toArray[i]? = some v) :
    (is.getD i 0).toNat < 16 ∧ ∃ t, v = .int (((is.getD i 0).toNat : Nat) : Int) t := by
  obtain ⟨t, ht⟩ := PyProof.Rows.IntsAre.int_at (asInts_are r q) i v (by simpa using hv)
  have hi : i < is.length := by
    have h1 := asInts_map' q
    have h2 := r.length
    rcases Nat.lt_or_ge i vs.length with z | z
    · exact om_209 h1 h2 z
    · rw [List.getElem?_toArray, List.getElem?_eq_none z] at hv; cases hv
  have hb := List.all_eq_true.mp hs (is.getD i 0) (by rw [List.getD_eq_getElem?_getD, List.getElem?_eq_getElem hi]; exact List.getElem_mem hi)
  simp only [Bool.and_eq_true, decide_eq_true_eq] at hb
  have e : (((is.getD i 0).toNat : Nat) : Int) = is.getD i 0 := by exact om_210 hb.1
  exact ⟨by exact om_211 hb.2, t, by rw [e]; exact ht⟩
set_option tactic.hygienic true in
theorem sortSet_sound (hh : A.handled = none) (v : Value) (ds : List D) (d : D) (t : Bool) (up : Up P s.heap) (r : RpT t P C s.heap v (.lst ds)) (hd : primD .sortedSet [.lst ds] = some d) (k : ∀ v s', Keeps s s' → Rp P C s'.heap v d → Q v s') :
    wpAny (model prog w) A (call (.type "set") [v]) (fun v' s' => wpAny (model prog w) A (call (.builtin "sorted") [v']) Q E s') E s := by
  replace hd : (if ds.length < 64 then (asInts ds).bind fun is => if is.all fun i => decide (0 ≤ i) && decide (i < 16) then some (D.lst ((sortI is.eraseDups).map .int)) else none else none) = some d := hd
  split at hd
  rotate_left
  · cases hd
  rename_i hl
  obtain ⟨is, hq, hd⟩ := Option.bind_eq_some_iff.mp hd
  split at hd
  rotate_left
  · cases hd
  rename_i hs
  cases hd
  refine oE2_3 r.list fun a vs e hx ra => ?_
  subst e
  refine call_set_small (val := fun i => (is.getD i 0).toNat) hh hx (small_at ra hq hs) fun h' tk hS hk => ?_
  refine sorted_set_small hh hS fun out L s' e hk2 hn hL hI => ?_
  have hp := acc_perm (n := vs.toArray.size) (by rw [List.size_toArray, ra.length, asInts_map' hq]) hs
  rw [sortI_of ((sortI_perm _).trans hp) (sortI_sorted _)] at hI
  cases hk2 using keepsE
  rename_i h2 tk2 kk
  have kall : ∀ b o, s.heap.get? b = some o → h2.get? b = some o := fun b o eb => kk b o (hk b o eb)
  refine k _ _ ⟨_, _, rfl, kall⟩ (.lst (up _ ?_) ⟨_, hL, rfl, e, by simp [seqObj]⟩ (rpA_ints hI))
  cases q : s.heap.get? L with
  | none => rfl
  | some ob => rw [hk L ob q] at hn; cases hn
end
end Mine
end
section
open PySem PySem.W PyProof.Rows
set_option autoImplicit false
set_option maxRecDepth 100000
namespace Mine
section
variable {prog : Program} {w : World} {h0 : Heap} {C : Addr} {N : Nat} {Φ : Fns}
set_option tactic.hygienic true in
theorem Hyp.addSort (x : Hyp prog w h0 C N Φ) (f : String) (hf : f ∈ hmKeys) (hm : ∀ m, f ≠ hmKey m) (F : List D → Option D) : Hyp prog w h0 C N (Φ.set f F) := by
  have q : ∀ g G, Φ.set f F g = some G → g ∉ hmKeys → FnOK prog w h0 C N g G := by
    intro g G e n
    unfold Fns.set at e
    split at e
    · rename_i q
      exact absurd (q ▸ hf) n
    · exact x.fns g G e n
  have q2 : ∀ m G, Φ.set f F (hmKey m) = some G → MethOK prog w h0 C N m := by
    intro m G e
    unfold Fns.set at e
    rw [if_neg fun q => hm m q.symm] at e
    exact x.meths m G e
  exact { x with fns := q, meths := q2, sortP := fun _ A E s P v ds d t Q _ up r hd k => sortP_sound v ds d t up r hd k, sortSet := fun _ A E s P v ds d t Q hr up r hd k => sortSet_sound hr.handled v ds d t up r hd k }
end
end Mine
end
section
set_option tactic.hygienic true
open PySem PySem.W PyProof.Rows
namespace Mine
set_option maxRecDepth 100000 in
set_option maxHeartbeats 8000000 in
open_top hd01 for PySem.Challenge.rw_sc0060_01
end Mine
end
section
open PySem PySem.W PyProof.Rows
set_option autoImplicit false
namespace Mine
namespace L1
noncomputable def tb_is_single_bit : List Str := [Str.ofString "num"]
noncomputable def pn_is_single_bit : List Str := [Str.ofString "num"]
noncomputable def ps_is_single_bit : List Nat := [0]
noncomputable def cs_is_single_bit : List CS := [.ite (.cmp .Eq (.var 0) (.cint 0))
    [.ret (.cbool false)]
    [],
  .aug 0 (.bin .Sub (.var 0) (.cint 1)),
  .ret (.cmp .Eq (.var 0) (.cint 0))]
noncomputable def tb_high_bit : List Str := [Str.ofString "value"]
noncomputable def pn_high_bit : List Str := [Str.ofString "value"]
noncomputable def ps_high_bit : List Nat := [0]
noncomputable def cs_high_bit : List CS := [.ret (.bin .Sub (.prim .bitLen [(.var 0)]) (.cint 1))]
noncomputable def tb_law_drawn : List Str := [Str.ofString "script", Str.ofString "drawn", Str.ofString "place", Str.ofString "great", Str.ofString "at"]
noncomputable def pn_law_drawn : List Str := [Str.ofString "script"]
noncomputable def ps_law_drawn : List Nat := [0]
noncomputable def cs_law_drawn : List CS := [.own 1 (.dlst []),
  .for_ (.one 2) (.rng [(.cint 8)])
    [.asg 3 (.idx (.dlst [(.cint 12), (.cint 13), (.cint 15), (.cint 14), (.cint 7), (.cint 10), (.cint 0), (.cint 11)]) (.var 2)),
     .app 1 (.bin .Mod (.bin .Add (.var 3) (.prim .sum [(.comp (.idx (.var 0) (.var 4)) (.one 4) (.rng [(.var 2), (.prim .len [(.var 0)]), (.cint 8)]) [])])) (.cint 16))],
  .ret (.var 1)]
noncomputable def tb_law_word : List Str := [Str.ofString "letters", Str.ofString "great", Str.ofString "word", Str.ofString "place"]
noncomputable def pn_law_word : List Str := [Str.ofString "letters", Str.ofString "great"]
noncomputable def ps_law_word : List Nat := [0, 1]
noncomputable def cs_law_word : List CS := [.asg 2 (.cstr ""),
  .for_ (.one 3) (.ce (.dlst [(.cint 3), (.cint 2), (.cint 1), (.cint 0)]))
    [.ite (.val (.bin .BitAnd (.bin .RShift (.var 0) (.var 3)) (.cint 1)))
       [.asg 2 (.bin .Add (.var 2) (.ite (.val (.bin .BitAnd (.bin .RShift (.var 1) (.var 3)) (.cint 1))) (.idx (.cstr "ABCD") (.var 3)) (.idx (.cstr "abcd") (.var 3))))]
       []],
  .ret (.var 2)]
noncomputable def tb_law_spelled : List Str := [Str.ofString "letters", Str.ofString "great", Str.ofString "word", Str.ofString "turn", Str.ofString "place"]
noncomputable def pn_law_spelled : List Str := [Str.ofString "letters", Str.ofString "great"]
noncomputable def ps_law_spelled : List Nat := [0, 1]
noncomputable def cs_law_spelled : List CS := [.asg 2 (.cstr ""),
  .for_ (.one 3) (.rng [(.cint 4)])
    [.ite (.cmp .Gt (.var 0) (.cint 0))
       [.asg 4 (.call "_high_bit" [(.var 0)]),
        .asg 2 (.bin .Add (.var 2) (.idx (.cstr "abcdABCD") (.bin .Add (.var 4) (.bin .Mult (.cint 4) (.bin .BitAnd (.bin .RShift (.var 1) (.var 4)) (.cint 1)))))),
        .asg 0 (.bin .Sub (.var 0) (.bin .Pow (.cint 2) (.var 4)))]
       []],
  .ret (.var 2)]
noncomputable def tb_law_joined : List Str := [Str.ofString "drawn", Str.ofString "pairs", Str.ofString "table", Str.ofString "great", Str.ofString "rows", Str.ofString "letters", Str.ofString "name", Str.ofString "told", Str.ofString "row", Str.ofString "joined", Str.ofString "one", Str.ofString "left", Str.ofString "again", Str.ofString "two", Str.ofString "text", Str.ofString "apart", Str.ofString "single", Str.ofString "size", Str.ofString "word", Str.ofString "pair"]
noncomputable def pn_law_joined : List Str := [Str.ofString "drawn"]
noncomputable def ps_law_joined : List Nat := [0]
noncomputable def cs_law_joined : List CS := [.own 1 (.dlst []),
  .newH 2 (some 1),
  .for_ (.one 3) (.ce (.var 0))
    [.ifAddH 2 (.call "_law_spelled" [(.cint 15), (.var 3)]) (.bin .Mult (.cstr "i") (.var 3)) []],
  .own 4 (.dlst []),
  .for_ (.one 5) (.rng [(.cint 15), (.neg (.cint 1)), (.neg (.cint 1))])
    [.asg 6 (.call "_law_word" [(.var 5), (.cint 10)]),
     .asg 7 (.meth .getAll (.var 2) [(.var 6)]),
     .asg 8 (.comp (.prim .len [(.var 14)]) (.one 14) (.ce (.var 7)) []),
     .own 9 (.dlst []),
     .for_ (.one 10) (.rng [(.prim .len [(.var 8)])])
       [.for_ (.one 13) (.rng [(.bin .Add (.var 10) (.cint 1))])
          [.asg 15 (.bin .BitXor (.idx (.var 8) (.var 10)) (.idx (.var 8) (.var 13))),
           .asg 16 (.call "_is_single_bit" [(.var 15)]),
           .ite (.and [(.cmp .Is (.var 16) (.cbool true)), (.cmp .NotEq (.var 15) (.cint 0))])
             [.ext 9 (.dlst [(.idx (.var 8) (.var 10)), (.idx (.var 8) (.var 13))]),
              .asg 18 (.call "_law_spelled" [(.bin .Sub (.var 5) (.bin .Pow (.cint 2) (.call "_high_bit" [(.var 15)]))), (.bin .BitAnd (.idx (.var 8) (.var 10)) (.idx (.var 8) (.var 13)))]),
              .ite (.cmp .NotIn (.var 18) (.meth .keys (.var 2) []))
                [.addH 2 (.var 18) (.bin .Mult (.cstr "i") (.bin .BitAnd (.idx (.var 8) (.var 10)) (.idx (.var 8) (.var 13))))]
                []]
             [.ite (.or [(.cmp .IsNot (.var 16) (.cbool false)), (.and [(.cmp .Eq (.var 15) (.cint 0)), (.cmp .NotEq (.call "_high_bit" [(.var 15)]) (.neg (.cint 1)))])])
                [.ret (.dtup [(.dlst []), (.dlst [])])]
                []]]],
     .delH 2 (.var 6),
     .asg 11 (.comp (.var 17) (.one 17) (.ce (.var 8)) [(.cmp .NotIn (.var 17) (.var 9))]),
     .for_ (.one 3) (.ce (.var 11))
       [.addH 2 (.call "_law_spelled" [(.var 5), (.var 3)]) (.bin .Mult (.cstr "i") (.var 3))],
     .asg 12 (.meth .getAll (.var 2) [(.call "_law_word" [(.var 5), (.cint 5)])]),
     .ite (.cmp .NotEq (.dlst [(.var 7), (.var 12)]) (.dlst [(.comp (.bin .Mult (.cstr "i") (.var 17)) (.one 17) (.ce (.var 8)) []), (.comp (.bin .Mult (.cstr "i") (.var 17)) (.one 17) (.ce (.var 11)) [])]))
       [.ret (.dtup [(.dlst []), (.dlst [])])]
       [],
     .app 4 (.var 8)],
  .ite (.or [(.cmp .NotEq (.meth .items (.var 2) []) (.var 1)), (.cmp .NotEq (.meth .keys (.var 2) []) (.comp (.idx (.var 19) (.cint 0)) (.one 19) (.ce (.var 1)) []))])
    [.ret (.dtup [(.dlst []), (.dlst [])])]
    [],
  .ret (.dtup [(.var 4), (.var 1)])]
noncomputable def tb_law_covers : List Str := [Str.ofString "chosen", Str.ofString "letters", Str.ofString "cells", Str.ofString "size", Str.ofString "place", Str.ofString "great", Str.ofString "cell"]
noncomputable def pn_law_covers : List Str := [Str.ofString "chosen", Str.ofString "letters"]
noncomputable def ps_law_covers : List Nat := [0, 1]
noncomputable def cs_law_covers : List CS := [.own 2 (.comp (.bin .BitAnd (.var 5) (.var 1)) (.one 5) (.ce (.var 0)) []),
  .asg 3 (.cint 1),
  .for_ (.one 4) (.rng [(.cint 4)])
    [.ite (.not (.val (.bin .BitAnd (.bin .RShift (.var 1) (.var 4)) (.cint 1))))
       [.asg 3 (.bin .Mult (.cint 2) (.var 3))]
       []],
  .ret (.comp (.var 6) (.one 6) (.ce (.prim .sortedSet [(.var 2)])) [(.cmp .Eq (.prim .count [(.var 2), (.var 6)]) (.var 3))])]
noncomputable def tb_law_can_go : List Str := [Str.ofString "covers", Str.ofString "letters", Str.ofString "great", Str.ofString "place"]
noncomputable def pn_law_can_go : List Str := [Str.ofString "covers", Str.ofString "letters", Str.ofString "great"]
noncomputable def ps_law_can_go : List Nat := [0, 1, 2]
noncomputable def cs_law_can_go : List CS := [.for_ (.one 3) (.rng [(.cint 4)])
    [.ite (.and [(.val (.bin .BitAnd (.bin .RShift (.var 1) (.var 3)) (.cint 1))), (.cmp .In (.bin .BitAnd (.var 2) (.bin .Sub (.cint 15) (.bin .Pow (.cint 2) (.var 3)))) (.idx (.var 0) (.bin .Add (.bin .Sub (.cint 15) (.var 1)) (.bin .Pow (.cint 2) (.var 3)))))])
       [.ret (.cbool true)]
       []],
  .ret (.cbool false)]
noncomputable def tblaw : List Str := [Str.ofString "script", Str.ofString "drawn", Str.ofString "chosen", Str.ofString "covers", Str.ofString "due", Str.ofString "letters", Str.ofString "rows", Str.ofString "items", Str.ofString "great", Str.ofString "turn", Str.ofString "row"]
noncomputable def pnlaw : List Str := [Str.ofString "script"]
noncomputable def pslaw : List Nat := [0]
noncomputable def cslaw : List CS := [.asg 1 (.call "_law_drawn" [(.var 0)]),
  .asgM [6, 7] (.call "_law_joined" [(.var 1)]),
  .asg 2 (.prim .sortedSet [(.var 1)]),
  .asg 3 (.comp (.call "_law_covers" [(.var 2), (.var 9)]) (.one 9) (.rng [(.cint 15), (.neg (.cint 1)), (.neg (.cint 1))]) []),
  .ite (.or [(.cmp .NotEq (.take (.var 6) 1) (.dlst [(.var 1)])), (.cmp .NotEq (.comp (.prim .sorted [(.var 10)]) (.one 10) (.ce (.drop (.var 6) 1)) []) (.drop (.var 3) 1))])
    [.ret (.cbool false)]
    [],
  .own 4 (.dlst []),
  .for_ (.one 5) (.rng [(.cint 16)])
    [.for_ (.one 8) (.ce (.ite (.cmp .Eq (.var 5) (.cint 15)) (.var 1) (.idx (.var 3) (.bin .Sub (.cint 15) (.var 5)))))
       [.ite (.not (.val (.call "_law_can_go" [(.var 3), (.var 5), (.var 8)])))
          [.app 4 (.dtup [(.call "_law_word" [(.var 5), (.var 8)]), (.bin .Mult (.cstr "i") (.var 8))])]
          []]],
  .ret (.cmp .Eq (.prim .sortedP [(.var 7)]) (.prim .sortedP [(.var 4)]))]
noncomputable abbrev K (P : Params) : Frag := hd01.heap_39 P
set_option maxRecDepth 100000
theorem f_getAll (P : Params) : MethFacts (K P) 182 121 "get_all" tbGetAll csGetAll [0, 1] [Str.ofString "self", Str.ofString "name"] :=
  ⟨by kernel_rfl, by kernel_rfl, by kernel_rfl, _, rfl, by kernel_rfl, by kernel_rfl, all2 (fun _ _ => rfl)⟩
theorem f_keys (P : Params) : MethFacts (K P) 182 134 "keys" tbKeys csKeys [0] [Str.ofString "self"] :=
  ⟨by kernel_rfl, by kernel_rfl, by kernel_rfl, _, rfl, by kernel_rfl, by kernel_rfl, all1 (fun _ => rfl)⟩
theorem f_items (P : Params) : MethFacts (K P) 182 146 "items" tbItems csItems [0] [Str.ofString "self"] :=
  ⟨by kernel_rfl, by kernel_rfl, by kernel_rfl, _, rfl, by kernel_rfl, by kernel_rfl, all1 (fun _ => rfl)⟩
theorem f_conv (P : Params) : ConvFacts (K P) 182 83 48 53 :=
  ⟨by kernel_rfl, by kernel_rfl, by kernel_rfl, _, _, rfl, rfl, by kernel_rfl, rfl, rfl, rfl, by kernel_rfl, by kernel_rfl, by kernel_rfl, fun _ _ _ => rfl⟩
theorem f_row (P : Params) : RowFacts (K P) 182 83 48 53 :=
  ⟨by kernel_rfl, by kernel_rfl, by kernel_rfl, by kernel_rfl, f_conv P, by kernel_rfl, by kernel_rfl, by kernel_rfl, by kernel_rfl, by kernel_rfl⟩
theorem f_add (P : Params) : AddFacts (K P) 182 179 :=
  ⟨by kernel_rfl, by kernel_rfl, by kernel_rfl, _, _, rfl, rfl, by kernel_rfl, rfl, rfl, rfl, by kernel_rfl, by kernel_rfl, by kernel_rfl, fun _ _ _ => rfl⟩
theorem f_del (P : Params) : DelFacts (K P) 182 102 :=
  ⟨by kernel_rfl, by kernel_rfl, by kernel_rfl, _, _, rfl, rfl, by kernel_rfl, rfl, rfl, rfl, by kernel_rfl, by kernel_rfl, by kernel_rfl, fun _ _ => rfl⟩
theorem f_init (P : Params) : InitFacts (K P) 182 76 :=
  ⟨by kernel_rfl, by kernel_rfl, by kernel_rfl, by kernel_rfl, by kernel_rfl, by kernel_rfl, by kernel_rfl, _, _, rfl, rfl, by kernel_rfl, rfl, rfl, rfl, by kernel_rfl, by kernel_rfl, by kernel_rfl, _, by kernel_rfl, fun _ _ => ⟨_, rfl, rfl⟩⟩
theorem f_cls (P : Params) : ClassFacts (K P) 182 76 179 97 102 := ⟨f_init P, f_add P, f_del P⟩
theorem f_is_single_bit (P : Params) : DefFacts (K P) 193 "_is_single_bit" tb_is_single_bit cs_is_single_bit ps_is_single_bit pn_is_single_bit :=
  ⟨by kernel_rfl, _, rfl, by kernel_rfl, by kernel_rfl, all1 (fun _ => rfl)⟩
theorem f_high_bit (P : Params) : DefFacts (K P) 200 "_high_bit" tb_high_bit cs_high_bit ps_high_bit pn_high_bit :=
  ⟨by kernel_rfl, _, rfl, by kernel_rfl, by kernel_rfl, all1 (fun _ => rfl)⟩
theorem f_law_drawn (P : Params) : DefFacts (K P) 205 "_law_drawn" tb_law_drawn cs_law_drawn ps_law_drawn pn_law_drawn :=
  ⟨by kernel_rfl, _, rfl, by kernel_rfl, by kernel_rfl, all1 (fun _ => rfl)⟩
theorem f_law_word (P : Params) : DefFacts (K P) 212 "_law_word" tb_law_word cs_law_word ps_law_word pn_law_word :=
  ⟨by kernel_rfl, _, rfl, by kernel_rfl, by kernel_rfl, all2 (fun _ _ => rfl)⟩
theorem f_law_spelled (P : Params) : DefFacts (K P) 219 "_law_spelled" tb_law_spelled cs_law_spelled ps_law_spelled pn_law_spelled :=
  ⟨by kernel_rfl, _, rfl, by kernel_rfl, by kernel_rfl, all2 (fun _ _ => rfl)⟩
theorem f_law_joined (P : Params) : DefFacts (K P) 224 "_law_joined" tb_law_joined cs_law_joined ps_law_joined pn_law_joined :=
  ⟨by kernel_rfl, _, rfl, by kernel_rfl, by kernel_rfl, all1 (fun _ => rfl)⟩
theorem f_law_covers (P : Params) : DefFacts (K P) 229 "_law_covers" tb_law_covers cs_law_covers ps_law_covers pn_law_covers :=
  ⟨by kernel_rfl, _, rfl, by kernel_rfl, by kernel_rfl, all2 (fun _ _ => rfl)⟩
theorem f_law_can_go (P : Params) : DefFacts (K P) 236 "_law_can_go" tb_law_can_go cs_law_can_go ps_law_can_go pn_law_can_go :=
  ⟨by kernel_rfl, _, rfl, by kernel_rfl, by kernel_rfl, all3 (fun _ _ _ => rfl)⟩
theorem flaw (P : Params) : DefFacts (K P) 241 "law" tblaw cslaw pslaw pnlaw :=
  ⟨by kernel_rfl, _, rfl, by kernel_rfl, by kernel_rfl, all1 (fun _ => rfl)⟩
noncomputable def Φ0 : Fns := fun _ => none
noncomputable def Φ1 : Fns := Φ0.set (hmKey .getAll) fun _ => none
noncomputable def Φ2 : Fns := Φ1.set (hmKey .keys) fun _ => none
noncomputable def Φ3 : Fns := Φ2.set (hmKey .items) fun _ => none
noncomputable def Φ4 : Fns := Φ3.set ".sortedP" fun _ => none
noncomputable def Φ5 : Fns := Φ4.set ".sortedSet" fun _ => none
noncomputable def Φ6 : Fns := Φ5.set "_is_single_bit" (runF Φ5 ps_is_single_bit cs_is_single_bit)
noncomputable def Φ7 : Fns := Φ6.set "_high_bit" (runF Φ6 ps_high_bit cs_high_bit)
noncomputable def Φ8 : Fns := Φ7.set "_law_drawn" (runF Φ7 ps_law_drawn cs_law_drawn)
noncomputable def Φ9 : Fns := Φ8.set "_law_word" (runF Φ8 ps_law_word cs_law_word)
noncomputable def Φ10 : Fns := Φ9.set "_law_spelled" (runF Φ9 ps_law_spelled cs_law_spelled)
noncomputable def Φ11 : Fns := Φ10.set "_law_joined" (runF Φ10 ps_law_joined cs_law_joined)
noncomputable def Φ12 : Fns := Φ11.set "_law_covers" (runF Φ11 ps_law_covers cs_law_covers)
noncomputable def Φ13 : Fns := Φ12.set "_law_can_go" (runF Φ12 ps_law_can_go cs_law_can_go)
theorem hyp {prog : Program} {w : World} {h0 : Heap} (X : (K w.params).In h0) (nl : h0.NoLimit) {mg mb : Str → Option Value} (G : h0.Ns mainGlobals mg) (B : h0.Ns builtinsNs mb) (hb : ∀ x : Str, x ≠ "__name__" → mb x = bootBuiltins x) : Hyp prog w h0 182 20 Φ13 ∧ HdrHyp prog w h0 182 20 Φ13 := by
  have H0 : Hyp prog w h0 182 1 Φ0 := base_K X nl G B hb (f_row w.params)
  have H1 : Hyp prog w h0 182 2 Φ1 := (H0.up (by decide)).addM (getAll_K X H0 (f_getAll w.params)) _
  have H2 : Hyp prog w h0 182 2 Φ2 := (H1.up (by decide)).addM (keys_K X H0 (f_keys w.params)) _
  have H3 : Hyp prog w h0 182 2 Φ3 := (H2.up (by decide)).addM (items_K X H0 (f_items w.params)) _
  have H4 : Hyp prog w h0 182 2 Φ4 := H3.addSort ".sortedP" (by decide) (fun m => by cases m <;> decide) _
  have H5 : Hyp prog w h0 182 2 Φ5 := H4.addSort ".sortedSet" (by decide) (fun m => by cases m <;> decide) _
  have X5 : HdrHyp prog w h0 182 4 Φ5 := hdr_K X H5 (f_cls w.params) (glob_at X G B (f_row w.params).hdr) (boot_at X G B hb (f_row w.params).boots (x := "type") (by decide) (by decide) b_type) (boot_at X G B hb (f_row w.params).boots (x := "list") (by decide) (by decide) b_list)
  have I5 : Hyp prog w h0 182 4 Φ5 := H5.up (by decide)
  have I6 : Hyp prog w h0 182 5 Φ6 := (I5.up (by decide)).add (def_K X G B X5 I5 (f_is_single_bit w.params)) (by decide)
  have X6 : HdrHyp prog w h0 182 5 Φ6 := (X5.up (by decide)).set' (by decide)
  have I7 : Hyp prog w h0 182 6 Φ7 := (I6.up (by decide)).add (def_K X G B X6 I6 (f_high_bit w.params)) (by decide)
  have X7 : HdrHyp prog w h0 182 6 Φ7 := (X6.up (by decide)).set' (by decide)
  have I8 : Hyp prog w h0 182 7 Φ8 := (I7.up (by decide)).add (def_K X G B X7 I7 (f_law_drawn w.params)) (by decide)
  have X8 : HdrHyp prog w h0 182 7 Φ8 := (X7.up (by decide)).set' (by decide)
  have I9 : Hyp prog w h0 182 8 Φ9 := (I8.up (by decide)).add (def_K X G B X8 I8 (f_law_word w.params)) (by decide)
  have X9 : HdrHyp prog w h0 182 8 Φ9 := (X8.up (by decide)).set' (by decide)
  have I10 : Hyp prog w h0 182 9 Φ10 := (I9.up (by decide)).add (def_K X G B X9 I9 (f_law_spelled w.params)) (by decide)
  have X10 : HdrHyp prog w h0 182 9 Φ10 := (X9.up (by decide)).set' (by decide)
  have I11 : Hyp prog w h0 182 10 Φ11 := (I10.up (by decide)).add (def_K X G B X10 I10 (f_law_joined w.params)) (by decide)
  have X11 : HdrHyp prog w h0 182 10 Φ11 := (X10.up (by decide)).set' (by decide)
  have I12 : Hyp prog w h0 182 11 Φ12 := (I11.up (by decide)).add (def_K X G B X11 I11 (f_law_covers w.params)) (by decide)
  have X12 : HdrHyp prog w h0 182 11 Φ12 := (X11.up (by decide)).set' (by decide)
  have I13 : Hyp prog w h0 182 12 Φ13 := (I12.up (by decide)).add (def_K X G B X12 I12 (f_law_can_go w.params)) (by decide)
  have X13 : HdrHyp prog w h0 182 12 Φ13 := (X12.up (by decide)).set' (by decide)
  exact ⟨I13.up (by decide), X13.up (by decide)⟩
noncomputable abbrev Φ : Fns := Φ13
end L1
end Mine
end
section
open PySem PySem.W PyProof.Rows
set_option autoImplicit false
set_option maxRecDepth 100000
namespace Mine
inductive Gd : Nat → D → Prop
  | none (n : Nat) : Gd n .none
  | int (n : Nat) (i : Int) : Gd n (.int i)
  | str (n : Nat) {x : Str} : PyData.strOk x = true → Gd n (.str x)
  | lst {n : Nat} {ds : List D} : (∀ d ∈ ds, Gd n d) → Gd (n + 1) (.lst ds)
  | tup {n : Nat} {ds : List D} : (∀ d ∈ ds, Gd n d) → Gd (n + 1) (.tup ds)
theorem noHdrs_of {ds : List D} (h : ∀ d ∈ ds, d.noHdr = true) : noHdrs ds = true := by
  induction ds with
  | nil => rfl
  | cons d ds ih => rw [noHdrs, h d (.head _), ih fun x hx => h x (.tail _ hx)]; rfl
theorem canLayAll_of {ds : List D} (h : ∀ d ∈ ds, (toPy d).canLay0 = true) : PyData.canLayAll0 (toPys ds) = true := by
  induction ds with
  | nil => rfl
  | cons d ds ih => rw [toPys, PyData.canLayAll0, h d (.head _), ih fun x hx => h x (.tail _ hx)]; rfl
theorem depthAll_of {ds : List D} {n : Nat} (h : ∀ d ∈ ds, (toPy d).depth ≤ n) : PyData.depthAll (toPys ds) ≤ n := by
  induction ds with
  | nil => rw [toPys, PyData.depthAll]; exact Nat.zero_le _
  | cons d ds ih =>
    rw [toPys, PyData.depthAll]
    have h1 := h d (.head _)
    have h2 := ih fun x hx => h x (.tail _ hx)
    exact om_56 h1 h2
theorem Gd.parts {n : Nat} {d : D} (h : Gd n d) : d.noHdr = true ∧ (toPy d).canLay0 = true ∧ (toPy d).depth ≤ n := by
  induction h with
  | none n => exact ⟨rfl, rfl, Nat.zero_le _⟩
  | int n i => exact ⟨rfl, rfl, Nat.zero_le _⟩
  | str n hx => exact ⟨rfl, by rw [tp_str, PyData.canLay0]; exact hx, Nat.zero_le _⟩
  | lst _ ih =>
    refine ⟨by rw [nh_lst]; exact noHdrs_of fun d hd => (ih d hd).1, by rw [tp_lst, PyData.canLay0]; exact canLayAll_of fun d hd => (ih d hd).2.1, ?_⟩
    rw [tp_lst, PyData.depth]
    exact Nat.succ_le_succ (depthAll_of fun d hd => (ih d hd).2.2)
  | tup _ ih =>
    refine ⟨by rw [nh_tup]; exact noHdrs_of fun d hd => (ih d hd).1, by rw [tp_tup, PyData.canLay0]; exact canLayAll_of fun d hd => (ih d hd).2.1, ?_⟩
    rw [tp_tup, PyData.depth]
    exact Nat.succ_le_succ (depthAll_of fun d hd => (ih d hd).2.2)
theorem Gd.okc {n : Nat} {d : D} (h : Gd n d) (hn : n ≤ 64) : Mine.okc d = true := by
  refine oE0_3 h.parts fun h1 h2 h3 => ?_
  unfold Mine.okc SeqAt.shaped
  rw [h1, h2, decide_eq_true (Nat.le_trans h3 hn)]; rfl
theorem Gd.mono {n m : Nat} {d : D} (h : Gd n d) (hm : n ≤ m) : Gd m d := by
  induction h generalizing m with
  | none n => exact .none _
  | int n i => exact .int _ _
  | str n hx => exact .str _ hx
  | lst _ ih =>
    cases m with
    | zero => exact (om_57 hm).elim
    | succ m => exact .lst fun d hd => ih d hd (Nat.le_of_succ_le_succ hm)
  | tup _ ih =>
    cases m with
    | zero => exact (om_57 hm).elim
    | succ m => exact .tup fun d hd => ih d hd (Nat.le_of_succ_le_succ hm)
theorem eqAll_iff {n m : Nat} : ∀ {as bs : List D}, (∀ a ∈ as, ∀ b, Gd m b → (eqD a b = true ↔ a = b)) → (∀ b ∈ bs, Gd m b) → (PyData.eqvAll (toPys as) (toPys bs) = true ↔ as = bs)
  | [], [], _, _ => by simp [toPys, PyData.eqvAll]
  | [], b :: bs, _, _ => by simp [toPys, PyData.eqvAll]
  | a :: as, [], _, _ => by simp [toPys, PyData.eqvAll]
  | a :: as, b :: bs, ha, hb => by
    rw [toPys, toPys, PyData.eqvAll, Bool.and_eq_true, List.cons.injEq]
    exact and_congr (ha a (.head _) b (hb b (.head _))) (eqAll_iff (n := n) (fun x hx => ha x (.tail _ hx)) fun x hx => hb x (.tail _ hx))
theorem Gd.eq {n : Nat} {a : D} (h : Gd n a) : ∀ {m : Nat} {b : D}, Gd m b → (eqD a b = true ↔ a = b) := by
  induction h with
  | none n => intro m b hb; cases hb <;> simp [eqD, tp_none, tp_int, tp_str, tp_tup, tp_lst, PyData.eqv]
  | int n i => intro m b hb; cases hb <;> simp [eqD, tp_none, tp_int, tp_str, tp_tup, tp_lst, PyData.eqv]
  | str n hx => intro m b hb; cases hb <;> simp [eqD, tp_none, tp_int, tp_str, tp_tup, tp_lst, PyData.eqv]
  | lst _ ih =>
    intro m b hb
    cases hb with
    | lst hbs =>
      unfold eqD
      rw [tp_lst, tp_lst, PyData.eqv, D.lst.injEq]
      exact eqAll_iff (n := 0) (fun a ha b hb => ih a ha hb) hbs
    | _ => simp [eqD, tp_none, tp_int, tp_str, tp_tup, tp_lst, PyData.eqv]
  | tup _ ih =>
    intro m b hb
    cases hb with
    | tup hbs =>
      unfold eqD
      rw [tp_tup, tp_tup, PyData.eqv, D.tup.injEq]
      exact eqAll_iff (n := 0) (fun a ha b hb => ih a ha hb) hbs
    | _ => simp [eqD, tp_none, tp_int, tp_str, tp_tup, tp_lst, PyData.eqv]
theorem Gd.refl {n : Nat} {a : D} (h : Gd n a) : eqD a a = true := (h.eq h).mpr rfl
theorem Gd.ints (l : List Int) : Gd 1 (.lst (l.map .int)) := .lst fun d hd => by refine oE1_2 (List.mem_map.mp hd) fun i _ rq2 => ?_; subst rq2; exact .int _ _
theorem strOk_of {x : Str} (h : plainS x = true) : PyData.strOk x = true := by
  simp only [plainS, Bool.and_eq_true, decide_eq_true_eq] at h
  unfold PyData.strOk
  rw [Array.all_eq_true] at h ⊢
  intro i hi
  have := letter_num (h.1 i hi)
  simp only [decide_eq_true_eq]
  exact om_50 this.2
theorem Gd.strs {l : List Str} (h : ∀ x ∈ l, plainS x = true) : Gd 1 (.lst (l.map .str)) := .lst fun d hd => by refine oE1_2 (List.mem_map.mp hd) fun x hx rq1 => ?_; subst rq1; exact .str _ (strOk_of (h x hx))
theorem cmp_eq {n m : Nat} {a b : D} (ha : Gd n a) (hb : Gd m b) (hn : n ≤ 64) (hm : m ≤ 64) : cmpD .Eq a b = some (eqD a b) := by
  show (if Mine.okc a && Mine.okc b then some (eqD a b) else none) = _
  rw [ha.okc hn, hb.okc hm]; rfl
theorem cmp_ne {n m : Nat} {a b : D} (ha : Gd n a) (hb : Gd m b) (hn : n ≤ 64) (hm : m ≤ 64) : cmpD .NotEq a b = some (!eqD a b) := by
  show (if Mine.okc a && Mine.okc b then some (!eqD a b) else none) = _
  rw [ha.okc hn, hb.okc hm]; rfl
theorem cmp_eq_self {n : Nat} {a : D} (ha : Gd n a) (hn : n ≤ 64) : cmpD .Eq a a = some true := by rw [cmp_eq ha ha hn hn, ha.refl]
theorem cmp_ne_self {n : Nat} {a : D} (ha : Gd n a) (hn : n ≤ 64) : cmpD .NotEq a a = some false := by rw [cmp_ne ha ha hn hn, ha.refl]; rfl
theorem eqD_int (i j : Int) : eqD (.int i) (.int j) = decide (i = j) := by
  unfold eqD; rw [tp_int, tp_int]
  show (i == j) = _
  by_cases h : i = j <;> simp [h]
theorem cmp_eq_int (i j : Int) : cmpD .Eq (.int i) (.int j) = some (decide (i = j)) := by rw [cmp_eq (.int 0 i) (.int 0 j) (by decide) (by decide), eqD_int]
theorem cmp_ne_int (i j : Int) : cmpD .NotEq (.int i) (.int j) = some (!decide (i = j)) := by rw [cmp_ne (.int 0 i) (.int 0 j) (by decide) (by decide), eqD_int]
theorem any_int (l : List Int) (i : Int) : ((l.map D.int).any fun b => eqD b (.int i)) = decide (i ∈ l) := by
  induction l with
  | nil => rfl
  | cons a l ih =>
    rw [List.map_cons, List.any_cons, ih, eqD_int]
    by_cases h : a = i
    · simp [h]
    · have : ¬ i = a := fun q => h q.symm
      simp [h, this]
theorem cmp_in_int (i : Int) (l : List Int) : cmpD .In (.int i) (.lst (l.map .int)) = some (decide (i ∈ l)) := by
  show (if Mine.okc (.int i) && Mine.okc (.lst (l.map .int)) then some ((l.map D.int).any fun b => eqD b (.int i)) else none) = _
  rw [(Gd.int 0 i).okc (by decide), (Gd.ints l).okc (by decide), any_int]; rfl
theorem cmp_notin_int (i : Int) (l : List Int) : cmpD .NotIn (.int i) (.lst (l.map .int)) = some (!decide (i ∈ l)) := by
  show (cmpD .In (.int i) (.lst (l.map .int))).map (!·) = _
  rw [cmp_in_int]; rfl
theorem any_str (l : List Str) (x : Str) : ((l.map D.str).any fun b => eqD b (.str x)) = decide (x ∈ l) := by
  induction l with
  | nil => rfl
  | cons a l ih =>
    rw [List.map_cons, List.any_cons, ih, eqD_str]
    by_cases h : a = x
    · simp [h]
    · have : ¬ x = a := fun q => h q.symm
      simp [h, this]
theorem cmp_in_str {x : Str} {l : List Str} (hx : plainS x = true) (hl : ∀ y ∈ l, plainS y = true) : cmpD .In (.str x) (.lst (l.map .str)) = some (decide (x ∈ l)) := by
  show (if Mine.okc (.str x) && Mine.okc (.lst (l.map .str)) then some ((l.map D.str).any fun b => eqD b (.str x)) else none) = _
  rw [okc_str hx, (Gd.strs hl).okc (by decide), any_str]; rfl
theorem cmp_notin_str {x : Str} {l : List Str} (hx : plainS x = true) (hl : ∀ y ∈ l, plainS y = true) : cmpD .NotIn (.str x) (.lst (l.map .str)) = some (!decide (x ∈ l)) := by
  show (cmpD .In (.str x) (.lst (l.map .str))).map (!·) = _
  rw [cmp_in_str hx hl]; rfl
theorem asInts_map (l : List Int) : asInts (l.map .int) = some l := by
  induction l with
  | nil => rfl
  | cons a l ih => rw [List.map_cons, ai_cons, ih]; rfl
theorem asPairs_pairs (l : List (Str × Str)) : asPairs (l.map pairD) = some l := by
  induction l with
  | nil => rfl
  | cons a l ih => rw [List.map_cons]; show (asPairs (l.map pairD)).map ((a.1, a.2) :: ·) = _; rw [ih]; rfl
theorem compL_map {α : Type} {F : D → Option (Option D)} {f g : α → D} {q : α → Bool} : ∀ {l : List α}, (∀ x ∈ l, F (f x) = if q x then some (some (g x)) else some none) → compL F (l.map f) = some ((l.filter q).map g)
  | [], _ => rfl
  | x :: l, h => by
    have ih := compL_map (l := l) fun y hy => h y (.tail _ hy)
    rw [List.map_cons, cl_cons, h x (.head _), List.filter_cons]
    cases hq : q x with
    | true => simp only [if_true]; rw [ih]; rfl
    | false => simp only [Bool.false_eq_true, if_false]; exact ih
theorem compL_all {α : Type} {F : D → Option (Option D)} {f g : α → D} {l : List α} (h : ∀ x ∈ l, F (f x) = some (some (g x))) : compL F (l.map f) = some (l.map g) := by
  rw [compL_map (q := fun _ => true) (g := g) fun x hx => by rw [h x hx]; rfl]
  rw [List.filter_eq_self.mpr fun _ _ => rfl]
set_option tactic.hygienic true in
theorem size_le {a b c : Int} (ha : 0 ≤ a) (hb : 0 ≤ b) (hc : 0 < c) : 0 ≤ Builtin.Range.rangeSize a b c ∧ Builtin.Range.rangeSize a b c ≤ b := by
  unfold Builtin.Range.rangeSize
  rw [if_pos hc]
  split
  · rename_i h
    have h1 : 0 ≤ (b - a - 1) / c := Int.ediv_nonneg (by exact om_58 h) (by exact om_59 hc)
    have h2 : (b - a - 1) / c ≤ b - a - 1 := Int.ediv_le_self _ (by exact om_58 h)
    exact om_60 ha h1 h2
  · exact om_61 hb
theorem small_pos {a b c : Int} (ha : 0 ≤ a) (ha' : a < 2 ^ 29) (hb : 0 ≤ b) (hb' : b < 2 ^ 29) (hc : 0 < c) (hc' : c < 2 ^ 29) : Builtin.Range.small a b c = true := by
  obtain ⟨h1, h2⟩ := size_le ha hb hc
  unfold Builtin.Range.small Builtin.Range.rangeFitsLong
  generalize Builtin.Range.rangeSize a b c = n at h1 h2 ⊢
  simp only [Bool.and_eq_true, Bool.or_eq_true, decide_eq_true_eq, hc, if_true]
  refine ⟨⟨⟨⟨?_, ?_⟩, ?_⟩, ?_⟩, .inr ?_⟩ <;> first | omega | (constructor <;> omega)
theorem rng1 {n : Nat} (h : n < 2 ^ 29) : rngD [.int (n : Int)] = some ((List.range n).map fun (i : Nat) => .int (i : Int)) := by
  have h1 : Builtin.Range.rangeSize 0 (n : Int) 1 = n := by
    unfold Builtin.Range.rangeSize
    simp only [show (1 : Int) > 0 by decide, if_true]
    split
    · rw [Int.ediv_one]; exact om_62
    · omega
  have e0 : ∀ b, rngD [.int b] = rng2 0 b := fun _ => rfl
  rw [e0]
  unfold rng2
  rw [if_pos (small_pos (by exact om_37) (by decide) (by exact om_63) (by exact om_64 h) (by decide) (by decide))]
  unfold rngS; rw [h1]
  congr 1
  rw [Int.toNat_natCast]
  apply List.map_congr_left
  intro i _
  congr 1
  exact om_65
theorem view_val {st : St} {x : Nat} {d : D} (h : st.ρ x = some (.val d)) : st.view x = some (d, false) := by unfold St.view; rw [h]
theorem view_own {st : St} {x k : Nat} {ds : List D} (h : st.ρ x = some (.own k)) (hk : st.σ[k]? = some ds) : st.view x = some (.lst ds, true) := by unfold St.view; rw [h]; simp only [hk, Option.map_some]
theorem view_hob {st : St} {x k : Nat} {ds : List D} (h : st.ρ x = some (.hob k)) (hk : st.σ[k]? = some ds) : st.view x = some (.hdr ds, true) := by unfold St.view; rw [h]; simp only [hk, Option.map_some]
theorem upd_eq {st : St} {k : Nat} {f : List D → Option (List D)} {ds es : List D} (h : st.σ[k]? = some ds) (hf : f ds = some es) : st.upd k f = some { st with σ := st.σ.set k es } := by
  unfold St.upd; rw [h]; simp only [hf, Option.map_some]
set_option tactic.hygienic true in
theorem cxs_cons {Φ : Fns} {c : CS} {r : List CS} {st st1 : St} (h : cx Φ c st = some (st1, .next)) : cxs Φ (c :: r) st = cxs Φ r st1 := by rw [qxs_cons, h]
theorem cxs_ret {Φ : Fns} {c : CS} {r : List CS} {st st1 : St} {d : D} (h : cx Φ c st = some (st1, .ret d)) : cxs Φ (c :: r) st = some (st1, .ret d) := by rw [qxs_cons, h]
theorem cxs_one {Φ : Fns} {c : CS} {st st1 : St} {fl : Fl} (h : cx Φ c st = some (st1, fl)) : cxs Φ [c] st = some (st1, fl) := by
  rw [qxs_cons, h]
  cases fl <;> rfl
noncomputable abbrev turn (Φ : Fns) (tgt : Tgt) (body : List CS) : D → St → Option (St × Fl) := fun d s => match setT tgt d s with
  | some s' => cxs Φ body s'
  | none => none
set_option tactic.hygienic true in
theorem loop_map {α : Type} {f : D → St → Option (St × Fl)} {g : α → D} (I : List α → St → Prop) {l : List α} {st : St} (h0 : I [] st) (hs : ∀ pre x post st, l = pre ++ x :: post → I pre st → ∃ st', f (g x) st = some (st', .next) ∧ I (pre ++ [x]) st') :
    ∃ st', loopG f (l.map g) st = some (st', .next) ∧ I l st' := by
  have key : ∀ (l pre : List α) (st : St), I pre st → (∀ pre' x post st, pre ++ l = pre' ++ x :: post → I pre' st → ∃ st', f (g x) st = some (st', .next) ∧ I (pre' ++ [x]) st') → ∃ st', loopG f (l.map g) st = some (st', .next) ∧ I (pre ++ l) st' := by
    intro l
    induction l with
    | nil => intro pre st h _; exact ⟨st, rfl, by rw [List.append_nil]; exact h⟩
    | cons x l ih =>
      intro pre st h hs
      refine oE1_2 (hs pre x l st rfl h) fun st1 h1 h2 => ?_
      have e : pre ++ x :: l = (pre ++ [x]) ++ l := by simp
      refine oE1_2 (ih (pre ++ [x]) st1 h2 (fun pre' y post st hp => hs pre' y post st (e.trans hp))) fun st2 h3 h4 => ?_
      refine ⟨st2, ?_, by rw [e]; exact h4⟩
      rw [List.map_cons, lg_cons, h1]
      exact h3
  exact key l [] st h0 (fun pre' x post st hp => hs pre' x post st hp)
theorem runF_eq {Φ : Fns} {ps : List Nat} {cs : List CS} {ds : List D} {st : St} {d : D} (hl : ps.length = ds.length) (h : cxs Φ cs (startSt ps ds) = some (st, .ret d)) : runF Φ ps cs ds = some d := by
  unfold runF; rw [if_pos hl, h]
theorem and_nat (a b : Nat) : Builtin.bitAnd (a : Int) (b : Int) = ((a &&& b : Nat) : Int) := by
  unfold Builtin.bitAnd
  simp
theorem xor_tab : ∀ a < 64, ∀ b < 64, Builtin.bitXor ((a : Nat) : Int) ((b : Nat) : Int) = ((a ^^^ b : Nat) : Int) := by decide +kernel
theorem xor_nat {a b : Nat} (ha : a < 64) (hb : b < 64) : Builtin.bitXor (a : Int) (b : Int) = ((a ^^^ b : Nat) : Int) := xor_tab a ha b hb
theorem shr_nat (a k : Nat) : (a : Int).fdiv (2 ^ ((k : Int)).toNat) = ((a >>> k : Nat) : Int) := by
  rw [Int.toNat_natCast, Nat.shiftRight_eq_div_pow]
  have : ((2 : Int) ^ k) = ((2 ^ k : Nat) : Int) := by simp
  rw [this]
  exact Int.fdiv_eq_ediv_of_nonneg _ (Int.natCast_nonneg _)
theorem pow_nat (k : Nat) : (2 : Int) ^ ((k : Int)).toNat = ((2 ^ k : Nat) : Int) := by
  rw [Int.toNat_natCast]; simp
end Mine
end
section
open PySem PySem.W PyProof.Rows
set_option autoImplicit false
set_option maxRecDepth 100000
namespace Mine
theorem lineN_of {n : Nat} (h : n ≤ 1000000) : n ≤ lineN := Nat.le_trans h (by unfold lineN; decide)
set_option tactic.hygienic true in
theorem sum_at {Φ : Fns} {ρ : Env'} {xs xp xat k p : Nat} {ns : List Int} (h0 : ρ xs = some (.lst (ns.map .int), false)) (hp : ρ xp = some (.int (p : Int), false)) (hne : xs ≠ xat) (hn : ns.length ≤ 63) (hp' : p < 64) (hk : 0 < k) (hk' : k < 64) :
    ∃ s : Int, ev Φ (.prim .sum [.comp (.idx (.var xs) (.var xat)) (.one xat) (.rng [.var xp, .prim .len [.var xs], .cint (k : Int)]) []]) ρ = some (.int s, false) := by
  let n := (Builtin.Range.rangeSize (p : Int) (ns.length : Int) (k : Int)).toNat
  have hlen : (ns.map D.int).length = ns.length := List.length_map ..
  have hl : ev Φ (.prim .len [.var xs]) ρ = some (.int (ns.length : Int), false) := by
    have : primT Φ .len [(.lst (ns.map .int), false)] = some (.int (ns.length : Int)) := by
      show (if (ns.map D.int).length ≤ lineN then some (D.int ((ns.map D.int).length : Int)) else none) = _
      rw [hlen]
      exact if_pos (lineN_of (by exact om_69 hn))
    simp only [q_var, q_prim, qs_nil, qs_cons, h0, this]
    rfl
  have hrng : rngD [.int (p : Int), .int (ns.length : Int), .int (k : Int)] = some ((List.range n).map fun (i : Nat) => .int ((p : Int) + (i : Int) * (k : Int))) := by
    have q1 := small_pos (a := (p : Int)) (b := (ns.length : Int)) (c := (k : Int)) (by exact om_63) (by exact om_70 hp') (by exact om_63) (by exact om_71 hn) (by exact om_72 hk) (by exact om_70 hk')
    have q2 : decide ((k : Int) ≠ 0) = true := decide_eq_true (by exact om_73 hk)
    have q3 : decide ((k : Int).natAbs < 2 ^ 29) = true := decide_eq_true (by omega)
    have e0 : ∀ a b c, rngD [.int a, .int b, .int c] = rng3 a b c := fun _ _ _ => rfl
    rw [e0]
    unfold rng3
    simp only [q1, q2, q3, Bool.and_self, if_true]
    rfl
  have hidx : ∀ i ∈ List.range n, ∃ v, ns[p + i * k]? = some v := fun i hi => by
    have hi' := List.mem_range.mp hi
    have hlt : p + i * k < ns.length := by
      simp only [n] at hi'
      unfold Builtin.Range.rangeSize at hi'
      rw [if_pos (by exact om_74 hk)] at hi'
      split at hi'
      · rename_i hlt
        have h1 : 0 ≤ ((ns.length : Int) - p - 1) / k := Int.ediv_nonneg (by exact om_75 hlt) (by exact om_63)
        have h2 : (i : Int) ≤ ((ns.length : Int) - p - 1) / k := by exact om_76 hi'
        have h3 : (i : Int) * k ≤ (ns.length : Int) - p - 1 := (Int.le_ediv_iff_mul_le (by exact om_72 hk)).mp h2
        have h4 : ((i * k : Nat) : Int) = (i : Int) * k := by simp
        omega
      · simp at hi'
    exact ⟨ns[p + i * k], List.getElem?_eq_getElem hlt⟩
  have hw : wk Φ (.rng [.var xp, .prim .len [.var xs], .cint (k : Int)]) ρ = some ((List.range n).map fun (i : Nat) => .int ((p : Int) + (i : Int) * (k : Int))) := by
    simp only [qw_rng, qs_nil, qs_cons, hl]
    simp only [q_var, q_cint, hp, List.map_cons, List.map_nil]
    exact hrng
  have hsz : n ≤ 63 := by
    have := (size_le (a := (p : Int)) (b := (ns.length : Int)) (c := (k : Int)) (by exact om_63) (by exact om_63) (by exact om_72 hk)).2
    omega
  have hc : ev Φ (.comp (.idx (.var xs) (.var xat)) (.one xat) (.rng [.var xp, .prim .len [.var xs], .cint (k : Int)]) []) ρ = some (.lst (((List.range n).map fun i => (ns[p + i * k]?).getD 0).map .int), false) := by
    simp only [q_var, q_idx, q_comp, hw, List.length_map, List.length_range]
    rw [if_pos (lineN_of (by exact om_69 hsz)), compL_all (g := fun i => .int ((ns[p + i * k]?).getD 0)) fun i hi => ?_]
    · rw [List.map_map]; rfl
    · obtain ⟨v, hv⟩ := hidx i hi
      have b1 : bind1 ρ xat (.int ((p : Int) + (i : Int) * (k : Int))) xs = some (.lst (ns.map .int), false) := by unfold bind1; rw [if_neg hne, h0]
      have b2 : bind1 ρ xat (.int ((p : Int) + (i : Int) * (k : Int))) xat = some (.int ((p : Int) + (i : Int) * (k : Int)), false) := by unfold bind1; rw [if_pos rfl]
      have e : (p : Int) + (i : Int) * (k : Int) = ((p + i * k : Nat) : Int) := by simp
      have hlt : p + i * k < ns.length := by
        rcases Nat.lt_or_ge (p + i * k) ns.length with z | z
        · exact z
        · rw [List.getElem?_eq_none z] at hv; cases hv
      have ix : idxD (.lst (ns.map .int)) (.int ((p : Int) + (i : Int) * (k : Int))) = some (.int v) := by
        rw [e]
        have q1 : decide (0 ≤ ((p + i * k : Nat) : Int)) = true := decide_eq_true (by exact om_77)
        have q2 : decide (((p + i * k : Nat) : Int) < 2 ^ 62) = true := decide_eq_true (by exact om_78 hn hlt)
        have e0 : ∀ (ds : List D) (i : Int), idxD (.lst ds) (.int i) = if decide (0 ≤ i) && decide (i < 2 ^ 62) then ds[i.toNat]? else none := fun _ _ => rfl
        rw [e0]
        simp only [q1, q2, Bool.and_self, if_true, Int.toNat_natCast, List.getElem?_map, hv, Option.map_some]
      simp only [bindT, qa_nil, b1, b2, ix, hv]
      rfl
  refine ⟨((List.range n).map fun i => (ns[p + i * k]?).getD 0).sum, ?_⟩
  have hs : primT Φ .sum [(.lst (((List.range n).map fun i => (ns[p + i * k]?).getD 0).map .int), false)] = some (.int ((List.range n).map fun i => (ns[p + i * k]?).getD 0).sum) := by
    show (asInts (((List.range n).map fun i => (ns[p + i * k]?).getD 0).map .int)).map (fun is => D.int is.sum) = _
    rw [asInts_map]; rfl
  rw [q_prim]
  simp only [qs_nil, qs_cons, hc, hs]
  rfl
theorem fmod_nat (a : Int) {m : Nat} (hm : 0 < m) : ∃ r : Nat, r < m ∧ a.fmod (m : Int) = (r : Int) := by
  have h1 : 0 ≤ a.fmod (m : Int) := Int.fmod_nonneg_of_pos a (by exact om_72 hm)
  have h2 : a.fmod (m : Int) < (m : Int) := Int.fmod_lt_of_pos a (by exact om_72 hm)
  exact ⟨(a.fmod (m : Int)).toNat, by exact om_79 h1 h2, by exact om_80 h1⟩
end Mine
end
section
open PySem PySem.W PyProof.Rows
set_option autoImplicit false
set_option maxRecDepth 100000
namespace Mine
section
variable {Φ : Fns} {ρ : Env'}
theorem ev_var {x : Nat} {r : TD} (h : ρ x = some r) : ev Φ (.var x) ρ = some r := by rw [q_var, h]
theorem ev_int (i : Int) : ev Φ (.cint i) ρ = some (.int i, false) := by rw [q_cint]
theorem ev_str (s : String) : ev Φ (.cstr s) ρ = some (.str (Str.ofString s), false) := by rw [q_cstr]
theorem ev_bool (b : Bool) : ev Φ (.cbool b) ρ = some (.bool b, false) := by rw [q_cbool]
theorem ev_bin {op : Operator} {a b : CE} {x y : TD} {z : D} (h1 : ev Φ a ρ = some x) (h2 : ev Φ b ρ = some y) (h : binD op x.1 y.1 = some z) : ev Φ (.bin op a b) ρ = some (z, false) := by
  rw [q_bin, h1, h2]
  simp only [h, Option.map_some]
theorem ev_cmp {op : CmpOp} {a b : CE} {x y : TD} {z : Bool} (h1 : ev Φ a ρ = some x) (h2 : ev Φ b ρ = some y) (h : cmpD op x.1 y.1 = some z) : ev Φ (.cmp op a b) ρ = some (.bool z, false) := by
  rw [q_cmp, h1, h2]
  simp only [h, Option.map_some]
theorem ev_neg {a : CE} {i : Int} {t : Bool} (h1 : ev Φ a ρ = some (.int i, t)) : ev Φ (.neg a) ρ = some (.int (-i), false) := by
  rw [q_neg, h1]
theorem ev_idx {a b : CE} {x y : TD} {z : D} (h1 : ev Φ a ρ = some x) (h2 : ev Φ b ρ = some y) (h : idxD x.1 y.1 = some z) : ev Φ (.idx a b) ρ = some (z, false) := by
  rw [q_idx, h1, h2]
  simp only [h, Option.map_some]
theorem ev_ite_t {c : CT} {a b : CE} (h : tr Φ c ρ = some true) : ev Φ (.ite c a b) ρ = ev Φ a ρ := by rw [q_ite, h]
theorem ev_ite_f {c : CT} {a b : CE} (h : tr Φ c ρ = some false) : ev Φ (.ite c a b) ρ = ev Φ b ρ := by rw [q_ite, h]
theorem evs_nil : evs Φ [] ρ = some [] := by rw [qs_nil]
theorem evs_cons {e : CE} {r : List CE} {x : TD} {xs : List TD} (h1 : ev Φ e ρ = some x) (h2 : evs Φ r ρ = some xs) : evs Φ (e :: r) ρ = some (x :: xs) := by rw [qs_cons, h1, h2]
theorem ev_dlst {es : List CE} {xs : List TD} {ds : List D} (h : evs Φ es ρ = some xs) (hl : es.length ≤ 1000000) (h2 : xs.mapM emb = some ds) : ev Φ (.dlst es) ρ = some (.lst ds, false) := by
  rw [q_dlst, if_pos (lineN_of hl), h]
  simp only [h2, Option.map_some]
theorem ev_dtup {es : List CE} {xs : List TD} {ds : List D} (h : evs Φ es ρ = some xs) (hl : es.length ≤ 1000000) (h2 : xs.mapM emb = some ds) : ev Φ (.dtup es) ρ = some (.tup ds, false) := by
  rw [q_dtup, if_pos (lineN_of hl), h]
  simp only [h2, Option.map_some]
theorem emb_false (d : D) : emb (d, false) = some d := rfl
theorem ev_dnil : ev Φ (.dlst []) ρ = some (.lst [], false) := ev_dlst evs_nil (by simp) rfl
theorem ev_d1 {a : CE} {x : D} (h1 : ev Φ a ρ = some (x, false)) : ev Φ (.dlst [a]) ρ = some (.lst [x], false) := ev_dlst (evs_cons h1 evs_nil) (by simp) rfl
theorem ev_d2 {a b : CE} {x y : D} (h1 : ev Φ a ρ = some (x, false)) (h2 : ev Φ b ρ = some (y, false)) : ev Φ (.dlst [a, b]) ρ = some (.lst [x, y], false) := ev_dlst (evs_cons h1 (evs_cons h2 evs_nil)) (by simp) rfl
theorem ev_t2 {a b : CE} {x y : D} (h1 : ev Φ a ρ = some (x, false)) (h2 : ev Φ b ρ = some (y, false)) : ev Φ (.dtup [a, b]) ρ = some (.tup [x, y], false) := ev_dtup (evs_cons h1 (evs_cons h2 evs_nil)) (by simp) rfl
theorem ev_call {f : String} {es : List CE} {F : List D → Option D} {xs : List TD} {d : D} (hf : Φ f = some F) (h : evs Φ es ρ = some xs) (hF : F (xs.map (·.1)) = some d) (ht : xs.all (!·.2) = true) : ev Φ (.call f es) ρ = some (d, false) := by
  rw [q_call, hf, h]
  simp only [hF, ht, Bool.true_or, if_true]
theorem ev_prim {p : Prim} {es : List CE} {xs : List TD} {d : D} (h : evs Φ es ρ = some xs) (hp : primT Φ p xs = some d) : ev Φ (.prim p es) ρ = some (d, false) := by
  rw [q_prim, h]
  simp only [hp, Option.map_some]
theorem ev_meth {m : HM} {o : CE} {es : List CE} {F : List D → Option D} {ds : List D} {t : Bool} {xs : List TD} {d : D} (hm : Φ (hmKey m) = some F) (ho : ev Φ o ρ = some (.hdr ds, t)) (h : evs Φ es ρ = some xs) (hd : methD m ds (xs.map (·.1)) = some d) : ev Φ (.meth m o es) ρ = some (d, false) := by
  rw [q_meth, hm, ho, h]
  simp only [hd, Option.map_some]
theorem ev_comp {elt : CE} {tgt : Tgt} {it : CI} {conds : List CT} {ds out : List D} (h : wk Φ it ρ = some ds) (hl : ds.length ≤ 1000000) (hc : compL (fun d => match bindT tgt d ρ with
        | some ρ' => (match trAnd Φ conds ρ' with
          | some true => (match ev Φ elt ρ' with
            | some y => (emb y).map some
            | none => none)
          | some false => some none
          | none => none)
        | none => none) ds = some out) : ev Φ (.comp elt tgt it conds) ρ = some (.lst out, false) := by
  rw [q_comp, h]
  simp only
  rw [if_pos (lineN_of hl)]
  erw [hc]
  rfl
theorem ev_comp_all {α : Type} {elt : CE} {x : Nat} {it : CI} {f g : α → D} {l : List α} (h : wk Φ it ρ = some (l.map f)) (hl : l.length ≤ 1000000) (he : ∀ a ∈ l, ev Φ elt (bind1 ρ x (f a)) = some (g a, false)) : ev Φ (.comp elt (.one x) it []) ρ = some (.lst (l.map g), false) := by
  refine ev_comp h (by simpa using hl) (compL_all fun a ha => ?_)
  simp only [bindT, qa_nil, he a ha]
  rfl
theorem ev_comp_if {α : Type} {elt : CE} {x : Nat} {it : CI} {c : CT} {f g : α → D} {q : α → Bool} {l : List α} (h : wk Φ it ρ = some (l.map f)) (hl : l.length ≤ 1000000) (hc : ∀ a ∈ l, tr Φ c (bind1 ρ x (f a)) = some (q a)) (he : ∀ a ∈ l, q a = true → ev Φ elt (bind1 ρ x (f a)) = some (g a, false)) :
    ev Φ (.comp elt (.one x) it [c]) ρ = some (.lst ((l.filter q).map g), false) := by
  refine ev_comp h (by simpa using hl) (compL_map fun a ha => ?_)
  simp only [bindT, qa_nil, qa_cons, hc a ha]
  cases hq : q a with
  | true => simp only [he a ha hq]; rfl
  | false => rfl
theorem bind1_ne {x y : Nat} {d : D} {r : Option TD} (h : y ≠ x) (hr : ρ y = r) : bind1 ρ x d y = r := by unfold bind1; rw [if_neg h, hr]
theorem bind1_eq (x : Nat) (d : D) : bind1 ρ x d x = some (d, false) := by unfold bind1; rw [if_pos rfl]
theorem wk_ce {e : CE} {x : TD} {ds : List D} (h : ev Φ e ρ = some x) (hi : itemsD x.1 = some ds) : wk Φ (.ce e) ρ = some ds := by
  rw [qw_ce, h]
  exact hi
theorem wk_rng {es : List CE} {xs : List TD} {ds : List D} (h : evs Φ es ρ = some xs) (hi : rngD (xs.map (·.1)) = some ds) : wk Φ (.rng es) ρ = some ds := by
  rw [qw_rng, h]
  exact hi
theorem tr_val {e : CE} {x : TD} {b : Bool} (h : ev Φ e ρ = some x) (hb : truD x.1 = some b) : tr Φ (.val e) ρ = some b := by
  rw [qt_val, h]; exact hb
theorem tr_not {t : CT} {b : Bool} (h : tr Φ t ρ = some b) : tr Φ (.not t) ρ = some (!b) := by rw [qt_not, h]; rfl
theorem tr_cmp {op : CmpOp} {a b : CE} {x y : TD} {z : Bool} (h1 : ev Φ a ρ = some x) (h2 : ev Φ b ρ = some y) (h : cmpD op x.1 y.1 = some z) : tr Φ (.cmp op a b) ρ = some z := by
  rw [qt_cmp, h1, h2]; exact h
theorem tr_and2 {a b : CT} {x y : Bool} (h1 : tr Φ a ρ = some x) (h2 : x = true → tr Φ b ρ = some y) : tr Φ (.and [a, b]) ρ = some (x && y) := by
  rw [qt_and, qa_cons, h1]
  cases x with
  | false => rfl
  | true => simp only; rw [qa_cons, h2 rfl]; cases y <;> rfl
theorem tr_or2 {a b : CT} {x y : Bool} (h1 : tr Φ a ρ = some x) (h2 : x = false → tr Φ b ρ = some y) : tr Φ (.or [a, b]) ρ = some (x || y) := by
  rw [qt_or, qo_cons, h1]
  cases x with
  | true => rfl
  | false => simp only; rw [qo_cons, h2 rfl]; cases y <;> rfl
end
section
variable {Φ : Fns} {st : St}
set_option tactic.hygienic true in
theorem cx_asg {x : Nat} {e : CE} {d : D} (h : ev Φ e st.view = some (d, false)) : cx Φ (.asg x e) st = some (st.set x (.val d), .next) := by
  rw [qx_asg, h]; rfl
set_option tactic.hygienic true in
theorem cx_asgM {xs : List Nat} {e : CE} {d : D} {st' : St} (h : ev Φ e st.view = some (d, false)) (hs : setT (.many xs) d st = some st') : cx Φ (.asgM xs e) st = some (st', .next) := by
  rw [qx_asgM, h]; simp only [hs, Option.map_some]
set_option tactic.hygienic true in
theorem cx_own {x : Nat} {e : CE} {ds : List D} (h : ev Φ e st.view = some (.lst ds, false)) : cx Φ (.own x e) st = some ({ ρ := fun y => if y = x then some (.own st.σ.length) else st.ρ y, σ := st.σ ++ [ds] }, .next) := by
  rw [qx_own, h]
set_option tactic.hygienic true in
theorem cx_app {x k : Nat} {e : CE} {d : D} {ds : List D} (hx : st.ρ x = some (.own k)) (h : ev Φ e st.view = some (d, false)) (hk : st.σ[k]? = some ds) (hl : ds.length ≤ 1000000) : cx Φ (.app x e) st = some ({ st with σ := st.σ.set k (ds ++ [d]) }, .next) := by
  rw [qx_app, hx, h]
  simp only [emb_false, Option.bind_some]
  rw [upd_eq hk (by rw [if_pos (lineN_of hl)])]
  rfl
set_option tactic.hygienic true in
theorem cx_ext {x k : Nat} {e : CE} {t : Bool} {ds es : List D} (hx : st.ρ x = some (.own k)) (h : ev Φ e st.view = some (.lst es, t)) (hk : st.σ[k]? = some ds) (hl : ds.length + es.length ≤ 1000000) : cx Φ (.ext x e) st = some ({ st with σ := st.σ.set k (ds ++ es) }, .next) := by
  rw [qx_ext, hx, h]
  simp only
  rw [upd_eq hk (by rw [if_pos (lineN_of hl)])]
  rfl
theorem cx_ite_t {t : CT} {a b : List CS} (h : tr Φ t st.view = some true) : cx Φ (.ite t a b) st = cxs Φ a st := by rw [qx_ite, h]
theorem cx_ite_f {t : CT} {a b : List CS} (h : tr Φ t st.view = some false) : cx Φ (.ite t a b) st = cxs Φ b st := by rw [qx_ite, h]
theorem cx_for_rng {tgt : Tgt} {es : List CE} {body : List CS} {ds : List D} (h : wk Φ (.rng es) st.view = some ds) : cx Φ (.for_ tgt (.rng es) body) st = loopG (turn Φ tgt body) ds st := by
  rw [qx_for]
  simp only [h] <;> rfl
theorem cx_for_ce {tgt : Tgt} {e : CE} {body : List CS} {d : D} {ds : List D} (h : ev Φ e st.view = some (d, false)) (hi : itemsD d = some ds) : cx Φ (.for_ tgt (.ce e) body) st = loopG (turn Φ tgt body) ds st := by
  rw [qx_for]
  simp only [h, hi] <;> rfl
theorem cx_ret {e : CE} {d : D} (h : ev Φ e st.view = some (d, false)) : cx Φ (.ret e) st = some (st, .ret d) := by
  rw [qx_ret, h]
theorem cx_ret_last {e : CE} {d d' : D} (h : ev Φ e st.view = some (d', true)) (h2 : ev Φ e st.last = some (d, false)) : cx Φ (.ret e) st = some (st, .ret d) := by
  rw [qx_ret, h]
  simp only [h2]
theorem e2_of {ρ : Env'} {a b : CE} {x y : TD} (h1 : ev Φ a ρ = some x) (h2 : ev Φ b ρ = some y) : e2 Φ ρ a b = some (x.1, y.1) := by unfold e2; rw [h1, h2]
theorem addHdr_eq {n v : Str} {ds : List D} (hn : plainS n = true) (hv : plainS v = true) (hl : ds.length ≤ 1000000) : addHdr (.str n) (.str v) ds = some (ds ++ [.tup [.str n, .str v]]) := by
  unfold addHdr plainP
  simp only [hn, hv, Bool.and_self, Bool.true_and]
  rw [if_pos]
  exact decide_eq_true (lineN_of hl)
set_option tactic.hygienic true in
theorem cx_addH {x k : Nat} {a b : CE} {n v : Str} {t1 t2 : Bool} {ds : List D} (hx : st.ρ x = some (.hob k)) (h1 : ev Φ a st.view = some (.str n, t1)) (h2 : ev Φ b st.view = some (.str v, t2)) (hk : st.σ[k]? = some ds) (hn : plainS n = true) (hv : plainS v = true) (hl : ds.length ≤ 1000000) :
    cx Φ (.addH x a b) st = some ({ st with σ := st.σ.set k (ds ++ [.tup [.str n, .str v]]) }, .next) := by
  rw [qx_addH, hx, e2_of h1 h2]
  simp only
  rw [upd_eq hk (addHdr_eq hn hv hl)]
  rfl
set_option tactic.hygienic true in
theorem cx_ifAddH {x k : Nat} {a b : CE} {body : List CS} {n v : Str} {t1 t2 : Bool} {ds : List D} (hx : st.ρ x = some (.hob k)) (h1 : ev Φ a st.view = some (.str n, t1)) (h2 : ev Φ b st.view = some (.str v, t2)) (hk : st.σ[k]? = some ds) (hn : plainS n = true) (hv : plainS v = true) (hl : ds.length ≤ 1000000) :
    cx Φ (.ifAddH x a b body) st = some ({ st with σ := st.σ.set k (ds ++ [.tup [.str n, .str v]]) }, .next) := by
  rw [qx_ifAddH, hx, e2_of h1 h2]
  simp only
  rw [upd_eq hk (addHdr_eq hn hv hl)]
  rfl
end
theorem getAll_eq {ps : List (Str × Str)} {x : Str} (hx : plainS x = true) (hps : ∀ p ∈ ps, plainS p.1 = true) (hl : ps.length ≤ 1000000) : methD .getAll (ps.map pairD) [.str x] = some (.lst ((ps.filter fun p => decide (lowS p.1 = lowS x)).map fun p => .str p.2)) := by
  simp only [methD, on1, strD, hx, List.length_map, Bool.true_and]
  rw [if_pos (decide_eq_true (lineN_of hl)), asPairs_pairs]
  simp only [Option.bind_some]
  rw [if_pos (List.all_eq_true.mpr hps)]
theorem keys_eq {ps : List (Str × Str)} (hl : ps.length ≤ 1000000) : methD .keys (ps.map pairD) [] = some (.lst (ps.map fun p => .str p.1)) := by
  simp only [methD, nil0, List.length_map]
  rw [if_pos (lineN_of hl), asPairs_pairs]
  rfl
theorem items_eq {ps : List D} (hl : ps.length ≤ 1000000) : methD .items ps [] = some (.lst ps) := by
  simp only [methD, nil0]
  rw [if_pos (lineN_of hl)]
theorem prim_len {Φ : Fns} {ds : List D} {t : Bool} (hl : ds.length ≤ 1000000) : primT Φ .len [(.lst ds, t)] = some (.int (ds.length : Int)) := by
  show (if ds.length ≤ lineN then some (D.int (ds.length : Int)) else none) = _
  exact if_pos (lineN_of hl)
theorem prim_len_str {Φ : Fns} {x : Str} {t : Bool} (hl : x.length ≤ 1000000) : primT Φ .len [(.str x, t)] = some (.int (x.length : Int)) := by
  show (if x.length ≤ lineN then some (D.int (x.length : Int)) else none) = _
  exact if_pos (lineN_of hl)
theorem prim_sorted {Φ : Fns} {is : List Int} {t : Bool} (hl : is.length < 64) : primT Φ .sorted [(.lst (is.map .int), t)] = some (.lst ((sortI is).map .int)) := by
  show (if (is.map D.int).length < 64 then (asInts (is.map D.int)).map (fun is => D.lst ((sortI is).map .int)) else none) = _
  rw [asInts_map, List.length_map, if_pos hl]; rfl
theorem xor_bin {a b : Nat} (ha : a < 64) (hb : b < 64) : binD .BitXor (.int (a : Int)) (.int (b : Int)) = some (.int ((a ^^^ b : Nat) : Int)) := by
  show (some (D.int (Builtin.bitXor (a : Int) (b : Int))) : Option D) = _
  rw [xor_nat ha hb]
theorem and_bin (a b : Nat) : binD .BitAnd (.int (a : Int)) (.int (b : Int)) = some (.int ((a &&& b : Nat) : Int)) := by
  show (some (D.int (Builtin.bitAnd (a : Int) (b : Int))) : Option D) = _
  rw [and_nat]
theorem shr_bin (a k : Nat) : binD .RShift (.int (a : Int)) (.int (k : Int)) = some (.int ((a >>> k : Nat) : Int)) := by
  show (if 0 ≤ (k : Int) then some (D.int ((a : Int).fdiv (2 ^ ((k : Int)).toNat))) else none) = _
  rw [if_pos (by exact om_63), shr_nat]
theorem pow_bin {k : Nat} (hk : k ≤ 64) : binD .Pow (.int 2) (.int (k : Int)) = some (.int ((2 ^ k : Nat) : Int)) := by
  show (if decide (0 ≤ (k : Int)) && decide ((k : Int) ≤ 64) && decide ((2 : Int) = 2) then some (D.int (2 ^ ((k : Int)).toNat)) else none) = _
  rw [decide_eq_true (show 0 ≤ (k : Int) by exact om_63), decide_eq_true (show (k : Int) ≤ 64 by exact om_81 hk), decide_eq_true rfl]
  show some (D.int (2 ^ ((k : Int)).toNat)) = _
  rw [pow_nat]
theorem add_bin (a b : Int) : binD .Add (.int a) (.int b) = some (.int (a + b)) := rfl
theorem mul_bin {a b : Int} (ha : smallI a = true) (hb : smallI b = true) : binD .Mult (.int a) (.int b) = some (.int (a * b)) := by
  show (if smallI a && smallI b then some (D.int (a * b)) else none) = _
  rw [ha, hb]; rfl
theorem smallI_nat {n : Nat} (h : n ≤ 1000000) : smallI (n : Int) = true := by
  unfold smallI
  rw [Bool.and_eq_true, decide_eq_true_eq, decide_eq_true_eq]
  constructor <;> omega
theorem bit_tr {Φ : Fns} {ρ : Env'} {a b : CE} {n k : Nat} {t1 t2 : Bool} (h1 : ev Φ a ρ = some (.int (n : Int), t1)) (h2 : ev Φ b ρ = some (.int (k : Int), t2)) : tr Φ (.val (.bin .BitAnd (.bin .RShift a b) (.cint 1))) ρ = some (n.testBit k) := by
  refine tr_val (ev_bin (ev_bin h1 h2 (shr_bin n k)) (ev_int 1) (and_bin (n >>> k) 1)) ?_
  show some (((n >>> k &&& 1 : Nat) : Int) != 0) = some (n.testBit k)
  congr 1
  unfold Nat.testBit
  rw [Nat.and_comm]
  rcases Nat.mod_two_eq_zero_or_one (n >>> k) with h | h
  · have : 1 &&& n >>> k = 0 := by rw [Nat.one_and_eq_mod_two]; exact h
    rw [this]; rfl
  · have : 1 &&& n >>> k = 1 := by rw [Nat.one_and_eq_mod_two]; exact h
    rw [this]; rfl
theorem idx_lst0 (ds : List D) (i : Int) : idxD (.lst ds) (.int i) = if decide (0 ≤ i) && decide (i < 2 ^ 62) then ds[i.toNat]? else none := rfl
theorem idx_lst {ds : List D} {k : Nat} {d : D} (h : ds[k]? = some d) (hk : k ≤ 1000000) : idxD (.lst ds) (.int (k : Int)) = some d := by
  have q1 : decide (0 ≤ (k : Int)) = true := decide_eq_true (by exact om_63)
  have q2 : decide ((k : Int) < 2 ^ 62) = true := decide_eq_true (by exact om_82 hk)
  rw [idx_lst0]
  simp only [q1, q2, Bool.and_self, if_true, Int.toNat_natCast, h]
end Mine
end
section
open PySem PySem.W PyProof.Rows
set_option autoImplicit false
set_option maxRecDepth 100000
namespace Mine
noncomputable def nD (n : Nat) : D := .int (n : Int)
theorem nD_map (l : List Nat) : l.map nD = (l.map fun (n : Nat) => (n : Int)).map D.int := by rw [List.map_map]; rfl
theorem Gd_nD (l : List Nat) : Gd 1 (.lst (l.map nD)) := by rw [nD_map]; exact Gd.ints _
theorem nat_mem {i : Nat} {l : List Nat} : ((i : Int) ∈ l.map fun (n : Nat) => (n : Int)) ↔ i ∈ l := by
  rw [List.mem_map]
  constructor
  · rintro ⟨a, ha, e⟩
    have : a = i := Int.ofNat.inj e
    exact this ▸ ha
  · exact fun h => ⟨i, h, rfl⟩
theorem cmp_in_nD (i : Nat) (l : List Nat) : cmpD .In (nD i) (.lst (l.map nD)) = some (decide (i ∈ l)) := by
  rw [nD_map]
  show cmpD .In (.int (i : Int)) _ = _
  rw [cmp_in_int]
  simp only [nat_mem]
theorem cmp_eq_nD (i j : Nat) : cmpD .Eq (nD i) (nD j) = some (decide (i = j)) := by
  show cmpD .Eq (.int (i : Int)) (.int (j : Int)) = _
  rw [cmp_eq_int]
  exact congrArg some (decide_eq_decide.mpr (by exact om_83))
theorem cmp_ne_nD (i j : Nat) : cmpD .NotEq (nD i) (nD j) = some (!decide (i = j)) := by
  show cmpD .NotEq (.int (i : Int)) (.int (j : Int)) = _
  rw [cmp_ne_int]
  exact congrArg (fun b => some (!b)) (decide_eq_decide.mpr (by exact om_83))
theorem addN_bin (a b : Nat) : binD .Add (nD a) (nD b) = some (nD (a + b)) := rfl
theorem subN_bin {a b : Nat} (h : b ≤ a) : binD .Sub (nD a) (nD b) = some (nD (a - b)) := by
  show some (D.int ((a : Int) - (b : Int))) = some (D.int ((a - b : Nat) : Int))
  have : (a : Int) - (b : Int) = ((a - b : Nat) : Int) := by exact om_86 h
  rw [this]
theorem mulN_bin {a b : Nat} (ha : a ≤ 1000000) (hb : b ≤ 1000000) : binD .Mult (nD a) (nD b) = some (nD (a * b)) := by
  have := mul_bin (smallI_nat ha) (smallI_nat hb)
  exact this.trans (by unfold nD; rw [Int.natCast_mul])
theorem ev_nD {Φ : Fns} {ρ : Env'} {i : Int} {n : Nat} (h : i = (n : Int)) : ev Φ (.cint i) ρ = some (nD n, false) := by rw [h]; exact ev_int _
theorem rngN {n : Nat} (h : n ≤ 1000000) : rngD [nD n] = some ((List.range n).map nD) := rng1 (n := n) (by exact om_87 h)
theorem wk_n {Φ : Fns} {ρ : Env'} {e : CE} {n : Nat} (h : ev Φ e ρ = some (nD n, false)) (hn : n ≤ 1000000) : wk Φ (.rng [e]) ρ = some ((List.range n).map nD) := wk_rng (evs_cons h evs_nil) (rngN hn)
theorem cx_for_n {Φ : Fns} {st : St} {tgt : Tgt} {e : CE} {body : List CS} {n : Nat} (h : ev Φ e st.view = some (nD n, false)) (hn : n ≤ 1000000) : cx Φ (.for_ tgt (.rng [e]) body) st = loopG (turn Φ tgt body) ((List.range n).map nD) st :=
  cx_for_rng (wk_n h hn)
noncomputable def chkBo (o : Option D) (b : Bool) : Bool := match o with
  | some (.bool x) => x == b
  | _ => false
noncomputable def chkN (o : Option D) (b : Int) : Bool := match o with
  | some (.int x) => x == b
  | _ => false
noncomputable def chkStr (o : Option D) (b : Str) : Bool := match o with
  | some (.str x) => x == b
  | _ => false
theorem chkBo_eq {o : Option D} {b : Bool} (h : chkBo o b = true) : o = some (.bool b) := by
  unfold chkBo at h
  split at h
  · rw [beq_iff_eq.mp h]
  · cases h
theorem chkN_eq {o : Option D} {b : Int} (h : chkN o b = true) : o = some (.int b) := by
  unfold chkN at h
  split at h
  · rw [beq_iff_eq.mp h]
  · cases h
theorem chkStr_eq {o : Option D} {b : Str} (h : chkStr o b = true) : o = some (.str b) := by
  unfold chkStr at h
  split at h
  · rw [beq_iff_eq.mp h]
  · cases h
theorem Gd_strs' {α : Type} {l : List α} {f : α → Str} (h : ∀ a ∈ l, plainS (f a) = true) : Gd 1 (.lst (l.map fun a => .str (f a))) :=
  .lst fun d hd => by refine oE1_2 (List.mem_map.mp hd) fun a ha rq1 => ?_; subst rq1; exact .str _ (strOk_of (h a ha))
theorem range_at {n : Nat} {pre post : List Nat} {x : Nat} (h : List.range n = pre ++ x :: post) : x = pre.length ∧ x < n := by
  have h1 : (List.range n)[pre.length]? = some x := by rw [h]; simp
  have hlt : pre.length < n := by
    have := congrArg List.length h
    simp at this; exact om_88 this
  rw [List.getElem?_range hlt] at h1
  exact ⟨(Option.some.inj h1).symm, by rw [← Option.some.inj h1]; exact hlt⟩
theorem range_pre {n : Nat} {pre post : List Nat} {x : Nat} (h : List.range n = pre ++ x :: post) : pre = List.range x := by
  have h1 : pre = (List.range n).take pre.length := by rw [h]; simp
  have h2 := range_at h
  rw [List.take_range, Nat.min_eq_left (by exact om_89 h2.1 h2.2)] at h1
  rw [h2.1]; exact h1
theorem cx_ret_none {Φ : Fns} {st : St} {e : CE} {d : D} (h : ev Φ e st.view = none) (h2 : ev Φ e st.last = some (d, false)) : cx Φ (.ret e) st = some (st, .ret d) := by
  rw [qx_ret, h]
  simp only [h2]
theorem map_ev {α : Type} {l : List α} {i : Nat} {a : α} {f : α → D} (h : l[i]? = some a) : (l.map f)[i]? = some (f a) := by rw [List.getElem?_map, h]; rfl
noncomputable def insN (a : Nat) : List Nat → List Nat
  | [] => [a]
  | b :: r => if a ≤ b then a :: b :: r else b :: insN a r
noncomputable def sortN (l : List Nat) : List Nat := l.foldr insN []
theorem insI_cast (a : Nat) (l : List Nat) : insI (a : Int) (l.map fun (n : Nat) => (n : Int)) = (insN a l).map fun (n : Nat) => (n : Int) := by
  induction l with
  | nil => rfl
  | cons b l ih =>
    rw [List.map_cons, insI, insN, ih]
    by_cases h : a ≤ b
    · rw [if_pos h, if_pos (by exact om_90 h)]; rfl
    · rw [if_neg h, if_neg (by exact om_91 h)]; rfl
theorem sortI_cast (l : List Nat) : sortI (l.map fun (n : Nat) => (n : Int)) = (sortN l).map fun (n : Nat) => (n : Int) := by
  induction l with
  | nil => rfl
  | cons a l ih =>
    show insI (a : Int) (sortI (l.map fun (n : Nat) => (n : Int))) = (insN a (sortN l)).map _
    rw [ih, insI_cast]
theorem insN_perm (a : Nat) : ∀ l : List Nat, (insN a l).Perm (a :: l)
  | [] => .refl _
  | b :: r => by
    rw [insN]
    split
    · exact .refl _
    · exact ((insN_perm a r).cons b).trans (List.Perm.swap a b r)
theorem sortN_perm : ∀ l : List Nat, (sortN l).Perm l
  | [] => .refl _
  | a :: r => (insN_perm a _).trans ((sortN_perm r).cons a)
theorem sorted_nD {Φ : Fns} {ρ : Env'} {e : CE} {l : List Nat} {t : Bool} (h : ev Φ e ρ = some (.lst (l.map nD), t)) (hl : l.length < 64) : ev Φ (.prim .sorted [e]) ρ = some (.lst ((sortN l).map nD), false) := by
  rw [nD_map] at h
  have := ev_prim (evs_cons h evs_nil) (prim_sorted (Φ := Φ) (t := t) (by rw [List.length_map]; exact hl))
  rwa [sortI_cast, ← nD_map] at this
theorem len_nD {Φ : Fns} {ρ : Env'} {e : CE} {ds : List D} {t : Bool} (h : ev Φ e ρ = some (.lst ds, t)) (hl : ds.length ≤ 1000000) : ev Φ (.prim .len [e]) ρ = some (nD ds.length, false) :=
  ev_prim (evs_cons h evs_nil) (prim_len hl)
end Mine
end
section
open PySem PySem.W PyProof.Rows
set_option autoImplicit false
set_option maxRecDepth 100000
namespace Mine
namespace L1
theorem base_at {Φ : Fns} {ρ : Env'} {x : Nat} (hx : x < 8) (h : ρ 2 = some (nD x, false)) : ∃ c : Int, ev Φ (.idx (.dlst [(.cint 12), (.cint 13), (.cint 15), (.cint 14), (.cint 7), (.cint 10), (.cint 0), (.cint 11)]) (.var 2)) ρ = some (.int c, false) := by
  have e : ev Φ (.dlst [(.cint 12), (.cint 13), (.cint 15), (.cint 14), (.cint 7), (.cint 10), (.cint 0), (.cint 11)]) ρ = some (.lst (([12, 13, 15, 14, 7, 10, 0, 11] : List Int).map .int), false) := by
    simp only [q_cint, q_dlst, qs_nil, qs_cons, List.length_cons, List.length_nil]
    rw [if_pos (lineN_of (by exact om_212))]
    rfl
  exact ⟨([12, 13, 15, 14, 7, 10, 0, 11] : List Int)[x], ev_idx e (ev_var h) (idx_lst (map_ev (List.getElem?_eq_getElem hx)) (by exact om_213 hx))⟩
noncomputable def bDrawn : List CS := [.asg 3 (.idx (.dlst [(.cint 12), (.cint 13), (.cint 15), (.cint 14), (.cint 7), (.cint 10), (.cint 0), (.cint 11)]) (.var 2)),
     .app 1 (.bin .Mod (.bin .Add (.var 3) (.prim .sum [(.comp (.idx (.var 0) (.var 4)) (.one 4) (.rng [(.var 2), (.prim .len [(.var 0)]), (.cint 8)]) [])])) (.cint 16))]
set_option tactic.hygienic true in
theorem drawn_turn {Φ : Fns} {ns : List Int} (hn : ns.length ≤ 63) {x : Nat} (hx : x < 8) {st : St} {rs : List D} (h0 : st.ρ 0 = some (.val (.lst (ns.map .int)))) (h1 : st.ρ 1 = some (.own 0)) (hσ : st.σ = [rs]) (hl : rs.length ≤ 100) :
    ∃ st' m, turn Φ (.one 2) bDrawn (nD x) st = some (st', .next) ∧ m < 16 ∧ st'.ρ 0 = some (.val (.lst (ns.map .int))) ∧ st'.ρ 1 = some (.own 0) ∧ st'.σ = [rs ++ [nD m]] := by
  let s1 := st.set 2 (.val (nD x))
  obtain ⟨c, hc⟩ := base_at (Φ := Φ) (ρ := s1.view) hx rfl
  let s2 := s1.set 3 (.val (.int c))
  have e1 := cx_asg (x := 3) hc
  have w0 : s2.view 0 = some (.lst (ns.map .int), false) := view_val h0
  have w2 : s2.view 2 = some (.int (x : Int), false) := rfl
  have w3 : s2.view 3 = some (.int c, false) := rfl
  obtain ⟨t, ht⟩ := sum_at (Φ := Φ) (ρ := s2.view) (xs := 0) (xp := 2) (xat := 4) (k := 8) w0 w2 (by decide) hn (by exact om_214 hx) (by decide) (by decide)
  refine oE1_2 (fmod_nat (c + t) (m := 16) (by decide)) fun m hm hm' => ?_
  have e2 := cx_app (Φ := Φ) (x := 1) (st := s2) (e := .bin .Mod (.bin .Add (.var 3) (.prim .sum [(.comp (.idx (.var 0) (.var 4)) (.one 4) (.rng [(.var 2), (.prim .len [(.var 0)]), (.cint 8)]) [])])) (.cint 16)) (d := nD m) h1
    (ev_bin (ev_bin (ev_var w3) ht (add_bin c t)) (ev_int 16) (by
      show (some (D.int ((c + t).fmod ((16 : Nat) : Int))) : Option D) = _
      rw [hm']; rfl)) (show s2.σ[0]? = some rs by show st.σ[0]? = _; rw [hσ]; rfl) (by exact om_215 hl)
  refine ⟨{ s2 with σ := s2.σ.set 0 (rs ++ [nD m]) }, m, ?_, hm, h0, h1, ?_⟩
  · show cxs Φ bDrawn s1 = _
    unfold bDrawn
    rw [cxs_cons e1, cxs_one e2]
  · show st.σ.set 0 _ = _
    rw [hσ]; rfl
set_option tactic.hygienic true in
theorem drawn_val {Φ : Fns} (ns : List Int) (hn : ns.length ≤ 63) : ∃ dr : List Nat, dr.length = 8 ∧ (∀ v ∈ dr, v < 16) ∧ runF Φ ps_law_drawn cs_law_drawn [.lst (ns.map .int)] = some (.lst (dr.map nD)) := by
  let st0 : St := startSt ps_law_drawn [.lst (ns.map .int)]
  let st1 : St := { ρ := fun y => if y = 1 then some (.own 0) else st0.ρ y, σ := [[]] }
  have c1 : cx Φ (.own 1 (.dlst [])) st0 = some (st1, .next) := cx_own ev_dnil
  let I : List Nat → St → Prop := fun pre st => st.ρ 0 = some (.val (.lst (ns.map .int))) ∧ st.ρ 1 = some (.own 0) ∧ ∃ rs : List Nat, rs.length = pre.length ∧ (∀ r ∈ rs, r < 16) ∧ st.σ = [rs.map nD]
  refine oE1_4 (loop_map (f := turn Φ (.one 2) bDrawn) (g := nD) I (l := List.range 8) (st := st1) ⟨rfl, rfl, [], rfl, by simp, rfl⟩ (fun pre x post st he hI => by
    obtain ⟨h0, h1, rs, hl, hok, hσ⟩ := hI
    obtain ⟨rfl, hx⟩ := range_at he
    obtain ⟨st', m, e, hm, g0, g1, gσ⟩ := drawn_turn (Φ := Φ) hn hx h0 h1 hσ (by simp; exact om_216 hl hx)
    refine ⟨st', e, g0, g1, rs ++ [m], by simp [hl], fun r hr => ?_, by rw [gσ]; simp⟩
    rcases List.mem_append.mp hr with q | q
    · exact hok r q
    · rw [List.mem_singleton.mp q]; exact hm)) fun st2 hloop h0 h1 zq1 => ?_; refine oE1_3 zq1 fun rs hl hok hσ => ?_; clear zq1
  refine ⟨rs, hl, hok, runF_eq (st := st2) rfl ?_⟩
  have c2 : cx Φ (.for_ (.one 2) (.rng [.cint 8]) bDrawn) st1 = some (st2, .next) := (cx_for_n (e := .cint 8) (n := 8) (ev_nD rfl) (by decide)).trans hloop
  have vl : st2.last 1 = some (.lst (rs.map nD), false) := by
    unfold St.last; rw [h1, hσ]; rfl
  have vv : st2.view 1 = some (.lst (rs.map nD), true) := view_own h1 (by rw [hσ]; rfl)
  have c3 : cx Φ (.ret (.var 1)) st2 = some (st2, .ret (.lst (rs.map nD))) := cx_ret_last (ev_var vv) (ev_var vl)
  show cxs Φ [.own 1 (.dlst []), .for_ (.one 2) (.rng [.cint 8]) bDrawn, .ret (.var 1)] st0 = _
  rw [cxs_cons c1, cxs_cons c2, cxs_ret c3]
noncomputable def wd (l v : Nat) : Str := ⟨((([3, 2, 1, 0] : List Nat).filter fun p => l.testBit p).map fun p => if v.testBit p then 65 + p else 97 + p).toArray⟩
theorem word_tab : ∀ l < 16, ∀ v < 16, chkStr (runF Φ8 ps_law_word cs_law_word [nD l, nD v]) (wd l v) = true := by decide +kernel
noncomputable def sp (l v : Nat) : Bool := !decide (v &&& l = v) || chkStr (runF Φ9 ps_law_spelled cs_law_spelled [nD l, nD v]) (wd l v)
theorem spell_tab : ∀ l < 16, ∀ v < 16, sp l v = true := by decide +kernel
theorem spell_at {l v : Nat} (hl : l < 16) (hv : v < 16) (h : v &&& l = v) : chkStr (runF Φ9 ps_law_spelled cs_law_spelled [nD l, nD v]) (wd l v) = true := by
  have t := spell_tab l hl v hv
  unfold sp at t
  rw [decide_eq_true h] at t; exact t
theorem and15 : ∀ x < 16, x &&& 15 = x := by decide +kernel
theorem wd_plain : ∀ l < 16, ∀ v < 16, plainS (wd l v) = true ∧ lowS (wd l v) = wd l 0 := by decide +kernel
theorem wd_low : ∀ l < 16, ∀ k < 16, decide (wd l 0 = wd k 0) = decide (l = k) := by decide +kernel
noncomputable def wi (l v u : Nat) : Bool := !(decide (v &&& l = v) && (decide (u &&& l = u) && decide (wd l v = wd l u))) || decide (v = u)
theorem wd_inj : ∀ l < 16, ∀ v < 16, ∀ u < 16, wi l v u = true := by decide +kernel
noncomputable def one4 (a : Nat) : Bool := decide (a ∈ ([1, 2, 4, 8] : List Nat))
theorem single_tab : ∀ a < 16, chkBo (runF Φ5 ps_is_single_bit cs_is_single_bit [nD a]) (one4 a) = true := by decide +kernel
theorem high_tab : ∀ p < 4, chkN (runF Φ6 ps_high_bit cs_high_bit [nD (2 ^ p)]) ((p : Nat) : Int) = true := by decide +kernel
theorem high_zero : runF Φ6 ps_high_bit cs_high_bit [nD 0] = some (.int (-1)) := chkN_eq (by decide +kernel)
noncomputable def str_i (v : Nat) : Str := ⟨Array.replicate v 105⟩
theorem stroke_tab : ∀ v < 16, chkStr (binD .Mult (.str (Str.ofString "i")) (nD v)) (str_i v) = true ∧ plainS (str_i v) = true ∧ (str_i v).length = v := by decide +kernel
end L1
end Mine
end
section
open PySem PySem.W PyProof.Rows
set_option autoImplicit false
set_option maxRecDepth 100000
namespace Mine
namespace L1
theorem castEq (a b : Nat) : ((a : Int) == (b : Int)) = (a == b) := by
  by_cases h : a = b
  · subst h; simp
  · have : ¬ (a : Int) = (b : Int) := by exact om_188 h
    rw [beq_false_of_ne h, beq_false_of_ne this]
theorem count_cast (l : List Nat) (k : Nat) : (l.map fun (n : Nat) => (n : Int)).count (k : Int) = l.count k := by
  induction l with
  | nil => rfl
  | cons a l ih => rw [List.map_cons, List.count_cons, List.count_cons, ih, castEq]
theorem dups_cast (l : List Nat) : (l.map fun (n : Nat) => (n : Int)).eraseDups = l.eraseDups.map fun (n : Nat) => (n : Int) := by
  generalize hn : l.length = n
  induction n using Nat.strongRecOn generalizing l with
  | _ n ih =>
    cases l with
    | nil => rfl
    | cons a l =>
      have e : (l.map fun (n : Nat) => (n : Int)).filter (fun b => !b == (a : Int)) = (l.filter fun b => !b == a).map fun (n : Nat) => (n : Int) := by
        rw [List.filter_map]
        congr 1
        refine List.filter_congr fun b _ => ?_
        show (!((b : Int) == (a : Int))) = !(b == a)
        rw [castEq]
      have hlen := List.length_filter_le (fun b => !b == a) l
      rw [List.map_cons, List.eraseDups_cons, List.eraseDups_cons, List.map_cons, e, ih _ (by rw [← hn, List.length_cons]; exact om_206 hlen) _ rfl]
noncomputable def setN (l : List Nat) : List Nat := sortN l.eraseDups
theorem setN_mem {l : List Nat} {a : Nat} : a ∈ setN l ↔ a ∈ l := (sortN_perm _).mem_iff.trans List.mem_eraseDups
theorem dups_nodup (l : List Nat) : l.eraseDups.Nodup := by
  generalize hn : l.length = n
  induction n using Nat.strongRecOn generalizing l with
  | _ n ih =>
    cases l with
    | nil => exact .nil
    | cons a l =>
      rw [List.eraseDups_cons]
      refine List.nodup_cons.mpr ⟨fun m => ?_, ih _ ?_ _ rfl⟩
      · rw [List.mem_eraseDups, List.mem_filter] at m
        simp at m
      · have := List.length_filter_le (fun b => !b == a) l
        rw [← hn, List.length_cons]; exact om_206 this
theorem setN_nodup (l : List Nat) : (setN l).Nodup := (sortN_perm _).nodup_iff.mpr (dups_nodup l)
theorem dups_len (l : List Nat) : l.eraseDups.length ≤ l.length := by
  generalize hn : l.length = n
  induction n using Nat.strongRecOn generalizing l with
  | _ n ih =>
    cases l with
    | nil => rw [← hn]; exact Nat.le_refl _
    | cons a l =>
      have hlen := List.length_filter_le (fun b => !b == a) l
      have := ih _ (by rw [← hn, List.length_cons]; exact om_206 hlen) (l.filter fun b => !b == a) rfl
      rw [List.eraseDups_cons, ← hn, List.length_cons, List.length_cons]; exact om_217 hlen this
theorem setN_len (l : List Nat) : (setN l).length ≤ l.length := by
  unfold setN
  rw [(sortN_perm _).length_eq]; exact dups_len l
section
variable {Φ : Fns} {ρ : Env'}
theorem set_ev (hg : (Φ ".sortedSet").isSome = true) {e : CE} {l : List Nat} {t : Bool} (h : ev Φ e ρ = some (.lst (l.map nD), t)) (hl : l.length < 64) (hb : ∀ v ∈ l, v < 16) : ev Φ (.prim .sortedSet [e]) ρ = some (.lst ((setN l).map nD), false) := by
  refine ev_prim (evs_cons h evs_nil) ?_
  have q : primT Φ .sortedSet [(.lst (l.map nD), t)] = primD .sortedSet [.lst (l.map nD)] := by
    unfold primT
    have : gate Φ .sortedSet = true := hg
    rw [this]; rfl
  rw [q]
  show (if (l.map nD).length < 64 then (asInts (l.map nD)).bind fun is => if is.all fun i => decide (0 ≤ i) && decide (i < 16) then some (D.lst ((sortI is.eraseDups).map .int)) else none else none) = _
  have ha : ((l.map fun (n : Nat) => (n : Int)).all fun i => decide (0 ≤ i) && decide (i < 16)) = true := by
    refine List.all_eq_true.mpr fun i hi => ?_
    obtain ⟨v, hv, rfl⟩ := List.mem_map.mp hi
    have := hb v hv
    simp only [Bool.and_eq_true, decide_eq_true_eq]
    exact om_218 this
  rw [if_pos (by rw [List.length_map]; exact hl), nD_map, asInts_map, Option.bind_some, if_pos ha, dups_cast, sortI_cast, ← nD_map]; rfl
theorem count_ev {e f : CE} {l : List Nat} {k : Nat} {t : Bool} (h : ev Φ e ρ = some (.lst (l.map nD), true)) (h2 : ev Φ f ρ = some (nD k, t)) : ev Φ (.prim .count [e, f]) ρ = some (nD (l.count k), false) := by
  refine ev_prim (evs_cons h (evs_cons h2 evs_nil)) ?_
  show (asInts (l.map nD)).map (fun is => D.int (is.count (k : Int))) = _
  rw [nD_map, asInts_map]
  show some (D.int (((l.map fun (n : Nat) => (n : Int)).count (k : Int) : Nat) : Int)) = _
  rw [count_cast]; rfl
end
noncomputable def cells (ch : List Nat) (l : Nat) : List Nat := ch.map fun v => v &&& l
noncomputable def szN (l : Nat) : Nat := 2 ^ ((List.range 4).filter fun p => !l.testBit p).length
noncomputable def covN (ch : List Nat) (l : Nat) : List Nat := (setN (cells ch l)).filter fun c => decide ((cells ch l).count c = szN l)
noncomputable def bSize : List CS := [.ite (.not (.val (.bin .BitAnd (.bin .RShift (.var 1) (.var 4)) (.cint 1))))
       [.asg 3 (.bin .Mult (.cint 2) (.var 3))]
       []]
set_option tactic.hygienic true in
theorem covers_val {Φ : Fns} (hg : (Φ ".sortedSet").isSome = true) {ch : List Nat} (hb : ∀ v ∈ ch, v < 16) (hl : ch.length ≤ 16) (l : Nat) : runF Φ ps_law_covers cs_law_covers [.lst (ch.map nD), nD l] = some (.lst ((covN ch l).map nD)) := by
  let st0 : St := startSt ps_law_covers [.lst (ch.map nD), nD l]
  let st1 : St := { ρ := fun y => if y = 2 then some (.own 0) else st0.ρ y, σ := [(cells ch l).map nD] }
  have hcl : (cells ch l).length = ch.length := List.length_map ..
  have hcb : ∀ v ∈ cells ch l, v < 16 := fun v hv => by
    obtain ⟨u, hu, rfl⟩ := List.mem_map.mp hv
    exact Nat.lt_of_le_of_lt Nat.and_le_left (hb u hu)
  have e0 : ev Φ (.comp (.bin .BitAnd (.var 5) (.var 1)) (.one 5) (.ce (.var 0)) []) st0.view = some (.lst ((cells ch l).map nD), false) := by
    have := ev_comp_all (Φ := Φ) (ρ := st0.view) (elt := .bin .BitAnd (.var 5) (.var 1)) (x := 5) (it := .ce (.var 0)) (f := nD) (g := fun v => nD (v &&& l)) (l := ch) (wk_ce (ev_var (show st0.view 0 = some (.lst (ch.map nD), false) from rfl)) rfl) (by exact om_219 hl)
      fun v _ => ev_bin (ev_var (bind1_eq _ _)) (ev_var (bind1_ne (by decide) (show st0.view 1 = some (nD l, false) from rfl))) (and_bin v l)
    rw [this]; unfold cells; rw [List.map_map]; rfl
  have c1 : cx Φ (.own 2 (.comp (.bin .BitAnd (.var 5) (.var 1)) (.one 5) (.ce (.var 0)) [])) st0 = some (st1, .next) := cx_own e0
  let st2 := st1.set 3 (.val (nD 1))
  have c2 : cx Φ (.asg 3 (.cint 1)) st1 = some (st2, .next) := cx_asg (ev_int 1)
  let I : List Nat → St → Prop := fun pre st => st.ρ 1 = some (.val (nD l)) ∧ st.ρ 2 = some (.own 0) ∧ st.ρ 3 = some (.val (nD (2 ^ (pre.filter fun p => !l.testBit p).length))) ∧ st.σ = [(cells ch l).map nD]
  refine oE1_5 (loop_map (f := turn Φ (.one 4) bSize) (g := nD) I (l := List.range 4) (st := st2) ⟨rfl, rfl, rfl, rfl⟩ (fun pre x post st he hI => by
    obtain ⟨h1, h2, h3, hσ⟩ := hI
    obtain ⟨hx, hx4⟩ := range_at he
    let s1 := st.set 4 (.val (nD x))
    have v1 : s1.view 1 = some (nD l, false) := view_val h1
    have v3 : s1.view 3 = some (nD (2 ^ (pre.filter fun p => !l.testBit p).length), false) := view_val h3
    have t := tr_not (bit_tr (Φ := Φ) (ρ := s1.view) (ev_var v1) (ev_var (show s1.view 4 = some (nD x, false) from rfl)))
    have hfl : (pre.filter fun p => !l.testBit p).length ≤ 4 := by have := List.length_filter_le (fun p => !l.testBit p) pre; exact om_220 hx hx4 this
    have hp : 2 ^ (pre.filter fun p => !l.testBit p).length ≤ 2 ^ 4 := Nat.pow_le_pow_right (by decide) hfl
    cases q : (!l.testBit x) with
    | true =>
      rw [q] at t
      have e := cx_asg (Φ := Φ) (st := s1) (x := 3) (ev_bin (ev_nD (n := 2) rfl) (ev_var v3) (mulN_bin (a := 2) (by decide) (by exact om_221 hp)))
      refine ⟨_, (cxs_one ((cx_ite_t t).trans (cxs_one e))), h1, h2, ?_, hσ⟩
      rw [List.filter_append, List.filter_cons_of_pos (by rw [q]), List.filter_nil, List.length_append, List.length_singleton, Nat.pow_succ, Nat.mul_comm]; rfl
    | false =>
      rw [q] at t
      refine ⟨s1, cxs_one ((cx_ite_f t).trans (by rw [qxs_nil])), h1, h2, ?_, hσ⟩
      rw [List.filter_append, List.filter_cons_of_neg (by rw [q]; exact Bool.false_ne_true), List.filter_nil, List.append_nil]; exact h3)) fun st3 hloop h1 h2 h3 hσ => ?_
  have c3 : cx Φ (.for_ (.one 4) (.rng [.cint 4]) bSize) st2 = some (st3, .next) := (cx_for_n (e := .cint 4) (n := 4) (ev_nD rfl) (by decide)).trans hloop
  have w2 : st3.view 2 = some (.lst ((cells ch l).map nD), true) := view_own h2 (by rw [hσ]; rfl)
  have e4 : ev Φ (.comp (.var 6) (.one 6) (.ce (.prim .sortedSet [(.var 2)])) [(.cmp .Eq (.prim .count [(.var 2), (.var 6)]) (.var 3))]) st3.view = some (.lst ((covN ch l).map nD), false) :=
    ev_comp_if (f := nD) (wk_ce (set_ev hg (ev_var w2) (by exact om_222 hl hcl) hcb) rfl) (by have := setN_len (cells ch l); exact om_223 hl hcl this)
      (fun v _ => tr_cmp (count_ev (ev_var (bind1_ne (by decide) w2)) (ev_var (bind1_eq _ _))) (ev_var (bind1_ne (by decide) (view_val h3))) (cmp_eq_nD _ _)) fun v _ _ => ev_var (bind1_eq _ _)
  refine runF_eq (st := st3) rfl ?_
  show cxs Φ [.own 2 (.comp (.bin .BitAnd (.var 5) (.var 1)) (.one 5) (.ce (.var 0)) []), .asg 3 (.cint 1), .for_ (.one 4) (.rng [.cint 4]) bSize, .ret (.comp (.var 6) (.one 6) (.ce (.prim .sortedSet [(.var 2)])) [(.cmp .Eq (.prim .count [(.var 2), (.var 6)]) (.var 3))])] st0 = _
  rw [cxs_cons c1, cxs_cons c2, cxs_cons c3, cxs_ret (cx_ret e4)]
end L1
end Mine
end
section
open PySem PySem.W PyProof.Rows
set_option autoImplicit false
set_option maxRecDepth 100000
namespace Mine
namespace L1
set_option tactic.hygienic true in
theorem loop_any {Φ : Fns} {x : Nat} {t : CT} {q : Nat → Bool} (I : St → Prop) (hI : ∀ st p, I st → I (st.set x (.val (nD p)))) : ∀ (l : List Nat) (st : St), I st → (∀ p ∈ l, ∀ st, I st → tr Φ t (st.set x (.val (nD p))).view = some (q p)) →
    ∃ st', loopG (turn Φ (.one x) [.ite t [.ret (.cbool true)] []]) (l.map nD) st = some (st', if l.any q then .ret (.bool true) else .next)
  | [], st, h, _ => ⟨st, rfl⟩
  | p :: l, st, h, ht => by
    have hp := ht p (.head _) st h
    rw [List.map_cons, lg_cons, List.any_cons]
    cases e : q p with
    | true =>
      rw [e] at hp
      have : turn Φ (.one x) [.ite t [.ret (.cbool true)] []] (nD p) st = some (st.set x (.val (nD p)), .ret (.bool true)) :=
        cxs_one ((cx_ite_t hp).trans (cxs_one (cx_ret (ev_bool true))))
      rw [this]; exact ⟨_, rfl⟩
    | false =>
      rw [e] at hp
      have : turn Φ (.one x) [.ite t [.ret (.cbool true)] []] (nD p) st = some (st.set x (.val (nD p)), .next) := cxs_one ((cx_ite_f hp).trans (by rw [qxs_nil]))
      rw [this]
      exact loop_any I hI l _ (hI st p h) fun p' m => ht p' (.tail _ m)
noncomputable def cvD (ch : List Nat) : D := .lst ((List.range 16).map fun i => D.lst ((covN ch (15 - i)).map nD))
noncomputable def canGo (ch : List Nat) (l g : Nat) : Bool := (List.range 4).any fun p => l.testBit p && decide ((g &&& (15 - 2 ^ p)) ∈ covN ch (l - 2 ^ p))
theorem cv_at {Φ : Fns} {ρ : Env'} {ch : List Nat} {e f : CE} {t u : Bool} {k : Nat} (h : ev Φ e ρ = some (cvD ch, t)) (h2 : ev Φ f ρ = some (nD k, u)) (hk : k < 16) : ev Φ (.idx e f) ρ = some (.lst ((covN ch (15 - k)).map nD), false) :=
  ev_idx h h2 (idx_lst (by rw [List.getElem?_map, List.getElem?_range hk]; rfl) (by exact om_224 hk))
theorem can_val {Φ : Fns} {ch : List Nat} {l g : Nat} (hl : l < 16) : runF Φ ps_law_can_go cs_law_can_go [cvD ch, nD l, nD g] = some (.bool (canGo ch l g)) := by
  let st0 : St := startSt ps_law_can_go [cvD ch, nD l, nD g]
  obtain ⟨st1, h⟩ := loop_any (Φ := Φ) (x := 3) (t := .and [(.val (.bin .BitAnd (.bin .RShift (.var 1) (.var 3)) (.cint 1))), (.cmp .In (.bin .BitAnd (.var 2) (.bin .Sub (.cint 15) (.bin .Pow (.cint 2) (.var 3)))) (.idx (.var 0) (.bin .Add (.bin .Sub (.cint 15) (.var 1)) (.bin .Pow (.cint 2) (.var 3)))))])
    (q := fun p => l.testBit p && decide ((g &&& (15 - 2 ^ p)) ∈ covN ch (l - 2 ^ p))) (fun st => st.ρ 0 = some (.val (cvD ch)) ∧ st.ρ 1 = some (.val (nD l)) ∧ st.ρ 2 = some (.val (nD g))) (fun st p h => h) (List.range 4) st0 ⟨rfl, rfl, rfl⟩ (fun p hp st h => by
      obtain ⟨h0, h1, h2⟩ := h
      have hp4 := List.mem_range.mp hp
      let s1 := st.set 3 (.val (nD p))
      have v1 : s1.view 1 = some (nD l, false) := view_val h1
      have v3 : s1.view 3 = some (nD p, false) := rfl
      have hpw : 2 ^ p ≤ 2 ^ 3 := Nat.pow_le_pow_right (by decide) (by exact om_225 hp4)
      have epow : ev Φ (.bin .Pow (.cint 2) (.var 3)) s1.view = some (nD (2 ^ p), false) := ev_bin (ev_int 2) (ev_var v3) (pow_bin (by exact om_226 hp4))
      refine tr_and2 (bit_tr (ev_var v1) (ev_var v3)) fun q => ?_
      have hge : 2 ^ p ≤ l := Nat.ge_two_pow_of_testBit q
      have e1 : ev Φ (.bin .BitAnd (.var 2) (.bin .Sub (.cint 15) (.bin .Pow (.cint 2) (.var 3)))) s1.view = some (nD (g &&& (15 - 2 ^ p)), false) :=
        ev_bin (ev_var (view_val h2)) (ev_bin (ev_nD (n := 15) rfl) epow (subN_bin (by exact om_227 hpw))) (and_bin _ _)
      have e2 : ev Φ (.bin .Add (.bin .Sub (.cint 15) (.var 1)) (.bin .Pow (.cint 2) (.var 3))) s1.view = some (nD (15 - l + 2 ^ p), false) :=
        ev_bin (ev_bin (ev_nD (n := 15) rfl) (ev_var v1) (subN_bin (by exact om_228 hl))) epow (addN_bin _ _)
      have e3 := cv_at (ev_var (show s1.view 0 = some (cvD ch, false) from view_val h0)) e2 (by exact om_229 hl hge)
      rw [show 15 - (15 - l + 2 ^ p) = l - 2 ^ p by exact om_230 hl] at e3
      exact tr_cmp e1 e3 (cmp_in_nD _ _))
  have c1 := (cx_for_n (Φ := Φ) (st := st0) (tgt := .one 3) (e := .cint 4) (n := 4) (ev_nD rfl) (by decide)).trans h
  show runF Φ ps_law_can_go cs_law_can_go [cvD ch, nD l, nD g] = some (.bool ((List.range 4).any fun p => l.testBit p && decide ((g &&& (15 - 2 ^ p)) ∈ covN ch (l - 2 ^ p))))
  cases e : (List.range 4).any fun p => l.testBit p && decide ((g &&& (15 - 2 ^ p)) ∈ covN ch (l - 2 ^ p)) with
  | true =>
    rw [e] at c1
    exact runF_eq (st := st1) rfl (cxs_ret c1)
  | false =>
    rw [e] at c1
    exact runF_eq (st := st1) rfl ((cxs_cons c1).trans (cxs_ret (cx_ret (ev_bool false))))
end L1
end Mine
end
section
open PySem PySem.W PyProof.Rows
set_option autoImplicit false
set_option maxRecDepth 100000
namespace Mine
namespace L1
theorem goodPairs_of {ps : List (Str × Str)} (h : ∀ p ∈ ps, plainS p.1 = true) : goodPairs (ps.map pairD) = true := by
  unfold goodPairs
  rw [asPairs_pairs]
  exact List.all_eq_true.mpr h
theorem delHdr_eq {x : Str} {ps : List (Str × Str)} (hx : plainS x = true) (h : ∀ p ∈ ps, plainS p.1 = true) (hl : ps.length ≤ 1000000) : delHdr (.str x) (ps.map pairD) = some ((ps.filter fun p => !decide (lowS p.1 = lowS x)).map pairD) := by
  unfold delHdr
  simp only [hx, goodPairs_of h, List.length_map, Bool.true_and, decide_eq_true (lineN_of hl), if_true]
  rw [List.filter_map]
  rfl
set_option tactic.hygienic true in
theorem cx_delH {Φ : Fns} {st : St} {x k : Nat} {a : CE} {n : Str} {t1 : Bool} {ds es : List D} (hx : st.ρ x = some (.hob k)) (h1 : ev Φ a st.view = some (.str n, t1)) (hk : st.σ[k]? = some ds) (hd : delHdr (.str n) ds = some es) :
    cx Φ (.delH x a) st = some ({ st with σ := st.σ.set k es }, .next) := by
  rw [qx_delH, hx, h1]
  simp only
  rw [upd_eq hk hd]
  rfl
set_option tactic.hygienic true in
theorem cx_newH_of {Φ : Fns} {st : St} {x z k : Nat} (hz : st.ρ z = some (.own k)) (hk : st.σ[k]? = some []) : cx Φ (.newH x (some z)) st = some (st.set x (.hob k), .next) := by
  rw [qx_newH1, hz]
  simp only [hk, if_true]
noncomputable abbrev Tb := List (Nat × Nat)
noncomputable def prW (e : Nat × Nat) : Str × Str := (wd e.1 e.2, str_i e.2)
noncomputable def rowD (T : Tb) : List D := (T.map prW).map pairD
noncomputable def TOk (T : Tb) : Prop := ∀ e ∈ T, e.1 < 16 ∧ e.2 &&& e.1 = e.2
noncomputable def ofL (l : Nat) (T : Tb) : List Nat := (T.filter fun e => decide (e.1 = l)).map (·.2)
noncomputable def notL (l : Nat) (T : Tb) : Tb := T.filter fun e => !decide (e.1 = l)
noncomputable def stkD (vs : List Nat) : D := .lst (vs.map fun v => .str (str_i v))
theorem sub16 {l v : Nat} (hl : l < 16) (h : v &&& l = v) : v < 16 := Nat.lt_of_le_of_lt (h ▸ Nat.and_le_right) hl
theorem row_app (T : Tb) (e : Nat × Nat) : rowD (T ++ [e]) = rowD T ++ [.tup [.str (wd e.1 e.2), .str (str_i e.2)]] := by unfold rowD; rw [List.map_append, List.map_append]; rfl
theorem row_len (T : Tb) : (rowD T).length = T.length := by unfold rowD; rw [List.length_map, List.length_map]
section
variable {T : Tb}
theorem TOk.plain (h : TOk T) : ∀ p ∈ T.map prW, plainS p.1 = true := fun p hp => by
  obtain ⟨e, he, rfl⟩ := List.mem_map.mp hp
  exact (wd_plain e.1 (h e he).1 e.2 (sub16 (h e he).1 (h e he).2)).1
theorem TOk.low (h : TOk T) {l : Nat} (hl : l < 16) {x : Str} (hx : lowS x = wd l 0) (e : Nat × Nat) (he : e ∈ T) : decide (lowS (prW e).1 = lowS x) = decide (e.1 = l) := by
  show decide (lowS (wd e.1 e.2) = lowS x) = _
  rw [(wd_plain e.1 (h e he).1 e.2 (sub16 (h e he).1 (h e he).2)).2, hx]
  exact wd_low _ (h e he).1 _ hl
theorem get_row (h : TOk T) (hn : T.length ≤ 1000000) {l : Nat} (hl : l < 16) {x : Str} (hp : plainS x = true) (hx : lowS x = wd l 0) : methD .getAll (rowD T) [.str x] = some (stkD (ofL l T)) := by
  refine (getAll_eq hp h.plain (by rw [List.length_map]; exact hn)).trans ?_
  have : (T.map prW).filter (fun p => decide (lowS p.1 = lowS x)) = (T.filter fun e => decide (e.1 = l)).map prW := by
    rw [List.filter_map]
    exact congrArg _ (List.filter_congr (h.low hl hx))
  rw [this]
  unfold stkD ofL
  rw [List.map_map, List.map_map]; rfl
theorem del_row (h : TOk T) (hn : T.length ≤ 1000000) {l : Nat} (hl : l < 16) {x : Str} (hp : plainS x = true) (hx : lowS x = wd l 0) : delHdr (.str x) (rowD T) = some (rowD (notL l T)) := by
  refine (delHdr_eq hp h.plain (by rw [List.length_map]; exact hn)).trans ?_
  have : (T.map prW).filter (fun p => !decide (lowS p.1 = lowS x)) = (notL l T).map prW := by
    rw [List.filter_map]
    exact congrArg _ (List.filter_congr fun e he => congrArg (! ·) (h.low hl hx e he))
  rw [this]; rfl
theorem wd_eq {l v k u : Nat} (hl : l < 16) (hv : v &&& l = v) (hk : k < 16) (hu : u &&& k = u) (h : wd l v = wd k u) : l = k ∧ v = u := by
  have v16 := sub16 hl hv
  have u16 := sub16 hk hu
  have h1 := congrArg lowS h
  rw [(wd_plain l hl v v16).2, (wd_plain k hk u u16).2] at h1
  have e := of_decide_eq_true ((wd_low l hl k hk).symm.trans (decide_eq_true h1))
  subst e
  have t := wd_inj l hl v v16 u u16
  unfold wi at t
  rw [decide_eq_true hv, decide_eq_true hu, decide_eq_true h] at t
  exact ⟨rfl, of_decide_eq_true t⟩
theorem key_in (h : TOk T) {e : Nat × Nat} (hl : e.1 < 16) (hv : e.2 &&& e.1 = e.2) : (wd e.1 e.2 ∈ (T.map prW).map (·.1)) ↔ e ∈ T := by
  rw [List.map_map]
  constructor
  · intro m
    obtain ⟨e', he, q⟩ := List.mem_map.mp m
    obtain ⟨h1, h2⟩ := wd_eq (h e' he).1 (h e' he).2 hl hv q
    have : e' = e := Prod.ext h1 h2
    exact this ▸ he
  · exact fun m => List.mem_map.mpr ⟨e, m, rfl⟩
theorem key_ev {Φ : Fns} {ρ : Env'} {F : List D → Option D} (hK : Φ ".keys" = some F) (h : TOk T) (hn : T.length ≤ 1000000) {e : Nat × Nat} (hl : e.1 < 16) (hv : e.2 &&& e.1 = e.2) {b t : Bool} (h2 : ρ 2 = some (.hdr (rowD T), b)) (h18 : ρ 18 = some (.str (wd e.1 e.2), t)) :
    tr Φ (.cmp .NotIn (.var 18) (.meth .keys (.var 2) [])) ρ = some (!decide (e ∈ T)) := by
  have q : methD .keys (rowD T) [] = some (.lst (((T.map prW).map (·.1)).map .str)) := by
    rw [List.map_map]
    exact keys_eq (by rw [List.length_map]; exact hn)
  refine tr_cmp (ev_var h18) (ev_meth (m := .keys) hK (ev_var h2) evs_nil q) ?_
  refine (cmp_notin_str (wd_plain _ hl _ (sub16 hl hv)).1 fun y hy => ?_).trans ?_
  · obtain ⟨p, hp, rfl⟩ := List.mem_map.mp hy
    exact h.plain p hp
  · exact congrArg (fun b => some (!b)) (decide_eq_decide.mpr (key_in h hl hv))
end
section
variable {Φ : Fns} {ρ : Env'} {e f : CE} {l v : Nat}
theorem call_word (hW : Φ "_law_word" = some (runF Φ8 ps_law_word cs_law_word)) (hl : l < 16) (hv : v < 16) (h1 : ev Φ e ρ = some (nD l, false)) (h2 : ev Φ f ρ = some (nD v, false)) : ev Φ (.call "_law_word" [e, f]) ρ = some (.str (wd l v), false) :=
  ev_call hW (evs_cons h1 (evs_cons h2 evs_nil)) (chkStr_eq (word_tab l hl v hv)) rfl
theorem call_spell (hS : Φ "_law_spelled" = some (runF Φ9 ps_law_spelled cs_law_spelled)) (hl : l < 16) (hv : v < 16) (hvl : v &&& l = v) (h1 : ev Φ e ρ = some (nD l, false)) (h2 : ev Φ f ρ = some (nD v, false)) : ev Φ (.call "_law_spelled" [e, f]) ρ = some (.str (wd l v), false) :=
  ev_call hS (evs_cons h1 (evs_cons h2 evs_nil)) (chkStr_eq (spell_at hl hv hvl)) rfl
theorem stroke_ev (hv : v < 16) (h : ev Φ e ρ = some (nD v, false)) : ev Φ (.bin .Mult (.cstr "i") e) ρ = some (.str (str_i v), false) :=
  ev_bin (ev_str "i") h (chkStr_eq (stroke_tab v hv).1)
end
end L1
end Mine
end
section
open PySem PySem.W PyProof.Rows
set_option autoImplicit false
set_option maxRecDepth 100000
namespace Mine
namespace L1
structure Fx (Φ : Fns) : Prop where
  word : Φ "_law_word" = some (runF Φ8 ps_law_word cs_law_word)
  spell : Φ "_law_spelled" = some (runF Φ9 ps_law_spelled cs_law_spelled)
  single : Φ "_is_single_bit" = some (runF Φ5 ps_is_single_bit cs_is_single_bit)
  high : Φ "_high_bit" = some (runF Φ6 ps_high_bit cs_high_bit)
  getAll : ∃ F, Φ ".get_all" = some F
  keys : ∃ F, Φ ".keys" = some F
  items : ∃ F, Φ ".items" = some F
noncomputable def put (T : Tb) (e : Nat × Nat) : Tb := if e ∈ T then T else T ++ [e]
noncomputable abbrev Sd := Tb × List Nat
noncomputable def stP (l a b : Nat) (s : Sd) : Sd := if one4 (a ^^^ b) = true then (put s.1 (l - (a ^^^ b), a &&& b), s.2 ++ [a, b]) else s
theorem one4_pow {a : Nat} (h : one4 a = true) : ∃ p, p < 4 ∧ a = 2 ^ p := by
  have := of_decide_eq_true h
  simp only [List.mem_cons, List.not_mem_nil, or_false] at this
  rcases this with rfl | rfl | rfl | rfl
  · exact ⟨0, by decide, rfl⟩
  · exact ⟨1, by decide, rfl⟩
  · exact ⟨2, by decide, rfl⟩
  · exact ⟨3, by decide, rfl⟩
theorem cut_tab : ∀ l < 16, ∀ a < 16, ∀ b < 16, (a &&& l = a ∧ b &&& l = b ∧ one4 (a ^^^ b) = true) → a ^^^ b ≤ l ∧ (a &&& b) &&& (l - (a ^^^ b)) = a &&& b := by decide +kernel
structure SG (st : St) (s : Sd) (rows : List D) (k : Nat) : Prop where
  s0 : st.σ[0]? = some (rowD s.1)
  s1 : st.σ[1]? = some rows
  sk : st.σ[k]? = some (s.2.map nD)
noncomputable def eA : CE := .idx (.var 8) (.var 10)
noncomputable def eB : CE := .idx (.var 8) (.var 13)
noncomputable def bAdd : List CS := [.ext 9 (.dlst [eA, eB]),
              .asg 18 (.call "_law_spelled" [(.bin .Sub (.var 5) (.bin .Pow (.cint 2) (.call "_high_bit" [(.var 15)]))), (.bin .BitAnd eA eB)]),
              .ite (.cmp .NotIn (.var 18) (.meth .keys (.var 2) []))
                [.addH 2 (.var 18) (.bin .Mult (.cstr "i") (.bin .BitAnd eA eB))]
                []]
noncomputable def bPair : List CS := [.asg 15 (.bin .BitXor eA eB),
           .asg 16 (.call "_is_single_bit" [(.var 15)]),
           .ite (.and [(.cmp .Is (.var 16) (.cbool true)), (.cmp .NotEq (.var 15) (.cint 0))]) bAdd
             [.ite (.or [(.cmp .IsNot (.var 16) (.cbool false)), (.and [(.cmp .Eq (.var 15) (.cint 0)), (.cmp .NotEq (.call "_high_bit" [(.var 15)]) (.neg (.cint 1)))])])
                [.ret (.dtup [(.dlst []), (.dlst [])])]
                []]]
theorem cmp_is (b c : Bool) : cmpD .Is (.bool b) (.bool c) = some (b == c) := by cases b <;> cases c <;> rfl
theorem cmp_isn (b c : Bool) : cmpD .IsNot (.bool b) (.bool c) = some (!(b == c)) := by cases b <;> cases c <;> rfl
section
variable {Φ : Fns} {l i j k a b : Nat} {row : List Nat} {s : Sd} {rows : List D} {st : St}
set_option tactic.hygienic true in
theorem pair_turn (X : Fx Φ) (hl : l < 16) (hT : TOk s.1) (hn : s.1.length ≤ 100000) (hJ : s.2.length ≤ 100000) (ha : row[i]? = some a) (hb : row[j]? = some b) (ha' : a &&& l = a) (hb' : b &&& l = b) (hi : i < 100) (hj : j < 100) (hk : 2 ≤ k)
    (r2 : st.ρ 2 = some (.hob 0)) (r5 : st.ρ 5 = some (.val (nD l))) (r8 : st.ρ 8 = some (.val (.lst (row.map nD)))) (r9 : st.ρ 9 = some (.own k)) (r10 : st.ρ 10 = some (.val (nD i))) (sg : SG st s rows k) :
    ∃ st', turn Φ (.one 13) bPair (nD j) st = some (st', .next) ∧ (∀ x, x < 13 → st'.ρ x = st.ρ x) ∧ SG st' (stP l a b s) rows k := by
  have a16 := sub16 hl ha'
  have b16 := sub16 hl hb'
  have x16 : a ^^^ b < 16 := Nat.xor_lt_two_pow (n := 4) a16 b16
  let s1 := st.set 13 (.val (nD j))
  have gA {s : St} (h8 : s.ρ 8 = st.ρ 8) (h10 : s.ρ 10 = st.ρ 10) : ev Φ eA s.view = some (nD a, false) := ev_idx (ev_var (view_val (h8.trans r8))) (ev_var (view_val (h10.trans r10))) (idx_lst (map_ev ha) (by exact om_231 hi))
  have gB {s : St} (h8 : s.ρ 8 = st.ρ 8) (h13 : s.ρ 13 = some (.val (nD j))) : ev Φ eB s.view = some (nD b, false) := ev_idx (ev_var (view_val (h8.trans r8))) (ev_var (view_val h13)) (idx_lst (map_ev hb) (by exact om_231 hj))
  let s2 := s1.set 15 (.val (nD (a ^^^ b)))
  have e1 : cx Φ (.asg 15 (.bin .BitXor eA eB)) s1 = some (s2, .next) := cx_asg (ev_bin (gA rfl rfl) (gB rfl rfl) (xor_bin (by exact om_232 a16) (by exact om_232 b16)))
  let s3 := s2.set 16 (.val (.bool (one4 (a ^^^ b))))
  have v15 : s3.view 15 = some (nD (a ^^^ b), false) := rfl
  have v16 : s3.view 16 = some (.bool (one4 (a ^^^ b)), false) := rfl
  have e2 : cx Φ (.asg 16 (.call "_is_single_bit" [(.var 15)])) s2 = some (s3, .next) := cx_asg (ev_call X.single (evs_cons (ev_var (show s2.view 15 = some (nD (a ^^^ b), false) from rfl)) evs_nil) (chkBo_eq (single_tab _ x16)) rfl)
  have hne : one4 (a ^^^ b) = true → (!decide (a ^^^ b = 0)) = true := fun h => by
    obtain ⟨p, _, q⟩ := one4_pow h
    have := Nat.two_pow_pos p
    rw [decide_eq_false (by exact om_233 q this)]; rfl
  have t1 := tr_and2 (Φ := Φ) (ρ := s3.view) (tr_cmp (ev_var v16) (ev_bool true) (cmp_is _ _)) (fun _ => tr_cmp (ev_var v15) (ev_nD (n := 0) rfl) (cmp_ne_nD _ _))
  have fin : ∀ s4, cx Φ (.ite (.and [(.cmp .Is (.var 16) (.cbool true)), (.cmp .NotEq (.var 15) (.cint 0))]) bAdd
             [.ite (.or [(.cmp .IsNot (.var 16) (.cbool false)), (.and [(.cmp .Eq (.var 15) (.cint 0)), (.cmp .NotEq (.call "_high_bit" [(.var 15)]) (.neg (.cint 1)))])])
                [.ret (.dtup [(.dlst []), (.dlst [])])]
                []]) s3 = some (s4, .next) → turn Φ (.one 13) bPair (nD j) st = some (s4, .next) := fun s4 e3 => by
    show cxs Φ bPair s1 = _
    unfold bPair
    rw [cxs_cons e1, cxs_cons e2, cxs_one e3]
  cases h1 : one4 (a ^^^ b) with
  | false =>
    rw [h1] at t1
    have t2 : tr Φ (.or [(.cmp .IsNot (.var 16) (.cbool false)), (.and [(.cmp .Eq (.var 15) (.cint 0)), (.cmp .NotEq (.call "_high_bit" [(.var 15)]) (.neg (.cint 1)))])]) s3.view = some false := by
      have tb : tr Φ (.and [(.cmp .Eq (.var 15) (.cint 0)), (.cmp .NotEq (.call "_high_bit" [(.var 15)]) (.neg (.cint 1)))]) s3.view = some false := by
        have q := tr_and2 (Φ := Φ) (ρ := s3.view) (y := false) (tr_cmp (ev_var v15) (ev_nD (n := 0) rfl) (cmp_eq_nD _ _)) (b := .cmp .NotEq (.call "_high_bit" [(.var 15)]) (.neg (.cint 1))) fun z => by
          have z0 := of_decide_eq_true z
          rw [z0] at v15
          exact tr_cmp (ev_call X.high (evs_cons (ev_var v15) evs_nil) high_zero rfl) (ev_neg (ev_int 1)) (by rw [cmp_ne_int]; rfl)
        rw [Bool.and_false] at q; exact q
      have ta : tr Φ (.cmp .IsNot (.var 16) (.cbool false)) s3.view = some false := by
        have q := tr_cmp (ev_var v16) (ev_bool (Φ := Φ) false) (cmp_isn _ _)
        rw [h1] at q; exact q
      exact tr_or2 ta fun _ => tb
    refine ⟨s3, fin s3 ((cx_ite_f t1).trans (cxs_one ((cx_ite_f t2).trans (by rw [qxs_nil])))), fun x hx => ?_, ?_⟩
    · show (if x = 16 then _ else if x = 15 then _ else if x = 13 then _ else st.ρ x) = _
      rw [if_neg (by exact om_234 hx), if_neg (by exact om_235 hx), if_neg (by exact om_236 hx)]
    · unfold stP; rw [if_neg (by rw [h1]; exact Bool.false_ne_true)]; exact ⟨sg.s0, sg.s1, sg.sk⟩
  | true =>
    rw [hne h1, h1] at t1
    obtain ⟨c1, c2⟩ := cut_tab l hl a a16 b b16 ⟨ha', hb', h1⟩
    have d16 : a &&& b < 16 := Nat.lt_of_le_of_lt Nat.and_le_left a16
    have n16 : l - (a ^^^ b) < 16 := by exact om_237 hl
    let s4 : St := { s3 with σ := s3.σ.set k (s.2.map nD ++ [nD a, nD b]) }
    have f1 : cx Φ (.ext 9 (.dlst [eA, eB])) s3 = some (s4, .next) := cx_ext r9 (ev_d2 (gA rfl rfl) (gB rfl rfl)) sg.sk (by rw [List.length_map, List.length_cons, List.length_singleton]; exact om_238 hJ)
    let s5 := s4.set 18 (.val (.str (wd (l - (a ^^^ b)) (a &&& b))))
    have eAnd {s : St} (h8 : s.ρ 8 = st.ρ 8) (h10 : s.ρ 10 = st.ρ 10) (h13 : s.ρ 13 = some (.val (nD j))) : ev Φ (.bin .BitAnd eA eB) s.view = some (nD (a &&& b), false) := ev_bin (gA h8 h10) (gB h8 h13) (and_bin _ _)
    have f2 : cx Φ (.asg 18 (.call "_law_spelled" [(.bin .Sub (.var 5) (.bin .Pow (.cint 2) (.call "_high_bit" [(.var 15)]))), (.bin .BitAnd eA eB)])) s4 = some (s5, .next) := by
      obtain ⟨p, hp, q⟩ := one4_pow h1
      have hh : ev Φ (.call "_high_bit" [(.var 15)]) s4.view = some (nD p, false) := by
        have w : s4.view 15 = some (nD (2 ^ p), false) := by rw [← q]; rfl
        exact ev_call X.high (evs_cons (ev_var w) evs_nil) (chkN_eq (high_tab p hp)) rfl
      refine cx_asg (call_spell X.spell n16 d16 c2 (ev_bin (ev_var (view_val (st := s4) r5)) (ev_bin (ev_int 2) hh (pow_bin (by exact om_226 hp))) ?_) (eAnd rfl rfl rfl))
      rw [q] at c1 ⊢
      exact subN_bin c1
    have w0 : s5.σ[0]? = some (rowD s.1) := (List.getElem?_set_ne (by exact om_239 hk)).trans sg.s0
    obtain ⟨F, hK⟩ := X.keys
    have t3 := key_ev (e := (l - (a ^^^ b), a &&& b)) hK hT (by exact om_240 hn) n16 c2 (view_hob (st := s5) r2 w0) (view_val (st := s5) rfl)
    have hlt : k < st.σ.length := (List.getElem?_eq_some_iff.mp sg.sk).1
    have wk5 : s5.σ[k]? = some ((s.2 ++ [a, b]).map nD) := by
      show (st.σ.set k _)[k]? = _
      rw [List.getElem?_set_self hlt, List.map_append]; rfl
    have w1 : s5.σ[1]? = some rows := (List.getElem?_set_ne (by exact om_241 hk)).trans sg.s1
    have e9 : stP l a b s = (put s.1 (l - (a ^^^ b), a &&& b), s.2 ++ [a, b]) := if_pos h1
    have fr : ∀ x, x < 13 → s5.ρ x = st.ρ x := fun x hx => by
      show (if x = 18 then _ else if x = 16 then _ else if x = 15 then _ else if x = 13 then _ else st.ρ x) = _
      rw [if_neg (by exact om_242 hx), if_neg (by exact om_234 hx), if_neg (by exact om_235 hx), if_neg (by exact om_236 hx)]
    rw [e9]
    by_cases m : (l - (a ^^^ b), a &&& b) ∈ s.1
    · rw [decide_eq_true m] at t3
      refine ⟨s5, fin s5 ((cx_ite_t t1).trans ?_), fr, ⟨?_, w1, wk5⟩⟩
      · unfold bAdd; rw [cxs_cons f1, cxs_cons f2, cxs_one ((cx_ite_f t3).trans (by rw [cxs]))]
      · rw [show put s.1 (l - (a ^^^ b), a &&& b) = s.1 from if_pos m]; exact w0
    · rw [decide_eq_false m] at t3
      have f3 := cx_addH (Φ := Φ) (st := s5) (x := 2) r2 (ev_var (view_val (st := s5) (x := 18) (d := .str (wd (l - (a ^^^ b)) (a &&& b))) rfl)) (stroke_ev d16 (eAnd rfl rfl rfl)) w0 (wd_plain _ n16 _ d16).1 (stroke_tab _ d16).2.1 (by rw [row_len]; exact om_240 hn)
      refine ⟨{ s5 with σ := s5.σ.set 0 (rowD s.1 ++ [.tup [.str (wd (l - (a ^^^ b)) (a &&& b)), .str (str_i (a &&& b))]]) }, fin _ ((cx_ite_t t1).trans ?_), fr, ⟨?_, ?_, ?_⟩⟩
      · unfold bAdd; rw [cxs_cons f1, cxs_cons f2, cxs_one ((cx_ite_t t3).trans (cxs_one f3))]
      · rw [show put s.1 (l - (a ^^^ b), a &&& b) = s.1 ++ [(l - (a ^^^ b), a &&& b)] from if_neg m, row_app]
        exact List.getElem?_set_self (List.getElem?_eq_some_iff.mp w0).1
      · exact (List.getElem?_set_ne (by exact om_243)).trans w1
      · exact (List.getElem?_set_ne (by exact om_244 hk)).trans wk5
end
end L1
end Mine
end
section
open PySem PySem.W PyProof.Rows
set_option autoImplicit false
set_option maxRecDepth 100000
namespace Mine
namespace L1
noncomputable def inP (row : List Nat) (l i : Nat) (s : Sd) (j : Nat) : Sd := stP l (row.getD i 0) (row.getD j 0) s
noncomputable def inO (row : List Nat) (l : Nat) (s : Sd) (i : Nat) : Sd := (List.range (i + 1)).foldl (inP row l i) s
noncomputable def runO (row : List Nat) (l : Nat) (T : Tb) : Sd := (List.range row.length).foldl (inO row l) (T, [])
noncomputable def szS (s : Sd) : Nat := s.1.length + s.2.length
noncomputable def RowOk (row : List Nat) (l : Nat) : Prop := ∀ v ∈ row, v &&& l = v
theorem row_at {row : List Nat} {i : Nat} (h : i < row.length) : row[i]? = some (row.getD i 0) := by rw [List.getD_eq_getElem?_getD, List.getElem?_eq_getElem h]; rfl
theorem RowOk.at {row : List Nat} {l i : Nat} (h : RowOk row l) : row.getD i 0 &&& l = row.getD i 0 := by
  rcases Nat.lt_or_ge i row.length with q | q
  · exact h _ (List.mem_of_getElem? (row_at q))
  · rw [List.getD_eq_getElem?_getD, List.getElem?_eq_none q]; exact Nat.zero_and _
theorem put_ok {T : Tb} {e : Nat × Nat} (h : TOk T) (h1 : e.1 < 16) (h2 : e.2 &&& e.1 = e.2) : TOk (put T e) ∧ (put T e).length ≤ T.length + 1 := by
  unfold put
  split
  · exact ⟨h, Nat.le_succ _⟩
  · refine ⟨fun x hx => ?_, by rw [List.length_append]; exact Nat.le_refl _⟩
    rcases List.mem_append.mp hx with q | q
    · exact h x q
    · rw [List.mem_singleton.mp q]; exact ⟨h1, h2⟩
set_option tactic.hygienic true in
theorem stP_ok {l a b : Nat} {s : Sd} (hl : l < 16) (ha : a &&& l = a) (hb : b &&& l = b) (h : TOk s.1) : TOk (stP l a b s).1 ∧ szS (stP l a b s) ≤ szS s + 3 := by
  unfold stP
  split
  · rename_i q
    obtain ⟨c1, c2⟩ := cut_tab l hl a (sub16 hl ha) b (sub16 hl hb) ⟨ha, hb, q⟩
    obtain ⟨p1, p2⟩ := put_ok (T := s.1) (e := (l - (a ^^^ b), a &&& b)) h (show l - (a ^^^ b) < 16 by exact om_237 hl) c2
    refine ⟨p1, ?_⟩
    show (put s.1 (l - (a ^^^ b), a &&& b)).length + (s.2 ++ [a, b]).length ≤ s.1.length + s.2.length + 3
    rw [List.length_append, List.length_cons, List.length_singleton]; exact om_245 p2
  · exact ⟨h, Nat.le_add_right _ _⟩
theorem fold_ok {f : Sd → Nat → Sd} {c : Nat} : ∀ (l : List Nat) (s : Sd), (∀ s, ∀ j ∈ l, TOk s.1 → TOk (f s j).1 ∧ szS (f s j) ≤ szS s + c) → TOk s.1 → TOk (l.foldl f s).1 ∧ szS (l.foldl f s) ≤ szS s + c * l.length
  | [], s, _, h => ⟨h, Nat.le_add_right _ _⟩
  | j :: l, s, hf, h => by
    obtain ⟨h1, h2⟩ := hf s j (.head _) h
    obtain ⟨h3, h4⟩ := fold_ok l (f s j) (fun s j m => hf s j (.tail _ m)) h1
    refine ⟨h3, Nat.le_trans h4 ?_⟩
    rw [List.length_cons, Nat.mul_succ]; exact om_246 h2
section
variable {Φ : Fns} {l k : Nat} {row : List Nat} {rows : List D}
theorem inP_ok (hl : l < 16) (hr : RowOk row l) (i : Nat) (ls : List Nat) (s : Sd) (h : TOk s.1) : TOk (ls.foldl (inP row l i) s).1 ∧ szS (ls.foldl (inP row l i) s) ≤ szS s + 3 * ls.length :=
  fold_ok ls s (fun _ _ _ h => stP_ok hl hr.at hr.at h) h
theorem inO_ok (hl : l < 16) (hr : RowOk row l) (ls : List Nat) (hi : ∀ i ∈ ls, i < 16) (s : Sd) (h : TOk s.1) : TOk (ls.foldl (inO row l) s).1 ∧ szS (ls.foldl (inO row l) s) ≤ szS s + 48 * ls.length :=
  fold_ok ls s (fun s i m h => by
    obtain ⟨h1, h2⟩ := inP_ok hl hr i (List.range (i + 1)) s h
    refine ⟨h1, Nat.le_trans h2 ?_⟩
    have := hi i m
    rw [List.length_range]; exact om_247 this) h
noncomputable def bRow : List CS := [.for_ (.one 13) (.rng [(.bin .Add (.var 10) (.cint 1))]) bPair]
set_option tactic.hygienic true in
theorem row_turn (X : Fx Φ) (hl : l < 16) (hr : RowOk row l) (hr16 : row.length ≤ 16) {i : Nat} (hi : i < row.length) (hk : 2 ≤ k) {st : St} {s : Sd} (hT : TOk s.1) (hn : szS s ≤ 90000) (r2 : st.ρ 2 = some (.hob 0)) (r5 : st.ρ 5 = some (.val (nD l))) (r8 : st.ρ 8 = some (.val (.lst (row.map nD)))) (r9 : st.ρ 9 = some (.own k)) (sg : SG st s rows k) :
    ∃ st', turn Φ (.one 10) bRow (nD i) st = some (st', .next) ∧ (∀ x, x < 10 → st'.ρ x = st.ρ x) ∧ SG st' (inO row l s i) rows k := by
  let s1 := st.set 10 (.val (nD i))
  let I : List Nat → St → Prop := fun pre st' => (∀ x, x < 13 → st'.ρ x = s1.ρ x) ∧ SG st' (pre.foldl (inP row l i) s) rows k
  refine oE1_3 (loop_map (f := turn Φ (.one 13) bPair) (g := nD) I (l := List.range (i + 1)) (st := s1) ⟨fun _ _ => rfl, ⟨sg.s0, sg.s1, sg.sk⟩⟩ (fun pre j post st' he hI => by
    obtain ⟨h1, h2⟩ := hI
    obtain ⟨hj, hj'⟩ := range_at he
    obtain ⟨k1, k2⟩ := inP_ok hl hr i pre s hT
    have hz : szS (pre.foldl (inP row l i) s) ≤ 91000 := by exact om_248 hr16 hi hn hj hj' k2
    unfold szS at hz
    obtain ⟨st2, e, g1, g2⟩ := pair_turn X hl k1 (by exact om_249 hz) (by exact om_250 hz) (row_at hi) (row_at (i := j) (by exact om_251 hi hj')) hr.at hr.at (by exact om_252 hr16 hi) (by exact om_253 hr16 hi hj') hk ((h1 2 (by decide)).trans r2) ((h1 5 (by decide)).trans r5) ((h1 8 (by decide)).trans r8) ((h1 9 (by decide)).trans r9) (h1 10 (by decide)) h2
    refine ⟨st2, e, fun x hx => (g1 x hx).trans (h1 x hx), ?_⟩
    rw [List.foldl_append]; exact g2)) fun st' hloop h1 h2 => ?_
  have v10 : s1.view 10 = some (nD i, false) := rfl
  refine ⟨st', ?_, fun x hx => ?_, h2⟩
  · exact cxs_one ((cx_for_n (ev_bin (ev_var v10) (ev_nD (n := 1) rfl) (addN_bin _ _)) (by exact om_254 hr16 hi)).trans hloop)
  · refine (h1 x (by exact om_255 hx)).trans ?_
    show (if x = 10 then _ else st.ρ x) = _
    rw [if_neg (by exact om_256 hx)]
set_option tactic.hygienic true in
theorem rows_loop (X : Fx Φ) (hl : l < 16) (hr : RowOk row l) (hr16 : row.length ≤ 16) (hk : 2 ≤ k) {st : St} {T : Tb} (hT : TOk T) (hn : T.length ≤ 80000) (r2 : st.ρ 2 = some (.hob 0)) (r5 : st.ρ 5 = some (.val (nD l))) (r8 : st.ρ 8 = some (.val (.lst (row.map nD)))) (r9 : st.ρ 9 = some (.own k)) (sg : SG st (T, []) rows k) :
    ∃ st', cx Φ (.for_ (.one 10) (.rng [(.prim .len [(.var 8)])]) bRow) st = some (st', .next) ∧ (∀ x, x < 10 → st'.ρ x = st.ρ x) ∧ SG st' (runO row l T) rows k := by
  let I : List Nat → St → Prop := fun pre st' => (∀ x, x < 10 → st'.ρ x = st.ρ x) ∧ SG st' (pre.foldl (inO row l) (T, [])) rows k
  refine oE1_3 (loop_map (f := turn Φ (.one 10) bRow) (g := nD) I (l := List.range row.length) (st := st) ⟨fun _ _ => rfl, sg⟩ (fun pre i post st' he hI => by
    obtain ⟨h1, h2⟩ := hI
    obtain ⟨hi, hi'⟩ := range_at he
    have hp := range_pre he
    obtain ⟨k1, k2⟩ := inO_ok hl hr pre (fun j hj => by rw [hp] at hj; have := List.mem_range.mp hj; exact om_257 hr16 hi' this) (T, []) hT
    have hz : szS (T, ([] : List Nat)) ≤ 80000 := hn
    obtain ⟨st2, e, g1, g2⟩ := row_turn X hl hr hr16 hi' hk k1 (by exact om_258 hr16 hi hi' k2 hz) ((h1 2 (by decide)).trans r2) ((h1 5 (by decide)).trans r5) ((h1 8 (by decide)).trans r8) ((h1 9 (by decide)).trans r9) h2
    refine ⟨st2, e, fun x hx => (g1 x hx).trans (h1 x hx), ?_⟩
    rw [List.foldl_append]; exact g2)) fun st' hloop h1 h2 => ?_
  have e := len_nD (Φ := Φ) (ev_var (view_val r8)) (by rw [List.length_map]; exact om_219 hr16)
  rw [List.length_map] at e
  exact ⟨st', (cx_for_n e (by exact om_219 hr16)).trans hloop, h1, h2⟩
end
end L1
end Mine
end
section
open PySem PySem.W PyProof.Rows
set_option autoImplicit false
set_option maxRecDepth 100000
namespace Mine
namespace L1
theorem cmp_notin_nD (i : Nat) (l : List Nat) : cmpD .NotIn (nD i) (.lst (l.map nD)) = some (!decide (i ∈ l)) := by
  rw [nD_map]
  show cmpD .NotIn (.int (i : Int)) _ = _
  rw [cmp_notin_int]
  simp only [nat_mem]
noncomputable def leftN (row J : List Nat) : List Nat := row.filter fun v => !decide (v ∈ J)
noncomputable def nextT (l : Nat) (T : Tb) : Tb := notL l (runO (ofL l T) l T).1 ++ (leftN (ofL l T) (runO (ofL l T) l T).2).map fun v => (l, v)
theorem ofL_app (l : Nat) (T U : Tb) : ofL l (T ++ U) = ofL l T ++ ofL l U := by unfold ofL; rw [List.filter_append, List.map_append]
theorem ofL_not (l : Nat) (T : Tb) : ofL l (notL l T) = [] := by
  unfold ofL notL
  rw [List.filter_filter, List.filter_eq_nil_iff.mpr (fun e _ => by simp)]; rfl
theorem ofL_same (l : Nat) (vs : List Nat) : ofL l (vs.map fun v => (l, v)) = vs := by
  unfold ofL
  rw [List.filter_eq_self.mpr (fun e he => by obtain ⟨v, _, rfl⟩ := List.mem_map.mp he; exact decide_eq_true rfl), List.map_map]
  exact List.map_id _
theorem ofL_next (l : Nat) (T : Tb) : ofL l (nextT l T) = leftN (ofL l T) (runO (ofL l T) l T).2 := by
  unfold nextT; rw [ofL_app, ofL_not, ofL_same]; rfl
theorem notL_ok {T : Tb} {l : Nat} (h : TOk T) : TOk (notL l T) := fun e he => h e (List.mem_filter.mp he).1
theorem addL_ok {T : Tb} {l : Nat} {vs : List Nat} (h : TOk T) (hl : l < 16) (hv : RowOk vs l) : TOk (T ++ vs.map fun v => (l, v)) := fun e he => by
  rcases List.mem_append.mp he with q | q
  · exact h e q
  · obtain ⟨v, m, rfl⟩ := List.mem_map.mp q; exact ⟨hl, hv v m⟩
theorem RowOk.left {row J : List Nat} {l : Nat} (h : RowOk row l) : RowOk (leftN row J) l := fun v m => h v (List.mem_filter.mp m).1
theorem TOk.row {T : Tb} (h : TOk T) (l : Nat) : RowOk (ofL l T) l := fun v m => by
  obtain ⟨e, he, rfl⟩ := List.mem_map.mp m
  obtain ⟨h1, h2⟩ := List.mem_filter.mp he
  have := (h e h1).2
  rwa [of_decide_eq_true h2] at this
theorem Gd_stk (vs : List Nat) (h : ∀ v ∈ vs, v < 16) : Gd 1 (stkD vs) := Gd_strs' fun v m => (stroke_tab v (h v m)).2.1
section
variable {Φ : Fns} {l : Nat} {rows : List D} {T : Tb}
theorem stk_ev {ρ : Env'} {x : Nat} {vs : List Nat} {t : Bool} (h : ρ x = some (.lst (vs.map nD), t)) (hv : ∀ v ∈ vs, v < 16) (hn : vs.length ≤ 1000000) : ev Φ (.comp (.bin .Mult (.cstr "i") (.var 17)) (.one 17) (.ce (.var x)) []) ρ = some (stkD vs, false) :=
  ev_comp_all (f := nD) (wk_ce (ev_var h) rfl) hn fun v m => stroke_ev (hv v m) (ev_var (bind1_eq _ _))
noncomputable def bLay : List CS := [.addH 2 (.call "_law_spelled" [(.var 5), (.var 3)]) (.bin .Mult (.cstr "i") (.var 3))]
set_option tactic.hygienic true in
theorem lay_loop (X : Fx Φ) (hl : l < 16) {vs : List Nat} (hv : RowOk vs l) {st : St} (hn : T.length + vs.length ≤ 1000000) (r2 : st.ρ 2 = some (.hob 0)) (r5 : st.ρ 5 = some (.val (nD l))) (r11 : st.ρ 11 = some (.val (.lst (vs.map nD)))) (s0 : st.σ[0]? = some (rowD T)) (s1 : st.σ[1]? = some rows) :
    ∃ st', cx Φ (.for_ (.one 3) (.ce (.var 11)) bLay) st = some (st', .next) ∧ (∀ x, x ≠ 3 → st'.ρ x = st.ρ x) ∧ st'.σ[0]? = some (rowD (T ++ vs.map fun v => (l, v))) ∧ st'.σ[1]? = some rows := by
  let I : List Nat → St → Prop := fun pre st' => (∀ x, x ≠ 3 → st'.ρ x = st.ρ x) ∧ st'.σ[0]? = some (rowD (T ++ pre.map fun v => (l, v))) ∧ st'.σ[1]? = some rows
  refine oE1_4 (loop_map (f := turn Φ (.one 3) bLay) (g := nD) I (l := vs) (st := st) ⟨fun _ _ => rfl, by rw [List.map_nil, List.append_nil]; exact s0, s1⟩ (fun pre v post st' he hI => by
    obtain ⟨h1, h2, h3⟩ := hI
    let s2 := st'.set 3 (.val (nD v))
    have hv' : v &&& l = v := hv v (by rw [he]; simp)
    have v16 := sub16 hl hv'
    have hlen : pre.length ≤ vs.length := by rw [he]; simp
    have w5 : s2.view 5 = some (nD l, false) := view_val ((h1 5 (by decide)).trans r5)
    have w3 : s2.view 3 = some (nD v, false) := rfl
    have e := cx_addH (Φ := Φ) (st := s2) (x := 2) ((h1 2 (by decide)).trans r2) (call_spell X.spell hl v16 hv' (ev_var w5) (ev_var w3)) (stroke_ev v16 (ev_var w3)) h2 (wd_plain _ hl _ v16).1 (stroke_tab _ v16).2.1 (by rw [row_len, List.length_append, List.length_map]; exact om_259 hn hlen)
    refine ⟨_, cxs_one e, fun x hx => (if_neg hx).trans (h1 x hx), ?_, (List.getElem?_set_ne (by decide)).trans h3⟩
    rw [List.map_append, ← List.append_assoc]
    refine (List.getElem?_set_self (List.getElem?_eq_some_iff.mp h2).1).trans ?_
    exact congrArg some (row_app _ (l, v)).symm)) fun st' hloop h1 h2 h3 => ?_
  exact ⟨st', (cx_for_ce (ev_var (view_val r11)) rfl).trans hloop, h1, h2, h3⟩
noncomputable def bLet : List CS := [.asg 6 (.call "_law_word" [(.var 5), (.cint 10)]),
     .asg 7 (.meth .getAll (.var 2) [(.var 6)]),
     .asg 8 (.comp (.prim .len [(.var 14)]) (.one 14) (.ce (.var 7)) []),
     .own 9 (.dlst []),
     .for_ (.one 10) (.rng [(.prim .len [(.var 8)])]) bRow,
     .delH 2 (.var 6),
     .asg 11 (.comp (.var 17) (.one 17) (.ce (.var 8)) [(.cmp .NotIn (.var 17) (.var 9))]),
     .for_ (.one 3) (.ce (.var 11)) bLay,
     .asg 12 (.meth .getAll (.var 2) [(.call "_law_word" [(.var 5), (.cint 5)])]),
     .ite (.cmp .NotEq (.dlst [(.var 7), (.var 12)]) (.dlst [(.comp (.bin .Mult (.cstr "i") (.var 17)) (.one 17) (.ce (.var 8)) []), (.comp (.bin .Mult (.cstr "i") (.var 17)) (.one 17) (.ce (.var 11)) [])]))
       [.ret (.dtup [(.dlst []), (.dlst [])])]
       [],
     .app 4 (.var 8)]
set_option tactic.hygienic true in
theorem let_turn (X : Fx Φ) (hl : l < 16) (hT : TOk T) (hn : T.length ≤ 80000) (h16 : (ofL l T).length ≤ 16) (hrl : rows.length ≤ 1000) {st : St} (r2 : st.ρ 2 = some (.hob 0)) (r4 : st.ρ 4 = some (.own 1)) (s0 : st.σ[0]? = some (rowD T)) (s1 : st.σ[1]? = some rows) :
    ∃ st', turn Φ (.one 5) bLet (nD l) st = some (st', .next) ∧ (∀ x, x < 3 → st'.ρ x = st.ρ x) ∧ st'.ρ 4 = st.ρ 4 ∧ st'.σ[0]? = some (rowD (nextT l T)) ∧ st'.σ[1]? = some (rows ++ [.lst ((ofL l T).map nD)]) := by
  have hr := hT.row l
  have hv : ∀ v ∈ ofL l T, v < 16 := fun v m => sub16 hl (hr v m)
  obtain ⟨FG, hG⟩ := X.getAll
  have wp := wd_plain l hl 10 (by decide)
  have wq := wd_plain l hl 5 (by decide)
  let a1 := st.set 5 (.val (nD l))
  have w5 : a1.view 5 = some (nD l, false) := rfl
  let a2 := a1.set 6 (.val (.str (wd l 10)))
  have c1 : cx Φ (.asg 6 (.call "_law_word" [(.var 5), (.cint 10)])) a1 = some (a2, .next) := cx_asg (call_word X.word hl (by decide) (ev_var w5) (ev_nD (n := 10) rfl))
  have v2 : a2.view 2 = some (.hdr (rowD T), true) := view_hob r2 s0
  let a3 := a2.set 7 (.val (stkD (ofL l T)))
  have c2 : cx Φ (.asg 7 (.meth .getAll (.var 2) [(.var 6)])) a2 = some (a3, .next) := cx_asg (ev_meth (m := .getAll) hG (ev_var v2) (evs_cons (ev_var (view_val (st := a2) (x := 6) rfl)) evs_nil) (get_row hT (by exact om_260 hn) hl wp.1 wp.2))
  let a4 := a3.set 8 (.val (.lst ((ofL l T).map nD)))
  have c3 : cx Φ (.asg 8 (.comp (.prim .len [(.var 14)]) (.one 14) (.ce (.var 7)) [])) a3 = some (a4, .next) :=
    cx_asg (ev_comp_all (f := fun v => .str (str_i v)) (g := nD) (l := ofL l T) (wk_ce (ev_var (view_val (st := a3) (x := 7) rfl)) rfl) (by exact om_219 h16) fun v m => by
      have := ev_prim (Φ := Φ) (evs_cons (ev_var (bind1_eq (ρ := a3.view) 14 (.str (str_i v)))) evs_nil) (prim_len_str (t := false) (by rw [(stroke_tab v (hv v m)).2.2]; have := hv v m; exact om_224 this))
      rw [(stroke_tab v (hv v m)).2.2] at this; exact this)
  let a5 : St := { ρ := fun y => if y = 9 then some (.own a4.σ.length) else a4.ρ y, σ := a4.σ ++ [[]] }
  have c4 : cx Φ (.own 9 (.dlst [])) a4 = some (a5, .next) := cx_own ev_dnil
  have h2 : 2 ≤ a4.σ.length := (List.getElem?_eq_some_iff.mp (show a4.σ[1]? = some rows from s1)).1
  have g5 : SG a5 (T, []) rows a4.σ.length := ⟨(List.getElem?_append_left (by exact om_261 h2)).trans s0, (List.getElem?_append_left (by exact om_262 h2)).trans s1, List.getElem?_concat_length⟩
  obtain ⟨a6, c5, f6, g6⟩ := rows_loop (k := a4.σ.length) X hl hr h16 h2 hT hn (st := a5) r2 rfl rfl rfl g5
  obtain ⟨o1, o2⟩ := inO_ok hl hr (List.range (ofL l T).length) (fun i hi => by have := List.mem_range.mp hi; exact om_263 h16 this) (T, []) hT
  have hz : szS (runO (ofL l T) l T) ≤ 88800 := by
    refine Nat.le_trans o2 ?_
    rw [List.length_range]
    show T.length + 0 + _ ≤ _
    exact om_264 hn h16
  have o1 : TOk (runO (ofL l T) l T).1 := o1
  have hz1 : (runO (ofL l T) l T).1.length ≤ 88800 := by unfold szS at hz; exact om_265 hz
  have w6 : a6.view 6 = some (.str (wd l 10), false) := view_val ((f6 6 (by decide)).trans rfl)
  have r6 : a6.ρ 2 = some (.hob 0) := (f6 2 (by decide)).trans r2
  let a7 : St := { a6 with σ := a6.σ.set 0 (rowD (notL l (runO (ofL l T) l T).1)) }
  have c6 : cx Φ (.delH 2 (.var 6)) a6 = some (a7, .next) := cx_delH r6 (ev_var w6) g6.s0 (del_row o1 (by exact om_266 hz1) hl wp.1 wp.2)
  have p0 : a7.σ[0]? = some (rowD (notL l (runO (ofL l T) l T).1)) := List.getElem?_set_self (List.getElem?_eq_some_iff.mp g6.s0).1
  have p1 : a7.σ[1]? = some rows := (List.getElem?_set_ne (by decide)).trans g6.s1
  have pk : a7.σ[a4.σ.length]? = some ((runO (ofL l T) l T).2.map nD) := (List.getElem?_set_ne (by exact om_244 h2)).trans g6.sk
  have w8 : a7.view 8 = some (.lst ((ofL l T).map nD), false) := view_val ((f6 8 (by decide)).trans rfl)
  have w9 : a7.view 9 = some (.lst ((runO (ofL l T) l T).2.map nD), true) := view_own ((f6 9 (by decide)).trans rfl) pk
  let vs := leftN (ofL l T) (runO (ofL l T) l T).2
  let a8 := a7.set 11 (.val (.lst (vs.map nD)))
  have c7 : cx Φ (.asg 11 (.comp (.var 17) (.one 17) (.ce (.var 8)) [(.cmp .NotIn (.var 17) (.var 9))])) a7 = some (a8, .next) :=
    cx_asg (ev_comp_if (f := nD) (wk_ce (ev_var w8) rfl) (by exact om_219 h16) (fun v _ => tr_cmp (ev_var (bind1_eq _ _)) (ev_var (bind1_ne (by decide) w9)) (cmp_notin_nD _ _)) fun v _ _ => ev_var (bind1_eq _ _))
  have hvl : vs.length ≤ 16 := Nat.le_trans (List.length_filter_le _ _) h16
  have hnl : (notL l (runO (ofL l T) l T).1).length ≤ 88800 := Nat.le_trans (List.length_filter_le _ _) hz1
  obtain ⟨a9, c8, f9, q0, q1⟩ := lay_loop X hl (hr.left (J := (runO (ofL l T) l T).2)) (T := notL l (runO (ofL l T) l T).1) (rows := rows) (st := a8) (by show _ + vs.length ≤ _; exact om_267 hvl hnl) r6 ((f6 5 (by decide)).trans rfl) rfl p0 p1
  have hT3 : TOk (nextT l T) := addL_ok (notL_ok o1) hl hr.left
  have hn3 : (nextT l T).length ≤ 100000 := by
    unfold nextT
    rw [List.length_append, List.length_map]
    show _ + vs.length ≤ _
    exact om_268 hvl hnl
  have u2 : a9.view 2 = some (.hdr (rowD (nextT l T)), true) := view_hob ((f9 2 (by decide)).trans r6) q0
  have u5 : a9.view 5 = some (nD l, false) := view_val ((f9 5 (by decide)).trans ((f6 5 (by decide)).trans rfl))
  have hvv : ∀ v ∈ vs, v < 16 := fun v m => hv v (List.mem_filter.mp m).1
  let aa := a9.set 12 (.val (stkD vs))
  have c9 : cx Φ (.asg 12 (.meth .getAll (.var 2) [(.call "_law_word" [(.var 5), (.cint 5)])])) a9 = some (aa, .next) := by
    refine cx_asg (ev_meth (m := .getAll) hG (ev_var u2) (evs_cons (call_word X.word hl (by decide) (ev_var u5) (ev_nD (n := 5) rfl)) evs_nil) ?_)
    have := get_row hT3 (by exact om_240 hn3) hl wq.1 wq.2
    rw [ofL_next] at this; exact this
  have x7 : aa.view 7 = some (stkD (ofL l T), false) := view_val (st := aa) ((f9 7 (by decide)).trans ((f6 7 (by decide)).trans rfl))
  have x8 : aa.view 8 = some (.lst ((ofL l T).map nD), false) := view_val (st := aa) ((f9 8 (by decide)).trans ((f6 8 (by decide)).trans rfl))
  have x11 : aa.view 11 = some (.lst (vs.map nD), false) := view_val (st := aa) ((f9 11 (by decide)).trans rfl)
  have gd : Gd 2 (.lst [stkD (ofL l T), stkD vs]) := .lst fun d hd => by
    simp only [List.mem_cons, List.not_mem_nil, or_false] at hd
    rcases hd with rfl | rfl
    · exact Gd_stk _ hv
    · exact Gd_stk _ hvv
  have tt : tr Φ (.cmp .NotEq (.dlst [(.var 7), (.var 12)]) (.dlst [(.comp (.bin .Mult (.cstr "i") (.var 17)) (.one 17) (.ce (.var 8)) []), (.comp (.bin .Mult (.cstr "i") (.var 17)) (.one 17) (.ce (.var 11)) [])])) aa.view = some false :=
    tr_cmp (ev_d2 (ev_var x7) (ev_var (view_val (st := aa) (x := 12) rfl))) (ev_d2 (stk_ev x8 hv (by exact om_219 h16)) (stk_ev x11 hvv (by exact om_219 hvl))) (cmp_ne_self gd (by decide))
  have cb := cx_app (Φ := Φ) (st := aa) (x := 4) (e := .var 8) ((f9 4 (by decide)).trans ((f6 4 (by decide)).trans r4)) (ev_var x8) q1 (by exact om_269 hrl)
  refine ⟨{ aa with σ := aa.σ.set 1 (rows ++ [.lst ((ofL l T).map nD)]) }, ?_, fun x hx => ?_, ?_, ?_, ?_⟩
  · show cxs Φ bLet a1 = _
    unfold bLet
    rw [cxs_cons c1, cxs_cons c2, cxs_cons c3, cxs_cons c4, cxs_cons c5, cxs_cons c6, cxs_cons c7, cxs_cons c8, cxs_cons c9, cxs_cons ((cx_ite_f tt).trans (by rw [cxs])), cxs_one cb]
  · have e1 : aa.ρ x = a9.ρ x := if_neg (by exact om_270 hx)
    have e2 : a8.ρ x = a6.ρ x := if_neg (by exact om_271 hx)
    have e3 : a5.ρ x = st.ρ x := by
      show (if x = 9 then _ else if x = 8 then _ else if x = 7 then _ else if x = 6 then _ else if x = 5 then _ else st.ρ x) = _
      rw [if_neg (by exact om_272 hx), if_neg (by exact om_273 hx), if_neg (by exact om_274 hx), if_neg (by exact om_275 hx), if_neg (by exact om_276 hx)]
    exact e1.trans ((f9 x (by exact om_277 hx)).trans (e2.trans ((f6 x (by exact om_278 hx)).trans e3)))
  · exact (f9 4 (by decide)).trans (f6 4 (by decide))
  · exact (List.getElem?_set_ne (by decide)).trans q0
  · exact List.getElem?_set_self (List.getElem?_eq_some_iff.mp q1).1
end
end L1
end Mine
end
section
open PySem PySem.W PyProof.Rows
set_option autoImplicit false
set_option maxRecDepth 100000
namespace Mine
namespace L1
noncomputable def cov (dr : List Nat) (l v : Nat) : Prop := v &&& l = v ∧ ∀ x < 16, x &&& l = v → x ∈ dr
theorem fold_iff {f : Sd → Nat → Sd} {q : Sd → Prop} {N : Nat → Prop} : ∀ {ls : List Nat} {s : Sd}, (∀ s, ∀ j ∈ ls, q (f s j) ↔ q s ∨ N j) → (q (ls.foldl f s) ↔ q s ∨ ∃ j ∈ ls, N j)
  | [], s, _ => by simp
  | j :: ls, s, h => by
    rw [List.foldl_cons, fold_iff fun s k m => h s k (.tail _ m), h s j (.head _), or_assoc]
    simp
theorem fold_keep {f : Sd → Nat → Sd} {q : Sd → Prop} : ∀ {ls : List Nat} {s : Sd}, (∀ s, ∀ j ∈ ls, q s → q (f s j)) → q s → q (ls.foldl f s)
  | [], _, _, h => h
  | j :: ls, s, hf, h => fold_keep (ls := ls) (s := f s j) (fun s k m => hf s k (.tail _ m)) (hf _ _ (.head _) h)
set_option tactic.hygienic true in
theorem put_mem {T : Tb} {e d : Nat × Nat} : d ∈ put T e ↔ d ∈ T ∨ d = e := by
  unfold put
  split
  · rename_i h
    exact ⟨.inl, fun q => q.elim id fun z => z ▸ h⟩
  · rw [List.mem_append, List.mem_singleton]
theorem put_row {T : Tb} {e : Nat × Nat} {m : Nat} : ofL m (put T e) = if e.1 = m ∧ e ∉ T then ofL m T ++ [e.2] else ofL m T := by
  unfold put
  by_cases h : e ∈ T
  · rw [if_pos h, if_neg (fun z => z.2 h)]
  · rw [if_neg h, ofL_app]
    by_cases q : e.1 = m
    · rw [if_pos ⟨q, h⟩]
      have : ofL m [e] = [e.2] := by unfold ofL; rw [List.filter_cons_of_pos (by rw [decide_eq_true q])]; rfl
      rw [this]
    · rw [if_neg (fun z => q z.1)]
      have : ofL m [e] = [] := by unfold ofL; rw [List.filter_cons_of_neg (by rw [decide_eq_false q]; exact Bool.false_ne_true)]; rfl
      rw [this, List.append_nil]
theorem ofL_mem {T : Tb} {m v : Nat} : v ∈ ofL m T ↔ (m, v) ∈ T := by
  unfold ofL
  rw [List.mem_map]
  constructor
  · rintro ⟨e, he, rfl⟩
    obtain ⟨h1, h2⟩ := List.mem_filter.mp he
    have := of_decide_eq_true h2
    subst this; exact h1
  · exact fun h => ⟨(m, v), List.mem_filter.mpr ⟨h, decide_eq_true rfl⟩, rfl⟩
set_option tactic.hygienic true in
theorem put_nodup {T : Tb} {e : Nat × Nat} {m : Nat} (h : (ofL m T).Nodup) : (ofL m (put T e)).Nodup := by
  rw [put_row]
  split
  · rename_i q
    refine List.nodup_append.mpr ⟨h, by simp, fun a ha b hb z => ?_⟩
    rw [List.mem_singleton.mp hb] at z
    subst z
    obtain ⟨q1, q2⟩ := q
    subst q1
    exact q2 (ofL_mem.mp ha)
  · exact h
set_option tactic.hygienic true in
theorem stP_tab (l a b : Nat) (s : Sd) (e : Nat × Nat) : e ∈ (stP l a b s).1 ↔ e ∈ s.1 ∨ (one4 (a ^^^ b) = true ∧ e = (l - (a ^^^ b), a &&& b)) := by
  unfold stP
  split
  · rename_i h
    exact put_mem.trans (by simp [h])
  · rename_i h; simp [h]
set_option tactic.hygienic true in
theorem stP_joi (l a b : Nat) (s : Sd) (v : Nat) : v ∈ (stP l a b s).2 ↔ v ∈ s.2 ∨ (one4 (a ^^^ b) = true ∧ (v = a ∨ v = b)) := by
  unfold stP
  split
  · rename_i h
    show v ∈ s.2 ++ [a, b] ↔ _
    simp [h]
  · rename_i h; simp [h]
theorem stP_nodup {l a b : Nat} {s : Sd} {m : Nat} (h : (ofL m s.1).Nodup) : (ofL m (stP l a b s).1).Nodup := by
  unfold stP
  split
  · exact put_nodup h
  · exact h
section
variable {row : List Nat} {l : Nat} {T : Tb}
theorem pairs_iff {N : Nat → Nat → Prop} (hs : ∀ a b, N a b → N b a) : (∃ i ∈ List.range row.length, ∃ j ∈ List.range (i + 1), N (row.getD i 0) (row.getD j 0)) ↔ ∃ a ∈ row, ∃ b ∈ row, N a b := by
  constructor
  · rintro ⟨i, hi, j, hj, h⟩
    have hi := List.mem_range.mp hi
    have hj := List.mem_range.mp hj
    exact ⟨_, List.mem_of_getElem? (row_at hi), _, List.mem_of_getElem? (row_at (show j < row.length by exact om_251 hi hj)), h⟩
  · rintro ⟨a, ha, b, hb, h⟩
    obtain ⟨i, hi, rfl⟩ := List.mem_iff_getElem.mp ha
    obtain ⟨j, hj, rfl⟩ := List.mem_iff_getElem.mp hb
    have e : ∀ k (hk : k < row.length), row.getD k 0 = row[k] := fun k hk => by rw [List.getD_eq_getElem?_getD, List.getElem?_eq_getElem hk]; rfl
    rcases Nat.le_total j i with q | q
    · exact ⟨i, List.mem_range.mpr hi, j, List.mem_range.mpr (by exact om_206 q), by rw [e i hi, e j hj]; exact h⟩
    · exact ⟨j, List.mem_range.mpr hj, i, List.mem_range.mpr (by exact om_206 q), by rw [e i hi, e j hj]; exact hs _ _ h⟩
theorem run_tab (e : Nat × Nat) : e ∈ (runO row l T).1 ↔ e ∈ T ∨ ∃ a ∈ row, ∃ b ∈ row, one4 (a ^^^ b) = true ∧ e = (l - (a ^^^ b), a &&& b) := by
  unfold runO
  rw [fold_iff (f := inO row l) (q := fun s => e ∈ s.1) (N := fun i => ∃ j ∈ List.range (i + 1), one4 (row.getD i 0 ^^^ row.getD j 0) = true ∧ e = (l - (row.getD i 0 ^^^ row.getD j 0), row.getD i 0 &&& row.getD j 0)) fun s i _ => fold_iff (f := inP row l i) (q := fun s => e ∈ s.1) fun s j _ => stP_tab l _ _ s e,
    pairs_iff (N := fun a b => one4 (a ^^^ b) = true ∧ e = (l - (a ^^^ b), a &&& b)) fun a b h => by rw [Nat.xor_comm b a, Nat.and_comm b a]; exact h]
theorem run_joi (v : Nat) : v ∈ (runO row l T).2 ↔ v ∈ row ∧ ∃ u ∈ row, one4 (v ^^^ u) = true := by
  unfold runO
  rw [fold_iff (f := inO row l) (q := fun s => v ∈ s.2) (N := fun i => ∃ j ∈ List.range (i + 1), one4 (row.getD i 0 ^^^ row.getD j 0) = true ∧ (v = row.getD i 0 ∨ v = row.getD j 0)) fun s i _ => fold_iff (f := inP row l i) (q := fun s => v ∈ s.2) fun s j _ => stP_joi l _ _ s v,
    pairs_iff (N := fun a b => one4 (a ^^^ b) = true ∧ (v = a ∨ v = b)) fun a b h => by rw [Nat.xor_comm b a, or_comm]; exact h]
  constructor
  · rintro (h | ⟨a, ha, b, hb, h1, rfl | rfl⟩)
    · cases h
    · exact ⟨ha, b, hb, h1⟩
    · exact ⟨hb, a, ha, by rw [Nat.xor_comm]; exact h1⟩
  · rintro ⟨hv, u, hu, h⟩
    exact .inr ⟨v, hv, u, hu, h, .inl rfl⟩
theorem run_nodup {m : Nat} (h : (ofL m T).Nodup) : (ofL m (runO row l T).1).Nodup :=
  fold_keep (q := fun s => (ofL m s.1).Nodup) (fun _ _ _ h => fold_keep (q := fun s => (ofL m s.1).Nodup) (fun _ _ _ h => stP_nodup h) h) h
set_option tactic.hygienic true in
theorem run_same {m : Nat} (hl : l < 16) (hr : RowOk row l) (hm : l ≤ m) : ofL m (runO row l T).1 = ofL m T :=
  fold_keep (q := fun s => ofL m s.1 = ofL m T) (fun _ _ _ h => fold_keep (q := fun s => ofL m s.1 = ofL m T) (fun s j _ h => by
    unfold inP stP
    split
    · rename_i q
      obtain ⟨c1, _⟩ := cut_tab l hl _ (sub16 hl hr.at) _ (sub16 hl hr.at) ⟨hr.at, hr.at, q⟩
      obtain ⟨p, _, hp⟩ := one4_pow q
      have := Nat.two_pow_pos p
      show ofL m (put s.1 _) = _
      rw [put_row, if_neg (fun z => by have : l - _ = m := z.1; omega)]; exact h
    · exact h) h) rfl
end
theorem notL_row {m l : Nat} {T : Tb} (h : m ≠ l) : ofL m (notL l T) = ofL m T := by
  unfold ofL notL
  rw [List.filter_filter]
  congr 1
  refine List.filter_congr fun e _ => ?_
  by_cases q : e.1 = m
  · rw [decide_eq_true q, decide_eq_false (show ¬ e.1 = l by exact om_279 h q)]; rfl
  · rw [decide_eq_false q]; rfl
theorem next_row {m l : Nat} {T : Tb} (h : m ≠ l) : ofL m (nextT l T) = ofL m (runO (ofL l T) l T).1 := by
  unfold nextT
  rw [ofL_app, notL_row h]
  have : ofL m ((leftN (ofL l T) (runO (ofL l T) l T).2).map fun v => (l, v)) = [] := by
    unfold ofL
    rw [List.filter_eq_nil_iff.mpr fun e he => ?_]
    · rfl
    · obtain ⟨v, _, rfl⟩ := List.mem_map.mp he
      rw [decide_eq_false (show ¬ l = m by exact om_280 h)]; exact Bool.false_ne_true
  rw [this, List.append_nil]
end L1
end Mine
end
section
open PySem PySem.W PyProof.Rows
set_option autoImplicit false
set_option maxRecDepth 100000
namespace Mine
namespace L1
noncomputable def cA (k a b : Nat) : Bool := decide (a &&& k = a) && (decide (b &&& k = b) && one4 (a ^^^ b))
theorem tabA1 : ∀ k < 16, ∀ a < 16, ∀ b < 16, cA k a b = true → ∃ p < 4, (k - (a ^^^ b)).testBit p = false ∧ k = (k - (a ^^^ b)) + 2 ^ p := by decide +kernel
noncomputable def dA (k a b x : Nat) : Bool := !(cA k a b && decide (x &&& (k - (a ^^^ b)) = a &&& b)) || (decide (x &&& k = a) || decide (x &&& k = b))
theorem tabA0 : ∀ k < 16, ∀ a < 16, ∀ p < 4, ∀ x < 16, dA k a (a ^^^ 2 ^ p) x = true := by decide +kernel
theorem tabA2 {k a b x : Nat} (hk : k < 16) (ha : a < 16) (h : cA k a b = true) (hx : x < 16) (e : x &&& (k - (a ^^^ b)) = a &&& b) : x &&& k = a ∨ x &&& k = b := by
  have h3 := h
  unfold cA at h3
  rw [Bool.and_eq_true, Bool.and_eq_true] at h3
  refine oE1_2 (one4_pow h3.2.2) fun p hp ep => ?_
  have eb : b = a ^^^ 2 ^ p := by rw [← ep, ← Nat.xor_assoc, Nat.xor_self, Nat.zero_xor]
  have t := tabA0 k hk a ha p hp x hx
  rw [← eb] at t
  unfold dA at t
  rw [h, decide_eq_true e] at t
  simpa using t
theorem cA_of {k a b : Nat} (h1 : a &&& k = a) (h2 : b &&& k = b) (h3 : one4 (a ^^^ b) = true) : cA k a b = true := by unfold cA; rw [decide_eq_true h1, decide_eq_true h2, h3]; rfl
noncomputable def cB (m p v : Nat) : Bool := !m.testBit p && decide (v &&& m = v)
noncomputable def dB (m p v : Nat) : Bool := !cB m p v || (decide (v &&& (m + 2 ^ p) = v) && (decide ((v + 2 ^ p) &&& (m + 2 ^ p) = v + 2 ^ p) && (one4 (v ^^^ (v + 2 ^ p)) && (decide (m + 2 ^ p - (v ^^^ (v + 2 ^ p)) = m) && decide (v &&& (v + 2 ^ p) = v)))))
theorem tabB0 : ∀ m < 16, ∀ p < 4, ∀ v < 16, dB m p v = true := by decide +kernel
theorem tabB1 {m p v : Nat} (hm : m < 16) (hp : p < 4) (hv : v < 16) (h : cB m p v = true) : v &&& (m + 2 ^ p) = v ∧ (v + 2 ^ p) &&& (m + 2 ^ p) = v + 2 ^ p ∧ one4 (v ^^^ (v + 2 ^ p)) = true ∧ m + 2 ^ p - (v ^^^ (v + 2 ^ p)) = m ∧ v &&& (v + 2 ^ p) = v := by
  have t := tabB0 m hm p hp v hv
  unfold dB at t
  rw [h] at t
  simpa only [Bool.not_true, Bool.false_or, Bool.and_eq_true, decide_eq_true_eq] using t
noncomputable def eB2 (m p v x : Nat) : Bool := !(cB m p v && (decide (x &&& (m + 2 ^ p) = v) || decide (x &&& (m + 2 ^ p) = v + 2 ^ p))) || decide (x &&& m = v)
theorem tabB3 : ∀ m < 16, ∀ p < 4, ∀ v < 16, ∀ x < 16, eB2 m p v x = true := by decide +kernel
theorem tabB2 {m p v x : Nat} (hm : m < 16) (hp : p < 4) (hv : v < 16) (h : cB m p v = true) (hx : x < 16) (e : x &&& (m + 2 ^ p) = v ∨ x &&& (m + 2 ^ p) = v + 2 ^ p) : x &&& m = v := by
  have t := tabB3 m hm p hp v hv x hx
  have e' : (decide (x &&& (m + 2 ^ p) = v) || decide (x &&& (m + 2 ^ p) = v + 2 ^ p)) = true := by simpa using e
  unfold eB2 at t
  rw [h, e'] at t
  simpa using t
theorem cB_of {m p v : Nat} (h1 : m.testBit p = false) (h2 : v &&& m = v) : cB m p v = true := by unfold cB; rw [h1, decide_eq_true h2]; rfl
theorem tabC : ∀ k < 15, ∃ p < 4, k.testBit p = false ∧ k + 2 ^ p < 16 := by decide +kernel
theorem tabD : ∀ m < 16, ∀ p < 4, m.testBit p = false → m + 2 ^ p < 16 := by decide +kernel
noncomputable def Iv (dr : List Nat) (k : Nat) (T : Tb) : Prop := ∀ m < k, m < 15 → (ofL m T).Nodup ∧ ∀ v, v ∈ ofL m T ↔ (∃ p < 4, m.testBit p = false ∧ k ≤ m + 2 ^ p) ∧ cov dr m v
noncomputable def RowIs (dr : List Nat) (m : Nat) (row : List Nat) : Prop := (m = 15 → row = dr) ∧ (m < 15 → row.Nodup) ∧ ∀ v, v ∈ row ↔ cov dr m v
noncomputable def loose (row : List Nat) : List Nat := row.filter fun v => !row.any fun u => one4 (v ^^^ u)
section
variable {dr : List Nat} {k : Nat} {T : Tb}
theorem iv_row (hdr : ∀ v ∈ dr, v < 16) (h : Iv dr (k + 1) T) (hk : k < 16) (h15 : k = 15 → ofL 15 T = dr) : RowIs dr k (ofL k T) := by
  rcases Nat.lt_or_ge k 15 with q | q
  · obtain ⟨h1, h2⟩ := h k (Nat.lt_succ_self k) q
    refine ⟨fun z => by exact (om_281 q z).elim, fun _ => h1, fun v => (h2 v).trans ⟨fun z => z.2, fun z => ⟨?_, z⟩⟩⟩
    obtain ⟨p, hp, e, _⟩ := tabC k q
    have := Nat.two_pow_pos p
    exact ⟨p, hp, e, by exact om_282 this⟩
  · have e : k = 15 := by exact om_283 hk q
    subst e
    rw [h15 rfl]
    refine ⟨fun _ => rfl, fun z => by exact (om_284 z).elim, fun v => ⟨fun m => ?_, fun z => ?_⟩⟩
    · have v16 := hdr v m
      have t : ∀ x < 16, x &&& 15 = x := by decide +kernel
      exact ⟨t v v16, fun x hx e => by rw [t x hx] at e; rw [e]; exact m⟩
    · have v16 : v < 16 := sub16 (l := 15) (by decide) z.1
      exact z.2 v v16 z.1
theorem row_len16 {m : Nat} {row : List Nat} (hm : m < 16) (h8 : dr.length = 8) (h : RowIs dr m row) : row.length ≤ 16 := by
  rcases Nat.lt_or_ge m 15 with q | q
  · exact nodup_le16 (h.2.1 q) fun v z => sub16 hm ((h.2.2 v).mp z).1
  · rw [h.1 (by exact om_283 hm q), h8]; decide
theorem iv_step (h : Iv dr (k + 1) T) (hk : k < 16) (hrow : RowIs dr k (ofL k T)) : Iv dr k (nextT k T) := fun m hm h15 => by
  obtain ⟨h1, h2⟩ := h m (by exact om_285 hm) h15
  rw [next_row (by exact om_286 hm)]
  refine ⟨run_nodup h1, fun v => ?_⟩
  rw [ofL_mem, run_tab, ← ofL_mem, h2 v]
  constructor
  · rintro (⟨⟨p, hp, e, hle⟩, hc⟩ | ⟨a, ha, b, hb, h3, he⟩)
    · exact ⟨⟨p, hp, e, by exact om_287 hle⟩, hc⟩
    · have ca := (hrow.2.2 a).mp ha
      have cb := (hrow.2.2 b).mp hb
      obtain ⟨p, hp, e1, e2⟩ := tabA1 k hk a (sub16 hk ca.1) b (sub16 hk cb.1) (cA_of ca.1 cb.1 h3)
      have t := fun x hx => tabA2 (x := x) hk (sub16 hk ca.1) (cA_of ca.1 cb.1 h3) hx
      obtain ⟨_, c2⟩ := cut_tab k hk a (sub16 hk ca.1) b (sub16 hk cb.1) ⟨ca.1, cb.1, h3⟩
      cases he
      exact ⟨⟨p, hp, e1, Nat.le_of_eq e2⟩, c2, fun x hx ex => (t x hx ex).elim (ca.2 x hx) (cb.2 x hx)⟩
  · rintro ⟨⟨p, hp, e, hle⟩, hc⟩
    rcases Nat.lt_or_ge k (m + 2 ^ p) with q | q
    · exact .inl ⟨⟨p, hp, e, q⟩, hc⟩
    · have ek : k = m + 2 ^ p := by exact om_288 hle q
      have v16 : v < 16 := sub16 (show m < 16 by exact om_289 h15) hc.1
      obtain ⟨b1, b2, b3, b4, b5⟩ := tabB1 (show m < 16 by exact om_289 h15) hp v16 (cB_of e hc.1)
      have t := fun x hx => tabB2 (x := x) (show m < 16 by exact om_289 h15) hp v16 (cB_of e hc.1) hx
      refine .inr ⟨v, (hrow.2.2 v).mpr ?_, v + 2 ^ p, (hrow.2.2 _).mpr ?_, b3, ?_⟩
      · rw [ek]; exact ⟨b1, fun x hx ex => hc.2 x hx (t x hx (.inl ex))⟩
      · rw [ek]; exact ⟨b2, fun x hx ex => hc.2 x hx (t x hx (.inr ex))⟩
      · rw [ek, b4, b5]
theorem left_loose {row : List Nat} {l : Nat} : leftN row (runO row l T).2 = loose row := by
  unfold leftN loose
  refine List.filter_congr fun v hv => ?_
  congr 1
  rw [Bool.eq_iff_iff, decide_eq_true_eq, run_joi, List.any_eq_true]
  exact ⟨fun z => z.2, fun z => ⟨hv, z⟩⟩
noncomputable def stL (s : Tb × List (List Nat)) (l : Nat) : Tb × List (List Nat) := (nextT l s.1, s.2 ++ [ofL l s.1])
noncomputable def runL (dr : List Nat) (n : Nat) : Tb × List (List Nat) := (List.range n).foldl (fun s i => stL s (15 - i)) (dr.map fun v => (15, v), [])
structure Jv (dr : List Nat) (i : Nat) (s : Tb × List (List Nat)) : Prop where
  ok : TOk s.1
  len : s.1.length ≤ 8 + 1000 * i
  iv : Iv dr (16 - i) s.1
  h15 : i = 0 → ofL 15 s.1 = dr
  rl : s.2.length = i
  row : ∀ j < i, ∃ row, s.2[j]? = some row ∧ RowIs dr (15 - j) row ∧ ofL (15 - j) s.1 = loose row
theorem jv_zero (hdr : ∀ v ∈ dr, v < 16) (h8 : dr.length = 8) : Jv dr 0 (runL dr 0) := by
  have t : ∀ x < 16, x &&& 15 = x := by decide +kernel
  refine ⟨fun e he => ?_, ?_, fun m hm h15 => ?_, fun _ => ofL_same 15 dr, rfl, fun j hj => by exact (om_290 hj).elim⟩
  · obtain ⟨v, hv, rfl⟩ := List.mem_map.mp he
    exact ⟨show 15 < 16 by decide, t v (hdr v hv)⟩
  · show (dr.map fun v => (15, v)).length ≤ _
    rw [List.length_map, h8]; decide
  · have e : ofL m (runL dr 0).1 = [] := by
      show ofL m (dr.map fun v => (15, v)) = []
      unfold ofL
      rw [List.filter_eq_nil_iff.mpr fun e he => ?_]
      · rfl
      · obtain ⟨v, _, rfl⟩ := List.mem_map.mp he
        rw [decide_eq_false (show ¬ 15 = m by exact om_291 h15)]; exact Bool.false_ne_true
    rw [e]
    refine ⟨.nil, fun v => ⟨fun z => (List.not_mem_nil z).elim, fun z => ?_⟩⟩
    obtain ⟨⟨p, hp, e1, e2⟩, _⟩ := z
    have := tabD m (by exact om_292 hm) p hp e1
    exact (om_293 e2 this).elim
theorem jv_row (hdr : ∀ v ∈ dr, v < 16) {i : Nat} (hi : i < 16) {s : Tb × List (List Nat)} (J : Jv dr i s) : RowIs dr (15 - i) (ofL (15 - i) s.1) :=
  iv_row hdr (by have := J.iv; rwa [show 16 - i = (15 - i) + 1 by exact om_294 hi] at this) (by exact om_295) fun e => J.h15 (by exact om_296 e)
theorem jv_step (hdr : ∀ v ∈ dr, v < 16) (h8 : dr.length = 8) {i : Nat} (hi : i < 16) {s : Tb × List (List Nat)} (J : Jv dr i s) : Jv dr (i + 1) (stL s (15 - i)) := by
  have R := jv_row hdr hi J
  have hl : 15 - i < 16 := by exact om_295
  have hr := J.ok.row (15 - i)
  have h16 := row_len16 hl h8 R
  obtain ⟨o1, o2⟩ := inO_ok hl hr (List.range (ofL (15 - i) s.1).length) (fun i hi => by have := List.mem_range.mp hi; exact om_263 h16 this) (s.1, []) J.ok
  have o2' : szS (runO (ofL (15 - i) s.1) (15 - i) s.1) ≤ s.1.length + 0 + 48 * 16 := by
    refine Nat.le_trans o2 ?_
    rw [List.length_range]
    show s.1.length + 0 + _ ≤ _
    exact om_297 h16
  refine ⟨addL_ok (notL_ok o1) hl hr.left, ?_, ?_, fun z => by exact (om_298 z).elim, ?_, fun j hj => ?_⟩
  · show (nextT (15 - i) s.1).length ≤ _
    unfold nextT
    rw [List.length_append, List.length_map]
    have a1 : (notL (15 - i) (runO (ofL (15 - i) s.1) (15 - i) s.1).1).length ≤ _ := List.length_filter_le _ _
    have a2 : (leftN (ofL (15 - i) s.1) (runO (ofL (15 - i) s.1) (15 - i) s.1).2).length ≤ _ := List.length_filter_le _ _
    have := J.len
    unfold szS at o2'
    exact om_299 h16 o2' a1 a2 this
  · have := iv_step (k := 15 - i) (T := s.1) (by have := J.iv; rwa [show 16 - i = (15 - i) + 1 by exact om_294 hi] at this) hl R
    rwa [show 16 - (i + 1) = 15 - i by exact om_300]
  · show (s.2 ++ [_]).length = _
    rw [List.length_append, J.rl]; rfl
  · rcases Nat.lt_or_ge j i with q | q
    · obtain ⟨row, e1, e2, e3⟩ := J.row j q
      refine ⟨row, (List.getElem?_append_left (by rw [J.rl]; exact q)).trans e1, e2, ?_⟩
      show ofL (15 - j) (nextT (15 - i) s.1) = _
      rw [next_row (by exact om_301 hi q), run_same hl hr (by exact om_302 q)]; exact e3
    · have : j = i := by exact om_94 hj q
      subst this
      refine ⟨ofL (15 - j) s.1, ?_, R, ?_⟩
      · show (s.2 ++ [_])[j]? = _
        rw [← J.rl]; exact List.getElem?_concat_length
      · show ofL (15 - j) (nextT (15 - j) s.1) = _
        rw [ofL_next, left_loose]
theorem runL_succ (n : Nat) : runL dr (n + 1) = stL (runL dr n) (15 - n) := by unfold runL; rw [List.range_succ, List.foldl_append]; rfl
theorem jv_all (hdr : ∀ v ∈ dr, v < 16) (h8 : dr.length = 8) : ∀ {n : Nat}, n ≤ 16 → Jv dr n (runL dr n)
  | 0, _ => jv_zero hdr h8
  | n + 1, h => by rw [runL_succ]; exact jv_step hdr h8 (by exact om_303 h) (jv_all hdr h8 (by exact om_304 h))
end
end L1
end Mine
end
section
open PySem PySem.W PyProof.Rows
set_option autoImplicit false
set_option maxRecDepth 100000
namespace Mine
namespace L1
theorem down_rng : rngD [.int 15, .int (-1), .int (-1)] = some (((List.range 16).map fun i => 15 - i).map nD) := rfl
noncomputable def rowsD (rs : List (List Nat)) : List D := rs.map fun r => .lst (r.map nD)
theorem Gd_row {T : Tb} (h : TOk T) : Gd 2 (.lst (rowD T)) := .lst fun d hd => by
  obtain ⟨p, hp, rfl⟩ := List.mem_map.mp hd
  have h1 := h.plain p hp
  obtain ⟨e, he, rfl⟩ := List.mem_map.mp hp
  refine .tup fun x hx => ?_
  simp only [List.mem_cons, List.not_mem_nil, or_false] at hx
  rcases hx with rfl | rfl
  · exact .str _ (strOk_of h1)
  · exact .str _ (strOk_of (stroke_tab _ (sub16 (h e he).1 (h e he).2)).2.1)
noncomputable def bInit : List CS := [.ifAddH 2 (.call "_law_spelled" [(.cint 15), (.var 3)]) (.bin .Mult (.cstr "i") (.var 3)) []]
noncomputable def eBad : CS := .ite (.or [(.cmp .NotEq (.meth .items (.var 2) []) (.var 1)), (.cmp .NotEq (.meth .keys (.var 2) []) (.comp (.idx (.var 19) (.cint 0)) (.one 19) (.ce (.var 1)) []))])
    [.ret (.dtup [(.dlst []), (.dlst [])])]
    []
section
variable {Φ : Fns} {dr : List Nat}
set_option tactic.hygienic true in
theorem init_loop (X : Fx Φ) (hdr : ∀ v ∈ dr, v < 16) (h8 : dr.length = 8) {st : St} (r0 : st.ρ 0 = some (.val (.lst (dr.map nD)))) (r2 : st.ρ 2 = some (.hob 0)) (sg : st.σ = [[]]) :
    ∃ st', cx Φ (.for_ (.one 3) (.ce (.var 0)) bInit) st = some (st', .next) ∧ (∀ x, x ≠ 3 → st'.ρ x = st.ρ x) ∧ st'.σ = [rowD (runL dr 0).1] := by
  let I : List Nat → St → Prop := fun pre st' => (∀ x, x ≠ 3 → st'.ρ x = st.ρ x) ∧ st'.σ = [rowD (pre.map fun v => (15, v))]
  refine oE1_3 (loop_map (f := turn Φ (.one 3) bInit) (g := nD) I (l := dr) (st := st) ⟨fun _ _ => rfl, sg⟩ (fun pre v post st' he hI => by
    obtain ⟨h1, h2⟩ := hI
    let s2 := st'.set 3 (.val (nD v))
    have v16 : v < 16 := hdr v (by rw [he]; simp)
    have hlen : pre.length ≤ 8 := by rw [← h8, he]; simp
    have w3 : s2.view 3 = some (nD v, false) := rfl
    have e := cx_ifAddH (Φ := Φ) (st := s2) (x := 2) (body := []) ((h1 2 (by decide)).trans r2) (call_spell X.spell (l := 15) (by decide) v16 (and15 v v16) (ev_nD (n := 15) rfl) (ev_var w3)) (stroke_ev v16 (ev_var w3)) (show s2.σ[0]? = some (rowD (pre.map fun v => (15, v))) by show st'.σ[0]? = _; rw [h2]; rfl) (wd_plain _ (by decide) _ v16).1 (stroke_tab _ v16).2.1 (by rw [row_len, List.length_map]; exact om_305 hlen)
    refine ⟨_, cxs_one e, fun x hx => (if_neg hx).trans (h1 x hx), ?_⟩
    show st'.σ.set 0 _ = _
    rw [h2, List.map_append, List.map_singleton, row_app]; rfl)) fun st' hloop h1 h2 => ?_
  exact ⟨st', (cx_for_ce (ev_var (view_val r0)) rfl).trans hloop, h1, h2⟩
set_option tactic.hygienic true in
theorem let_loop (X : Fx Φ) (hdr : ∀ v ∈ dr, v < 16) (h8 : dr.length = 8) {st : St} (r2 : st.ρ 2 = some (.hob 0)) (r4 : st.ρ 4 = some (.own 1)) (sg : st.σ = [rowD (runL dr 0).1, []]) :
    ∃ st', cx Φ (.for_ (.one 5) (.rng [(.cint 15), (.neg (.cint 1)), (.neg (.cint 1))]) bLet) st = some (st', .next) ∧ (∀ x, x < 3 → st'.ρ x = st.ρ x) ∧ st'.ρ 4 = st.ρ 4 ∧ st'.σ[0]? = some (rowD (runL dr 16).1) ∧ st'.σ[1]? = some (rowsD (runL dr 16).2) := by
  let I : List Nat → St → Prop := fun pre st' => (∀ x, x < 3 → st'.ρ x = st.ρ x) ∧ st'.ρ 4 = st.ρ 4 ∧ st'.σ[0]? = some (rowD (runL dr pre.length).1) ∧ st'.σ[1]? = some (rowsD (runL dr pre.length).2)
  refine oE1_5 (loop_map (f := turn Φ (.one 5) bLet) (g := fun i => nD (15 - i)) I (l := List.range 16) (st := st) ⟨fun _ _ => rfl, rfl, by rw [sg]; rfl, by rw [sg]; rfl⟩ (fun pre i post st' he hI => by
    obtain ⟨h1, h2, h3, h4⟩ := hI
    obtain ⟨hi, hi16⟩ := range_at he
    rw [← hi] at h3 h4
    have J := jv_all hdr h8 (n := i) (by exact om_306 hi16)
    have hlen := J.len
    obtain ⟨st2, e, g1, g2, g3, g4⟩ := let_turn X (l := 15 - i) (by exact om_295) J.ok (by exact om_307 hi16 hlen) (row_len16 (by exact om_295) h8 (jv_row hdr hi16 J)) (by unfold rowsD; rw [List.length_map, J.rl]; exact om_308 hi16) ((h1 2 (by decide)).trans r2) (h2.trans r4) h3 h4
    refine ⟨st2, e, fun x hx => (g1 x hx).trans (h1 x hx), g2.trans h2, ?_, ?_⟩
    · rw [List.length_append, ← hi]
      show _ = some (rowD (runL dr (i + 1)).1)
      rw [runL_succ]; exact g3
    · rw [List.length_append, ← hi]
      show _ = some (rowsD (runL dr (i + 1)).2)
      rw [runL_succ]
      refine g4.trans ?_
      show _ = some (rowsD ((runL dr i).2 ++ [_]))
      unfold rowsD; rw [List.map_append]; rfl)) fun st' hloop h1 h2 h3 zq => ?_
  have e : wk Φ (.rng [(.cint 15), (.neg (.cint 1)), (.neg (.cint 1))]) st.view = some ((List.range 16).map fun i => nD (15 - i)) :=
    wk_rng (evs_cons (ev_int 15) (evs_cons (ev_neg (ev_int 1)) (evs_cons (ev_neg (ev_int 1)) evs_nil))) (down_rng.trans (by rw [List.map_map]; rfl))
  rw [List.length_range] at h3 zq
  exact ⟨st', (cx_for_rng e).trans hloop, h1, h2, h3, zq⟩
set_option tactic.hygienic true in
theorem joined_val (X : Fx Φ) (hdr : ∀ v ∈ dr, v < 16) (h8 : dr.length = 8) : runF Φ ps_law_joined cs_law_joined [.lst (dr.map nD)] = some (.tup [.lst (rowsD (runL dr 16).2), .lst (rowD (runL dr 16).1)]) := by
  let st0 : St := startSt ps_law_joined [.lst (dr.map nD)]
  let st1 : St := { ρ := fun y => if y = 1 then some (.own 0) else st0.ρ y, σ := [[]] }
  let st2 : St := st1.set 2 (.hob 0)
  have c1 : cx Φ (.own 1 (.dlst [])) st0 = some (st1, .next) := cx_own ev_dnil
  have c2 : cx Φ (.newH 2 (some 1)) st1 = some (st2, .next) := cx_newH_of rfl rfl
  refine oE1_3 (init_loop X hdr h8 (st := st2) rfl rfl rfl) fun st3 c3 f3 s3 => ?_
  let st4 : St := { ρ := fun y => if y = 4 then some (.own st3.σ.length) else st3.ρ y, σ := st3.σ ++ [[]] }
  have c4 : cx Φ (.own 4 (.dlst [])) st3 = some (st4, .next) := cx_own ev_dnil
  refine oE1_5 (let_loop X hdr h8 (st := st4) (f3 2 (by decide)) (by show some (Slot.own st3.σ.length) = _; rw [s3]; rfl) (by show st3.σ ++ [[]] = _; rw [s3]; rfl)) fun st5 c5 f5 f54 p0 p1 => ?_
  have J := jv_all hdr h8 (n := 16) (Nat.le_refl _)
  have hlen := J.len
  have r1 : st5.ρ 1 = some (.own 0) := (f5 1 (by decide)).trans (f3 1 (by decide))
  have r2 : st5.ρ 2 = some (.hob 0) := (f5 2 (by decide)).trans (f3 2 (by decide))
  have r4 : st5.ρ 4 = some (.own 1) := f54.trans (by show some (Slot.own st3.σ.length) = _; rw [s3]; rfl)
  have w1 : st5.view 1 = some (.lst (rowD (runL dr 16).1), true) := view_own r1 p0
  have w2 : st5.view 2 = some (.hdr (rowD (runL dr 16).1), true) := view_hob r2 p0
  have hrl : (rowD (runL dr 16).1).length ≤ 1000000 := by rw [row_len]; exact om_309 hlen
  have gd := Gd_row J.ok
  refine oE1_1 X.items fun FI hI => oE1_1 X.keys fun FK hK => ?_
  have names : Gd 1 (.lst ((runL dr 16).1.map fun e => .str (prW e).1)) := Gd_strs' fun e he => J.ok.plain _ (List.mem_map_of_mem he)
  have q : methD .keys (rowD (runL dr 16).1) [] = some (.lst ((runL dr 16).1.map fun e => .str (prW e).1)) :=
    (keys_eq (by rw [List.length_map]; exact om_309 hlen)).trans (by rw [List.map_map]; rfl)
  have eC : ev Φ (.comp (.idx (.var 19) (.cint 0)) (.one 19) (.ce (.var 1)) []) st5.view = some (.lst ((runL dr 16).1.map fun e => .str (prW e).1), false) :=
    ev_comp_all (f := fun e => pairD (prW e)) (wk_ce (ev_var w1) (show itemsD _ = some (((runL dr 16).1).map fun e => pairD (prW e)) by show some (rowD _) = _; unfold rowD; rw [List.map_map]; rfl)) (by exact om_309 hlen) fun e _ => ev_idx (ev_var (bind1_eq _ _)) (ev_int 0) rfl
  have t6 : tr Φ (.or [(.cmp .NotEq (.meth .items (.var 2) []) (.var 1)), (.cmp .NotEq (.meth .keys (.var 2) []) (.comp (.idx (.var 19) (.cint 0)) (.one 19) (.ce (.var 1)) []))]) st5.view = some false :=
    tr_or2 (tr_cmp (ev_meth (m := .items) hI (ev_var w2) evs_nil (items_eq hrl)) (ev_var w1) (cmp_ne_self gd (by decide))) fun _ =>
      tr_cmp (ev_meth (m := .keys) hK (ev_var w2) evs_nil q) eC (cmp_ne_self names (by decide))
  have c6 : cx Φ eBad st5 = some (st5, .next) := (cx_ite_f t6).trans (by rw [qxs_nil])
  have n1 : ev Φ (.dtup [(.var 4), (.var 1)]) st5.view = none := by
    rw [q_dtup, if_pos (lineN_of (by decide)), qs_cons, ev_var (view_own r4 p1), qs_cons, ev_var w1]
    rfl
  have b4 : st5.last 4 = some (.lst (rowsD (runL dr 16).2), false) := by unfold St.last; rw [r4]; simp only [p1]; rfl
  have b1 : st5.last 1 = some (.lst (rowD (runL dr 16).1), false) := by unfold St.last; rw [r1]; simp only [p0]; rfl
  have c7 := cx_ret_none n1 (ev_t2 (ev_var b4) (ev_var b1))
  refine runF_eq (st := st5) rfl ?_
  show cxs Φ [.own 1 (.dlst []), .newH 2 (some 1), .for_ (.one 3) (.ce (.var 0)) bInit, .own 4 (.dlst []), .for_ (.one 5) (.rng [(.cint 15), (.neg (.cint 1)), (.neg (.cint 1))]) bLet, eBad, .ret (.dtup [(.var 4), (.var 1)])] st0 = _
  rw [cxs_cons c1, cxs_cons c2, cxs_cons c3, cxs_cons c4, cxs_cons c5, cxs_cons c6, cxs_ret c7]
end
end L1
end Mine
end
section
open PySem PySem.W PyProof.Rows
set_option autoImplicit false
set_option maxRecDepth 100000
namespace Mine
namespace L1
theorem sortN_sorted (l : List Nat) : (sortN l).Pairwise (· ≤ ·) := by
  have h := sortI_sorted (l.map fun (n : Nat) => (n : Int))
  rw [sortI_cast, List.pairwise_map] at h
  exact h.imp fun q => Int.ofNat_le.mp q
theorem sortN_of {l m : List Nat} (p : m.Perm l) (s : m.Pairwise (· ≤ ·)) : sortN l = m :=
  List.Perm.eq_of_pairwise (fun _ _ _ _ h1 h2 => Nat.le_antisymm h1 h2) (sortN_sorted l) s ((sortN_perm l).trans p.symm)
theorem sz_tab : ∀ l < 16, ∀ v < 16, v &&& l = v → ((List.range 16).filter fun x => x &&& l == v).length = szN l := by decide +kernel
theorem sz_pos (l : Nat) : 0 < szN l := Nat.two_pow_pos _
section
variable {dr : List Nat} {l v : Nat}
theorem setN_lt (hdr : ∀ v ∈ dr, v < 16) : ∀ v ∈ setN dr, v < 16 := fun v m => hdr v (setN_mem.mp m)
theorem cells_count (hdr : ∀ v ∈ dr, v < 16) (l v : Nat) : (cells (setN dr) l).count v = (((List.range 16).filter fun x => x &&& l == v).filter fun x => decide (x ∈ dr)).length := by
  unfold cells
  rw [List.count_eq_countP, List.countP_map, List.countP_eq_length_filter]
  refine List.Perm.length_eq ((List.perm_ext_iff_of_nodup ((setN_nodup dr).sublist List.filter_sublist) ((List.nodup_range.sublist List.filter_sublist).sublist List.filter_sublist)).mpr fun x => ?_)
  rw [List.mem_filter, List.mem_filter, List.mem_filter, setN_mem, List.mem_range, decide_eq_true_eq]
  exact ⟨fun h => ⟨⟨hdr x h.1, h.2⟩, h.1⟩, fun h => ⟨h.2, h.1.2⟩⟩
theorem covN_iff (hdr : ∀ v ∈ dr, v < 16) (hl : l < 16) : v ∈ covN (setN dr) l ↔ cov dr l v := by
  have key : v < 16 → v &&& l = v → ((cells (setN dr) l).count v = szN l ↔ cov dr l v) := fun v16 hv => by
    rw [cells_count hdr, ← sz_tab l hl v v16 hv, List.length_filter_eq_length_iff]
    simp only [List.mem_filter, List.mem_range, decide_eq_true_eq, beq_iff_eq]
    exact ⟨fun h => ⟨hv, fun x hx e => h x ⟨hx, e⟩⟩, fun h x hx => h.2 x hx.1 hx.2⟩
  unfold covN
  rw [List.mem_filter, setN_mem, decide_eq_true_eq]
  constructor
  · rintro ⟨h1, h2⟩
    obtain ⟨x, hx, rfl⟩ := List.mem_map.mp h1
    exact (key (Nat.lt_of_le_of_lt Nat.and_le_left (setN_lt hdr x hx)) (by rw [Nat.and_assoc, Nat.and_self])).mp h2
  · intro h
    have h2 := (key (sub16 hl h.1) h.1).mpr h
    exact ⟨List.count_pos_iff.mp (by rw [h2]; exact sz_pos l), h2⟩
theorem covN_nodup : (covN dr l).Nodup := (setN_nodup _).sublist List.filter_sublist
theorem row_perm {row : List Nat} (hdr : ∀ v ∈ dr, v < 16) (hl : l < 15) (R : RowIs dr l row) : row.Perm (covN (setN dr) l) :=
  (List.perm_ext_iff_of_nodup (R.2.1 hl) covN_nodup).mpr fun v => (R.2.2 v).trans (covN_iff hdr (by exact om_289 hl)).symm
theorem row_sort {row : List Nat} (hdr : ∀ v ∈ dr, v < 16) (hl : l < 15) (R : RowIs dr l row) : sortN row = covN (setN dr) l :=
  sortN_of (row_perm hdr hl R).symm ((sortN_sorted _).filter _)
noncomputable def eE (l v p x : Nat) : Bool := !decide (v &&& l = v) || ((l.testBit p == decide ((v ^^^ 2 ^ p) &&& l = v ^^^ 2 ^ p)) && (!l.testBit p ||
  (decide ((v &&& (15 - 2 ^ p)) &&& (l - 2 ^ p) = v &&& (15 - 2 ^ p)) && (decide (x &&& (l - 2 ^ p) = v &&& (15 - 2 ^ p)) == (decide (x &&& l = v) || decide (x &&& l = v ^^^ 2 ^ p))))))
theorem tabE : ∀ l < 16, ∀ v < 16, ∀ p < 4, ∀ x < 16, eE l v p x = true := by decide +kernel
theorem eE_at (hl : l < 16) (hv : v &&& l = v) {p : Nat} (hp : p < 4) : l.testBit p = decide ((v ^^^ 2 ^ p) &&& l = v ^^^ 2 ^ p) ∧ ∀ x < 16, l.testBit p = true → (v &&& (15 - 2 ^ p)) &&& (l - 2 ^ p) = v &&& (15 - 2 ^ p) ∧ (x &&& (l - 2 ^ p) = v &&& (15 - 2 ^ p) ↔ (x &&& l = v ∨ x &&& l = v ^^^ 2 ^ p)) := by
  have t : ∀ x < 16, l.testBit p = decide ((v ^^^ 2 ^ p) &&& l = v ^^^ 2 ^ p) ∧ (l.testBit p = true → (v &&& (15 - 2 ^ p)) &&& (l - 2 ^ p) = v &&& (15 - 2 ^ p) ∧ (x &&& (l - 2 ^ p) = v &&& (15 - 2 ^ p) ↔ (x &&& l = v ∨ x &&& l = v ^^^ 2 ^ p))) := fun x hx => by
    have t := tabE l hl v (sub16 hl hv) p hp x hx
    unfold eE at t
    rw [decide_eq_true hv, Bool.not_true, Bool.false_or, Bool.and_eq_true] at t
    refine ⟨beq_iff_eq.mp t.1, fun b => ?_⟩
    have q := t.2
    rw [b, Bool.not_true, Bool.false_or, Bool.and_eq_true] at q
    refine ⟨of_decide_eq_true q.1, ?_⟩
    have := beq_iff_eq.mp q.2
    rw [Bool.eq_iff_iff, Bool.or_eq_true, decide_eq_true_eq, decide_eq_true_eq, decide_eq_true_eq] at this
    exact this
  exact ⟨(t 0 (by decide)).1, fun x hx => (t x hx).2⟩
theorem go_at (hl : l < 16) (hc : cov dr l v) {p : Nat} (hp : p < 4) : (l.testBit p = true ∧ cov dr (l - 2 ^ p) (v &&& (15 - 2 ^ p))) ↔ cov dr l (v ^^^ 2 ^ p) := by
  obtain ⟨t1, t⟩ := eE_at hl hc.1 hp
  constructor
  · rintro ⟨b, c1, c2⟩
    rw [b] at t1
    exact ⟨of_decide_eq_true t1.symm, fun x hx e => c2 x hx ((t x hx b).2.mpr (.inr e))⟩
  · intro c
    rw [decide_eq_true c.1] at t1
    exact ⟨t1, (t 0 (by decide) t1).1, fun x hx e => ((t x hx t1).2.mp e).elim (hc.2 x hx) (c.2 x hx)⟩
theorem loose_go {row : List Nat} (hdr : ∀ v ∈ dr, v < 16) (hl : l < 16) (R : RowIs dr l row) (hv : v ∈ row) : (row.any fun u => one4 (v ^^^ u)) = canGo (setN dr) l v := by
  have hc := (R.2.2 v).mp hv
  unfold canGo
  rw [Bool.eq_iff_iff, List.any_eq_true, List.any_eq_true]
  constructor
  · rintro ⟨u, hu, h⟩
    obtain ⟨p, hp, e⟩ := one4_pow h
    have eu : u = v ^^^ 2 ^ p := by rw [← e, ← Nat.xor_assoc, Nat.xor_self, Nat.zero_xor]
    obtain ⟨h1, h2⟩ := (go_at hl hc hp).mpr (eu ▸ (R.2.2 u).mp hu)
    refine ⟨p, List.mem_range.mpr hp, ?_⟩
    rw [h1, decide_eq_true ((covN_iff hdr (Nat.lt_of_le_of_lt (Nat.sub_le _ _) hl)).mpr h2)]; rfl
  · rintro ⟨p, hp, h⟩
    rw [Bool.and_eq_true, decide_eq_true_eq] at h
    have hp := List.mem_range.mp hp
    refine ⟨v ^^^ 2 ^ p, (R.2.2 _).mpr ((go_at hl hc hp).mp ⟨h.1, (covN_iff hdr (Nat.lt_of_le_of_lt (Nat.sub_le _ _) hl)).mp h.2⟩), ?_⟩
    rw [← Nat.xor_assoc, Nat.xor_self, Nat.zero_xor]
    have : ∀ p < 4, one4 (2 ^ p) = true := by decide
    exact this p hp
end
noncomputable def base (dr : List Nat) (l : Nat) : List Nat := if l = 15 then dr else covN (setN dr) l
noncomputable def dueL (dr : List Nat) (l : Nat) : Tb := ((base dr l).filter fun v => !canGo (setN dr) l v).map fun v => (l, v)
set_option tactic.hygienic true in
theorem loose_due {dr row : List Nat} {l : Nat} (hdr : ∀ v ∈ dr, v < 16) (hl : l < 16) (R : RowIs dr l row) : ((loose row).map fun v => (l, v)).Perm (dueL dr l) := by
  refine List.Perm.map _ ?_
  have e : loose row = row.filter fun v => !canGo (setN dr) l v := List.filter_congr fun v hv => congrArg (! ·) (loose_go hdr hl R hv)
  rw [e]
  refine List.Perm.filter _ ?_
  unfold base
  split
  · rename_i h; rw [R.1 h]
  · exact row_perm hdr (by omega) R
theorem flat_perm {F G : Nat → Tb} : ∀ {ls : List Nat}, (∀ l ∈ ls, (F l).Perm (G l)) → (ls.flatMap F).Perm (ls.flatMap G)
  | [], _ => .refl _
  | l :: ls, h => by
    rw [List.flatMap_cons, List.flatMap_cons]
    exact (h l (.head _)).append (flat_perm fun k m => h k (.tail _ m))
theorem split_perm (T : Tb) : ∀ k : Nat, (T.filter fun e => decide (e.1 < k)).Perm ((List.range k).flatMap fun l => (ofL l T).map fun v => (l, v))
  | 0 => by rw [List.filter_eq_nil_iff.mpr fun e _ => by simp]; exact .refl _
  | k + 1 => by
    rw [List.range_succ, List.flatMap_append]
    refine (List.filter_append_perm (fun e => decide (e.1 < k)) _).symm.trans ?_
    refine List.Perm.append ?_ ?_
    · rw [List.filter_filter]
      refine (List.Perm.of_eq (List.filter_congr fun e _ => ?_)).trans (split_perm T k)
      rw [Bool.eq_iff_iff, Bool.and_eq_true, decide_eq_true_eq, decide_eq_true_eq]; exact om_310
    · rw [List.flatMap_singleton, List.filter_filter]
      unfold ofL
      rw [List.map_map]
      refine .of_eq ?_
      rw [List.filter_congr (q := fun e => decide (e.1 = k)) fun e _ => ?_]
      · refine ((List.map_id _).symm.trans (List.map_congr_left fun e he => ?_))
        have := of_decide_eq_true (List.mem_filter.mp he).2
        show e = (k, e.2)
        rw [← this]
      · rw [Bool.eq_iff_iff, Bool.and_eq_true, Bool.not_eq_true', decide_eq_false_iff_not, decide_eq_true_eq, decide_eq_true_eq]; exact om_311
noncomputable def due (dr : List Nat) : Tb := (List.range 16).flatMap (dueL dr)
theorem run_due {dr : List Nat} (hdr : ∀ v ∈ dr, v < 16) (h8 : dr.length = 8) : (runL dr 16).1.Perm (due dr) := by
  have J := jv_all hdr h8 (n := 16) (Nat.le_refl _)
  have h := split_perm (runL dr 16).1 16
  rw [List.filter_eq_self.mpr fun e he => decide_eq_true (J.ok e he).1] at h
  refine h.trans (flat_perm fun l hl => ?_)
  have hl := List.mem_range.mp hl
  obtain ⟨row, _, R, e⟩ := J.row (15 - l) (by exact om_295)
  rw [show 15 - (15 - l) = l by exact om_312 hl] at R e
  rw [e]
  exact loose_due hdr hl R
end L1
end Mine
end
section
open PySem PySem.W PyProof.Rows
set_option autoImplicit false
set_option maxRecDepth 100000
namespace Mine
namespace L1
theorem count_le {s : Nat} : ∀ (C L : List Nat), C.Nodup → (∀ c ∈ C, L.count c = s) → s * C.length ≤ L.length
  | [], L, _, _ => Nat.zero_le _
  | c :: C, L, hn, h => by
    obtain ⟨h1, h2⟩ := List.nodup_cons.mp hn
    have ih := count_le C (L.filter fun x => !(x == c)) h2 fun d hd => by
      rw [List.count_filter]
      · exact h d (.tail _ hd)
      · have : d ≠ c := fun z => h1 (z ▸ hd)
        simp [this]
    have e := (List.filter_append_perm (fun x => x == c) L).length_eq
    rw [List.length_append, ← List.countP_eq_length_filter, ← List.count_eq_countP, h c (.head _)] at e
    rw [List.length_cons, Nat.mul_succ]; exact om_313 ih e
theorem cov_len {ch : List Nat} {l : Nat} (h8 : ch.length ≤ 8) : (covN ch l).length ≤ 8 / szN l := by
  refine (Nat.le_div_iff_mul_le (sz_pos l)).mpr ?_
  rw [Nat.mul_comm]
  refine Nat.le_trans (count_le (covN ch l) (cells ch l) ((setN_nodup _).sublist List.filter_sublist) fun c hc => ?_) (by unfold cells; rw [List.length_map]; exact h8)
  exact of_decide_eq_true (List.mem_filter.mp hc).2
noncomputable def bnd (l : Nat) : Nat := if l = 15 then 8 else 8 / szN l
theorem flat_len {F : Nat → Tb} {b : Nat → Nat} : ∀ {ls : List Nat}, (∀ l ∈ ls, (F l).length ≤ b l) → (ls.flatMap F).length ≤ (ls.map b).sum
  | [], _ => Nat.le_refl _
  | l :: ls, h => by
    rw [List.flatMap_cons, List.length_append, List.map_cons, List.sum_cons]
    exact Nat.add_le_add (h l (.head _)) (flat_len fun k m => h k (.tail _ m))
section
variable {dr : List Nat}
theorem base_len (h8 : dr.length = 8) (l : Nat) : (base dr l).length ≤ bnd l := by
  unfold base bnd
  split
  · exact om_314 h8
  · exact cov_len (by have := setN_len dr; exact om_315 h8 this)
theorem due_len (h8 : dr.length = 8) : (due dr).length ≤ 40 :=
  Nat.le_trans (flat_len (F := dueL dr) (b := bnd) fun l _ => by
    unfold dueL
    rw [List.length_map]
    exact Nat.le_trans (List.length_filter_le _ _) (base_len h8 l)) (show ((List.range 16).map bnd).sum ≤ 40 by decide +kernel)
theorem base_lt (hdr : ∀ v ∈ dr, v < 16) {l : Nat} (hl : l < 16) : ∀ v ∈ base dr l, v < 16 := fun v m => by
  unfold base at m
  split at m
  · exact hdr v m
  · exact sub16 hl ((covN_iff hdr hl).mp m).1
end
end L1
end Mine
end
section
open PySem PySem.W PyProof.Rows
set_option autoImplicit false
set_option maxRecDepth 100000
namespace Mine
namespace L1
theorem sortP_same {l m : List (Str × Str)} (h : l.Perm m) : sortP l = sortP m := sortP_of ((sortP_perm l).trans h) (sortP_sorted l)
section
variable {Φ : Fns} {ρ : Env'}
theorem sortP_ev (hg : (Φ ".sortedP").isSome = true) {e : CE} {ps : List (Str × Str)} {t : Bool} (h : ev Φ e ρ = some (.lst (ps.map pairD), t)) (hl : ps.length < 64) : ev Φ (.prim .sortedP [e]) ρ = some (.lst ((sortP ps).map pairD), false) := by
  refine ev_prim (evs_cons h evs_nil) ?_
  have q : primT Φ .sortedP [(.lst (ps.map pairD), t)] = primD .sortedP [.lst (ps.map pairD)] := by
    unfold primT
    have : gate Φ .sortedP = true := hg
    rw [this]; rfl
  rw [q]
  show (if (ps.map pairD).length < 64 then (asPairs (ps.map pairD)).map (fun ps => D.lst ((sortP ps).map pairD)) else none) = _
  rw [if_pos (by rw [List.length_map]; exact hl), asPairs_pairs]; rfl
theorem take_ev {e : CE} {ds : List D} {k : Nat} {t : Bool} (h : ev Φ e ρ = some (.lst ds, t)) (hl : ds.length ≤ 1000000) : ev Φ (.take e k) ρ = some (.lst (ds.take k), false) := by
  rw [q_take, h]
  show (if ds.length ≤ lineN then some (D.lst (ds.take k)) else none).map (·, false) = _
  rw [if_pos (lineN_of hl)]; rfl
theorem drop_ev {e : CE} {ds : List D} {k : Nat} {t : Bool} (h : ev Φ e ρ = some (.lst ds, t)) (hl : ds.length ≤ 1000000) : ev Φ (.drop e k) ρ = some (.lst (ds.drop k), false) := by
  rw [q_drop, h]
  show (if ds.length ≤ lineN then some (D.lst (ds.drop k)) else none).map (·, false) = _
  rw [if_pos (lineN_of hl)]; rfl
end
noncomputable def bInn : List CS := [.ite (.not (.val (.call "_law_can_go" [(.var 3), (.var 5), (.var 8)])))
          [.app 4 (.dtup [(.call "_law_word" [(.var 5), (.var 8)]), (.bin .Mult (.cstr "i") (.var 8))])]
          []]
noncomputable def eBase : CE := .ite (.cmp .Eq (.var 5) (.cint 15)) (.var 1) (.idx (.var 3) (.bin .Sub (.cint 15) (.var 5)))
structure Fl1 (Φ : Fns) (dr : List Nat) (st : St) (T : Tb) : Prop where
  r1 : st.ρ 1 = some (.val (.lst (dr.map nD)))
  r3 : st.ρ 3 = some (.val (cvD (setN dr)))
  r4 : st.ρ 4 = some (.own 0)
  r7 : st.ρ 7 = some (.val (.lst (rowD (runL dr 16).1)))
  sg : st.σ = [rowD T]
section
variable {Φ : Fns} {dr : List Nat} {T : Tb} {l : Nat}
set_option tactic.hygienic true in
theorem inn_loop (hW : Φ "_law_word" = some (runF Φ8 ps_law_word cs_law_word)) (hG : Φ "_law_can_go" = some (runF Φ12 ps_law_can_go cs_law_can_go)) (hl : l < 16) {vs : List Nat} (hv : ∀ v ∈ vs, v < 16) (hn : T.length + vs.length ≤ 1000000) {st : St} (F : Fl1 Φ dr st T) (r5 : st.ρ 5 = some (.val (nD l))) :
    ∃ st', loopG (turn Φ (.one 8) bInn) (vs.map nD) st = some (st', .next) ∧ Fl1 Φ dr st' (T ++ (vs.filter fun v => !canGo (setN dr) l v).map fun v => (l, v)) := by
  let I : List Nat → St → Prop := fun pre st' => Fl1 Φ dr st' (T ++ (pre.filter fun v => !canGo (setN dr) l v).map fun v => (l, v)) ∧ st'.ρ 5 = some (.val (nD l))
  refine oE1_3 (loop_map (f := turn Φ (.one 8) bInn) (g := nD) I (l := vs) (st := st) ⟨by rw [List.filter_nil, List.map_nil, List.append_nil]; exact F, r5⟩ (fun pre v post st' he hI => by
    obtain ⟨G, h5⟩ := hI
    let s1 := st'.set 8 (.val (nD v))
    have v16 := hv v (by rw [he]; simp)
    have hlen : pre.length ≤ vs.length := by rw [he]; simp
    have w5 : s1.view 5 = some (nD l, false) := view_val h5
    have w8 : s1.view 8 = some (nD v, false) := rfl
    have w3 : s1.view 3 = some (cvD (setN dr), false) := view_val G.r3
    have t := tr_not (tr_val (ev_call hG (evs_cons (ev_var w3) (evs_cons (ev_var w5) (evs_cons (ev_var w8) evs_nil))) (can_val (g := v) hl) rfl) (show truD (.bool (canGo (setN dr) l v)) = some _ from rfl))
    have fl := List.length_filter_le (fun v => !canGo (setN dr) l v) pre
    show ∃ st2, _ ∧ (Fl1 Φ dr st2 (T ++ ((pre ++ [v]).filter fun v => !canGo (setN dr) l v).map fun v => (l, v)) ∧ st2.ρ 5 = some (.val (nD l)))
    rw [List.filter_append]
    cases q : (!canGo (setN dr) l v) with
    | true =>
      rw [q] at t
      have e := cx_app (Φ := Φ) (st := s1) (x := 4) (e := .dtup [(.call "_law_word" [(.var 5), (.var 8)]), (.bin .Mult (.cstr "i") (.var 8))]) G.r4 (ev_t2 (call_word hW hl v16 (ev_var w5) (ev_var w8)) (stroke_ev v16 (ev_var w8)))
        (show s1.σ[0]? = some (rowD (T ++ (pre.filter fun v => !canGo (setN dr) l v).map fun v => (l, v))) by show st'.σ[0]? = _; rw [G.sg]; rfl) (by rw [row_len, List.length_append, List.length_map]; exact om_316 hn hlen fl)
      refine ⟨_, cxs_one ((cx_ite_t t).trans (cxs_one e)), ⟨G.r1, G.r3, G.r4, G.r7, ?_⟩, h5⟩
      rw [List.filter_cons_of_pos (by rw [q]), List.filter_nil, List.map_append, ← List.append_assoc, List.map_singleton, row_app]
      show st'.σ.set 0 _ = _
      rw [G.sg]; rfl
    | false =>
      rw [q] at t
      refine ⟨s1, cxs_one ((cx_ite_f t).trans (by rw [qxs_nil])), ?_, h5⟩
      rw [List.filter_cons_of_neg (by rw [q]; exact Bool.false_ne_true), List.filter_nil, List.append_nil]
      exact ⟨G.r1, G.r3, G.r4, G.r7, G.sg⟩)) fun st' hloop G h5 => ?_
  exact ⟨st', hloop, G⟩
set_option tactic.hygienic true in
theorem due_loop (hW : Φ "_law_word" = some (runF Φ8 ps_law_word cs_law_word)) (hG : Φ "_law_can_go" = some (runF Φ12 ps_law_can_go cs_law_can_go)) (hdr : ∀ v ∈ dr, v < 16) (h8 : dr.length = 8) {st : St} (F : Fl1 Φ dr st []) :
    ∃ st', cx Φ (.for_ (.one 5) (.rng [(.cint 16)]) [.for_ (.one 8) (.ce eBase) bInn]) st = some (st', .next) ∧ Fl1 Φ dr st' (due dr) := by
  let I : List Nat → St → Prop := fun pre st' => Fl1 Φ dr st' (pre.flatMap (dueL dr))
  refine oE1_2 (loop_map (f := turn Φ (.one 5) [.for_ (.one 8) (.ce eBase) bInn]) (g := nD) I (l := List.range 16) (st := st) F (fun pre i post st' he G => by
    have G : Fl1 Φ dr st' (pre.flatMap (dueL dr)) := G
    obtain ⟨hi, hi16⟩ := range_at he
    let s1 := st'.set 5 (.val (nD i))
    have w5 : s1.view 5 = some (nD i, false) := rfl
    have t : tr Φ (.cmp .Eq (.var 5) (.cint 15)) s1.view = some (decide (i = 15)) := tr_cmp (ev_var w5) (ev_nD (n := 15) rfl) (cmp_eq_nD _ _)
    have eb : ev Φ eBase s1.view = some (.lst ((base dr i).map nD), false) := by
      unfold eBase base
      by_cases q : i = 15
      · rw [if_pos q]
        rw [decide_eq_true q] at t
        exact (ev_ite_t t).trans (ev_var (show s1.view 1 = some (.lst (dr.map nD), false) from view_val G.r1))
      · rw [if_neg q]
        rw [decide_eq_false q] at t
        refine (ev_ite_f t).trans ?_
        have := cv_at (Φ := Φ) (k := 15 - i) (ev_var (show s1.view 3 = some (cvD (setN dr), false) from view_val G.r3)) (ev_bin (ev_nD (n := 15) rfl) (ev_var w5) (subN_bin (by exact om_228 hi16))) (by exact om_295)
        rw [show 15 - (15 - i) = i by exact om_312 hi16] at this
        exact this
    have hfl : (pre.flatMap (dueL dr)).length ≤ (pre.map bnd).sum := flat_len fun l _ => by
      unfold dueL
      rw [List.length_map]
      exact Nat.le_trans (List.length_filter_le _ _) (base_len h8 l)
    have hb : (pre.map bnd).sum ≤ 40 := by
      rw [range_pre he]
      have : ∀ i < 16, ((List.range i).map bnd).sum ≤ 40 := by decide +kernel
      exact this i hi16
    have hbl : (base dr i).length ≤ 8 := Nat.le_trans (base_len h8 i) (by unfold bnd; split; exact Nat.le_refl _; exact Nat.div_le_self _ _)
    obtain ⟨st2, e, G2⟩ := inn_loop (T := pre.flatMap (dueL dr)) hW hG hi16 (base_lt hdr hi16) (by exact om_317 hfl hb hbl) (st := s1) ⟨G.r1, G.r3, G.r4, G.r7, G.sg⟩ rfl
    refine ⟨st2, cxs_one ((cx_for_ce eb rfl).trans e), ?_⟩
    show Fl1 Φ dr st2 ((pre ++ [i]).flatMap (dueL dr))
    rw [List.flatMap_append, List.flatMap_singleton]
    exact G2)) fun st' hloop G => ?_
  exact ⟨st', (cx_for_n (e := .cint 16) (n := 16) (ev_nD rfl) (by decide)).trans hloop, G⟩
end
theorem fx : Fx Φ10 := ⟨rfl, rfl, rfl, rfl, ⟨_, rfl⟩, ⟨_, rfl⟩, ⟨_, rfl⟩⟩
theorem cvD_gd (ch : List Nat) (k : Nat) : Gd 2 (.lst (((List.range 16).map fun i => D.lst ((covN ch (15 - i)).map nD)).drop k)) := .lst fun d hd => by
  obtain ⟨i, _, rfl⟩ := List.mem_map.mp (List.mem_of_mem_drop hd)
  exact Gd_nD _
set_option tactic.hygienic true in
theorem true1 (ns : List Int) (hl : ns.length ≤ 63) : runF L1.Φ L1.pslaw L1.cslaw [.lst (ns.map .int)] = some (.bool true) := by
  obtain ⟨dr, h8, hdr, hD⟩ := drawn_val (Φ := Φ7) ns hl
  have J := jv_all hdr h8 (n := 16) (Nat.le_refl _)
  have hp := run_due hdr h8
  have hdl := due_len h8
  let Q : Fns := L1.Φ
  let a0 : St := startSt pslaw [.lst (ns.map .int)]
  let a1 := a0.set 1 (.val (.lst (dr.map nD)))
  have c1 : cx Q (.asg 1 (.call "_law_drawn" [(.var 0)])) a0 = some (a1, .next) := cx_asg (ev_call (F := runF Φ7 ps_law_drawn cs_law_drawn) rfl (evs_cons (ev_var (show a0.view 0 = some (.lst (ns.map .int), false) from rfl)) evs_nil) hD rfl)
  have w1 : a1.view 1 = some (.lst (dr.map nD), false) := rfl
  let a2 := (a1.set 6 (.val (.lst (rowsD (runL dr 16).2)))).set 7 (.val (.lst (rowD (runL dr 16).1)))
  have c2 : cx Q (.asgM [6, 7] (.call "_law_joined" [(.var 1)])) a1 = some (a2, .next) := cx_asgM (ev_call (F := runF Φ10 ps_law_joined cs_law_joined) rfl (evs_cons (ev_var w1) evs_nil) (joined_val fx hdr h8) rfl) rfl
  let a3 := a2.set 2 (.val (.lst ((setN dr).map nD)))
  have c3 : cx Q (.asg 2 (.prim .sortedSet [(.var 1)])) a2 = some (a3, .next) := cx_asg (set_ev rfl (ev_var (show a2.view 1 = some (.lst (dr.map nD), false) from rfl)) (by exact om_318 h8) hdr)
  have w2 : a3.view 2 = some (.lst ((setN dr).map nD), false) := rfl
  let a4 := a3.set 3 (.val (cvD (setN dr)))
  have hsl : (setN dr).length ≤ 16 := by have := setN_len dr; exact om_319 h8 this
  have c4 : cx Q (.asg 3 (.comp (.call "_law_covers" [(.var 2), (.var 9)]) (.one 9) (.rng [(.cint 15), (.neg (.cint 1)), (.neg (.cint 1))]) [])) a3 = some (a4, .next) :=
    cx_asg (ev_comp_all (f := fun i => nD (15 - i)) (l := List.range 16) (wk_rng (evs_cons (ev_int 15) (evs_cons (ev_neg (ev_int 1)) (evs_cons (ev_neg (ev_int 1)) evs_nil))) (down_rng.trans (by rw [List.map_map]; rfl))) (by decide) fun i _ =>
      ev_call (F := runF Φ11 ps_law_covers cs_law_covers) rfl (evs_cons (ev_var (bind1_ne (by decide) w2)) (evs_cons (ev_var (bind1_eq _ _)) evs_nil)) (covers_val rfl (setN_lt hdr) hsl (15 - i)) rfl)
  have w6 : a4.view 6 = some (.lst (rowsD (runL dr 16).2), false) := rfl
  have hrl : (rowsD (runL dr 16).2).length = 16 := by unfold rowsD; rw [List.length_map, J.rl]
  have e1 : (rowsD (runL dr 16).2).take 1 = [.lst (dr.map nD)] := by
    obtain ⟨row, h1, R, _⟩ := J.row 0 (by decide)
    unfold rowsD
    generalize (runL dr 16).2 = rs at h1
    cases rs with
    | nil => cases h1
    | cons r rs => cases h1; rw [R.1 rfl]; rfl
  have hrow : ∀ r ∈ (runL dr 16).2, r.length ≤ 16 := fun r hr => by
    obtain ⟨j, hj, rfl⟩ := List.mem_iff_getElem.mp hr
    rw [J.rl] at hj
    obtain ⟨row, h1, R, _⟩ := J.row j hj
    have := row_len16 (by exact om_295) h8 R
    rw [List.getElem?_eq_getElem (by rw [J.rl]; exact hj)] at h1
    cases h1; exact this
  have e2 : ((runL dr 16).2.drop 1).map (fun r => D.lst ((sortN r).map nD)) = ((List.range 16).map fun i => D.lst ((covN (setN dr) (15 - i)).map nD)).drop 1 := by
    refine List.ext_getElem? fun i => ?_
    rw [List.getElem?_map, List.getElem?_drop, List.getElem?_drop, List.getElem?_map]
    rcases Nat.lt_or_ge (1 + i) 16 with q | q
    · obtain ⟨row, h1, R, _⟩ := J.row (1 + i) q
      rw [h1, List.getElem?_range q]
      show some (D.lst ((sortN row).map nD)) = some (D.lst ((covN (setN dr) (15 - (1 + i))).map nD))
      rw [row_sort hdr (by exact om_320) R]
    · rw [List.getElem?_eq_none (by rw [J.rl]; exact q), List.getElem?_eq_none (by rw [List.length_range]; exact q)]; rfl
  have gd1 : Gd 2 (.lst [.lst (dr.map nD)]) := .lst fun d hd => by rw [List.mem_singleton.mp hd]; exact Gd_nD _
  have t5 : tr Q (.or [(.cmp .NotEq (.take (.var 6) 1) (.dlst [(.var 1)])), (.cmp .NotEq (.comp (.prim .sorted [(.var 10)]) (.one 10) (.ce (.drop (.var 6) 1)) []) (.drop (.var 3) 1))]) a4.view = some false := by
    refine tr_or2 (x := false) ?_ fun _ => ?_
    · have := take_ev (k := 1) (ev_var (Φ := Q) w6) (by exact om_321 hrl)
      rw [e1] at this
      exact tr_cmp this (ev_d1 (ev_var (show a4.view 1 = some (.lst (dr.map nD), false) from rfl))) (cmp_ne_self gd1 (by decide))
    · have h6 : wk Q (.ce (.drop (.var 6) 1)) a4.view = some (((runL dr 16).2.drop 1).map fun r => .lst (r.map nD)) := by
        refine wk_ce (drop_ev (k := 1) (ev_var w6) (by exact om_321 hrl)) ?_
        show some ((rowsD (runL dr 16).2).drop 1) = _
        unfold rowsD; rw [List.map_drop]
      have := ev_comp_all (Φ := Q) (elt := .prim .sorted [(.var 10)]) (x := 10) (g := fun r => D.lst ((sortN r).map nD)) h6 (by rw [List.length_drop, J.rl]; exact om_322) fun r hr => sorted_nD (ev_var (bind1_eq _ _)) (by have := hrow r (List.mem_of_mem_drop hr); exact om_208 this)
      rw [e2] at this
      exact tr_cmp this (drop_ev (k := 1) (ev_var (show a4.view 3 = some (cvD (setN dr), false) from rfl)) (by rw [List.length_map, List.length_range]; exact om_323)) (cmp_ne_self (cvD_gd _ 1) (by decide))
  let a5 : St := { ρ := fun y => if y = 4 then some (.own 0) else a4.ρ y, σ := [[]] }
  have c6 : cx Q (.own 4 (.dlst [])) a4 = some (a5, .next) := cx_own ev_dnil
  refine oE1_2 (due_loop (Φ := Q) (dr := dr) (st := a5) rfl rfl hdr h8 ⟨rfl, rfl, rfl, rfl, rfl⟩) fun a6 c7 F => ?_
  have s1 := sortP_ev (Φ := Q) (ps := (runL dr 16).1.map prW) rfl (ev_var (view_val F.r7)) (by rw [List.length_map, hp.length_eq]; exact om_324 hdl)
  have s2 := sortP_ev (Φ := Q) (ps := (due dr).map prW) rfl (ev_var (view_own F.r4 (by rw [F.sg]; rfl))) (by rw [List.length_map]; exact om_324 hdl)
  rw [sortP_same (hp.map prW)] at s1
  have TO : TOk (due dr) := fun e he => J.ok e (hp.mem_iff.mpr he)
  have gd : Gd 2 (.lst ((sortP ((due dr).map prW)).map pairD)) := .lst fun d hd => by
    obtain ⟨p, hp', rfl⟩ := List.mem_map.mp hd
    have := (sortP_perm _).mem_iff.mp hp'
    cases Gd_row TO with
    | lst h => exact h _ (List.mem_map_of_mem this)
  have c8 := cx_ret (Φ := Q) (ev_cmp s1 s2 (cmp_eq_self gd (by decide)))
  refine runF_eq (st := a6) rfl ?_
  show cxs Q cslaw a0 = _
  unfold cslaw
  rw [cxs_cons c1, cxs_cons c2, cxs_cons c3, cxs_cons c4, cxs_cons ((cx_ite_f t5).trans (by rw [cxs])), cxs_cons c6]
  exact (cxs_cons c7).trans (cxs_ret c8)
end L1
end Mine
end
section
open PySem PySem.W PyProof.Rows
namespace Mine
set_option tactic.hygienic true in
set_option maxRecDepth 100000 in
set_option maxHeartbeats 8000000 in
theorem join1 (hrun : ∀ ns : List Int, ns.length ≤ 63 → runF L1.Φ L1.pslaw L1.cslaw [.lst (ns.map .int)] = some (.bool true)) : PySem.Challenge.rw_sc0060_01.Holds := by
  refine hd01 ?_
  w_on
  k_fill
  intro w s₀ s₁ mg mb G Y fa o pm cd doc dV kV ho hd hcd hD hmg hg args vals as hpre hlay hrd hwl hlo
  have KX := kIn_of Y
  refine Ground.open G ?_
  intro T B D TE TW
  try (refine guard_noD D (by decide +kernel) ?_; clear D)
  wrow_args hpre hlay hrd hwl hlo
  rename_i ns _ _ _ _ _ _ _ l vs _ hL _ _ _ hI _ hc _
  have hlen : ns.length ≤ 63 := by
    have := Int.not_lt.mp hc
    omega
  obtain ⟨H, X⟩ := L1.hyp KX T.nolimit T.g T.b T.builtins
  refine wpAny_call (law_code KX X H T.g (L1.flaw w.params) hmg (by exact ⟨by decide, by decide, rfl⟩) (Keep.refl _) (.one (.lst trivial hL (rpA_ints hI))) (hrun ns hlen) fun v s' ks r => ?_)
  cases r
  obtain ⟨h', tk, rfl, kk⟩ := ks
  refine GoodW.toG ⟨.inl ⟨.bool true, .bool true, [], rfl, fun _ => rfl, .bool true, ?_, unshared_nil⟩, kk, rfl, hg⟩
  first | kc_post | wrow_post
end Mine
end
theorem PySem.Challenge.cw_sc0060_01_holds : PySem.Challenge.rw_sc0060_01.Holds := by
  exact Mine.join1 Mine.L1.true1
