import PyProof.Rows.All
import Wide.All
import OpenK.AllK
import Wide.FinOn
import PySem.Challenge.RW_gj0003_01
set_option Elab.async false
section
namespace Mine
theorem absurd_om {p : Prop} (h : False) : p := h.elim
theorem om_1 {x0 : Nat} {x1 : Nat} {x2 : Nat} (h0 : x0 + (x1 + (1 : Nat)) < x2) : x0 + (1 : Nat) + x1 < x2 := by lia
theorem om_2 {x0 : Nat} {x1 : Nat} {x2 : Nat} (h0 : x0 + (40 : Nat) * (x1 + (1 : Nat)) + (100 : Nat) < x2) : x0 + (3 : Nat) + (40 : Nat) * x1 + (100 : Nat) < x2 := by lia
theorem om_3 {x0 : Nat} {x1 : Nat} {x2 : Nat} {x3 : Nat} (h0 : x0 ≤ x1) (h1 : x2 + x1 < x3) : x2 + x0 < x3 := by lia
theorem om_4 {x0 : Nat} {x1 : Nat} {x2 : Nat} {x3 : Nat} (h0 : x0 ≤ x1) (h1 : x2 + (40 : Nat) * x1 + (100 : Nat) < x3) : x2 + (40 : Nat) * x0 + (100 : Nat) < x3 := by lia
theorem om_5 {x0 : Nat} {x1 : Nat} {x2 : Nat} (h0 : x0 + (40 : Nat) * x1 + (100 : Nat) < x2) : x0 < x2 := by lia
theorem om_6 {x0 : Nat} {x1 : Nat} {x2 : Nat} (h0 : x0 + (40 : Nat) * x1 + (100 : Nat) < x2) : x0 + (1 : Nat) < x2 := by lia
theorem om_7 {x0 : Nat} {x1 : Nat} {x2 : Nat} (h0 : x0 + (40 : Nat) * x1 + (100 : Nat) < x2) : x0 + (2 : Nat) < x2 := by lia
theorem om_8 {x0 : Nat} {x1 : Nat} {x2 : Nat} (h0 : x0 + x1 < x2) : x0 < x2 := by lia
theorem om_9 {x0 : Nat} {x1 : Nat} {x2 : Nat} (h0 : x0 ≤ x1) (h1 : x2 ≤ x1) : max x0 x2 ≤ x1 := by lia
theorem om_10 {x0 : Nat} {x1 : Nat} {x2 : Nat} (h0 : x0 + (40 : Nat) * x1 + (100 : Nat) < x2) : x0 + (64 : Nat) < x2 := by lia
theorem om_11 {x0 : Nat} {x1 : Nat} (h0 : x0 = x1) : x0 ≤ x1 := by exact Nat.le_of_eq h0
theorem om_12 {x0 : Nat} {x1 : Nat} (h0 : x0 = x1) : x1 ≤ x0 := by exact Nat.le_of_eq h0.symm
theorem om_13 {x0 : Int} {x1 : Nat} (h0 : Int.toNat x0 < x1) : x0 < (↑x1 : Int) := by lia
theorem om_14 {x0 : Nat} {x1 : Nat} {x2 : Nat} {x3 : Nat} {x4 : Nat} {x5 : Nat} (h0 : x0 + x1 ≤ x2) (h1 : x3 = x0) (h2 : x4 = x1) (h3 : x2 ≤ x5) : x3 + x4 ≤ x5 := by lia
theorem om_15 {x0 : Int} {x1 : Nat} (h0 : x0 ≠ (0 : Int) ∧ x1 < (300 : Nat)) : x1 < (1073741824 : Nat) := by lia
theorem om_16 {x0 : Nat} (h0 : x0 ≤ (64 : Nat)) : (↑x0 : Int) ≤ (64 : Int) := by exact Int.ofNat_le.mpr h0
theorem om_17 {x0 : Int} {x1 : Nat} (h0 : (0 : Int) ≤ x0 ∧ x0 ≤ (1000 : Int) ∧ x1 < (1000 : Nat)) : x0 ≤ (1000 : Int) := by lia
theorem om_18 : (0 : Int) ≤ (64 : Int) := by exact Int.natCast_nonneg _
theorem om_19 {x0 : Nat} {x1 : Nat} {x2 : Nat} {x3 : Nat} (h0 : x0 ≤ x1) (h1 : x2 = x0) (h2 : x1 ≤ x3) : x2 ≤ x3 := by lia
theorem om_20 {x0 : Int} (h0 : (0 : Int) ≤ x0) : (↑(Int.toNat x0) : Int) = x0 := by lia
theorem om_21 {x0 : Nat} {x1 : Nat} {x2 : Int} (h0 : x0 ≤ x1) : min (Int.toNat x2) x0 ≤ x1 := by lia
theorem om_22 {x0 : Nat} {x1 : Nat} (h0 : x0 + (1 : Nat) ≤ x1) : x0 < x1 := by exact h0
theorem om_23 {x0 : Int} {x1 : Int} {x2 : Int} {x3 : Int} (h0 : -x0 ≤ x1 ∧ x1 ≤ x0) (h1 : -x2 ≤ x3 ∧ x3 ≤ x2) : -(x2 + x0) ≤ x1 + x3 ∧ x1 + x3 ≤ x2 + x0 := by lia
theorem om_24 {x0 : Int} {x1 : Int} (h0 : ¬x0 ≤ x1) : x1 ≤ x0 := by lia
theorem om_25 {x0 : Nat} {x1 : Nat} {x2 : Nat} (h0 : x0 = x1) (h1 : x1 ≤ (200 : Nat)) (h2 : x2 < x0) : x2 + (1 : Nat) ≤ (200 : Nat) := by lia
theorem om_26 {x0 : Nat} {x1 : Nat} (h0 : x0 < (64 : Nat)) (h1 : x1 = x0) : x1 < (64 : Nat) := by exact h1 ▸ h0
theorem om_27 {x0 : Nat} {x1 : Nat} (h0 : x0 < (64 : Nat)) (h1 : x1 = (200 : Nat)) : x0 ≤ x1 := by exact (h1 ▸ Nat.le_of_lt (Nat.lt_of_lt_of_le h0 (by decide)))
theorem om_28 {x0 : Nat} {x1 : Nat} : x0 < x0 + (x1 + (1 : Nat)) := by lia
theorem om_29 {x0 : Nat} {x1 : Nat} (h0 : x0 + (1 : Nat) ≤ x1) : x0 ≤ x1 := by exact Nat.le_of_lt h0
theorem om_30 {x0 : Nat} {x1 : Nat} {x2 : Nat} (h0 : x0 < x1 + (1 : Nat) + x2) : x0 < x1 + (x2 + (1 : Nat)) := by lia
theorem om_31 {x0 : Nat} {x1 : Nat} : x0 + (1 : Nat) + x1 = x0 + (x1 + (1 : Nat)) := by lia
theorem om_32 {x0 : Nat} {x1 : Nat} (h0 : (1 : Nat) ≤ x0) (h1 : x0 < (1 : Nat) + (x1 - (1 : Nat))) : x0 < x1 := by lia
theorem om_33 {x0 : Nat} {x1 : Nat} (h0 : (1 : Nat) ≤ x0) (h1 : x0 < (1 : Nat) + (x1 - (1 : Nat))) : x0 - (1 : Nat) < x1 := by lia
theorem om_34 {x0 : Nat} (h0 : (2 : Nat) ≤ x0) : (1 : Nat) + (x0 - (1 : Nat)) = x0 := by lia
theorem om_35 {x0 : Nat} : ¬(1 : Nat) + (x0 - (1 : Nat)) < x0 := by lia
theorem om_36 {x0 : Nat} {x1 : Nat} {x2 : Nat} (h0 : x0 = x1) (h1 : x2 < x0) : x2 < x1 := by exact h0 ▸ h1
theorem om_37 {x0 : Nat} {x1 : Nat} (h0 : x0 < x1) : x0 - (1 : Nat) < x1 := by lia
theorem om_38 {x0 : Nat} (h0 : (1 : Nat) ≤ x0) : x0 - (1 : Nat) < x0 := by lia
theorem om_39 {x0 : Int} {x1 : Int} {x2 : Int} {x3 : Int} (h0 : x0 < x1 ∨ x0 = x1 ∧ x2 < x3) : ¬(x1 < x0 ∨ x1 = x0 ∧ x3 < x2) := by lia
theorem om_40 : (0 : Nat) ≤ (16777216 : Nat) := by exact Nat.zero_le _
theorem om_41 {x0 : Nat} (h0 : x0 < (64 : Nat)) : x0 ≤ (16777216 : Nat) := by exact Nat.le_of_lt (Nat.lt_of_lt_of_le h0 (by decide))
theorem om_42 {x0 : Nat} (h0 : x0 < (2 : Nat)) : x0 ≤ (16777216 : Nat) + (1 : Nat) := by exact Nat.le_of_lt (Nat.lt_of_lt_of_le h0 (by decide))
theorem om_43 {x0 : Nat} {x1 : Nat} {x2 : Nat} (h0 : x0 = x1) (h1 : ¬x0 < (2 : Nat)) (h2 : x2 = x1) : (0 : Nat) < x2 := by lia
theorem om_44 {x0 : Nat} (h0 : ¬x0 < (2 : Nat)) : (2 : Nat) ≤ x0 := by lia
theorem om_45 {x0 : Nat} (h0 : x0 < (64 : Nat)) : x0 ≤ (16777216 : Nat) + (1 : Nat) := by exact Nat.le_of_lt (Nat.lt_of_lt_of_le h0 (by decide))
theorem om_46 : (0 : Nat) + (1 : Nat) + (1 : Nat) + ((0 : Nat) + (1 : Nat) + (1 : Nat) + (1 : Nat) + (1 : Nat)) +     ((0 : Nat) + (1 : Nat) + (1 : Nat)) ≤   (16777216 : Nat) + (2 : Nat) := by decide
theorem om_47 {x0 : Nat} : (↑(x0 + (1 : Nat)) : Int) = (↑x0 : Int) + (1 : Int) := by rfl
theorem om_48 : (0 : Nat) + (1 : Nat) + (1 : Nat) ≤ (16777216 : Nat) := by decide
theorem om_49 : (0 : Nat) + (1 : Nat) + (1 : Nat) + (1 : Nat) + (1 : Nat) ≤ (16777216 : Nat) + (2 : Nat) := by decide
theorem om_50 : (0 : Nat) + (1 : Nat) ≤ (16777216 : Nat) + (2 : Nat) := by decide
theorem om_51 {x0 : Nat} {x1 : Nat} (h0 : x0 < x1) : (0 : Int) < (↑x1 : Int) - (↑x0 : Int) := by lia
theorem om_52 {x0 : Nat} {x1 : Nat} : (↑x0 : Int) - (↑(x1 + (1 : Nat)) : Int) = (↑x0 : Int) - (↑x1 : Int) - (1 : Int) := by lia
theorem om_53 {x0 : Nat} {x1 : Nat} {x2 : Nat} (h0 : x0 = x1) (h1 : x0 = x2) : x2 = x1 := by exact h1 ▸ h0
theorem om_54 {x0 : Int} (h0 : (0 : Int) ≤ x0) : (↑(Int.toNat x0) : Int) - (↑(0 : Nat) : Int) = x0 := by lia
theorem om_55 {x0 : Nat} {x1 : Nat} (h0 : x0 < x1) : x1 - (x0 + (1 : Nat)) < x1 - x0 := by lia
theorem om_56 {x0 : Nat} {x1 : Nat} {x2 : Nat} {x3 : Nat} {x4 : Nat} {x5 : Nat} (h0 : x0 + x1 ≤ x2) (h1 : x3 + (x4 + x5) = x0 + x1) : x3 + x4 ≤ x2 := by lia
theorem om_57 {x0 : Nat} {x1 : Nat} (h0 : (↑x0 : Int) < (↑x1 : Int)) : x0 < x1 := by exact Int.ofNat_lt.mp h0
theorem om_58 {x0 : Int} {x1 : Nat} {x2 : Nat} (h0 : (0 : Int) ≤ x0 ∧ Int.toNat x0 < x1) (h1 : x2 = x1) : x0 < (↑x2 : Int) := by lia
theorem om_59 {x0 : Nat} {x1 : Nat} {x2 : Nat} {x3 : Nat} (h0 : x0 ≤ x1) (h1 : x1 ≤ x2) : min x0 x3 ≤ x2 := by lia
theorem om_60 {x0 : Nat} {x1 : Nat} {x2 : Nat} (h0 : x0 ≤ x1) (h1 : x2 ≤ x0) : x2 ≤ x1 := by exact Nat.le_trans h1 h0
theorem om_61 {x0 : Nat} (h0 : x0 < (29 : Nat)) : x0 + (0 : Nat) + (0 : Nat) < (30 : Nat) := by exact Nat.le_succ_of_le h0
theorem om_62 {x0 : Int} {x1 : Nat} {x2 : Nat} (h0 : (0 : Int) ≤ x0 ∧ x0 < (300 : Int) ∧ x1 + (1 : Nat) ≤ x2) : ¬x0 < (0 : Int) := by lia
theorem om_63 {x0 : Int} {x1 : Nat} {x2 : Nat} (h0 : (0 : Int) ≤ x0 ∧ x0 < (300 : Int) ∧ x1 + (1 : Nat) ≤ x2) : min (Int.toNat x0) x1 + (x1 - Int.toNat x0 + (1 : Nat)) ≤ x2 := by lia
theorem om_64 {x0 : Nat} {x1 : Nat} {x2 : Nat} (h0 : x0 = x1) (h1 : x1 ≤ x2) : x0 ≤ x2 := by exact h0 ▸ h1
theorem om_65 {x0 : Nat} {x1 : Nat} {x2 : Nat} (h0 : x0 < x1 + (1 : Nat)) (h1 : x2 < x0) : x2 < x1 := by lia
theorem om_66 {x0 : Int} : (0 : Int) + x0 = x0 := by lia
theorem om_67 {x0 : Nat} : (0 : Nat) ≤ x0 := by exact Nat.zero_le _
theorem om_68 {x0 : Nat} : x0 ≤ x0 := by lia
theorem om_69 {x0 : Nat} : x0 = x0 - (0 : Nat) := by rfl
theorem om_70 : (0 : Int) ≤ (2 : Int) := by exact Int.natCast_nonneg _
theorem om_71 {x0 : Nat} {x1 : Nat} : ((↑x0 : Int) + (↑x1 : Int)) / (2 : Int) = (↑((x0 + x1) / (2 : Nat)) : Int) := by rfl
theorem om_72 {x0 : Nat} {x1 : Nat} {x2 : Nat} {x3 : Nat} (h0 : x0 ≤ x1) (h1 : x2 < x0) (h2 : (x2 + x0) / (2 : Nat) = x3) : x3 < x1 := by lia
theorem om_73 {x0 : Nat} {x1 : Nat} (h0 : x0 < (40 : Nat)) (h1 : x1 < x0) : (0 : Int) ≤ (↑x1 : Int) ∧ (↑x1 : Int) < (300 : Int) := by lia
theorem om_74 {x0 : Nat} {x1 : Nat} {x2 : Nat} (h0 : x0 < x1) (h1 : (x0 + x1) / (2 : Nat) = x2) : x1 - (x2 + (1 : Nat)) < x1 - x0 := by lia
theorem om_75 {x0 : Nat} {x1 : Nat} {x2 : Nat} {x3 : Nat} (h0 : x0 ≤ x1) (h1 : x1 ≤ x2) (h2 : x3 < x0) : x3 + (1 : Nat) ≤ x0 ∧ x0 ≤ x1 ∧ x1 ≤ x2 ∧ x1 - (x3 + (1 : Nat)) = x1 - (x3 + (1 : Nat)) := by lia
theorem om_76 {x0 : Nat} {x1 : Nat} {x2 : Nat} (h0 : x0 < x1) (h1 : (x0 + x1) / (2 : Nat) = x2) : x2 - x0 < x1 - x0 := by lia
theorem om_77 {x0 : Nat} {x1 : Nat} {x2 : Nat} {x3 : Nat} (h0 : x0 ≤ x1) (h1 : x2 < x3) (h2 : ¬x2 < x1) : x0 ≤ x1 ∧ x1 ≤ x2 ∧ x2 ≤ x3 ∧ x2 - x0 = x2 - x0 := by lia
theorem om_78 {x0 : Nat} {x1 : Nat} {x2 : Nat} (h0 : x0 ≤ x1) (h1 : x1 ≤ x2) (h2 : ¬x0 < x2) : x0 = x1 := by lia
theorem om_79 {x0 : Nat} : (0 : Int) ≤ (↑x0 : Int) := by exact Int.natCast_nonneg _
theorem om_80 {x0 : Nat} {x1 : Nat} (h0 : x0 ≤ x1) (h1 : x1 < (40 : Nat)) : (↑x0 : Int) < (300 : Int) := by lia
theorem om_81 {x0 : Nat} {x1 : Nat} (h0 : x0 < (40 : Nat)) (h1 : x1 = (200 : Nat)) : x0 + (1 : Nat) ≤ x1 := by exact (h1 ▸ Nat.le_trans h0 (by decide))
theorem om_82 {x0 : Nat} {x1 : Nat} {x2 : Nat} (h0 : x0 + (x1 + (1 : Nat)) + (1 : Nat) ≤ x2) : x0 + (1 : Nat) ≤ x2 := by lia
theorem om_83 {x0 : Nat} {x1 : Nat} (h0 : x0 < x1 + (1 : Nat)) (h1 : x0 ≠ x1) : x0 < x1 := by lia
theorem om_84 {x0 : Nat} {x1 : Nat} (h0 : x0 ≤ x1 + (1 : Nat)) : x0 ≤ x1 + (1 : Nat) := by exact h0
theorem om_85 {x0 : Nat} {x1 : Nat} {x2 : Nat} (h0 : x0 ≤ x1) (h1 : x2 ≤ x0 + (1 : Nat)) : x2 ≤ x1 + (1 : Nat) := by lia
theorem om_86 {x0 : Nat} {x1 : Nat} (h0 : x0 < x1 + (1 : Nat)) (h1 : ¬x0 < x1) : x0 = x1 := by lia
theorem om_87 {x0 : Nat} {x1 : Nat} {x2 : Nat} (h0 : x0 ≤ x1) (h1 : x2 < x0) : x2 < x1 := by exact Nat.le_trans h1 h0
theorem om_88 {x0 : Nat} {x1 : Nat} (h0 : x0 + (x1 + (1 : Nat)) = (6 : Nat)) : x0 < (6 : Nat) := by lia
theorem om_89 {x0 : Nat} {x1 : Nat} (h0 : x0 + (x1 + (1 : Nat)) = (6 : Nat)) : x0 + (1 : Nat) + x1 = (6 : Nat) := by lia
theorem om_90 {x0 : Nat} {x1 : Nat} (h0 : x0 = (200 : Nat)) (h1 : x1 ≤ (6 : Nat)) : x1 + (1 : Nat) ≤ x0 := by lia
theorem om_91 {x0 : Nat} {x1 : Nat} {x2 : Nat} (h0 : x0 = (200 : Nat)) (h1 : x1 + x2 ≤ (6 : Nat)) : x2 + (1 : Nat) ≤ x0 := by lia
theorem om_92 {x0 : Nat} {x1 : Nat} {x2 : Nat} {x3 : Nat} (h0 : x0 = (6 : Nat) - x1) (h1 : x1 < x2) (h2 : x3 + x2 ≤ (6 : Nat)) : (6 : Nat) - (x1 + (1 : Nat)) < x0 := by lia
theorem om_93 {x0 : Nat} {x1 : Nat} (h0 : x0 + (0 : Nat) = (6 : Nat)) (h1 : x1 < (6 : Nat)) : x1 < x0 := by lia
theorem om_94 {x0 : Int} {x1 : Int} {x2 : Int} : x0 + x1 + x2 = x0 + x2 + x1 := by lia
theorem om_95 {x0 : Int} {x1 : Int} {x2 : Int} : x0 + (x1 + x2) = x0 + x1 + x2 := by lia
theorem om_96 {x0 : Nat} (h0 : x0 ≤ (100 : Nat)) : (0 : Int) ≤ (↑x0 : Int) ∧ (↑x0 : Int) ≤ (200 : Int) := by lia
theorem om_97 {x0 : Nat} : (0 : Nat) + x0 = x0 := by lia
theorem om_98 {x0 : Nat} {x1 : Nat} {x2 : Nat} (h0 : x0 + (x1 + (1 : Nat)) = x2) : x0 + (1 : Nat) + x1 = x2 := by lia
theorem om_99 {x0 : Nat} {x1 : Nat} (h0 : x0 = (0 : Nat)) (h1 : x0 = x1 + (1 : Nat)) : False := by lia
theorem om_100 {x0 : Nat} {x1 : Nat} (h0 : x0 = x1 + (1 : Nat)) (h1 : x0 = (0 : Nat)) : False := by lia
theorem om_101 {x0 : Nat} {x1 : Nat} {x2 : Nat} (h0 : x0 = x1 + (1 : Nat)) (h1 : x0 = x2 + (1 : Nat)) : x2 = x1 := by lia
theorem om_102 {x0 : Int} {x1 : Int} (h0 : (0 : Int) ≤ x0) (h1 : (0 : Int) ≤ x1) : (0 : Int) ≤ x1 + x0 := by lia
theorem om_103 {x0 : Int} {x1 : Int} (h0 : (0 : Int) ≤ x0) (h1 : (0 : Int) ≤ x1) : x1 ≤ x1 + x0 ∧ (0 : Int) ≤ x1 + x0 := by lia
theorem om_104 {x0 : Int} {x1 : Int} {x2 : Int} (h0 : (0 : Int) ≤ x0) (h1 : x1 ≤ x2 ∧ (0 : Int) ≤ x2) : x1 ≤ x0 + x2 ∧ (0 : Int) ≤ x0 + x2 := by lia
theorem om_105 {x0 : Int} {x1 : Int} (h0 : x0 + x1 ≠ (0 : Int)) (h1 : x0 = (0 : Int)) : x1 ≠ (0 : Int) := by lia
theorem om_106 {x0 : Int} {x1 : Int} {x2 : Int} {x3 : Int} (h0 : x0 ≤ x1) (h1 : x1 ≤ x2) (h2 : x2 ≤ x3) (h3 : x0 = (1 : Int)) : (0 : Int) < x3 := by lia
theorem om_107 {x0 : Int} {x1 : Int} {x2 : Int} {x3 : Int} {x4 : Int} {x5 : Int} (h0 : x0 ≤ x1) (h1 : x1 ≤ x2) (h2 : x2 ≤ x3) (h3 : x3 ≤ x4) (h4 : x4 ≤ x5) (h5 : x0 = (1 : Int)) : (0 : Int) < x5 := by lia
theorem om_108 {x0 : Nat} {x1 : Nat} {x2 : Nat} {x3 : Nat} {x4 : Nat} {x5 : Nat} {x6 : Nat} (h0 : x0 < (6 : Nat)) (h1 : x1 < (6 : Nat)) (h2 : x2 < (6 : Nat)) (h3 : x3 < (6 : Nat)) (h4 : x4 < (6 : Nat)) (h5 : x5 < (6 : Nat)) (h6 : x6 < (6 : Nat)) : x0 < (6 : Nat) ∧ x1 < (6 : Nat) ∧ x2 < (6 : Nat) ∧ x3 < (6 : Nat) ∧ x4 < (6 : Nat) ∧ x5 < (6 : Nat) ∧ x6 < (6 : Nat) := by lia
theorem om_109 {x0 : Nat} {x1 : Nat} (h0 : x0 % (2 : Nat) = x1 % (2 : Nat)) (h1 : x0 ≤ x1 + (1 : Nat)) (h2 : x1 ≤ x0 + (1 : Nat)) : x0 = x1 := by lia
theorem om_110 {x0 : Nat} {x1 : Nat} {x2 : Nat} {x3 : Nat} (h0 : x0 = x1) (h1 : x0 = x2 + (1 : Nat)) (h2 : x1 = x3 + (1 : Nat)) (h3 : x2 = (0 : Nat)) : x3 = (0 : Nat) := by lia
theorem om_111 {x0 : Nat} {x1 : Nat} {x2 : Nat} {x3 : Nat} {x4 : Nat} (h0 : x0 = x1) (h1 : x0 = x2 + (1 : Nat)) (h2 : x1 = x3 + (1 : Nat)) (h3 : x2 = x4 + (1 : Nat)) : x3 ≠ (0 : Nat) := by lia
theorem om_112 {x0 : Nat} {x1 : Nat} {x2 : Nat} {x3 : Nat} {x4 : Nat} {x5 : Nat} (h0 : x0 = x1) (h1 : x0 = x2 + (1 : Nat)) (h2 : x1 = x3 + (1 : Nat)) (h3 : x2 = x4 + (1 : Nat)) (h4 : x3 = x5 + (1 : Nat)) (h5 : x4 = (0 : Nat)) : x5 = (0 : Nat) := by lia
theorem om_113 {x0 : Nat} {x1 : Nat} (h0 : x0 = x1 + (1 : Nat)) : x0 ≠ x1 := by lia
theorem om_114 {x0 : Nat} {x1 : Nat} {x2 : Nat} (h0 : x0 = x1) (h1 : x1 = x2 + (1 : Nat)) : x0 ≠ x2 := by lia
theorem om_115 {x0 : Nat} {x1 : Nat} {x2 : Nat} (h0 : x0 = x1 + (1 : Nat)) (h1 : x1 = x2 + (1 : Nat)) : x0 ≠ x2 := by lia
theorem om_116 {x0 : Nat} {x1 : Nat} {x2 : Nat} {x3 : Nat} (h0 : x0 = x1) (h1 : x1 = x2 + (1 : Nat)) (h2 : x2 = x3 + (1 : Nat)) : x0 ≠ x3 := by lia
theorem om_117 {x0 : Nat} {x1 : Nat} {x2 : Nat} {x3 : Nat} (h0 : x0 = x1 + (1 : Nat)) (h1 : x1 = x2 + (1 : Nat)) (h2 : x2 = x3 + (1 : Nat)) : x0 ≠ x3 := by lia
theorem om_118 {x0 : Nat} {x1 : Nat} {x2 : Nat} (h0 : x0 = x1) (h1 : x0 = x2 + (1 : Nat)) : x1 ≠ x2 := by lia
theorem om_119 {x0 : Nat} {x1 : Nat} {x2 : Nat} {x3 : Nat} (h0 : x0 = x1) (h1 : x0 = x2 + (1 : Nat)) (h2 : x2 = x3 + (1 : Nat)) : x1 ≠ x3 := by lia
theorem om_120 {x0 : Nat} {x1 : Nat} {x2 : Nat} {x3 : Nat} {x4 : Nat} (h0 : x0 = x1) (h1 : x0 = x2 + (1 : Nat)) (h2 : x2 = x3 + (1 : Nat)) (h3 : x3 = x4 + (1 : Nat)) : x1 ≠ x4 := by lia
theorem om_121 {x0 : Nat} {x1 : Nat} {x2 : Nat} {x3 : Nat} {x4 : Nat} (h0 : x0 = x1) (h1 : x0 = x2 + (1 : Nat)) (h2 : x1 = x3 + (1 : Nat)) (h3 : x3 = x4 + (1 : Nat)) : x2 ≠ x4 := by lia
theorem om_122 {x0 : Nat} {x1 : Nat} {x2 : Nat} {x3 : Nat} {x4 : Nat} (h0 : x0 = x1) (h1 : x0 = x2 + (1 : Nat)) (h2 : x1 = x3 + (1 : Nat)) (h3 : x2 = x4 + (1 : Nat)) : x3 ≠ x4 := by lia
theorem om_123 {x0 : Nat} {x1 : Nat} {x2 : Nat} {x3 : Nat} {x4 : Nat} {x5 : Nat} (h0 : x0 = x1) (h1 : x0 = x2 + (1 : Nat)) (h2 : x1 = x3 + (1 : Nat)) (h3 : x2 = x4 + (1 : Nat)) (h4 : x4 = x5 + (1 : Nat)) : x3 ≠ x5 := by lia
theorem om_124 {x0 : Nat} {x1 : Nat} {x2 : Nat} {x3 : Nat} {x4 : Nat} {x5 : Nat} {x6 : Nat} (h0 : x0 = x1) (h1 : x0 = x2 + (1 : Nat)) (h2 : x1 = x3 + (1 : Nat)) (h3 : x2 = x4 + (1 : Nat)) (h4 : x3 = x5 + (1 : Nat)) (h5 : x4 = x6 + (1 : Nat)) : x5 ≠ x6 := by lia
theorem om_125 {x0 : Nat} {x1 : Nat} (h0 : x0 < x1) (h1 : x1 < (6 : Nat)) : x0 < (6 : Nat) := by exact Nat.lt_trans h0 h1
theorem om_126 {x0 : Nat} {x1 : Nat} (h0 : x0 < x1) : x0 ≤ x1 := by exact Nat.le_of_lt h0
theorem om_127 {x0 : Int} {x1 : Int} (h0 : x0 = (0 : Int)) (h1 : x1 = (0 : Int)) : ¬(0 : Int) < x0 ∧ ¬(0 : Int) < x1 := by lia
theorem om_128 {x0 : Nat} {x1 : Nat} (h0 : x0 = x1 + (1 : Nat)) : x0 ≠ (0 : Nat) := by lia
theorem om_129 {x0 : Nat} {x1 : Nat} {x2 : Nat} {x3 : Nat} {x4 : Nat} (h0 : x0 % (2 : Nat) = x1 % (2 : Nat)) (h1 : x2 % (2 : Nat) = (x3 + x0) % (2 : Nat)) (h2 : x4 % (2 : Nat) = (x3 + x1) % (2 : Nat)) (h3 : x2 % (2 : Nat) ≠ x4 % (2 : Nat)) : False := by lia
theorem om_130 {x0 : Nat} {x1 : Nat} (h0 : x0 < x1) : x1 = x0 + (1 : Nat) + (x1 - (x0 + (1 : Nat))) := by lia
theorem om_131 {x0 : Nat} {x1 : Nat} : ((2 : Nat) * x0 + x1) % (2 : Nat) = x1 % (2 : Nat) := by lia
theorem om_132 {x0 : Nat} {x1 : Nat} (h0 : x0 ≤ (6 : Nat)) (h1 : x1 < x0) : x1 < (6 : Nat) := by exact Nat.le_trans h1 h0
theorem om_133 {x0 : Nat} {x1 : Nat} {x2 : Nat} (h0 : x0 < x1) (h1 : x2 ≤ x0) : x2 < x1 := by exact Nat.lt_of_le_of_lt h1 h0
theorem om_134 {x0 : Nat} (h0 : x0 + (1 : Nat) ≤ (6 : Nat)) : x0 ≤ (6 : Nat) := by exact Nat.le_of_lt h0
theorem om_135 {x0 : Nat} (h0 : x0 + (1 : Nat) ≤ (6 : Nat)) : x0 < (6 : Nat) := by exact h0
theorem om_136 {x0 : Nat} : x0 + x0 = x0 * (2 : Nat) := by lia
theorem om_137 {x0 : Nat} {x1 : Nat} : (1 : Nat) = (x0 + x1) % (2 : Nat) ↔ ¬(x0 + x1) % (2 : Nat) = (0 : Nat) := by lia
theorem om_138 {x0 : Nat} {x1 : Nat} {x2 : Nat} {x3 : Nat} {x4 : Nat} (h0 : x0 = (x1 + x2) % (2 : Nat)) (h1 : x3 = (x1 + x4) % (2 : Nat)) (h2 : x2 % (2 : Nat) ≠ x4 % (2 : Nat)) : x0 ≠ x3 := by lia
theorem om_139 {x0 : Nat} {x1 : Nat} {x2 : Nat} {x3 : Nat} (h0 : x0 < x1 ∨ x0 = x1 ∧ x2 < x3) : ¬(x1 < x0 ∨ x1 = x0 ∧ x3 < x2) := by lia
theorem om_140 {x0 : Nat} {x1 : Nat} {x2 : Nat} {x3 : Nat} {x4 : Nat} {x5 : Nat} (h0 : x0 < x1 ∨ x0 = x1 ∧ x2 < x3) (h1 : x1 < x4 ∨ x1 = x4 ∧ x3 < x5) : x0 < x4 ∨ x0 = x4 ∧ x2 < x5 := by lia
theorem om_141 {x0 : Nat} {x1 : Nat} {x2 : Nat} {x3 : Nat} (h0 : ¬(x0 < x1 ∨ x0 = x1 ∧ x2 < x3)) (h1 : ¬(x0 = x1 ∧ x2 = x3)) : x1 < x0 ∨ x1 = x0 ∧ x3 < x2 := by lia
theorem om_142 {x0 : Nat} {x1 : Nat} {x2 : Nat} {x3 : Nat} : (↑x0 : Int) < (↑x1 : Int) ∨ (↑x0 : Int) = (↑x1 : Int) ∧ (↑x2 : Int) < (↑x3 : Int) ↔ x0 < x1 ∨ x0 = x1 ∧ x2 < x3 := by lia
theorem om_143 {x0 : Nat} {x1 : Nat} (h0 : x0 < x1) (h1 : x1 < x0) : False := by lia
theorem om_144 {x0 : Nat} (h0 : x0 ≤ (1000 : Nat)) : (↑x0 : Int) ≤ (1000 : Int) := by exact Int.ofNat_le.mpr h0
theorem om_145 {x0 : Nat} (h0 : x0 < (6 : Nat)) : x0 ≤ (5 : Nat) := by exact Nat.le_of_lt_succ h0
theorem om_146 {x0 : Nat} (h0 : (0 : Nat) < x0) : (↑x0 : Int) ≠ (0 : Int) := by lia
theorem om_147 {x0 : Nat} (h0 : (0 : Nat) < x0) : (0 : Int) ≤ (↑x0 : Int) := by lia
theorem om_148 {x0 : Nat} : (1 : Int) + (↑x0 : Int) = (↑(x0 + (1 : Nat)) : Int) := by lia
theorem om_149 {x0 : Int} (h0 : x0 < (15 : Int)) : Int.toNat x0 < (15 : Nat) := by lia
theorem om_150 {x0 : Int} (h0 : x0 < (15 : Int)) : x0 < (300 : Int) := by lia
theorem om_151 {x0 : Nat} {x1 : Nat} {x2 : Nat} {x3 : Nat} (h0 : x0 < x1 ∨ x0 = x1 ∧ x2 < x3) : (↑x0 : Int) < (↑x1 : Int) ∨ (↑x0 : Int) = (↑x1 : Int) ∧ (↑x2 : Int) < (↑x3 : Int) := by lia
theorem om_152 {x0 : Nat} {x1 : Nat} (h0 : x0 ≤ (50 : Nat)) (h1 : x1 = (200 : Nat)) : x0 + (1 : Nat) ≤ x1 := by lia
theorem om_153 {x0 : Nat} (h0 : x0 < (6 : Nat)) : (0 : Int) ≤ (↑x0 : Int) ∧ (↑x0 : Int) ≤ (200 : Int) := by lia
theorem om_154 {x0 : Nat} : min (9 : Nat) x0 ≤ (9 : Nat) := by lia
theorem om_155 {x0 : Nat} {x1 : Nat} (h0 : x0 + (x1 + (1 : Nat)) ≤ (9 : Nat)) : x0 + x1 ≤ (9 : Nat) := by exact Nat.le_of_lt h0
theorem om_156 {x0 : Nat} {x1 : Nat} (h0 : x0 + (x1 + (1 : Nat)) ≤ (9 : Nat)) : x0 < (40 : Nat) := by lia
theorem om_157 {x0 : Nat} {x1 : Nat} : min x0 x1 + (x1 - x0 + (1 : Nat)) = x1 + (1 : Nat) := by lia
theorem om_158 {x0 : Nat} {x1 : Nat} {x2 : Nat} (h0 : x0 + (x1 + (1 : Nat)) ≤ (9 : Nat)) (h1 : x2 = x0 + (1 : Nat)) : x2 + x1 ≤ (9 : Nat) := by lia
theorem om_159 {x0 : Nat} {x1 : Nat} (h0 : x0 + x1 ≤ (9 : Nat)) : x0 ≤ (9 : Nat) := by lia
theorem om_160 {x0 : Nat} (h0 : x0 ≤ (9 : Nat)) : x0 < (64 : Nat) := by exact Nat.lt_of_le_of_lt h0 (by decide)
theorem om_161 {x0 : Nat} (h0 : x0 ≤ (9 : Nat)) : x0 < (40 : Nat) := by exact Nat.lt_of_le_of_lt h0 (by decide)
theorem om_162 {x0 : Nat} {x1 : Nat} (h0 : x0 ≤ (9 : Nat)) (h1 : x1 < x0) : (0 : Int) ≤ (↑x1 : Int) ∧ (↑x1 : Int) < (300 : Int) := by lia
theorem om_163 {x0 : Nat} {x1 : Nat} (h0 : x0 = (200 : Nat)) (h1 : x1 ≤ (9 : Nat)) : x1 ≤ x0 := by exact (h0 ▸ Nat.le_trans h1 (by decide))
theorem om_164 {x0 : Nat} (h0 : x0 = (3 : Nat)) : x0 ≤ (5 : Nat) := by lia
theorem om_165 {x0 : Nat} (h0 : x0 = (5 : Nat)) : x0 ≤ (5 : Nat) := by exact Nat.le_of_eq h0
theorem om_166 {x0 : Nat} (h0 : x0 ≤ (5 : Nat)) : x0 ≤ (100 : Nat) := by exact Nat.le_trans h0 (by decide)
theorem om_167 {x0 : Nat} {x1 : Nat} {x2 : Nat} (h0 : x0 ≤ (2 : Nat) * x1) (h1 : x2 ≤ (2 : Nat)) : x2 + x0 ≤ (2 : Nat) * (x1 + (1 : Nat)) := by lia
theorem om_168 {x0 : Nat} (h0 : x0 ≤ (6 : Nat)) : (-300 : Int) ≤ (↑x0 : Int) ∧ (↑x0 : Int) ≤ (300 : Int) := by lia
theorem om_169 {x0 : Nat} {x1 : Nat} (h0 : x0 < x1) (h1 : x1 < (6 : Nat)) : x0 ≤ (1000 : Nat) := by lia
theorem om_170 {x0 : Nat} (h0 : x0 < (6 : Nat)) : x0 ≤ (1000 : Nat) := by exact Nat.le_of_lt (Nat.lt_of_lt_of_le h0 (by decide))
theorem om_171 {x0 : Nat} (h0 : x0 ≤ (6 : Nat)) : x0 ≤ (1000 : Nat) := by exact Nat.le_trans h0 (by decide)
theorem om_172 {x0 : Nat} (h0 : x0 ≤ (9 : Nat)) : x0 ≤ (50 : Nat) := by exact Nat.le_trans h0 (by decide)
theorem om_173 {x0 : Nat} {x1 : Nat} (h0 : x0 = (200 : Nat)) (h1 : x1 ≤ (9 : Nat)) : x1 + (1 : Nat) ≤ x0 := by lia
theorem om_174 {x0 : Nat} {x1 : Nat} (h0 : x0 < x1 ∧ x1 < (6 : Nat)) : x0 < (6 : Nat) ∧ x1 < (6 : Nat) := by lia
theorem om_175 : (1 : Nat) ≤ (1 : Nat) := by decide
theorem om_176 : (1 : Nat) ≤ (3 : Nat) := by decide
theorem om_177 : (2 : Nat) ≤ (3 : Nat) := by decide
theorem om_178 {x0 : Nat} {x1 : Nat} (h0 : x0 ≤ (63 : Nat)) (h1 : x1 = (200 : Nat)) : x0 ≤ x1 := by exact (h1 ▸ Nat.le_trans h0 (by decide))
end Mine
end
section
open PySem PySem.W PyProof.Rows
namespace Mine

/-! ## Plain data -/
inductive Scal where
  | int (i : Int)
  | str (s : Str)
  deriving DecidableEq

inductive D where
  | none
  | bool (b : Bool)
  | int (i : Int)
  | str (s : Str)
  | tup (ds : List D)
  | lst (ds : List D)
  | idict (ks : List Int) (ds : List D)
  | tdict (ks : List (List Scal)) (ds : List D)

abbrev Part := Addr → Option Obj

/-- what a list or dict holds at most -/
noncomputable def cap : Nat := 200

section
variable (prog : Program) (w : World)

noncomputable def Scal.is : Scal → Value → Bool
  | .int i, v => Value.isInt i v
  | .str s, v => Value.isStrOf s v

noncomputable def Scal.hash : Scal → Int
  | .int i => hashInt i
  | .str s => hashStr w s

noncomputable def ScalsAre : List Scal → List Value → Prop
  | [], vs => vs = []
  | k :: ks, vs => ∃ v vs', vs = v :: vs' ∧ k.is v = true ∧ ScalsAre ks vs'

noncomputable def tupHash (ks : List Scal) : Int := reduceHash (Builtin.Tuple.tupleHashOf (ks.map (Scal.hash w)))

/-- a tuple of ints and texts, as a key -/
noncomputable def KeyAt (g : Part) (ks : List Scal) (v : Value) : Prop :=
  ∃ a o vs n, v = .ref a ∧ g a = some o ∧ o.cls = .type "tuple" ∧ o.data = .seq vs n ∧ ks.length ≤ cap ∧ ScalsAre ks vs.toList

noncomputable def IKeys : List Int → List DictEntry → Prop
  | [], es => es = []
  | k :: ks, es => ∃ e es', es = e :: es' ∧ Value.isInt k e.key = true ∧ e.hash = hashInt k ∧ IKeys ks es'

noncomputable def TKeys (g : Part) : List (List Scal) → List DictEntry → Prop
  | [], es => es = []
  | k :: ks, es => ∃ e es', es = e :: es' ∧ KeyAt g k e.key ∧ e.hash = tupHash w k ∧ TKeys g ks es'

mutual
noncomputable def Rep (g : Part) : D → Value → Prop
  | .none, v => v = .none
  | .bool b, v => v = .bool b
  | .int i, v => ∃ t, v = .int i t
  | .str s, v => ∃ t, v = .str s t
  | .tup ds, v => ∃ a o vs n, v = .ref a ∧ g a = some o ∧ o.cls = .type "tuple" ∧ o.data = .seq vs n ∧ ds.length ≤ cap ∧ Reps g ds vs.toList
  | .lst ds, v => ∃ a o vs n, v = .ref a ∧ g a = some o ∧ (o.cls = .type "list" ∧ o.dict = none ∧ o.slots = #[]) ∧ o.data = .seq vs n ∧ ds.length ≤ cap ∧ Reps g ds vs.toList
  | .idict ks ds, v => ∃ a o es n, v = .ref a ∧ g a = some o ∧ (a ≠ sysModules ∧ o.ExactDict) ∧ o.data = .dict es n ∧ (ks.length ≤ cap ∧ ks.Nodup) ∧ IKeys ks es.toList ∧ Reps g ds (es.toList.map (·.val))
  | .tdict ks ds, v => ∃ a o es n, v = .ref a ∧ g a = some o ∧ (a ≠ sysModules ∧ o.ExactDict) ∧ o.data = .dict es n ∧ (ks.length ≤ cap ∧ ks.Nodup) ∧ TKeys w g ks es.toList ∧ Reps g ds (es.toList.map (·.val))
noncomputable def Reps (g : Part) : List D → List Value → Prop
  | [], vs => vs = []
  | d :: ds, vs => ∃ v vs', vs = v :: vs' ∧ Rep g d v ∧ Reps g ds vs'
end

/-- the object o at a bears the composite datum d, its parts in g -/
noncomputable def ORep (g : Part) (a : Addr) (o : Obj) : D → Prop
  | .tup ds => o.cls = .type "tuple" ∧ ∃ vs n, o.data = .seq vs n ∧ ds.length ≤ cap ∧ Reps w g ds vs.toList
  | .lst ds => (o.cls = .type "list" ∧ o.dict = none ∧ o.slots = #[]) ∧ ∃ vs n, o.data = .seq vs n ∧ ds.length ≤ cap ∧ Reps w g ds vs.toList
  | .idict ks ds => (a ≠ sysModules ∧ o.ExactDict) ∧ ∃ es n, o.data = .dict es n ∧ (ks.length ≤ cap ∧ ks.Nodup) ∧ IKeys ks es.toList ∧ Reps w g ds (es.toList.map (·.val))
  | .tdict ks ds => (a ≠ sysModules ∧ o.ExactDict) ∧ ∃ es n, o.data = .dict es n ∧ (ks.length ≤ cap ∧ ks.Nodup) ∧ TKeys w g ks es.toList ∧ Reps w g ds (es.toList.map (·.val))
  | _ => False

variable {w}

noncomputable def Le (g g' : Part) : Prop := ∀ a o, g a = some o → g' a = some o
theorem Le.refl (g : Part) : Le g g := fun _ _ e => e
theorem Le.trans {g₁ g₂ g₃ : Part} (x : Le g₁ g₂) (y : Le g₂ g₃) : Le g₁ g₃ := fun a o e => y a o (x a o e)

theorem KeyAt.mono {g g' : Part} (h : Le g g') {ks : List Scal} {v : Value} : KeyAt g ks v → KeyAt g' ks v := fun ⟨a, o, vs, n, e, q, r⟩ => ⟨a, o, vs, n, e, h _ _ q, r⟩

theorem TKeys.mono {g g' : Part} (h : Le g g') : ∀ {ks : List (List Scal)} {es : List DictEntry}, TKeys w g ks es → TKeys w g' ks es
  | [], _, x => x
  | _ :: _, _, ⟨e, es', q, k, hh, r⟩ => ⟨e, es', q, k.mono h, hh, TKeys.mono h r⟩

mutual
theorem Rep.mono {g g' : Part} (h : Le g g') : ∀ (d : D) {v : Value}, Rep w g d v → Rep w g' d v
  | .none, _, x => x
  | .bool _, _, x => x
  | .int _, _, x => x
  | .str _, _, x => x
  | .tup ds, _, x => by
    simp only [Rep] at x ⊢
    obtain ⟨a, o, vs, n, e, q, c, dd, l, r⟩ := x; exact ⟨a, o, vs, n, e, h _ _ q, c, dd, l, Reps.mono h ds r⟩
  | .lst ds, _, x => by
    simp only [Rep] at x ⊢
    obtain ⟨a, o, vs, n, e, q, c, dd, l, r⟩ := x; exact ⟨a, o, vs, n, e, h _ _ q, c, dd, l, Reps.mono h ds r⟩
  | .idict ks ds, _, x => by
    simp only [Rep] at x ⊢
    obtain ⟨a, o, es, n, e, q, c, dd, l, kk, r⟩ := x; exact ⟨a, o, es, n, e, h _ _ q, c, dd, l, kk, Reps.mono h ds r⟩
  | .tdict ks ds, _, x => by
    simp only [Rep] at x ⊢
    obtain ⟨a, o, es, n, e, q, c, dd, l, kk, r⟩ := x; exact ⟨a, o, es, n, e, h _ _ q, c, dd, l, kk.mono h, Reps.mono h ds r⟩
theorem Reps.mono {g g' : Part} (h : Le g g') : ∀ (ds : List D) {vs : List Value}, Reps w g ds vs → Reps w g' ds vs
  | [], _, x => x
  | d :: ds, _, x => by
    simp only [Reps] at x ⊢
    obtain ⟨v, vs', e, q, r⟩ := x; exact ⟨v, vs', e, Rep.mono h d q, Reps.mono h ds r⟩
end

theorem ORep.mono {g g' : Part} (h : Le g g') {a : Addr} {o : Obj} {d : D} (x : ORep w g a o d) : ORep w g' a o d := by
  cases d <;> simp only [ORep] at x ⊢ <;> first
    | exact x
    | (obtain ⟨c, vs, n, dd, l, r⟩ := x; exact ⟨c, vs, n, dd, l, Reps.mono h _ r⟩)
    | (obtain ⟨c, es, n, dd, l, kk, r⟩ := x; exact ⟨c, es, n, dd, l, kk, Reps.mono h _ r⟩)
    | (obtain ⟨c, es, n, dd, l, kk, r⟩ := x; exact ⟨c, es, n, dd, l, kk.mono h, Reps.mono h _ r⟩)

/-- a composite datum from its object -/
theorem Rep.of_obj {g : Part} {a : Addr} {o : Obj} {d : D} (e : g a = some o) (x : ORep w g a o d) : Rep w g d (.ref a) := by
  cases d <;> simp only [ORep, Rep] at x ⊢ <;> first
    | exact x.elim
    | (obtain ⟨c, vs, n, dd, l, r⟩ := x; exact ⟨a, o, vs, n, rfl, e, c, dd, l, r⟩)
    | (obtain ⟨c, es, n, dd, l, kk, r⟩ := x; exact ⟨a, o, es, n, rfl, e, c, dd, l, kk, r⟩)

/-- the object of a composite datum -/
theorem Rep.obj {g : Part} {d : D} {v : Value} (hd : match d with | .tup _ | .lst _ | .idict _ _ | .tdict _ _ => True | _ => False) (x : Rep w g d v) : ∃ a o, v = .ref a ∧ g a = some o ∧ ORep w g a o d := by
  cases d <;> simp only [ORep, Rep] at x hd ⊢ <;> first
    | exact hd.elim
    | (obtain ⟨a, o, vs, n, e, q, c, dd, l, r⟩ := x; exact ⟨a, o, e, q, c, vs, n, dd, l, r⟩)
    | (obtain ⟨a, o, es, n, e, q, c, dd, l, kk, r⟩ := x; exact ⟨a, o, e, q, c, es, n, dd, l, kk, r⟩)

theorem Reps.length {g : Part} : ∀ {ds : List D} {vs : List Value}, Reps w g ds vs → vs.length = ds.length
  | [], _, x => by simp only [Reps] at x; subst x; rfl
  | _ :: _, _, x => by
    simp only [Reps] at x
    obtain ⟨v, vs', rfl, _, r⟩ := x; simp [Reps.length r]

theorem Reps.get {g : Part} : ∀ {ds : List D} {vs : List Value} {i : Nat} {d : D}, Reps w g ds vs → ds[i]? = some d → ∃ v, vs[i]? = some v ∧ Rep w g d v
  | [], _, _, _, _, e => by simp at e
  | d :: ds, _, i, d', x, e => by
    simp only [Reps] at x
    obtain ⟨v, vs', rfl, q, r⟩ := x
    cases i with
    | zero => simp at e; subst e; exact ⟨v, by simp, q⟩
    | succ j => simp at e; obtain ⟨v', h1, h2⟩ := Reps.get r e; exact ⟨v', by simpa using h1, h2⟩

theorem Reps.append {g : Part} : ∀ {ds : List D} {vs : List Value} {ds' : List D} {vs' : List Value}, Reps w g ds vs → Reps w g ds' vs' → Reps w g (ds ++ ds') (vs ++ vs')
  | [], _, _, _, x, y => by simp only [Reps] at x; subst x; exact y
  | _ :: _, _, _, _, x, y => by
    simp only [Reps, List.cons_append] at x ⊢
    obtain ⟨v, vs', rfl, q, r⟩ := x
    exact ⟨v, vs' ++ _, rfl, q, Reps.append r y⟩

theorem Reps.single {g : Part} {d : D} {v : Value} (x : Rep w g d v) : Reps w g [d] [v] := by
  simp only [Reps]; exact ⟨v, [], rfl, x, rfl⟩

theorem Reps.take {g : Part} : ∀ {ds : List D} {vs : List Value} (n : Nat), Reps w g ds vs → Reps w g (ds.take n) (vs.take n)
  | [], _, n, x => by simp only [Reps] at x; subst x; simp [Reps]
  | _ :: _, _, 0, x => by simp [Reps]
  | _ :: _, _, n + 1, x => by
    simp only [Reps] at x
    obtain ⟨v, vs', rfl, q, r⟩ := x
    simp only [List.take_succ_cons, Reps]
    exact ⟨v, _, rfl, q, Reps.take n r⟩
theorem Reps.drop {g : Part} : ∀ {ds : List D} {vs : List Value} (n : Nat), Reps w g ds vs → Reps w g (ds.drop n) (vs.drop n)
  | [], _, n, x => by simp only [Reps] at x; subst x; simp [Reps]
  | _ :: _, _, 0, x => by simpa using x
  | _ :: _, _, n + 1, x => by
    simp only [Reps] at x
    obtain ⟨v, vs', rfl, q, r⟩ := x
    simpa using Reps.drop n r

end

/-! ## Heaps: what is frozen, what may still be written -/
noncomputable def Fz (own : List Addr) (h : Heap) : Part := fun a => if a ∈ own then none else h.get? a
theorem Fz.get {own : List Addr} {h : Heap} {a : Addr} {o : Obj} (e : Fz own h a = some o) : a ∉ own ∧ h.get? a = some o := by
  unfold Fz at e; split at e
  · cases e
  · rename_i q; exact ⟨q, e⟩
theorem Fz.of {own : List Addr} {h : Heap} {a : Addr} {o : Obj} (q : a ∉ own) (e : h.get? a = some o) : Fz own h a = some o := by
  unfold Fz; rw [if_neg q]; exact e
theorem Fz.le (own : List Addr) (h : Heap) : Le (Fz own h) h.get? := fun _ _ e => (Fz.get e).2

/-- nothing that lay is changed -/
noncomputable def Ext (h h' : Heap) : Prop := ∀ a o, h.get? a = some o → h'.get? a = some o
theorem Ext.refl (h : Heap) : Ext h h := fun _ _ e => e
theorem Ext.trans {h₁ h₂ h₃ : Heap} (x : Ext h₁ h₂) (y : Ext h₂ h₃) : Ext h₁ h₃ := fun a o e => y a o (x a o e)
theorem Ext.push (h : Heap) (o : Obj) : Ext h (h.push o) := fun _ _ e => Heap.get?_push_of_some _ e
theorem Ext.none {h h' : Heap} (x : Ext h h') {a : Addr} (e : h'.get? a = none) : h.get? a = none := by
  cases q : h.get? a with
  | none => rfl
  | some o => rw [x a o q] at e; cases e
theorem Ext.some {h h' : Heap} (x : Ext h h') {a : Addr} (e : (h.get? a).isSome = true) : (h'.get? a).isSome = true := by
  obtain ⟨o, q⟩ := Option.isSome_iff_exists.mp e; rw [x a o q]; rfl
theorem get_size (h : Heap) : h.get? h.objs.size = .none := by
  cases q : h.get? h.objs.size with
  | none => rfl
  | some o => exact absurd (Heap.lt_size q) (Nat.lt_irrefl _)
theorem Ext.fz {own : List Addr} {h h' : Heap} (x : Ext h h') : Le (Fz own h) (Fz own h') := fun a o e => Fz.of (Fz.get e).1 (x a o (Fz.get e).2)
/-- what is new may be taken as one's own -/
theorem Ext.fzNew {own own' : List Addr} {h h' : Heap} (x : Ext h h') (hn : ∀ a ∈ own', a ∈ own ∨ h.get? a = .none) : Le (Fz own h) (Fz own' h') := fun a o e => by
  have q := Fz.get e
  refine Fz.of (fun hm => ?_) (x a o q.2)
  rcases hn a hm with h1 | h1
  · exact q.1 h1
  · rw [h1] at q; exact absurd q.2 (by simp)
theorem Fz.fewer {own own' : List Addr} {h : Heap} (hs : ∀ a ∈ own', a ∈ own) : Le (Fz own h) (Fz own' h) := fun a o e => Fz.of (fun hm => (Fz.get e).1 (hs a hm)) (Fz.get e).2

end Mine
end
section
open PySem PySem.W PyProof.Rows
namespace Mine

/-! a list, an int, a bool -/
noncomputable def lsB : (d : D) → { o : Option (List D) // ∀ ds, o = some ds → d = .lst ds }
  | .lst ds => ⟨some ds, fun y h => by cases h; rfl⟩
  | _ => ⟨none, fun _ h => (nomatch h)⟩
noncomputable def lsOf (d : D) : Option (List D) := (lsB d).1
theorem lsOf_some {d : D} {ds : List D} (h : lsOf d = some ds) : d = .lst ds := (lsB d).2 ds h
noncomputable def itB : (d : D) → { o : Option Int // ∀ i, o = some i → d = .int i }
  | .int i => ⟨some i, fun y h => by cases h; rfl⟩
  | _ => ⟨none, fun _ h => (nomatch h)⟩
noncomputable def itOf (d : D) : Option Int := (itB d).1
theorem itOf_some {d : D} {i : Int} (h : itOf d = some i) : d = .int i := (itB d).2 i h
noncomputable def blB : (d : D) → { o : Option Bool // ∀ b, o = some b → d = .bool b }
  | .bool b => ⟨some b, fun y h => by cases h; rfl⟩
  | _ => ⟨none, fun _ h => (nomatch h)⟩
noncomputable def blOf (d : D) : Option Bool := (blB d).1
theorem blOf_some {d : D} {b : Bool} (h : blOf d = some b) : d = .bool b := (blB d).2 b h
theorem lsOf_lst (ds : List D) : lsOf (.lst ds) = some ds := rfl
theorem itOf_int (i : Int) : itOf (.int i) = some i := rfl
theorem blOf_bool (b : Bool) : blOf (.bool b) = some b := rfl

abbrev NoE : Value → Shared → Prop := fun _ _ => False

structure Room (A : Around) (n : Nat) : Prop where
  hd : A.handled = none
  dep : A.depth + n < recursionLimit
  un : A.units + 40 * n + 100 < cLine

theorem Room.deeper {A : Around} {n : Nat} (r : Room A (n + 1)) (env : Env) : Room (A.deeper env) n :=
  ⟨r.hd, by have := r.dep; show A.depth + 1 + n < _; exact om_1 this, by have := r.un; show A.units + 3 + 40 * n + 100 < _; exact om_2 this⟩
theorem Room.less {A : Around} {n m : Nat} (r : Room A n) (h : m ≤ n) : Room A m :=
  ⟨r.hd, by have := r.dep; exact om_3 h this, by have := r.un; exact om_4 h this⟩
theorem Room.units {A : Around} {n : Nat} (r : Room A n) : A.units < cLine := by have := r.un; exact om_5 this
theorem Room.units1 {A : Around} {n : Nat} (r : Room A n) : A.in1.units < cLine := by have := r.un; show A.units + 1 < _; exact om_6 this
theorem Room.units2 {A : Around} {n : Nat} (r : Room A n) : A.units + 2 < cLine := by have := r.un; exact om_7 this
theorem Room.depth {A : Around} {n : Nat} (r : Room A n) : A.depth < recursionLimit := by have := r.dep; exact om_8 this

/-- the built-ins' names that a text may use -/
noncomputable def biN (x : Str) : Bool := decide (x ∈ (["len", "sum", "sorted", "max", "min", "list", "range", "enumerate", "isinstance", "tuple"] : List Str))
/-- what the text's top has left, in the heap at the law's call -/
structure Base (G : Str → Option Value) (hb : Heap) : Prop where
  g : hb.Ns mainGlobals G
  b : ∃ mb, hb.Ns builtinsNs mb ∧ ∀ x : Str, x ≠ "__name__" → mb x = bootBuiltins x
  nolimit : hb.NoLimit
  free : ∀ x : Str, biN x = true → G x = none

noncomputable def isV (k : Option NameKind) : Bool := k == some .local || k == some .cell || k == some .free
theorem isV_cases {k : Option NameKind} (h : isV k = true) : k = some .local ∨ k = some .cell ∨ k = some .free := by
  unfold isV at h; simpa [or_assoc] using h

structure EnvOk (env : Env) (own : List Addr) (vm : Str → Option Value) (h : Heap) : Prop where
  fn : env.scope.kind = .function
  gl : env.globals = mainGlobals
  bl : env.builtins = builtinsNs
  locIn : env.locals ∈ own
  loc : ∃ m, h.Ns env.locals m ∧ ∀ x, env.kindOf x = some .local → m x = vm x
  cel : ∀ x, (env.kindOf x = some .cell ∨ env.kindOf x = some .free) → ∃ c, env.cells.lookup x = some c ∧ c ∈ own ∧ c ≠ env.locals ∧ h.IsCell c (vm x)
  inj : ∀ x y c, env.cells.lookup x = some c → env.cells.lookup y = some c → x = y
  celIn : ∀ y c, env.cells.lookup y = some c → c ∈ own
  celK : ∀ y c, env.cells.lookup y = some c → env.kindOf y = some .cell ∨ env.kindOf y = some .free

theorem ns_at {h h' : Heap} {a : Addr} {m} (hn : h.Ns a m) (e : ∀ o, h.get? a = some o → h'.get? a = some o) : h'.Ns a m :=
  let ⟨o, es, ep, x, r⟩ := hn; ⟨o, es, ep, e _ x, r⟩
theorem cell_at {h h' : Heap} {c : Addr} {v} (x : h.IsCell c v) (e : ∀ o, h.get? c = some o → h'.get? c = some o) : h'.IsCell c v :=
  let ⟨o, ho, hd⟩ := x; ⟨o, e _ ho, hd⟩

theorem EnvOk.keep {env : Env} {own own' : List Addr} {vm} {h h' : Heap} (x : EnvOk env own vm h) (hs : ∀ a ∈ own, a = env.locals ∨ (∃ y, env.cells.lookup y = some a) → a ∈ own')
    (e : ∀ a, a = env.locals ∨ (∃ y, env.cells.lookup y = some a) → ∀ o, h.get? a = some o → h'.get? a = some o) : EnvOk env own' vm h' where
  fn := x.fn
  gl := x.gl
  bl := x.bl
  locIn := hs _ x.locIn (.inl rfl)
  loc := let ⟨m, hn, hm⟩ := x.loc; ⟨m, ns_at hn (e _ (.inl rfl)), hm⟩
  cel := fun y hy => let ⟨c, h1, h2, h3, h4⟩ := x.cel y hy; ⟨c, h1, hs _ h2 (.inr ⟨y, h1⟩), h3, cell_at h4 (e _ (.inr ⟨y, h1⟩))⟩
  inj := x.inj
  celIn := fun y c q => hs _ (x.celIn y c q) (.inr ⟨y, q⟩)
  celK := x.celK
theorem EnvOk.ext {env : Env} {own : List Addr} {vm} {h h' : Heap} (x : EnvOk env own vm h) (e : Ext h h') : EnvOk env own vm h' :=
  x.keep (fun _ q _ => q) fun a _ o q => e a o q

noncomputable def okName (x : Str) : Bool := !(x == ("__debug__" : Str)) && !(x == ("__classdict__" : Str))

section
variable {M : Model} {A : Around} {E : Value → Shared → Prop} {s : Shared} {env : Env} {own : List Addr} {vm : Str → Option Value}

theorem EnvOk.load {x : Str} {v : Value} {Q : Value → Shared → Prop} (e : EnvOk env own vm s.heap) (hk : isV (env.kindOf x) = true) (hn : okName x = true) (hv : vm x = some v) (h : Q v s) :
    wpAny M A (loadName env x) Q E s := by
  simp only [okName, Bool.and_eq_true, Bool.not_eq_true'] at hn
  rcases isV_cases hk with k | k | k
  · obtain ⟨m, hm, he⟩ := e.loc
    exact wpAny_loadName_local e.fn k hm ((he x k).trans hv) h
  · obtain ⟨c, h1, _, _, h4⟩ := e.cel x (.inl k)
    exact wpAny_loadName_cell e.fn k h1 (hv ▸ h4) h
  · obtain ⟨c, h1, _, _, h4⟩ := e.cel x (.inr k)
    exact wpAny_loadName_free e.fn k h1 (hv ▸ h4) h hn.2

theorem EnvOk.name {x : Str} {pos : Pos} {v : Value} {Q : Value → Shared → Prop} (e : EnvOk env own vm s.heap) (hk : isV (env.kindOf x) = true) (hn : okName x = true) (hv : vm x = some v) (h : Q v s) :
    wpAny M A (eval (.Name x pos) env) Q E s :=
  wpAny_Name (e.load hk hn hv h) (by simp only [okName, Bool.and_eq_true, Bool.not_eq_true'] at hn; exact hn.1)

/-- the place of a variable -/
noncomputable def isPlace (env : Env) (a : Addr) : Prop := a = env.locals ∨ ∃ y, env.cells.lookup y = some a

theorem EnvOk.store {x : Str} {v : Value} {Q : Unit → Shared → Prop} (e : EnvOk env own vm s.heap) (hk : env.kindOf x = some .local ∨ env.kindOf x = some .cell)
    (h : ∀ h' tk p, (p = env.locals ∨ env.cells.lookup x = some p) → p ∈ own → (h'.get? p).isSome = true → EnvOk env own (fun y => if y = x then some v else vm y) h' → Heap.SameBut p s.heap h' → Q () { s with heap := h', toks := tk }) :
    wpAny M A (storeName env x v) Q E s := by
  rcases hk with k | k
  · obtain ⟨m, hm, he⟩ := e.loc
    refine wpAny_storeName_local k hm (fun h' hn hs => h h' _ env.locals (.inl rfl) e.locIn (let ⟨o, _, _, q, _⟩ := hn; by rw [q]; rfl) ⟨e.fn, e.gl, e.bl, e.locIn, ⟨_, hn, fun y hy => ?_⟩, fun y hy => ?_, e.inj, e.celIn, e.celK⟩ hs) (by rw [e.fn]; rfl)
    · by_cases q : y = x
      · simp [q]
      · simp [q, he y hy]
    · obtain ⟨c, h1, h2, h3, h4⟩ := e.cel y hy
      have q : y ≠ x := fun q => by subst q; rw [k] at hy; rcases hy with hy | hy <;> cases hy
      exact ⟨c, h1, h2, h3, by rw [if_neg q]; exact h4.sameBut hs h3⟩
  · obtain ⟨c, h1, h2, h3, h4⟩ := e.cel x (.inl k)
    refine wpAny_storeName_cell e.fn k h1 h4 fun h' hc hs => h h' _ c (.inr h1) h2 (let ⟨o, q, _⟩ := hc; by rw [q]; rfl) ⟨e.fn, e.gl, e.bl, e.locIn, ?_, fun y hy => ?_, e.inj, e.celIn, e.celK⟩ hs
    · obtain ⟨m, hm, he⟩ := e.loc
      refine ⟨m, hm.sameBut hs (Ne.symm h3), fun y hy => ?_⟩
      have q : y ≠ x := fun q => by subst q; rw [k] at hy; cases hy
      rw [if_neg q, he y hy]
    · by_cases q : y = x
      · subst q; exact ⟨c, h1, h2, h3, by simpa using hc⟩
      · obtain ⟨c', g1, g2, g3, g4⟩ := e.cel y hy
        exact ⟨c', g1, g2, g3, by rw [if_neg q]; exact g4.sameBut hs fun r => q (e.inj y x c (r ▸ g1) h1)⟩
end

/-! ## A frame's variables against plain data -/
inductive Bd where
  | frz (d : D)
  | own (d : D)
abbrev Rho := Str → Option Bd

section
variable (w : World) (G : Str → Option Value) (hb : Heap)

noncomputable def BdOk (own : List Addr) (ov : List (Str × Addr)) (h : Heap) (x : Str) (v : Value) : Bd → Prop
  | .frz d => Rep w (Fz own h) d v
  | .own d => ∃ a o, v = .ref a ∧ ov.lookup x = some a ∧ h.get? a = some o ∧ ORep w (Fz own h) a o d

structure SimV (κ : Str → Option NameKind) (env : Env) (own : List Addr) (ov : List (Str × Addr)) (ρ : Rho) (vm : Str → Option Value) (h : Heap) : Prop where
  eo : EnvOk env own vm h
  kap : ∀ x, env.kindOf x = κ x
  bas : Base G hb
  ext : Ext hb h
  high : ∀ a ∈ own, hb.get? a = none
  lt : ∀ a ∈ own, (h.get? a).isSome = true
  vars : ∀ x b, ρ x = some b → isV (κ x) = true ∧ ∃ v, vm x = some v ∧ BdOk w own ov h x v b
  ovIn : ∀ p ∈ ov, p.2 ∈ own ∧ ¬ isPlace env p.2
  ovInj : (ov.map (·.2)).Nodup

noncomputable def Sim (κ : Str → Option NameKind) (env : Env) (own : List Addr) (ov : List (Str × Addr)) (ρ : Rho) (h : Heap) : Prop := ∃ vm, SimV w G hb κ env own ov ρ vm h
end

section
variable {w : World} {G : Str → Option Value} {hb : Heap} {κ : Str → Option NameKind} {env : Env} {own : List Addr} {ov : List (Str × Addr)} {ρ : Rho} {h h' : Heap}

theorem BdOk.ext {x : Str} {v : Value} {b : Bd} (e : Ext h h') (y : BdOk w own ov h x v b) : BdOk w own ov h' x v b := by
  cases b with
  | frz d => exact Rep.mono e.fz d y
  | own d => obtain ⟨a, o, h1, h2, h3, h4⟩ := y; exact ⟨a, o, h1, h2, e _ _ h3, h4.mono e.fz⟩

theorem Sim.ext (x : Sim w G hb κ env own ov ρ h) (e : Ext h h') : Sim w G hb κ env own ov ρ h' :=
  let ⟨vm, x⟩ := x
  ⟨vm, x.eo.ext e, x.kap, x.bas, x.ext.trans e, x.high, fun a ha => e.some (x.lt a ha),
    fun y b hy => let ⟨k, v, h1, h2⟩ := x.vars y b hy; ⟨k, v, h1, h2.ext e⟩, x.ovIn, x.ovInj⟩

theorem BdOk.more {own' : List Addr} {x : Str} {v : Value} {b : Bd} (e : Ext h h') (hn : ∀ a ∈ own', a ∈ own ∨ h.get? a = none) (y : BdOk w own ov h x v b) : BdOk w own' ov h' x v b := by
  cases b with
  | frz d => exact Rep.mono (e.fzNew hn) d y
  | own d => obtain ⟨a, o, h1, h2, h3, h4⟩ := y; exact ⟨a, o, h1, h2, e _ _ h3, h4.mono (e.fzNew hn)⟩

/-- more that is one's own, new since h -/
theorem Sim.more {new : List Addr} (x : Sim w G hb κ env own ov ρ h) (e : Ext h h') (hn : ∀ a ∈ new, h.get? a = none ∧ (h'.get? a).isSome = true) : Sim w G hb κ env (new ++ own) ov ρ h' :=
  let ⟨vm, x⟩ := x
  ⟨vm, x.eo.keep (fun a ha _ => List.mem_append_right _ ha) (fun a _ o q => e a o q), x.kap, x.bas, x.ext.trans e,
    fun a ha => (List.mem_append.mp ha).elim (fun q => x.ext.none (hn a q).1) (x.high a),
    fun a ha => (List.mem_append.mp ha).elim (fun q => (hn a q).2) fun q => e.some (x.lt a q),
    fun y b hy => let ⟨k, v, h1, h2⟩ := x.vars y b hy; ⟨k, v, h1, h2.more e fun a ha => (List.mem_append.mp ha).elim (fun q => .inr (hn a q).1) .inl⟩,
    fun p hp => ⟨List.mem_append_right _ (x.ovIn p hp).1, (x.ovIn p hp).2⟩, x.ovInj⟩
end

/-! ## Values that an expression gives -/
inductive Fl where
  | fresh
  | frozen
  | loose
  deriving DecidableEq

noncomputable def VRep (w : World) (own : List Addr) (h₀ h : Heap) : Fl → D → Value → Prop
  | .frozen, d, v => Rep w (Fz own h) d v
  | .loose, d, v => ∃ a o, v = .ref a ∧ h.get? a = some o ∧ ORep w (Fz own h) a o d
  | .fresh, d, v => ∃ a o, v = .ref a ∧ h₀.get? a = none ∧ h.get? a = some o ∧ ORep w (Fz (a :: own) h) a o d

section
variable {w : World} {own : List Addr} {h₀ h h' : Heap} {fl : Fl} {d : D} {v : Value}

theorem VRep.ext (e : Ext h h') (x : VRep w own h₀ h fl d v) : VRep w own h₀ h' fl d v := by
  cases fl with
  | frozen => exact Rep.mono e.fz d x
  | loose => obtain ⟨a, o, h1, h2, h3⟩ := x; exact ⟨a, o, h1, e _ _ h2, h3.mono e.fz⟩
  | fresh => obtain ⟨a, o, h1, h2, h3, h4⟩ := x; exact ⟨a, o, h1, h2, e _ _ h3, h4.mono e.fz⟩

theorem VRep.any (x : VRep w own h₀ h fl d v) : Rep w h.get? d v := by
  cases fl with
  | frozen => exact Rep.mono (Fz.le _ _) d x
  | loose => obtain ⟨a, o, rfl, h2, h3⟩ := x; exact Rep.of_obj h2 (h3.mono (Fz.le _ _))
  | fresh => obtain ⟨a, o, rfl, h2, h3, h4⟩ := x; exact Rep.of_obj h3 (h4.mono (Fz.le _ _))

theorem VRep.frz (hf : fl ≠ .loose) (hlt : ∀ a ∈ own, (h₀.get? a).isSome = true) (x : VRep w own h₀ h fl d v) : Rep w (Fz own h) d v := by
  cases fl with
  | frozen => exact x
  | loose => exact absurd rfl hf
  | fresh =>
    obtain ⟨a, o, rfl, h2, h3, h4⟩ := x
    exact Rep.of_obj (Fz.of (fun q => by have := hlt a q; rw [h2] at this; cases this) h3) (h4.mono (Fz.fewer fun b hb => List.mem_cons_of_mem _ hb))
end

/-- e gives what f says, whatever the frame -/
noncomputable def Ev (prog : Program) (w : World) (G : Str → Option Value) (hb : Heap) (n : Nat) (κ : Str → Option NameKind) (e : Expr) (f : Rho → Option (Fl × D)) : Prop :=
  ∀ (A : Around) (env : Env) (own : List Addr) (ov : List (Str × Addr)) (ρ : Rho) (s : Shared) (fl : Fl) (d : D), Room A n → Sim w G hb κ env own ov ρ s.heap → f ρ = some (fl, d) →
    ∀ Q : Value → Shared → Prop, (∀ v h' tk, Ext s.heap h' → VRep w own s.heap h' fl d v → Q v { s with heap := h', toks := tk }) → wpAny (model prog w) A (eval e env) Q NoE s

/-- e's truth -/
noncomputable def EvB (prog : Program) (w : World) (G : Str → Option Value) (hb : Heap) (n : Nat) (κ : Str → Option NameKind) (e : Expr) (f : Rho → Option Bool) : Prop :=
  ∀ (A : Around) (env : Env) (own : List Addr) (ov : List (Str × Addr)) (ρ : Rho) (s : Shared) (b : Bool), Room A n → Sim w G hb κ env own ov ρ s.heap → f ρ = some b →
    ∀ Q : Bool → Shared → Prop, (∀ h' tk, Ext s.heap h' → Q b { s with heap := h', toks := tk }) → wpAny (model prog w) A (isTrue e env (eval e env)) Q NoE s

end Mine
end
section
open PySem PySem.W PyProof.Rows PySem.Spec
namespace Mine

/-! ## Data that compare: ints, None, tuples and lists of such -/
mutual
noncomputable def okPy : Nat → D → Bool
  | _, .none => true
  | _, .int _ => true
--[01
  | _, .bool _ => true
--]
  | n + 1, .tup ds => okPys n ds
  | n + 1, .lst ds => okPys n ds
  | _, _ => false
noncomputable def okPys : Nat → List D → Bool
  | _, [] => true
  | n, d :: ds => okPy n d && okPys n ds
end
mutual
noncomputable def pyOf : D → PyData
  | .int i => .int i
--[01
  | .bool b => .bool b
--]
  | .tup ds => .tuple (pyOfs ds)
  | .lst ds => .list (pyOfs ds)
  | _ => .none
noncomputable def pyOfs : List D → List PyData
  | [] => []
  | d :: ds => pyOf d :: pyOfs ds
end
/-- equal as Python says -/
noncomputable def eqD (d e : D) : Bool := PyData.eqv (pyOf d) (pyOf e)
noncomputable def eqDs (ds es : List D) : Bool := PyData.eqvAll (pyOfs ds) (pyOfs es)
theorem eqD_int (i j : Int) : eqD (.int i) (.int j) = decide (i = j) := by
  unfold eqD
  simp only [pyOf, PyData.eqv]
  first | rfl | (by_cases q : i = j <;> simp [q])
theorem eqD_tup (ds es : List D) : eqD (.tup ds) (.tup es) = eqDs ds es := by unfold eqD eqDs; simp only [pyOf, PyData.eqv]
theorem eqD_lst (ds es : List D) : eqD (.lst ds) (.lst es) = eqDs ds es := by unfold eqD eqDs; simp only [pyOf, PyData.eqv]
theorem eqDs_nil : eqDs [] [] = true := by unfold eqDs; simp only [pyOfs, PyData.eqvAll]
theorem eqDs_nc (d : D) (ds : List D) : eqDs [] (d :: ds) = false := by unfold eqDs; simp only [pyOfs, PyData.eqvAll]
theorem eqDs_cn (d : D) (ds : List D) : eqDs (d :: ds) [] = false := by unfold eqDs; simp only [pyOfs, PyData.eqvAll]
theorem eqDs_cons (d e : D) (ds es : List D) : eqDs (d :: ds) (e :: es) = (eqD d e && eqDs ds es) := by unfold eqDs eqD; simp only [pyOfs, PyData.eqvAll]

theorem okPy_tup {n : Nat} {ds : List D} (h : okPy n (.tup ds) = true) : ∃ m, n = m + 1 ∧ okPys m ds = true := by
  cases n with
  | zero => simp [okPy] at h
  | succ m => exact ⟨m, rfl, by simpa [okPy] using h⟩
theorem okPy_lst {n : Nat} {ds : List D} (h : okPy n (.lst ds) = true) : ∃ m, n = m + 1 ∧ okPys m ds = true := by
  cases n with
  | zero => simp [okPy] at h
  | succ m => exact ⟨m, rfl, by simpa [okPy] using h⟩

mutual
theorem reads_of {w : World} {h : Heap} : ∀ (n : Nat) (d : D) (v : Value), okPy n d = true → Rep w h.get? d v → ∃ as, Reads h v (pyOf d) as
  | _, .none, v, _, x => by simp only [Rep] at x; subst x; exact ⟨_, .none⟩
  | _, .int i, v, _, x => by simp only [Rep] at x; obtain ⟨t, rfl⟩ := x; exact ⟨_, .int i t⟩
  | n, .tup ds, v, ok, x => by
    obtain ⟨m, rfl, ok⟩ := okPy_tup ok
    simp only [Rep] at x
    obtain ⟨a, o, vs, k, rfl, q, c, dd, _, r⟩ := x
    obtain ⟨as, z⟩ := readsAll_of m ds vs.toList ok r
    exact ⟨as, .tuple q c dd z⟩
  | n, .lst ds, v, ok, x => by
    obtain ⟨m, rfl, ok⟩ := okPy_lst ok
    simp only [Rep] at x
    obtain ⟨a, o, vs, k, rfl, q, c, dd, _, r⟩ := x
    obtain ⟨as, z⟩ := readsAll_of m ds vs.toList ok r
    exact ⟨_, .list q c.1 dd z⟩
--[01
  | _, .bool b, v, _, x => by simp only [Rep] at x; subst x; exact ⟨_, .bool b⟩
--]
  | n, .str _, _, ok, _ => by cases n <;> simp [okPy] at ok
  | n, .idict _ _, _, ok, _ => by cases n <;> simp [okPy] at ok
  | n, .tdict _ _, _, ok, _ => by cases n <;> simp [okPy] at ok
theorem readsAll_of {w : World} {h : Heap} : ∀ (n : Nat) (ds : List D) (vs : List Value), okPys n ds = true → Reps w h.get? ds vs → ∃ as, ReadsAll h vs (pyOfs ds) as
  | _, [], vs, _, x => by simp only [Reps] at x; subst x; exact ⟨_, .nil⟩
  | n, d :: ds, vs, ok, x => by
    simp only [okPys, Bool.and_eq_true] at ok
    simp only [Reps] at x
    obtain ⟨v, vs', rfl, q, r⟩ := x
    obtain ⟨as, z⟩ := reads_of n d v ok.1 q
    obtain ⟨bs, y⟩ := readsAll_of n ds vs' ok.2 r
    exact ⟨_, .cons z y⟩
end

mutual
theorem lay_of : ∀ (n : Nat) (d : D), okPy n d = true → (pyOf d).canLay0 = true ∧ (pyOf d).depth ≤ n
  | _, .none, _ => by simp [pyOf, PyData.canLay0, PyData.depth]
  | _, .int i, _ => by simp [pyOf, PyData.canLay0, PyData.depth]
  | n, .tup ds, ok => by
    obtain ⟨m, rfl, ok⟩ := okPy_tup ok
    have := layAll_of m ds ok
    simp only [pyOf, PyData.canLay0, PyData.depth, this.1, true_and]
    omega
  | n, .lst ds, ok => by
    obtain ⟨m, rfl, ok⟩ := okPy_lst ok
    have := layAll_of m ds ok
    simp only [pyOf, PyData.canLay0, PyData.depth, this.1, true_and]
    omega
--[01
  | _, .bool b, _ => by simp [pyOf, PyData.canLay0, PyData.depth]
--]
  | n, .str _, ok => by cases n <;> simp [okPy] at ok
  | n, .idict _ _, ok => by cases n <;> simp [okPy] at ok
  | n, .tdict _ _, ok => by cases n <;> simp [okPy] at ok
theorem layAll_of : ∀ (n : Nat) (ds : List D), okPys n ds = true → PyData.canLayAll0 (pyOfs ds) = true ∧ PyData.depthAll (pyOfs ds) ≤ n
  | _, [], _ => by simp [pyOfs, PyData.canLayAll0, PyData.depthAll]
  | n, d :: ds, ok => by
    simp only [okPys, Bool.and_eq_true] at ok
    have h1 := lay_of n d ok.1
    have h2 := layAll_of n ds ok.2
    simp only [pyOfs, PyData.canLayAll0, PyData.depthAll, h1.1, h2.1, Bool.and_self, true_and]
    have a1 := h1.2
    have a2 := h2.2
    exact om_9 a1 a2
end

theorem any_of (d : D) : ∀ (ds : List D), ((pyOfs ds).any fun y => PyData.eqv y (pyOf d)) = ds.any fun y => eqD y d
  | [] => rfl
  | e :: ds => by
    simp only [pyOfs, List.any_cons, any_of d ds]
    rfl

section
variable {prog : Program} {w : World} {A : Around} {E : Value → Shared → Prop} {s : Shared} {n : Nat}

theorem op_eq {d e : D} {v u : Value} {Q : Value → Shared → Prop} (r : Room A n) (hd : okPy 8 d = true) (he : okPy 8 e = true) (x : Rep w s.heap.get? d v) (y : Rep w s.heap.get? e u)
    (h : Q (.bool (eqD d e)) s) : wpAny (model prog w) A (compareOp .Eq v u) Q E s := by
  obtain ⟨as, ra⟩ := reads_of 8 d v hd x
  obtain ⟨bs, rb⟩ := reads_of 8 e u he y
  have l1 := lay_of 8 d hd
  have l2 := lay_of 8 e he
  refine eq_dataH ra rb ?_ ?_ (by have := r.un; exact om_10 this) h
  · unfold SeqAt.shaped; rw [l1.1, Bool.true_and]; exact decide_eq_true (Nat.le_trans l1.2 (by decide))
  · unfold SeqAt.shaped; rw [l2.1, Bool.true_and]; exact decide_eq_true (Nat.le_trans l2.2 (by decide))
theorem op_ne {d e : D} {v u : Value} {Q : Value → Shared → Prop} (r : Room A n) (hd : okPy 8 d = true) (he : okPy 8 e = true) (x : Rep w s.heap.get? d v) (y : Rep w s.heap.get? e u)
    (h : Q (.bool (!eqD d e)) s) : wpAny (model prog w) A (compareOp .NotEq v u) Q E s := by
  obtain ⟨as, ra⟩ := reads_of 8 d v hd x
  obtain ⟨bs, rb⟩ := reads_of 8 e u he y
  have l1 := lay_of 8 d hd
  have l2 := lay_of 8 e he
  refine ne_dataH ra rb ?_ ?_ (by have := r.un; exact om_10 this) h
  · unfold SeqAt.shaped; rw [l1.1, Bool.true_and]; exact decide_eq_true (Nat.le_trans l1.2 (by decide))
  · unfold SeqAt.shaped; rw [l2.1, Bool.true_and]; exact decide_eq_true (Nat.le_trans l2.2 (by decide))

theorem op_inList {ds : List D} {e : D} {v u : Value} {Q : Value → Shared → Prop} (r : Room A n) (hd : okPys 8 ds = true) (he : okPy 8 e = true) (x : Rep w s.heap.get? (.lst ds) v) (y : Rep w s.heap.get? e u)
    (h : Q (.bool (ds.any fun y => eqD y e)) s) : wpAny (model prog w) A (compareOp .In u v) Q E s := by
  obtain ⟨as, ra⟩ := reads_of 9 (.lst ds) v (by simpa [okPy] using hd) x
  obtain ⟨bs, rb⟩ := reads_of 8 e u he y
  have l1 := layAll_of 8 ds hd
  have l2 := lay_of 8 e he
  rw [pyOf] at ra
  refine SeqAt.in_list_reads ra rb l1.1 l2.1 (by have := r.un; have := l1.2; omega) (by rw [any_of e ds]; exact h)
end

end Mine
end
section
open PySem PySem.W PyProof.Rows PySem.Spec
namespace Mine

/-! ## Association lists, keys and values apart -/
section
variable {K α β : Type} [DecidableEq K]
noncomputable def getK : List K → List α → K → Option α
  | k :: ks, d :: ds, x => if k = x then some d else getK ks ds x
  | _, _, _ => none
noncomputable def setK : List K → List α → K → α → List α
  | k :: ks, d :: ds, x, v => (if k = x then v else d) :: setK ks ds x v
  | _, ds, _, _ => ds
theorem getK_cons (k : K) (ks : List K) (d : α) (ds : List α) (x : K) : getK (k :: ks) (d :: ds) x = if k = x then some d else getK ks ds x := rfl
theorem getK_nl (ds : List α) (x : K) : getK [] ds x = none := rfl
theorem getK_ln (k : K) (ks : List K) (x : K) : getK (k :: ks) ([] : List α) x = none := rfl
theorem setK_cons (k : K) (ks : List K) (d : α) (ds : List α) (x : K) (v : α) : setK (k :: ks) (d :: ds) x v = (if k = x then v else d) :: setK ks ds x v := rfl
theorem setK_nl (ds : List α) (x : K) (v : α) : setK [] ds x v = ds := rfl
theorem setK_ln (k : K) (ks : List K) (x : K) (v : α) : setK (k :: ks) ([] : List α) x v = [] := rfl
noncomputable def putK (ks : List K) (ds : List α) (x : K) (v : α) : List K × List α :=
  if x ∈ ks then (ks, setK ks ds x v) else (ks ++ [x], ds ++ [v])

theorem setK_not {ks : List K} {ds : List α} {x : K} {v : α} (h : x ∉ ks) : setK ks ds x v = ds := by
  induction ks generalizing ds with
  | nil => cases ds <;> rfl
  | cons k ks ih =>
    cases ds with
    | nil => rfl
    | cons d ds =>
      simp only [List.mem_cons, not_or] at h
      simp only [Mine.setK_cons, Mine.setK_nl, Mine.setK_ln, if_neg (Ne.symm h.1), ih h.2]
theorem setK_length {ks : List K} {ds : List α} {x : K} {v : α} : (setK ks ds x v).length = ds.length := by
  induction ks generalizing ds with
  | nil => cases ds <;> rfl
  | cons k ks ih => cases ds with
    | nil => rfl
    | cons d ds => simp [Mine.setK_cons, Mine.setK_nl, Mine.setK_ln, ih]
theorem getK_none {ks : List K} {ds : List α} {x : K} (hl : ks.length = ds.length) : getK ks ds x = none ↔ x ∉ ks := by
  induction ks generalizing ds with
  | nil => cases ds <;> simp [Mine.getK_cons, Mine.getK_nl, Mine.getK_ln]
  | cons k ks ih => cases ds with
    | nil => simp at hl
    | cons d ds =>
      simp only [Mine.getK_cons, Mine.getK_nl, Mine.getK_ln, List.mem_cons, not_or]
      by_cases q : k = x
      · simp [q]
      · simp [q, ih (by simpa using hl), Ne.symm q]
theorem getK_isSome {ks : List K} {ds : List α} {x : K} (hl : ks.length = ds.length) : (getK ks ds x).isSome = true ↔ x ∈ ks := by
  by_cases q : x ∈ ks
  · cases e : getK ks ds x with
    | none => exact absurd q ((getK_none hl).mp e)
    | some _ => simp [q]
  · rw [(getK_none hl).mpr q]; simp [q]
end

section
variable {w : World}
theorem Reps.getK {K : Type} [DecidableEq K] {g : Part} : ∀ {ks : List K} {ds : List D} {vs : List Value} {x : K} {d : D}, Reps w g ds vs → Mine.getK ks ds x = some d → ∃ v, Mine.getK ks vs x = some v ∧ Rep w g d v
  | [], _, _, _, _, _, e => by cases e
  | _ :: _, [], _, _, _, _, e => by simp [Mine.getK_cons, Mine.getK_nl, Mine.getK_ln] at e
  | k :: ks, d :: ds, vs, x, d', r, e => by
    simp only [Reps] at r
    obtain ⟨v, vs', rfl, q, r⟩ := r
    simp only [Mine.getK_cons, Mine.getK_nl, Mine.getK_ln] at e ⊢
    split at e
    · rename_i h; cases e; rw [if_pos h]; exact ⟨v, rfl, q⟩
    · rename_i h; rw [if_neg h]; exact Reps.getK r e
theorem Reps.setK {K : Type} [DecidableEq K] {g : Part} : ∀ {ks : List K} {ds : List D} {vs : List Value} {x : K} {d : D} {v : Value}, Reps w g ds vs → Rep w g d v → Reps w g (Mine.setK ks ds x d) (Mine.setK ks vs x v)
  | [], _, _, _, _, _, r, _ => by simpa [Mine.setK_cons, Mine.setK_nl, Mine.setK_ln] using r
  | _ :: _, [], _, _, _, _, r, _ => by simp only [Reps] at r; subst r; simp [Mine.setK_cons, Mine.setK_nl, Mine.setK_ln, Reps]
  | k :: ks, d :: ds, vs, x, d', v', r, y => by
    simp only [Reps] at r
    obtain ⟨v, vs', rfl, q, r⟩ := r
    simp only [Mine.setK_cons, Mine.setK_nl, Mine.setK_ln, Reps]
    refine ⟨_, _, rfl, ?_, Reps.setK r y⟩
    split
    · exact y
    · exact q
end

/-! ## Int keys -/
section
variable {prog : Program} {w : World}
theorem IKeys.length : ∀ {ks : List Int} {es : List DictEntry}, IKeys ks es → es.length = ks.length
  | [], _, x => by subst x; rfl
  | _ :: _, _, ⟨_, _, e, _, _, r⟩ => by subst e; simp [IKeys.length r]
theorem IKeys.pairs : ∀ {ks : List Int} {es : List DictEntry}, IKeys ks es → (∀ e ∈ es, ∃ k, (intKind prog w).is k e.key = true ∧ e.hash = (intKind prog w).hash k) ∧ Pairs (intKind prog w) es (ks.zip (es.map (·.val)))
  | [], _, x => by subst x; exact ⟨(fun _ h => nomatch h), Pairs.nil⟩
  | k :: ks, _, ⟨e, es', q, h1, h2, r⟩ => by
    subst q
    have ih := IKeys.pairs r
    refine ⟨fun e' he => ?_, .cons h1 rfl ih.2⟩
    rcases List.mem_cons.mp he with rfl | he
    · exact ⟨k, h1, h2⟩
    · exact ih.1 e' he
theorem IKeys.of_pairs : ∀ {es : List DictEntry} {kvs : List (Int × Value)}, (∀ e ∈ es, ∃ k, (intKind prog w).is k e.key = true ∧ e.hash = (intKind prog w).hash k) → Pairs (intKind prog w) es kvs →
    IKeys (kvs.map (·.1)) es ∧ es.map (·.val) = kvs.map (·.2)
  | _, _, _, .nil => ⟨rfl, rfl⟩
  | e :: es, kv :: kvs, hk, .cons h1 h2 r => by
    have ih := IKeys.of_pairs (fun e' he => hk e' (.tail _ he)) r
    obtain ⟨k, g1, g2⟩ := hk e (.head _)
    have q : kv.1 = k := (intKind prog w).inj _ _ _ h1 g1
    exact ⟨⟨e, es, rfl, h1, by rw [g2, ← q]; rfl, ih.1⟩, by simp [h2, ih.2]⟩

theorem valueAt_getK {K : Type} [DecidableEq K] : ∀ (ks : List K) (vs : List Value) (x : K), valueAt (ks.zip vs) x = getK ks vs x
  | [], _, _ => by simp [valueAt, Mine.getK_cons, Mine.getK_nl, Mine.getK_ln]
  | _ :: _, [], _ => by simp [valueAt, Mine.getK_cons, Mine.getK_nl, Mine.getK_ln]
  | k :: ks, v :: vs, x => by
    have ih := valueAt_getK ks vs x
    simp only [valueAt, Mine.getK_cons, Mine.getK_nl, Mine.getK_ln, List.zip_cons_cons, List.find?_cons] at ih ⊢
    by_cases q : k = x
    · simp [q]
    · simp [q, ih]
theorem any_zip {K : Type} [DecidableEq K] : ∀ (ks : List K) (vs : List Value) (x : K), ks.length = vs.length → ((ks.zip vs).any fun kv => decide (kv.1 = x)) = decide (x ∈ ks)
  | [], _, _, _ => by simp
  | _ :: _, [], _, h => by simp at h
  | k :: ks, v :: vs, x, h => by
    have ih := any_zip ks vs x (by simpa using h)
    simp only [List.zip_cons_cons, List.any_cons, ih, List.mem_cons]
    by_cases q : k = x
    · simp [q]
    · simp [q, Ne.symm q]
theorem map_zip {K : Type} [DecidableEq K] : ∀ (ks : List K) (vs : List Value) (x : K) (v : Value), ks.length = vs.length → (ks.zip vs).map (fun kv => if kv.1 = x then (kv.1, v) else kv) = ks.zip (setK ks vs x v)
  | [], _, _, _, _ => by simp
  | _ :: _, [], _, _, h => by simp at h
  | k :: ks, u :: vs, x, v, h => by
    have ih := map_zip ks vs x v (by simpa using h)
    simp only [List.zip_cons_cons, List.map_cons, Mine.setK_cons, Mine.setK_nl, Mine.setK_ln, ih]
    by_cases q : k = x <;> simp [q]
theorem stored_putK {K : Type} [DecidableEq K] (ks : List K) (vs : List Value) (x : K) (v : Value) (h : ks.length = vs.length) : stored (ks.zip vs) x v = (putK ks vs x v).1.zip (putK ks vs x v).2 := by
  unfold stored putK
  rw [any_zip ks vs x h]
  by_cases q : x ∈ ks
  · simp only [q, decide_true, if_true]; exact map_zip ks vs x v h
  · simp only [q, decide_false, Bool.false_eq_true, if_false]
    rw [List.zip_append h]; rfl
theorem putK_length {K : Type} [DecidableEq K] {ks : List K} {vs : List Value} {x : K} {v : Value} (h : ks.length = vs.length) : (putK ks vs x v).1.length = (putK ks vs x v).2.length := by
  unfold putK; split <;> simp [setK_length, h]
end

/-! ## Keys that are tuples of ints and texts -/
noncomputable def scalKind (prog : Program) (w : World) : KeyKind prog w Scal where
  is := Scal.is
  hash := Scal.hash w
  inj := fun v a b ha hb => by
    cases a <;> cases b
    · simp only [Scal.is] at ha hb; rw [Value.isInt_inj _ _ _ ha hb]
    · simp only [Scal.is] at ha hb
      obtain ⟨t, rfl⟩ := Value.isInt_shape ha
      simp [Value.isStrOf] at hb
    · simp only [Scal.is] at ha hb
      obtain ⟨t, rfl⟩ := Value.isInt_shape hb
      simp [Value.isStrOf] at ha
    · simp only [Scal.is] at ha hb; rw [Value.isStrOf_inj _ _ _ ha hb]
  byValue := fun k v h => by
    cases k
    · exact (intKind prog w).byValue _ _ h
    · exact (strKind prog w).byValue _ _ h
  pyHash := fun {_ _ _ k _ _} hv h => by
    cases k
    · exact (intKind prog w).pyHash hv h
    · exact (strKind prog w).pyHash hv h
  eqBool := fun {_ _ _ a b _ _ _} hu hv h => by
    cases a <;> cases b
    · exact (intKind prog w).eqBool hu hv (by simpa using h)
    · simp only [Scal.is] at hu hv
      obtain ⟨t, rfl⟩ := Value.isInt_shape hu
      obtain ⟨t, rfl⟩ := Value.isStrOf_shape hv
      exact SeqAt.EqAt.int_str _ _ _ _ _ _ _ _ (by simpa using h)
    · simp only [Scal.is] at hu hv
      obtain ⟨t, rfl⟩ := Value.isStrOf_shape hu
      obtain ⟨t, rfl⟩ := Value.isInt_shape hv
      exact SeqAt.EqAt.str_int _ _ _ _ _ _ _ _ (by simpa using h)
    · exact (strKind prog w).eqBool hu hv (by simpa using h)
  «strs» := fun k x t v h => by
    cases k
    · simp [Scal.is, Value.isInt] at h
    · exact (strKind prog w).«strs» _ x t v h

section
variable (prog : Program) (w : World)
noncomputable abbrev tk : HeapKind prog w (List Scal) := tupleKind (scalKind prog w)
variable {prog w}

theorem itemsAre_of : ∀ {ks : List Scal} {vs : List Value}, ScalsAre ks vs → ItemsAre (scalKind prog w) ks vs
  | [], _, x => by subst x; exact .nil
  | _ :: _, _, ⟨_, _, e, h, r⟩ => by subst e; exact .cons h (itemsAre_of r)
theorem KeyAt.is {g : Part} {h : Heap} (hg : Le g h.get?) {ks : List Scal} {v : Value} (x : KeyAt g ks v) : ∃ a, v = .ref a ∧ (tk prog w).is h ks a :=
  let ⟨a, o, vs, n, e, q, c, d, _, r⟩ := x
  ⟨a, e, o, vs, n, hg _ _ q, c, d, itemsAre_of r⟩

theorem TKeys.lib {g : Part} {h : Heap} (hg : Le g h.get?) : ∀ {ks : List (List Scal)} {es : List DictEntry}, TKeys w g ks es →
    ∃ xs : List (List Scal × Addr × Value), es = xs.map (entryOfKey (tk prog w)) ∧ xs.map (·.1) = ks ∧ (∀ x ∈ xs, (tk prog w).is h x.1 x.2.1) ∧ (∀ x ∈ xs, KeyAt g x.1 (.ref x.2.1))
  | [], _, x => ⟨[], x, rfl, (fun _ h => nomatch h), (fun _ h => nomatch h)⟩
  | k :: ks, _, ⟨e, es', q, h1, h2, r⟩ => by
    obtain ⟨xs, e1, e2, e3, e4⟩ := TKeys.lib hg r
    obtain ⟨a, ha, hi⟩ := KeyAt.is (prog := prog) (w := w) hg h1
    obtain ⟨hh, kk, vv⟩ := e
    simp only at ha h2
    subst ha h2
    refine ⟨(k, a, vv) :: xs, by rw [q, e1]; rfl, by simp [e2], fun x hx => ?_, fun x hx => ?_⟩
    · rcases List.mem_cons.mp hx with rfl | hx
      · exact hi
      · exact e3 x hx
    · rcases List.mem_cons.mp hx with rfl | hx
      · exact h1
      · exact e4 x hx
theorem TKeys.of_lib {g : Part} : ∀ (xs : List (List Scal × Addr × Value)), (∀ x ∈ xs, KeyAt g x.1 (.ref x.2.1)) → TKeys w g (xs.map (·.1)) (xs.map (entryOfKey (tk prog w)))
  | [], _ => rfl
  | x :: xs, h => ⟨entryOfKey (tk prog w) x, _, rfl, h x (.head _), rfl, TKeys.of_lib xs fun y hy => h y (.tail _ hy)⟩
theorem vals_lib : ∀ (xs : List (List Scal × Addr × Value)), (xs.map (entryOfKey (tk prog w))).map (·.val) = xs.map (·.2.2)
  | [] => rfl
  | _ :: xs => by simp only [List.map_cons, vals_lib xs]; rfl

theorem atKey_getK : ∀ (xs : List (List Scal × Addr × Value)) (k : List Scal), (atKey xs k).map (·.2) = getK (xs.map (·.1)) (xs.map (·.2.2)) k
  | [], _ => rfl
  | x :: xs, k => by
    have ih := atKey_getK xs k
    simp only [atKey, List.find?_cons, List.map_cons, Mine.getK_cons, Mine.getK_nl, Mine.getK_ln] at ih ⊢
    by_cases q : x.1 = k
    · simp [q]
    · simp [q, ih]
theorem storedH_putK (xs : List (List Scal × Addr × Value)) (k : List Scal) (a : Addr) (v : Value) :
    (storedH xs k a v).map (·.1) = (putK (xs.map (·.1)) (xs.map (·.2.2)) k v).1 ∧ (storedH xs k a v).map (·.2.2) = (putK (xs.map (·.1)) (xs.map (·.2.2)) k v).2 := by
  have hs : (atKey xs k).isSome = true ↔ k ∈ xs.map (·.1) := by
    have h1 := getK_isSome (ks := xs.map (·.1)) (ds := xs.map (·.2.2)) (x := k) (by simp)
    rw [← atKey_getK, Option.isSome_map] at h1
    exact h1
  unfold storedH putK
  by_cases q : k ∈ xs.map (·.1)
  · rw [if_pos (hs.mpr q), if_pos q]
    refine ⟨keys_map_putAt xs k v, ?_⟩
    clear q hs
    simp only
    induction xs with
    | nil => rfl
    | cons x xs ih =>
      simp only [List.map_cons, Mine.setK_cons, Mine.setK_nl, Mine.setK_ln, ih, putAt]
      by_cases q : x.1 = k <;> simp [q]
  · rw [if_neg (fun e => q (hs.mp e)), if_neg q]; simp
theorem storedH_keyAt {g : Part} {xs : List (List Scal × Addr × Value)} {k : List Scal} {a : Addr} {v : Value} (h : ∀ x ∈ xs, KeyAt g x.1 (.ref x.2.1)) (hk : KeyAt g k (.ref a)) :
    ∀ x ∈ storedH xs k a v, KeyAt g x.1 (.ref x.2.1) := by
  unfold storedH
  split
  · intro x hx
    obtain ⟨y, hy, rfl⟩ := List.mem_map.mp hx
    unfold putAt
    split <;> exact h y hy
  · intro x hx
    rcases List.mem_append.mp hx with hx | hx
    · exact h x hx
    · simp only [List.mem_singleton] at hx; subst hx; exact hk
end

end Mine
end
section
open PySem PySem.W PyProof.Rows PySem.Spec
namespace Mine

/-! ## Keys from data -/
noncomputable def Scal.d : Scal → D
  | .int i => .int i
  | .str s => .str s
noncomputable def scB : (d : D) → { o : Option Scal // ∀ k, o = some k → d = k.d }
  | .int i => ⟨some (.int i), fun k h => by cases h; rfl⟩
  | .str s => ⟨some (.str s), fun k h => by cases h; rfl⟩
  | _ => ⟨none, fun _ h => (nomatch h)⟩
noncomputable def scalOf (d : D) : Option Scal := (scB d).1
noncomputable def scalsOf : List D → Option (List Scal)
  | [] => some []
  | d :: ds => (scalOf d).bind fun k => (scalsOf ds).map fun ks => k :: ks
noncomputable def kyB : (d : D) → { o : Option (List Scal) // ∀ ks, o = some ks → ∃ ds, d = .tup ds ∧ scalsOf ds = some ks }
  | .tup ds => ⟨scalsOf ds, fun _ h => ⟨ds, rfl, h⟩⟩
  | _ => ⟨none, fun _ h => (nomatch h)⟩
noncomputable def keyOf (d : D) : Option (List Scal) := (kyB d).1
noncomputable def keyD (ks : List Scal) : D := .tup (ks.map Scal.d)

section
variable {w : World} {g : Part}
theorem scal_is {d : D} {k : Scal} {v : Value} (e : scalOf d = some k) (x : Rep w g d v) : k.is v = true := by
  rw [(scB d).2 k e] at x
  cases k with
  | int i => obtain ⟨t, rfl⟩ : ∃ t, v = .int i t := by simpa only [Scal.d, Rep] using x
             simp [Scal.is, Value.isInt]
  | str s => obtain ⟨t, rfl⟩ : ∃ t, v = .str s t := by simpa only [Scal.d, Rep] using x
             simp [Scal.is, Value.isStrOf]
theorem scals_are : ∀ {ds : List D} {ks : List Scal} {vs : List Value}, scalsOf ds = some ks → Reps w g ds vs → ScalsAre ks vs ∧ ks.length = ds.length
  | [], _, _, e, x => by cases e; simp only [Reps] at x; exact ⟨x, rfl⟩
  | d :: ds, ks, vs, e, x => by
    obtain ⟨k, h1, e⟩ := Option.bind_eq_some_iff.mp e
    obtain ⟨ks', h2, rfl⟩ := Option.map_eq_some_iff.mp e
    simp only [Reps] at x
    obtain ⟨v, vs', rfl, q, r⟩ := x
    have ih := scals_are h2 r
    exact ⟨⟨v, vs', rfl, scal_is h1 q, ih.1⟩, congrArg Nat.succ ih.2⟩
theorem Rep.key {d : D} {ks : List Scal} {v : Value} (e : keyOf d = some ks) (x : Rep w g d v) : KeyAt g ks v := by
  obtain ⟨ds, rfl, e⟩ := (kyB d).2 ks e
  simp only [Rep] at x
  obtain ⟨a, o, vs, n, rfl, q, c, dd, l, r⟩ := x
  have := scals_are e r
  exact ⟨a, o, vs, n, rfl, q, c, dd, by rw [this.2]; exact l, this.1⟩
theorem Scal.rep : ∀ {k : Scal} {v : Value}, k.is v = true → Rep w g k.d v
  | .int i, v, h => by simp only [Scal.is] at h; obtain ⟨t, rfl⟩ := Value.isInt_shape h; simp only [Scal.d, Rep]; exact ⟨t, rfl⟩
  | .str s, v, h => by simp only [Scal.is] at h; obtain ⟨t, rfl⟩ := Value.isStrOf_shape h; simp only [Scal.d, Rep]; exact ⟨t, rfl⟩
theorem Scals.reps : ∀ {ks : List Scal} {vs : List Value}, ScalsAre ks vs → Reps w g (ks.map Scal.d) vs
  | [], _, x => by subst x; simp [Reps]
  | _ :: _, _, ⟨v, vs', e, h, r⟩ => by
    subst e; simp only [List.map_cons, Reps]; exact ⟨v, vs', rfl, Scal.rep h, Scals.reps r⟩
theorem KeyAt.rep {ks : List Scal} {v : Value} (x : KeyAt g ks v) : Rep w g (keyD ks) v := by
  obtain ⟨a, o, vs, n, rfl, q, c, dd, l, r⟩ := x
  simp only [keyD, Rep]
  exact ⟨a, o, vs, n, rfl, q, c, dd, by simpa using l, Scals.reps r⟩
end

theorem cap_lt : cap ≤ sizeLine := by decide
theorem cap_fit : cap + cap ≤ sizeLine := by decide

section
variable {prog : Program} {w : World} {A : Around} {E : Value → Shared → Prop} {s : Shared} {n : Nat} {g : Part}

/-! ## Items -/
/-- the four ways to an item -/
def ItemV (d e f : D) : Prop := (∃ ds k, d = .lst ds ∧ e = .int k ∧ (0 ≤ k ∧ k < 300) ∧ ds[k.toNat]? = some f) ∨ (∃ ds k, d = .tup ds ∧ e = .int k ∧ (0 ≤ k ∧ k < 300) ∧ ds[k.toNat]? = some f) ∨
  (∃ ks ds k, d = .idict ks ds ∧ e = .int k ∧ getK ks ds k = some f) ∨ (∃ ks ds k, d = .tdict ks ds ∧ keyOf e = some k ∧ getK ks ds k = some f)
theorem if_of {p : Prop} [Decidable p] {α : Type} {r : Option α} {f : α} (h : (if p then r else none) = some f) : p ∧ r = some f := by
  by_cases q : p
  · exact ⟨q, (if_pos q).symm.trans h⟩
  · cases (if_neg q).symm.trans h
noncomputable def itemB : (d e : D) → { r : Option D // ∀ f, r = some f → ItemV d e f }
  | .lst ds, .int k => ⟨if 0 ≤ k ∧ k < 300 then ds[k.toNat]? else none, fun f h => .inl ⟨ds, k, rfl, rfl, if_of h⟩⟩
  | .tup ds, .int k => ⟨if 0 ≤ k ∧ k < 300 then ds[k.toNat]? else none, fun f h => .inr (.inl ⟨ds, k, rfl, rfl, if_of h⟩)⟩
  | .idict ks ds, .int k => ⟨getK ks ds k, fun f h => .inr (.inr (.inl ⟨ks, ds, k, rfl, rfl, h⟩))⟩
  | .tdict ks ds, d => ⟨(keyOf d).bind fun k => getK ks ds k, fun f h => by obtain ⟨k, h1, h2⟩ := Option.bind_eq_some_iff.mp h; exact .inr (.inr (.inr ⟨ks, ds, k, rfl, h1, h2⟩))⟩
  | _, _ => ⟨none, fun _ h => (nomatch h)⟩
noncomputable def itemD (d e : D) : Option D := (itemB d e).1
theorem itemD_lst (ds : List D) (k : Int) : itemD (.lst ds) (.int k) = if 0 ≤ k ∧ k < 300 then ds[k.toNat]? else none := rfl
theorem itemD_tup (ds : List D) (k : Int) : itemD (.tup ds) (.int k) = if 0 ≤ k ∧ k < 300 then ds[k.toNat]? else none := rfl
theorem itemD_idict (ks : List Int) (ds : List D) (k : Int) : itemD (.idict ks ds) (.int k) = getK ks ds k := rfl
theorem itemD_tdict (ks : List (List Scal)) (ds : List D) (e : D) : itemD (.tdict ks ds) e = (keyOf e).bind fun k => getK ks ds k := rfl

theorem idict_of {h : Heap} {a : Addr} {o : Obj} {ks : List Int} {ds : List D} (ho : h.get? a = some o) (x : ORep w g a o (.idict ks ds)) :
    ∃ vs, h.DictOf (intKind prog w) a (ks.zip vs) ∧ Reps w g ds vs ∧ ks.length = vs.length ∧ (a == sysModules) = false ∧ ks.length ≤ cap ∧ ∃ es n, o.data = .dict es n ∧ es.toList.map (·.val) = vs := by
  simp only [ORep] at x
  obtain ⟨c, es, k, dd, l, kk, r⟩ := x
  have hp := IKeys.pairs (prog := prog) (w := w) kk
  have hl : ks.length = (es.toList.map (·.val)).length := by rw [List.length_map, kk.length]
  refine ⟨es.toList.map (·.val), ⟨o, es, k, ho, c.2, dd, fun e he => hp.1 e (Array.mem_toList_iff.mpr he), hp.2, ?_⟩, r, hl, by simpa using c.1, l.1, es, k, dd, rfl⟩
  rw [List.map_fst_zip (by exact om_11 hl)]; exact l.2

theorem idict_back {g' : Part} {h : Heap} {a : Addr} {ks : List Int} {ds : List D} {vs : List Value} (x : h.DictOf (intKind prog w) a (ks.zip vs)) (hl : ks.length = vs.length) (r : Reps w g' ds vs) (hc : ks.length ≤ cap)
    (ha : a ≠ sysModules) : ∃ o, h.get? a = some o ∧ ORep w g' a o (.idict ks ds) := by
  obtain ⟨o, es, n, ho, c, dd, kk, p, nd⟩ := x
  rw [List.map_fst_zip (by exact om_11 hl)] at nd
  have q := IKeys.of_pairs (prog := prog) (w := w) (fun e he => kk e (Array.mem_toList_iff.mp he)) p
  rw [List.map_fst_zip (by exact om_11 hl), List.map_snd_zip (by exact om_12 hl)] at q
  refine ⟨o, ho, ?_⟩
  simp only [ORep]
  exact ⟨⟨ha, c⟩, es, n, dd, ⟨hc, nd⟩, q.1, by rw [q.2]; exact r⟩

theorem tdict_of {h : Heap} {a : Addr} {o : Obj} {ks : List (List Scal)} {ds : List D} (hg : Le g h.get?) (ho : h.get? a = some o) (x : ORep w g a o (.tdict ks ds)) :
    ∃ xs, h.DictOfH (tk prog w) a xs ∧ xs.map (·.1) = ks ∧ Reps w g ds (xs.map (·.2.2)) ∧ (∀ x ∈ xs, KeyAt g x.1 (.ref x.2.1)) ∧ (a == sysModules) = false ∧ ks.length ≤ cap := by
  simp only [ORep] at x
  obtain ⟨c, es, k, dd, l, kk, r⟩ := x
  obtain ⟨xs, e1, e2, e3, e4⟩ := TKeys.lib (prog := prog) hg kk
  refine ⟨xs, ⟨o, es, k, ho, c.2, dd, e1, e3, by rw [e2]; exact l.2⟩, e2, by rw [← vals_lib (prog := prog) (w := w), ← e1]; exact r, e4, by simpa using c.1, l.1⟩

theorem tdict_back {g' : Part} {h : Heap} {a : Addr} {xs : List (List Scal × Addr × Value)} {ds : List D} (x : h.DictOfH (tk prog w) a xs) (r : Reps w g' ds (xs.map (·.2.2))) (hk : ∀ x ∈ xs, KeyAt g' x.1 (.ref x.2.1)) (hc : xs.length ≤ cap)
    (ha : a ≠ sysModules) : ∃ o, h.get? a = some o ∧ ORep w g' a o (.tdict (xs.map (·.1)) ds) := by
  obtain ⟨o, es, n, ho, c, dd, e, _, nd⟩ := x
  refine ⟨o, ho, ?_⟩
  simp only [ORep]
  exact ⟨⟨ha, c⟩, es, n, dd, ⟨by simpa using hc, nd⟩, by rw [e]; exact TKeys.of_lib (prog := prog) xs hk, by rw [e, vals_lib]; exact r⟩

theorem op_item {a : Addr} {o : Obj} {d e f : D} {u : Value} {Q : Value → Shared → Prop} (r : Room A n) (hg : Le g s.heap.get?) (ho : s.heap.get? a = some o) (x : ORep w g a o d) (y : Rep w s.heap.get? e u)
    (hf : itemD d e = some f) (h : ∀ v tk, Rep w g f v → Q v { s with toks := tk }) :
    ∃ T id, s.TypeIs (.ref a) T ∧ typeLookup (.type T) "__getitem__" = pure (some (.builtin id)) ∧ wpAny (model prog w) A (getItem (.ref a) u) Q E s := by
  rcases (itemB d e).2 f hf with ⟨ds, k, rfl, rfl, hk, hf⟩ | ⟨ds, k, rfl, rfl, hk, hf⟩ | ⟨ks, ds, k, rfl, rfl, hf⟩ | ⟨ks, ds, k, rfl, hk, hf⟩
  · ·
      simp only [Rep] at y
      obtain ⟨t, rfl⟩ := y
      simp only [ORep] at x
      obtain ⟨c, vs, m, dd, l, rr⟩ := x
      obtain ⟨v, h1, h2⟩ := rr.get hf
      have hL : s.heap.IsList a vs := ⟨o, ho, c.1, m, dd⟩
      exact ⟨_, _, hL.typeIs, slot_list_getitem.lookup, wpAny_getItem_list hL hk.1 (by omega) (by simpa using h1) (h v s.toks h2)⟩
  · ·
      simp only [Rep] at y
      obtain ⟨t, rfl⟩ := y
      simp only [ORep] at x
      obtain ⟨c, vs, m, dd, l, rr⟩ := x
      obtain ⟨v, h1, h2⟩ := rr.get hf
      have hT : IsTup s.heap a vs := ⟨o, ho, c, m, dd⟩
      have hlt : k.toNat < vs.size := by
        have := List.getElem?_eq_some_iff.mp h1
        obtain ⟨q, _⟩ := this; simpa using q
      have hj : seqIndex? k vs.size = some k.toNat := PySem.seqIndex_of hk.1 (by exact om_13 hlt)
      exact ⟨_, _, hT.typeIs, slot_tuple_getitem.lookup, getItem_tuple hT (by omega) (by omega) hj (by simpa using h1) (h v s.toks h2)⟩
  · skip
    simp only [Rep] at y
    obtain ⟨t, rfl⟩ := y
    obtain ⟨vs, hm, rr, hl, _, _⟩ := idict_of (prog := prog) ho x
    obtain ⟨v, h1, h2⟩ := rr.getK hf
    have hm' := hm.mapOf
    exact ⟨_, _, hm'.typeIs, slot_dict_getitem.lookup, wpAny_getItem_of (k := k) (by simp [intKind, Value.isInt]) hm' (by rw [valueAt_getK]; exact h1) (h v _ h2)⟩
  · skip
    have ky := y.key hk
    obtain ⟨b, rfl, hi⟩ := KeyAt.is (prog := prog) (w := w) (h := s.heap) (Le.refl _) ky
    obtain ⟨xs, hm, rfl, rr, hke, _, _⟩ := tdict_of (prog := prog) hg ho x
    obtain ⟨v, h1, h2⟩ := rr.getK hf
    rw [← atKey_getK] at h1
    obtain ⟨p, hp, rfl⟩ := Option.map_eq_some_iff.mp h1
    exact ⟨_, _, hm.typeIs, slot_dict_getitem.lookup, wpAny_getItem_heap (tupleKind_room_in1 (by have := r.un; exact om_6 this)) hi hm hp (h _ _ h2)⟩

/-! ## in, not in -/
/-- an empty dict takes keys of either kind -/
noncomputable def fitB : (d e : D) → { r : D // r = d ∨ (d = .idict [] [] ∧ r = .tdict [] []) }
  | .idict [] [], .tup _ => ⟨.tdict [] [], .inr ⟨rfl, rfl⟩⟩
  | d, _ => ⟨d, .inl rfl⟩
noncomputable def fitD (d e : D) : D := (fitB d e).1
theorem fitD_nil (ds : List D) : fitD (.idict [] []) (.tup ds) = .tdict [] [] := rfl
theorem fitD_int (d : D) (k : Int) : fitD d (.int k) = d := by cases d <;> first | rfl | (rename_i ks ds; cases ks <;> cases ds <;> rfl)
theorem fitD_lst (ds : List D) (e : D) : fitD (.lst ds) e = .lst ds := rfl
theorem fitD_tdict (ks : List (List Scal)) (ds : List D) (e : D) : fitD (.tdict ks ds) e = .tdict ks ds := rfl
theorem ORep.fit {g : Part} {w : World} {a : Addr} {o : Obj} {d e : D} (x : ORep w g a o d) : ORep w g a o (fitD d e) := by
  rcases (fitB d e).2 with h | ⟨h1, h2⟩
  · rw [show fitD d e = d from h]; exact x
  · rw [show fitD d e = .tdict [] [] from h2]
    subst h1
    simp only [ORep] at x ⊢
    obtain ⟨c, es, n, dd, _, kk, r⟩ := x
    simp only [IKeys] at kk
    exact ⟨c, es, n, dd, ⟨Nat.zero_le _, List.nodup_nil⟩, by simp only [TKeys]; exact kk, r⟩
def InV (d e : D) (b : Bool) : Prop := (∃ ds, d = .lst ds ∧ (okPys 8 ds && okPy 8 e) = true ∧ b = ds.any fun y => eqD y e) ∨ (∃ ks ds k, d = .idict ks ds ∧ e = .int k ∧ b = decide (k ∈ ks)) ∨ (∃ ks ds k, d = .tdict ks ds ∧ keyOf e = some k ∧ b = decide (k ∈ ks))
noncomputable def inB : (d e : D) → { r : Option Bool // ∀ b, r = some b → InV d e b }
  | .lst ds, e => ⟨if (okPys 8 ds && okPy 8 e) = true then some (ds.any fun y => eqD y e) else none, fun b h => .inl ⟨ds, rfl, (if_of h).1, (Option.some.inj (if_of h).2).symm⟩⟩
  | .idict ks ds, .int k => ⟨some (decide (k ∈ ks)), fun b h => .inr (.inl ⟨ks, ds, k, rfl, rfl, (Option.some.inj h).symm⟩)⟩
  | .tdict ks ds, e => ⟨(keyOf e).map fun k => decide (k ∈ ks), fun b h => by obtain ⟨k, h1, h2⟩ := Option.map_eq_some_iff.mp h; exact .inr (.inr ⟨ks, ds, k, rfl, h1, h2.symm⟩)⟩
  | _, _ => ⟨none, fun _ h => (nomatch h)⟩
noncomputable def inD (d e : D) : Option Bool := (inB d e).1
theorem inD_lst (ds : List D) (e : D) : inD (.lst ds) e = if (okPys 8 ds && okPy 8 e) = true then some (ds.any fun y => eqD y e) else none := rfl
theorem inD_idict (ks : List Int) (ds : List D) (k : Int) : inD (.idict ks ds) (.int k) = some (decide (k ∈ ks)) := rfl
theorem inD_tdict (ks : List (List Scal)) (ds : List D) (e : D) : inD (.tdict ks ds) e = (keyOf e).map fun k => decide (k ∈ ks) := rfl

theorem op_in {a : Addr} {o : Obj} {d e : D} {b : Bool} {u : Value} {Q : Value → Shared → Prop} (r : Room A n) (hg : Le g s.heap.get?) (ho : s.heap.get? a = some o) (x : ORep w g a o d) (y : Rep w s.heap.get? e u)
    (hf : inD d e = some b) (h : ∀ tk, Q (.bool b) { s with toks := tk }) : wpAny (model prog w) A (compareOp .In u (.ref a)) Q E s := by
  rcases (inB d e).2 b hf with ⟨ds, rfl, hk, rfl⟩ | ⟨ks, ds, k, rfl, rfl, rfl⟩ | ⟨ks, ds, k, rfl, hk, rfl⟩
  · ·
      simp only [Bool.and_eq_true] at hk
      exact op_inList r hk.1 hk.2 (Rep.of_obj ho (x.mono hg)) y (h s.toks)
  · skip
    simp only [Rep] at y
    obtain ⟨t, rfl⟩ := y
    obtain ⟨vs, hm, rr, hl, hs, _⟩ := idict_of (prog := prog) ho x
    refine wpAny_in_of (k := k) (by simp [intKind, Value.isInt]) hs hm.mapOf ?_
    have : (valueAt (ks.zip vs) k).isSome = decide (k ∈ ks) := by
      rw [valueAt_getK]
      have := getK_isSome (x := k) hl
      by_cases q : k ∈ ks
      · simp [this.mpr q, q]
      · simp only [q, decide_false]; exact Bool.eq_false_iff.mpr fun z => q (this.mp z)
    rw [this]; exact h _
  · skip
    have ky := y.key hk
    obtain ⟨c, rfl, hi⟩ := KeyAt.is (prog := prog) (w := w) (h := s.heap) (Le.refl _) ky
    obtain ⟨xs, hm, rfl, rr, hke, hs, _⟩ := tdict_of (prog := prog) hg ho x
    refine wpAny_in_heap (tupleKind_room_in1 (by have := r.un; exact om_6 this)) hi hs hm ?_
    have : (atKey xs k).isSome = decide (k ∈ xs.map (·.1)) := by
      have := getK_isSome (ks := xs.map (·.1)) (ds := xs.map (·.2.2)) (x := k) (by simp)
      rw [← atKey_getK, Option.isSome_map] at this
      by_cases q : k ∈ xs.map (·.1)
      · rw [this.mpr q]; simp only [q, decide_true]
      · simp only [q, decide_false]; exact Bool.eq_false_iff.mpr fun z => q (this.mp z)
    rw [this]; exact h _

theorem unbind_in {c u : Value} {Q : Bool → Shared → Prop} (h : wpAny (model prog w) A (compareOp .In u c) (fun v s' => ∃ b, v = .bool b ∧ Q b s') E s) : wpAny (model prog w) A (contains c u) Q E s := by
  intro Γ p hΓ
  have h' : Sem.wp (model prog w) Γ ((contains c u) >>= fun b => (pure (.bool b) : Sem Value)) _ _ p s := h Γ p hΓ
  rw [Sem.wp_bind'] at h'
  refine Sem.wp_mono _ Γ _ (fun b p' s' hb => ?_) (fun _ _ _ e => e) p s h'
  obtain ⟨b', e, q⟩ := hb
  cases e; exact q

theorem op_notIn {a : Addr} {o : Obj} {d e : D} {b : Bool} {u : Value} {Q : Value → Shared → Prop} (r : Room A n) (hg : Le g s.heap.get?) (ho : s.heap.get? a = some o) (x : ORep w g a o d) (y : Rep w s.heap.get? e u)
    (hf : inD d e = some b) (h : ∀ tk, Q (.bool (!b)) { s with toks := tk }) : wpAny (model prog w) A (compareOp .NotIn u (.ref a)) Q E s := by
  show wpAny _ _ (do return .bool (!(← contains (.ref a) u))) Q E s
  exact wpAny_bind (unbind_in (op_in r hg ho x y hf fun tk => ⟨b, rfl, wpAny_pure (h tk)⟩))
end

end Mine
end
section
open PySem PySem.W PyProof.Rows PySem.Spec
namespace Mine

abbrev Den := Rho → Option (Fl × D)
abbrev DenB := Rho → Option Bool

/-- is it more than a letter: an object -/
noncomputable def D.comp : D → Bool
  | .tup _ => true
  | .lst _ => true
  | .idict _ _ => true
  | .tdict _ _ => true
  | .none => false
  | .bool _ => false
  | .int _ => false
  | .str _ => false

section
variable {w : World} {own : List Addr} {h₀ : Heap} {h h' : Heap} {fl : Fl} {d : D} {v : Value}
/-- a composite value's object, its parts frozen -/
theorem VRep.obj (hd : d.comp = true) (x : VRep w own h₀ h fl d v) : ∃ a o, v = .ref a ∧ h.get? a = some o ∧ ORep w (Fz own h) a o d := by
  cases fl with
  | frozen =>
    obtain ⟨a, o, rfl, q, r⟩ := Rep.obj (by cases d <;> first | trivial | cases hd) (show Rep w (Fz own h) d v from x)
    exact ⟨a, o, rfl, (Fz.get q).2, r⟩
  | loose => exact x
  | fresh =>
    obtain ⟨a, o, rfl, h2, h3, h4⟩ := x
    exact ⟨a, o, rfl, h3, h4.mono (Fz.fewer fun b hb => List.mem_cons_of_mem _ hb)⟩
/-- a letter hangs on no heap -/
theorem VRep.flat (hd : d.comp = false) {own' : List Addr} {k₀ k : Heap} (x : VRep w own h₀ h fl d v) : VRep w own' k₀ k .frozen d v := by
  have y := x.any
  show Rep w (Fz own' k) d v
  cases d <;> first | (simp only [Rep] at y ⊢; exact y) | cases hd
theorem vrep_int {i : Int} {t : Tok} : VRep w own h₀ h .frozen (.int i) (.int i t) := by show Rep w _ _ _; simp only [Rep]; exact ⟨t, rfl⟩
theorem vrep_bool {b : Bool} : VRep w own h₀ h .frozen (.bool b) (.bool b) := by show Rep w _ _ _; simp only [Rep]
theorem VRep.lower {h₁ : Heap} (hn : Ext h₁ h₀) (x : VRep w own h₀ h fl d v) : VRep w own h₁ h fl d v := by
  cases fl with
  | frozen => exact x
  | loose => exact x
  | fresh => obtain ⟨a, o, q1, q2, q3⟩ := x; exact ⟨a, o, q1, hn.none q2, q3⟩
/-- the newest object -/
theorem vrep_new {o : Obj} (hn : Ext h₀ h) (hf : o.isFreed = false) (x : ORep w (Fz own h) h.objs.size o d) : VRep w own h₀ (h.push o) .fresh d (.ref h.objs.size) :=
  ⟨_, o, rfl, hn.none (get_size h), Heap.get?_push_size _ hf, x.mono ((Ext.push h o).fzNew fun a ha => (List.mem_cons.mp ha).elim (fun e => .inr (e ▸ get_size h)) .inl)⟩
end

section
variable {prog : Program} {w : World} {G : Str → Option Value} {hb : Heap} {n : Nat} {κ : Str → Option NameKind}

/-! ## Letters -/
theorem ev_int (i : Int) (k : Nat) (pos : Pos) : Ev prog w G hb n κ (.Constant (.int i) k pos) (fun _ => some (.frozen, .int i)) :=
  fun _ _ _ _ _ _ _ _ _ _ e _ hQ => by cases e; exact wpAny_Constant_int (hQ _ _ _ (Ext.refl _) vrep_int)
theorem ev_str (x : Str) (k : Nat) (pos : Pos) : Ev prog w G hb n κ (.Constant (.str x) k pos) (fun _ => some (.frozen, .str x)) :=
  fun _ _ _ _ _ _ _ _ _ _ e _ hQ => by cases e; exact Calls.Constant_str (hQ _ _ _ (Ext.refl _) (by show Rep w _ _ _; simp only [Rep]; exact ⟨_, rfl⟩))
theorem ev_bool (b : Bool) (k : Nat) (pos : Pos) : Ev prog w G hb n κ (.Constant (.bool b) k pos) (fun _ => some (.frozen, .bool b)) :=
  fun _ _ _ _ _ s _ _ _ _ e _ hQ => by cases e; exact wpAny_pure (hQ _ s.heap s.toks (Ext.refl _) vrep_bool)
theorem ev_none (k : Nat) (pos : Pos) : Ev prog w G hb n κ (.Constant .none k pos) (fun _ => some (.frozen, .none)) :=
  fun _ _ _ _ _ s _ _ _ _ e _ hQ => by cases e; exact wpAny_pure (hQ _ s.heap s.toks (Ext.refl _) (by show Rep w _ _ _; simp only [Rep]))

noncomputable def dName (κ : Str → Option NameKind) (x : Str) : Den := fun ρ =>
  if isV (κ x) && okName x then match ρ x with
    | some (.frz d) => some (.frozen, d)
    | some (.own d) => some (.loose, d)
    | none => none
  else none
theorem ev_name (x : Str) (pos : Pos) : Ev prog w G hb n κ (.Name x pos) (dName κ x) :=
  fun A env own ov ρ s fl d _ S e Q hQ => by
    unfold dName at e
    split at e
    · rename_i hk
      simp only [Bool.and_eq_true] at hk
      obtain ⟨vm, S⟩ := S
      cases hb : ρ x with
      | none => rw [hb] at e; cases e
      | some b =>
        obtain ⟨k, v, h1, h2⟩ := S.vars x b hb
        rw [hb] at e
        refine S.eo.name (by rw [S.kap]; exact k) hk.2 h1 (hQ v s.heap s.toks (Ext.refl _) ?_)
        cases b with
        | frz d' => cases e; exact h2
        | own d' => cases e; obtain ⟨a, o, q1, q2, q3, q4⟩ := h2; exact ⟨a, o, q1, q3, q4⟩
    · cases e

/-! ## Arithmetic -/
theorem add_lists' {A : Around} {E : Value → Shared → Prop} {s : Shared} {l b : Addr} {vs ws : Array Value} {Q : Value → Shared → Prop} (hl : s.heap.IsList l vs) (hb : s.heap.IsList b ws)
    (h : Q (.ref s.heap.objs.size) { s with heap := s.heap.push { cls := .type "list", data := .seq (vs ++ ws) } }) (hsz : vs.size + ws.size ≤ sizeLine) :
    wpAny (model prog w) A (binaryOp .Add (.ref l) (.ref b)) Q E s := by
  obtain ⟨⟨cls, dd, data, sl⟩, ho, hc, n, hd⟩ := id hl
  obtain ⟨⟨cls2, dd2, data2, sl2⟩, ho2, hc2, n2, hd2⟩ := id hb
  simp only at hc hd hc2 hd2
  subst hc hd hc2 hd2
  exact concat_meets ⟨_, ho, rfl⟩ ⟨_, ho2, rfl⟩ noFill_list_add seq_list_add PySem.F.slot_list_add PySem.F.entry_list_add (PySem.F.args_list_add_2 _ _) (list_addW l b vs ws n n2 dd dd2 sl sl2 hsz) ⟨ho, ho2, h⟩

/-- what a sum, a product .. of two values gives -/
def BinOk (op : Operator) (a b : D) (r : Option (Fl × D)) : Prop := ∀ (prog : Program) (w : World) (A : Around) (E : Value → Shared → Prop) (s : Shared) (own : List Addr) (h₀ : Heap) (fa fb f : Fl) (d : D) (v u : Value) (Q : Value → Shared → Prop), Ext h₀ s.heap →
    VRep w own h₀ s.heap fa a v → VRep w own h₀ s.heap fb b u → r = some (f, d) → (∀ v h' tk, Ext s.heap h' → VRep w own h₀ h' f d v → Q v { s with heap := h', toks := tk }) → wpAny (model prog w) A (binaryOp op v u) Q E s
theorem two_ints {w : World} {own : List Addr} {h₀ h : Heap} {fa fb : Fl} {i j : Int} {v u : Value} (x : VRep w own h₀ h fa (.int i) v) (y : VRep w own h₀ h fb (.int j) u) : ∃ t t', v = .int i t ∧ u = .int j t' := by
  have x := x.any
  have y := y.any
  simp only [Rep] at x y
  obtain ⟨t, rfl⟩ := x
  obtain ⟨t', rfl⟩ := y
  exact ⟨t, t', rfl, rfl⟩
theorem bin_of_ints {op : Operator} {a b c : Int} {p : Prop} [Decidable p] (H : p → ∀ (prog : Program) (w : World) (A : Around) (E : Value → Shared → Prop) (s : Shared) (t t' : Tok) (Q : Value → Shared → Prop), (∀ (t : Tok) tk, Q (.int c t) { s with toks := tk }) → wpAny (model prog w) A (binaryOp op (.int a t) (.int b t')) Q E s) :
    BinOk op (.int a) (.int b) (if p then some (.frozen, .int c) else none) := fun prog w A E s own h₀ fa fb f d v u Q hn x y e h => by
  obtain ⟨t, t', rfl, rfl⟩ := two_ints x y
  by_cases hp : p
  · rw [if_pos hp] at e; cases e; exact H hp prog w A E s t t' Q fun t tk => h _ _ _ (Ext.refl _) vrep_int
  · rw [if_neg hp] at e; cases e
theorem bin_of_ints0 {op : Operator} {a b c : Int} (H : ∀ (prog : Program) (w : World) (A : Around) (E : Value → Shared → Prop) (s : Shared) (t t' : Tok) (Q : Value → Shared → Prop), (∀ (t : Tok) tk, Q (.int c t) { s with toks := tk }) → wpAny (model prog w) A (binaryOp op (.int a t) (.int b t')) Q E s) :
    BinOk op (.int a) (.int b) (some (.frozen, .int c)) := fun prog w A E s own h₀ fa fb f d v u Q hn x y e h => by
  obtain ⟨t, t', rfl, rfl⟩ := two_ints x y
  cases e
  exact H prog w A E s t t' Q fun t tk => h _ _ _ (Ext.refl _) vrep_int
theorem bin_no {op : Operator} {a b : D} : BinOk op a b none := fun _ _ _ _ _ _ _ _ _ _ _ _ _ _ _ _ _ e => (nomatch e)
theorem bin_app {as bs : List D} : BinOk .Add (.lst as) (.lst bs) (if as.length + bs.length ≤ cap then some (.fresh, .lst (as ++ bs)) else none) := fun prog w A E s own h₀ fa fb f d v u Q hn x y e h => by
  by_cases hc : as.length + bs.length ≤ cap
  · rw [if_pos hc] at e
    cases e
    obtain ⟨a1, o1, rfl, p1, r1⟩ := x.obj rfl
    obtain ⟨a2, o2, rfl, p2, r2⟩ := y.obj rfl
    simp only [ORep] at r1 r2
    obtain ⟨c1, vs, m1, d1, l1, q1⟩ := r1
    obtain ⟨c2, us, m2, d2, l2, q2⟩ := r2
    have z1 := q1.length
    have z2 := q2.length
    refine add_lists' ⟨_, p1, c1.1, _, d1⟩ ⟨_, p2, c2.1, _, d2⟩ (h _ _ _ (Ext.push _ _) (vrep_new hn rfl ?_)) (by simp at z1 z2; have := cap_lt; exact om_14 hc z1 z2 this)
    simp only [ORep]
    exact ⟨⟨trivial, trivial, trivial⟩, _, _, rfl, by simpa using hc, by simpa using q1.append q2⟩
  · rw [if_neg hc] at e; cases e
noncomputable def binB : (op : Operator) → (a b : D) → { r : Option (Fl × D) // BinOk op a b r }
  | .Add, .int a, .int b => ⟨some (.frozen, .int (a + b)), bin_of_ints0 fun _ _ _ _ _ _ _ _ h => P.add_int (h _ _)⟩
  | .Sub, .int a, .int b => ⟨some (.frozen, .int (a - b)), bin_of_ints0 fun _ _ _ _ _ _ _ _ h => P.sub_int (h _ _)⟩
  | .Mult, .int a, .int b => ⟨if -300 ≤ a ∧ a ≤ 300 then some (.frozen, .int (a * b)) else none, bin_of_ints fun hp _ _ _ _ _ _ _ _ h => P.mul_int (hm := .of_left (intBits_le_64 (by omega) (by omega))) (h _ _)⟩
  | .Mod, .int a, .int b => ⟨if b ≠ 0 then some (.frozen, .int (a.fmod b)) else none, bin_of_ints fun hp _ _ _ _ _ _ _ _ h => mod_int' hp (h _ _)⟩
  | .FloorDiv, .int a, .int b => ⟨if b ≠ 0 ∧ b.natAbs < 300 then some (.frozen, .int (a.fdiv b)) else none, bin_of_ints fun hp _ _ _ _ _ _ _ _ h => floordiv_int hp.1 (h _ _) (.inl (PyProof.noPylong_small (by exact om_15 hp)))⟩
--[01
  | .Pow, .int a, .int b => ⟨if 0 ≤ b ∧ b ≤ 1000 ∧ a.natAbs < 1000 then some (.frozen, .int (a ^ b.toNat)) else none, bin_of_ints fun hp _ _ _ _ _ _ _ _ h => by
      refine pow_int hp.1 ?_ (h _ _)
      have h64 : Builtin.Int.intBits a ≤ 64 := intBits_le_64 (by omega) (by omega)
      have : (Builtin.Int.intBits a : Int) * b ≤ 64 * 1000 := Int.mul_le_mul (by exact om_16 h64) (by exact om_17 hp) hp.1 (by exact om_18)
      omega⟩
--]
  | .Add, .lst as, .lst bs => ⟨if as.length + bs.length ≤ cap then some (.fresh, .lst (as ++ bs)) else none, bin_app⟩
  | _, _, _ => ⟨none, bin_no⟩
noncomputable def binD (op : Operator) (a b : D) : Option (Fl × D) := (binB op a b).1
theorem binD_add (a b : Int) : binD .Add (.int a) (.int b) = some (.frozen, .int (a + b)) := rfl
theorem binD_sub (a b : Int) : binD .Sub (.int a) (.int b) = some (.frozen, .int (a - b)) := rfl
theorem binD_mul (a b : Int) : binD .Mult (.int a) (.int b) = if -300 ≤ a ∧ a ≤ 300 then some (.frozen, .int (a * b)) else none := rfl
theorem binD_mod (a b : Int) : binD .Mod (.int a) (.int b) = if b ≠ 0 then some (.frozen, .int (a.fmod b)) else none := rfl
theorem binD_fdiv (a b : Int) : binD .FloorDiv (.int a) (.int b) = if b ≠ 0 ∧ b.natAbs < 300 then some (.frozen, .int (a.fdiv b)) else none := rfl
--[01
theorem binD_pow (a b : Int) : binD .Pow (.int a) (.int b) = if 0 ≤ b ∧ b ≤ 1000 ∧ a.natAbs < 1000 then some (.frozen, .int (a ^ b.toNat)) else none := rfl
--]
theorem binD_app (as bs : List D) : binD .Add (.lst as) (.lst bs) = if as.length + bs.length ≤ cap then some (.fresh, .lst (as ++ bs)) else none := rfl

noncomputable def dBin (op : Operator) (fl fr : Den) : Den := fun ρ => (fl ρ).bind fun x => (fr ρ).bind fun y => binD op x.2 y.2
theorem ev_bin {l r : Expr} {op : Operator} {pos : Pos} {fl fr : Den} (hl : Ev prog w G hb n κ l fl) (hr : Ev prog w G hb n κ r fr) : Ev prog w G hb n κ (.BinOp l op r pos) (dBin op fl fr) :=
  fun A env own ov ρ s f d R S e Q hQ => by
    obtain ⟨⟨f1, d1⟩, e1, e⟩ := Option.bind_eq_some_iff.mp e
    obtain ⟨⟨f2, d2⟩, e2, e⟩ := Option.bind_eq_some_iff.mp e
    refine wpAny_BinOp (hl A env own ov ρ s f1 d1 R S e1 _ fun v h1 tk1 x1 r1 => hr A env own ov ρ _ f2 d2 R (S.ext x1) e2 _ fun u h2 tk2 x2 r2 => ?_)
    exact (binB op d1 d2).2 prog w A NoE { s with heap := h2, toks := tk2 } own s.heap f1 f2 f d v u Q (x1.trans x2) (r1.ext x2) (r2.lower x1) e
      fun v' h' tk' x' r' => hQ _ _ _ ((x1.trans x2).trans x') r'
end

end Mine
end
section
open PySem PySem.W PyProof.Rows PySem.Spec
namespace Mine

section
variable {prog : Program} {w : World} {A : Around} {E : Value → Shared → Prop} {s : Shared} {n : Nat}

--[01
/-! ## Tuples of two ints in order -/
theorem lt_pair_tree {a b : Addr} {oa ob : Obj} {na nb : Nat} {i j k l : Int} {ti tj tk' tl : Tok} {Pf : Fin → Shared → Prop} (ha : s.heap.get? a = some oa) (da : oa.data = .seq #[.int i ti, .int j tj] na)
    (hb : s.heap.get? b = some ob) (cb : ob.cls = .type "tuple") (db : ob.data = .seq #[.int k tk', .int l tl] nb)
    (h : Pf (.done (.ret (.bool (decide (i < k ∨ (i = k ∧ j < l)))))) s) : wpAny (model prog w) A (Builtin.«tuple.__lt__» ⟨[.ref a, .ref b], []⟩) Pf E s := by
  show wpAny _ _ (isInstance (.ref b) (.type "tuple") >>= _) _ _ s
  refine wpAny_bind (wpAny_isInstance ⟨ob, hb, cb⟩ isSubtype_tuple_tuple ?_)
  simp only [Bool.not_true, Bool.false_eq_true, if_false]
  refine wpAny_bind (wpAny_tupleItemsOf ha da ?_)
  refine wpAny_bind (wpAny_tupleItemsOf hb db ?_)
  simp only [List.zip_cons_cons, List.zip_nil_left, List.forIn_cons, List.forIn_nil]
  refine wpAny_bind (wpAny_bind ?_)
  refine wpAny_bind (wpAny_eqBool_int ?_)
  by_cases q : i = k
  · subst q
    simp only [beq_self_eq_true, Bool.not_true, Bool.false_eq_true, if_false]
    refine wpAny_pure ?_
    refine wpAny_bind (wpAny_bind (wpAny_eqBool_int ?_))
    by_cases q2 : j = l
    · subst q2
      simp only [beq_self_eq_true, Bool.not_true, Bool.false_eq_true, if_false]
      refine wpAny_pure (wpAny_pure ?_)
      refine wpAny_pure ?_
      have e : decide (i < i ∨ (i = i ∧ j < j)) = false := by simp
      rw [e] at h
      exact h
    · have e1 : (j == l) = false := by simpa using q2
      simp only [e1, Bool.not_false, if_true]
      refine wpAny_bind (wpAny_rule (wpAny_bind (show wpAny _ _ (compareOp .Lt _ _) _ _ _ from P.lt_int (wpAny_bind (wpAny_pure (wpAny_pure (wpAny_pure ?_)))))))
      refine wpAny_pure ?_
      have e : decide (i < i ∨ (i = i ∧ j < l)) = decide (j < l) := by simp
      rw [e] at h
      exact h
  · have e1 : (i == k) = false := by simpa using q
    simp only [e1, Bool.not_false, if_true]
    refine wpAny_bind (wpAny_rule (wpAny_bind (show wpAny _ _ (compareOp .Lt _ _) _ _ _ from P.lt_int (wpAny_bind (wpAny_pure (wpAny_pure (wpAny_pure ?_)))))))
    refine wpAny_pure ?_
    have e : decide (i < k ∨ (i = k ∧ j < l)) = decide (i < k) := by simp [q]
    rw [e] at h
    exact h

theorem lt_pair {a b : Addr} {oa ob : Obj} {na nb : Nat} {i j k l : Int} {ti tj tk' tl : Tok} {Q : Value → Shared → Prop} (r : Room A n) (ha : s.heap.get? a = some oa) (ca : oa.cls = .type "tuple") (da : oa.data = .seq #[.int i ti, .int j tj] na)
    (hb : s.heap.get? b = some ob) (cb : ob.cls = .type "tuple") (db : ob.data = .seq #[.int k tk', .int l tl] nb)
    (h : Q (.bool (decide (i < k ∨ (i = k ∧ j < l)))) s) : wpAny (model prog w) A (compareOp .Lt (.ref a) (.ref b)) Q E s :=
  show wpAny (model prog w) A (richCompare .Lt (.ref a) (.ref b)) Q E s from
  wpAny_richCompare_same_room (op := .Lt) (T := "tuple") ⟨oa, ha, ca⟩ ⟨ob, hb, cb⟩ F.slot_tuple_lt
    (wpAny_call_entry F.slot_tuple_lt ⟨oa, ha, ca⟩ F.entry_tuple_lt (lt_pair_tree ha da hb cb db ⟨_, rfl, (fun e => nomatch e), h⟩) (F.args_tuple_lt_2 _ _)) r.units

--]
/-! ## Comparisons -/
noncomputable def D.isNone (d : D) : Bool := match d with
  | .none => true
  | _ => false
--[01
theorem pair_obj {own : List Addr} {h₀ : Heap} {h : Heap} {fl : Fl} {i j : Int} {v : Value} (x : VRep w own h₀ h fl (.tup [.int i, .int j]) v) :
    ∃ a o m ti tj, v = .ref a ∧ h.get? a = some o ∧ o.cls = .type "tuple" ∧ o.data = .seq #[.int i ti, .int j tj] m := by
  obtain ⟨a, o, rfl, p, q⟩ := x.obj rfl
  simp only [ORep] at q
  obtain ⟨c, vs, m, dd, l, r⟩ := q
  simp only [Reps, Rep] at r
  obtain ⟨v1, r1, e1, ⟨t1, rfl⟩, v2, r2, e2, ⟨t2, rfl⟩, e3⟩ := r
  subst e3 e2
  exact ⟨a, o, m, t1, t2, rfl, p, c, by rw [dd]; obtain ⟨l⟩ := vs; simp only at e1; subst e1; rfl⟩

--]
/-- what a comparison of two values gives -/
def CmpOk (op : CmpOp) (a b : D) (r : Option Bool) : Prop := ∀ (prog : Program) (w : World) (A : Around) (E : Value → Shared → Prop) (s : Shared) (n : Nat) (own : List Addr) (h₀ : Heap) (fa fb : Fl) (c : Bool) (v u : Value) (Q : Value → Shared → Prop), Room A n →
    VRep w own h₀ s.heap fa a v → VRep w own h₀ s.heap fb b u → r = some c → (∀ tk, Q (.bool c) { s with toks := tk }) → wpAny (model prog w) A (compareOp op v u) Q E s
theorem cmp_no {op : CmpOp} {a b : D} : CmpOk op a b none := fun _ _ _ _ _ _ _ _ _ _ _ _ _ _ _ _ _ e => (nomatch e)
theorem cmp_ok_if {op : CmpOp} {a b : D} {p : Prop} [Decidable p] {r : Option Bool} (H : p → CmpOk op a b r) : CmpOk op a b (if p then r else none) := by
  by_cases hp : p
  · rw [if_pos hp]; exact H hp
  · rw [if_neg hp]; exact cmp_no
theorem cmp_ok_none {a : D} : CmpOk .Is a .none (some a.isNone) := fun prog w A E s n own h₀ fa fb c v u Q r x y e h => by
  cases e
  have y := y.any
  simp only [Rep] at y
  subst y
  refine is_none_gen ?_
  have x := x.any
  cases a <;> simp only [Rep] at x <;> first
    | (subst x; exact h s.toks)
    | (obtain ⟨t, rfl⟩ := x; exact h s.toks)
    | (obtain ⟨t, o, vs, n, rfl, _⟩ := x; exact h s.toks)
noncomputable def cmpB : (op : CmpOp) → (a b : D) → { r : Option Bool // CmpOk op a b r }
  | .Eq, a, b => ⟨if (okPy 8 a && okPy 8 b) = true then some (eqD a b) else none, cmp_ok_if fun hk _ _ _ _ s _ _ _ _ _ _ _ _ _ r x y e h => by
      simp only [Bool.and_eq_true] at hk; cases e; exact op_eq r hk.1 hk.2 x.any y.any (h s.toks)⟩
  | .NotEq, a, b => ⟨if (okPy 8 a && okPy 8 b) = true then some (!eqD a b) else none, cmp_ok_if fun hk _ _ _ _ s _ _ _ _ _ _ _ _ _ r x y e h => by
      simp only [Bool.and_eq_true] at hk; cases e; exact op_ne r hk.1 hk.2 x.any y.any (h s.toks)⟩
  | .Lt, .int a, .int b => ⟨some (decide (a < b)), fun _ _ _ _ s _ _ _ _ _ _ _ _ _ _ x y e h => by
      obtain ⟨t, t', rfl, rfl⟩ := two_ints x y; cases e; exact P.lt_int (h s.toks)⟩
  | .Gt, .int a, .int b => ⟨some (decide (b < a)), fun _ _ _ _ s _ _ _ _ _ _ _ _ _ _ x y e h => by
      obtain ⟨t, t', rfl, rfl⟩ := two_ints x y; cases e; exact P.gt_int (h s.toks)⟩
--[01
  | .Lt, .tup [.int i, .int j], .tup [.int k, .int l] => ⟨some (decide (i < k ∨ (i = k ∧ j < l))), fun _ _ _ _ s _ _ _ _ _ _ _ _ _ r x y e h => by
      cases e
      obtain ⟨a1, o1, m1, t1, t2, rfl, p1, c1, d1⟩ := pair_obj x
      obtain ⟨a2, o2, m2, t3, t4, rfl, p2, c2, d2⟩ := pair_obj y
      exact lt_pair r p1 c1 d1 p2 c2 d2 (h s.toks)⟩
--]
  | .In, a, c => ⟨if c.comp = true then inD (fitD c a) a else none, cmp_ok_if fun hc _ _ _ _ _ _ _ _ _ _ _ _ _ _ r x y e h => by
      obtain ⟨a1, o1, rfl, p1, q1⟩ := y.obj hc
      exact op_in r (Fz.le _ _) p1 q1.fit x.any e h⟩
  | .NotIn, a, c => ⟨if c.comp = true then (inD (fitD c a) a).map (!·) else none, cmp_ok_if fun hc _ _ _ _ _ _ _ _ _ _ _ _ _ _ r x y e h => by
      obtain ⟨a1, o1, rfl, p1, q1⟩ := y.obj hc
      obtain ⟨b', e', rfl⟩ := Option.map_eq_some_iff.mp e
      exact op_notIn r (Fz.le _ _) p1 q1.fit x.any e' h⟩
  | .Is, a, .none => ⟨some a.isNone, cmp_ok_none⟩
  | _, _, _ => ⟨none, cmp_no⟩
noncomputable def cmpD (op : CmpOp) (a b : D) : Option Bool := (cmpB op a b).1
theorem cmpD_eq (a b : D) : cmpD .Eq a b = if (okPy 8 a && okPy 8 b) = true then some (eqD a b) else none := rfl
theorem cmpD_ne (a b : D) : cmpD .NotEq a b = if (okPy 8 a && okPy 8 b) = true then some (!eqD a b) else none := rfl
theorem cmpD_lt (a b : Int) : cmpD .Lt (.int a) (.int b) = some (decide (a < b)) := rfl
theorem cmpD_gt (a b : Int) : cmpD .Gt (.int a) (.int b) = some (decide (b < a)) := rfl
--[01
theorem cmpD_ltT (i j k l : Int) : cmpD .Lt (.tup [.int i, .int j]) (.tup [.int k, .int l]) = some (decide (i < k ∨ (i = k ∧ j < l))) := rfl
--]
theorem cmpD_in (a c : D) : cmpD .In a c = if c.comp = true then inD (fitD c a) a else none := rfl
theorem cmpD_notIn (a c : D) : cmpD .NotIn a c = if c.comp = true then (inD (fitD c a) a).map (!·) else none := rfl
theorem cmpD_is (a : D) : cmpD .Is a .none = some a.isNone := rfl
end

section
variable {prog : Program} {w : World} {G : Str → Option Value} {hb : Heap} {n : Nat} {κ : Str → Option NameKind}

noncomputable def dCmp (op : CmpOp) (r : Expr) (fl fr : Den) : DenB := fun ρ => if behindInMarks op r then none else (fl ρ).bind fun x => (fr ρ).bind fun y => cmpD op x.2 y.2
noncomputable def dVal (f : DenB) : Den := fun ρ => (f ρ).map fun b => (.frozen, .bool b)

theorem cmp_core {l r : Expr} {op : CmpOp} {fl fr : Den} (hl : Ev prog w G hb n κ l fl) (hr : Ev prog w G hb n κ r fr) {A : Around} {env : Env} {own : List Addr} {ov : List (Str × Addr)} {ρ : Rho} {s : Shared} {b : Bool}
    (R : Room A n) (S : Sim w G hb κ env own ov ρ s.heap) (e : dCmp op r fl fr ρ = some b) {Q : Value → Shared → Prop} (hQ : ∀ h' tk, Ext s.heap h' → Q (.bool b) { s with heap := h', toks := tk }) :
    behindInMarks op r = false ∧ wpAny (model prog w) A (eval l env) (fun a s₁ => wpAny (model prog w) A (eval r env) (fun b s₂ => wpAny (model prog w) A (compareOp op a b) Q NoE s₂) NoE s₁) NoE s := by
  unfold dCmp at e
  split at e
  · cases e
  · rename_i hm
    obtain ⟨⟨f1, d1⟩, e1, e⟩ := Option.bind_eq_some_iff.mp e
    obtain ⟨⟨f2, d2⟩, e2, e⟩ := Option.bind_eq_some_iff.mp e
    refine ⟨by simpa using hm, hl A env own ov ρ s f1 d1 R S e1 _ fun v h1 tk1 x1 r1 => hr A env own ov ρ _ f2 d2 R (S.ext x1) e2 _ fun u h2 tk2 x2 r2 => ?_⟩
    exact (cmpB op d1 d2).2 prog w A NoE { s with heap := h2, toks := tk2 } n own s.heap f1 f2 b v u Q R (r1.ext x2) (r2.lower x1) e fun tk => hQ _ _ (x1.trans x2)

theorem ev_cmp {l r : Expr} {op : CmpOp} {pos : Pos} {fl fr : Den} (hl : Ev prog w G hb n κ l fl) (hr : Ev prog w G hb n κ r fr) : Ev prog w G hb n κ (.Compare l [op] [r] pos) (dVal (dCmp op r fl fr)) :=
  fun A env own ov ρ s f d R S e Q hQ => by
    obtain ⟨b, e', q⟩ := Option.map_eq_some_iff.mp e
    cases q
    have h := cmp_core hl hr R S e' (Q := Q) fun h' tk x => hQ _ _ _ x vrep_bool
    exact wpAny_Compare1 h.2 h.1
theorem evb_cmp {l r : Expr} {op : CmpOp} {pos : Pos} {fl fr : Den} (hl : Ev prog w G hb n κ l fl) (hr : Ev prog w G hb n κ r fr) : EvB prog w G hb n κ (.Compare l [op] [r] pos) (dCmp op r fl fr) :=
  fun A env own ov ρ s b R S e Q hQ => by
    have h := cmp_core hl hr R S e (Q := fun c s₃ => wpAny (model prog w) A (truthy c) Q NoE s₃) fun h' tk x => wpAny_truthy_bool (hQ _ _ x)
    exact wpAny_isTrue_Compare1 h.2 h.1

/-! ## and, or, if -/
noncomputable def dAnd (fx fr : DenB) : DenB := fun ρ => (fx ρ).bind fun b => if b then fr ρ else some false
noncomputable def dOr (fx fr : DenB) : DenB := fun ρ => (fx ρ).bind fun b => if b then some true else fr ρ
theorem evb_and_nil {pos : Pos} : EvB prog w G hb n κ (.BoolOp .And [] pos) (fun _ => some true) := fun _ _ _ _ _ s _ _ _ e _ hQ => by cases e; exact isTrue_and_nil (hQ s.heap s.toks (Ext.refl _))
theorem evb_or_nil {pos : Pos} : EvB prog w G hb n κ (.BoolOp .Or [] pos) (fun _ => some false) := fun _ _ _ _ _ s _ _ _ e _ hQ => by cases e; exact isTrue_or_nil (hQ s.heap s.toks (Ext.refl _))
theorem evb_and {x : Expr} {rest : List Expr} {pos : Pos} {fx fr : DenB} (hx : EvB prog w G hb n κ x fx) (hr : EvB prog w G hb n κ (.BoolOp .And rest pos) fr) : EvB prog w G hb n κ (.BoolOp .And (x :: rest) pos) (dAnd fx fr) :=
  fun A env own ov ρ s b R S e Q hQ => by
    obtain ⟨b1, e1, e⟩ := Option.bind_eq_some_iff.mp e
    refine isTrue_and (hx A env own ov ρ s b1 R S e1 _ fun h1 tk1 x1 => ?_)
    cases b1 with
    | true => exact hr A env own ov ρ _ b R (S.ext x1) e _ fun h2 tk2 x2 => hQ _ _ (x1.trans x2)
    | false => cases e; exact hQ _ _ x1
theorem evb_or {x : Expr} {rest : List Expr} {pos : Pos} {fx fr : DenB} (hx : EvB prog w G hb n κ x fx) (hr : EvB prog w G hb n κ (.BoolOp .Or rest pos) fr) : EvB prog w G hb n κ (.BoolOp .Or (x :: rest) pos) (dOr fx fr) :=
  fun A env own ov ρ s b R S e Q hQ => by
    obtain ⟨b1, e1, e⟩ := Option.bind_eq_some_iff.mp e
    refine isTrue_or (hx A env own ov ρ s b1 R S e1 _ fun h1 tk1 x1 => ?_)
    cases b1 with
    | true => cases e; exact hQ _ _ x1
    | false => exact hr A env own ov ρ _ b R (S.ext x1) e _ fun h2 tk2 x2 => hQ _ _ (x1.trans x2)

/-- the truth of a bool -/
noncomputable def dTruth (f : Den) : DenB := fun ρ => (f ρ).bind fun x => blOf x.2
theorem evb_plain {e : Expr} {f : Den} (h : Ev prog w G hb n κ e f) (he : ∀ env whole, isTrue e env whole = (do let v ← whole; standAt e.pos; holding [v] (truthy v))) : EvB prog w G hb n κ e (dTruth f) :=
  fun A env own ov ρ s b R S q Q hQ => by
    obtain ⟨⟨f1, d1⟩, e1, q⟩ := Option.bind_eq_some_iff.mp q
    refine wpAny_isTrue_value (h A env own ov ρ s f1 d1 R S e1 _ fun v h1 tk1 x1 r1 => ?_) (he _ _)
    obtain rfl := blOf_some q
    have y := r1.any
    simp only [Rep] at y
    subst y
    exact wpAny_truthy_bool (hQ _ _ x1)

--[01
noncomputable def dIf (ft : DenB) (fb fo : Den) : Den := fun ρ => (ft ρ).bind fun b => if b then fb ρ else fo ρ
theorem ev_ifexp {t b o : Expr} {pos : Pos} {ft : DenB} {fb fo : Den} (ht : EvB prog w G hb n κ t ft) (hbd : Ev prog w G hb n κ b fb) (ho : Ev prog w G hb n κ o fo) : Ev prog w G hb n κ (.IfExp t b o pos) (dIf ft fb fo) :=
  fun A env own ov ρ s f d R S e Q hQ => by
    obtain ⟨b1, e1, e⟩ := Option.bind_eq_some_iff.mp e
    refine IfExp_ (ht A env own ov ρ s b1 R S e1 _ fun h1 tk1 x1 => ?_)
    cases b1 with
    | true => exact hbd A env own ov ρ _ f d R (S.ext x1) e _ fun v h2 tk2 x2 r2 => hQ _ _ _ (x1.trans x2) (r2.lower x1)
    | false => exact ho A env own ov ρ _ f d R (S.ext x1) e _ fun v h2 tk2 x2 r2 => hQ _ _ _ (x1.trans x2) (r2.lower x1)
--]
end

end Mine
end
section
open PySem PySem.W PyProof.Rows PySem.Spec
namespace Mine

section
variable {prog : Program} {w : World} {G : Str → Option Value} {hb : Heap} {n : Nat} {κ : Str → Option NameKind}

/-! ## Several values -/
noncomputable def VReps (w : World) (own : List Addr) (h₀ : Heap) (h : Heap) : List (Fl × D) → List Value → Prop
  | [], vs => vs = []
  | x :: xs, vs => ∃ v vs', vs = v :: vs' ∧ VRep w own h₀ h x.1 x.2 v ∧ VReps w own h₀ h xs vs'
theorem VReps.reps {own : List Addr} {h₀ : Heap} {h : Heap} (hlt : ∀ a ∈ own, (h₀.get? a).isSome = true) : ∀ {xs : List (Fl × D)} {vs : List Value}, (xs.all fun x => x.1 != .loose) = true → VReps w own h₀ h xs vs → Reps w (Fz own h) (xs.map (·.2)) vs
  | [], _, _, x => by simp only [VReps] at x; subst x; simp [Reps]
  | y :: ys, _, ha, x => by
    simp only [VReps] at x
    obtain ⟨v, vs', rfl, q, r⟩ := x
    simp only [List.all_cons, Bool.and_eq_true, bne_iff_ne, ne_eq] at ha
    simp only [List.map_cons, Reps]
    exact ⟨v, vs', rfl, q.frz ha.1 hlt, VReps.reps hlt (by simpa using ha.2) r⟩
theorem VReps.any {own : List Addr} {h₀ : Heap} {h : Heap} : ∀ {xs : List (Fl × D)} {vs : List Value}, VReps w own h₀ h xs vs → Reps w h.get? (xs.map (·.2)) vs
  | [], _, x => by simp only [VReps] at x; subst x; simp [Reps]
  | y :: ys, _, x => by
    simp only [VReps] at x
    obtain ⟨v, vs', rfl, q, r⟩ := x
    simp only [List.map_cons, Reps]
    exact ⟨v, vs', rfl, q.any, VReps.any r⟩

theorem VReps.lower {own : List Addr} {h₀ h₁ : Heap} {h : Heap} (hn : Ext h₁ h₀) : ∀ {xs : List (Fl × D)} {vs : List Value}, VReps w own h₀ h xs vs → VReps w own h₁ h xs vs
  | [], _, x => x
  | y :: ys, _, x => by
    simp only [VReps] at x ⊢
    obtain ⟨v, vs', e, q, r⟩ := x
    exact ⟨v, vs', e, q.lower hn, VReps.lower hn r⟩
theorem VReps.ext {own : List Addr} {h₀ : Heap} {h h' : Heap} (he : Ext h h') : ∀ {xs : List (Fl × D)} {vs : List Value}, VReps w own h₀ h xs vs → VReps w own h₀ h' xs vs
  | [], _, x => x
  | y :: ys, _, x => by
    simp only [VReps] at x ⊢
    obtain ⟨v, vs', e, q, r⟩ := x
    exact ⟨v, vs', e, q.ext he, VReps.ext he r⟩

abbrev DenL := Rho → Option (List (Fl × D))
noncomputable def EvL (prog : Program) (w : World) (G : Str → Option Value) (hb : Heap) (n : Nat) (κ : Str → Option NameKind) (es : List Expr) (f : DenL) : Prop :=
  ∀ (A : Around) (env : Env) (own : List Addr) (ov : List (Str × Addr)) (ρ : Rho) (s : Shared) (pos : Pos) (xs : List (Fl × D)), Room A n → Sim w G hb κ env own ov ρ s.heap → f ρ = some xs →
    ∀ Q : List Value → Shared → Prop, (∀ vs h' tk, Ext s.heap h' → VReps w own s.heap h' xs vs → Q vs { s with heap := h', toks := tk }) → wpAny (model prog w) A (spliced (backTo pos (starEach es env))) Q NoE s

theorem starEach_plain {e : Expr} (h : isStarred e = false) (es : List Expr) (env : Env) : starEach (e :: es) env = (false, eval e env) :: starEach es env := by
  cases e <;> first | rfl | cases h

theorem st_name (x : Str) (p0 : Pos) : isStarred (.Name x p0) = false := rfl
theorem st_con (x : Const) (c0 : Nat) (p0 : Pos) : isStarred (.Constant x c0 p0) = false := rfl
theorem st_bin (a0 b0 : Expr) (op0 : Operator) (p0 : Pos) : isStarred (.BinOp a0 op0 b0 p0) = false := rfl
theorem st_call (f0 : Expr) (es0 : List Expr) (kw0 : List Keyword) (p0 : Pos) : isStarred (.Call f0 es0 kw0 p0) = false := rfl
theorem st_sub (a0 b0 : Expr) (p0 : Pos) : isStarred (.Subscript a0 b0 p0) = false := rfl
theorem st_cmp (a0 : Expr) (ops0 : List CmpOp) (es0 : List Expr) (p0 : Pos) : isStarred (.Compare a0 ops0 es0 p0) = false := rfl
theorem st_ifx (a0 b0 c0 : Expr) (p0 : Pos) : isStarred (.IfExp a0 b0 c0 p0) = false := rfl
theorem st_lst (es0 : List Expr) (p0 : Pos) : isStarred (.List es0 p0) = false := rfl
theorem st_tup (es0 : List Expr) (c0 : Nat) (p0 : Pos) : isStarred (.Tuple es0 c0 p0) = false := rfl
theorem st_dict (ks0 : List (Option Expr)) (es0 : List Expr) (p0 : Pos) : isStarred (.Dict ks0 es0 p0) = false := rfl
theorem st_boo (o0 : BoolOp) (es0 : List Expr) (p0 : Pos) : isStarred (.BoolOp o0 es0 p0) = false := rfl
theorem st_comp (e0 : Expr) (g0 : List Comprehension) (s0 : Scope) (p0 : Pos) : isStarred (.ListComp e0 g0 s0 p0) = false := rfl
noncomputable def dNil : DenL := fun _ => some []
noncomputable def dCons (e : Expr) (f : Den) (fs : DenL) : DenL := fun ρ => if isStarred e then none else (f ρ).bind fun x => (fs ρ).map fun xs => x :: xs
theorem evl_nil : EvL prog w G hb n κ [] dNil := fun _ _ _ _ _ s _ _ _ _ e _ hQ => by cases e; exact wpAny_pure (hQ [] s.heap s.toks (Ext.refl _) (by simp [VReps]))
theorem evl_cons {e : Expr} {es : List Expr} {f : Den} {fs : DenL} (h : Ev prog w G hb n κ e f) (hs : EvL prog w G hb n κ es fs) : EvL prog w G hb n κ (e :: es) (dCons e f fs) :=
  fun A env own ov ρ s pos xs R S q Q hQ => by
    unfold dCons at q
    split at q
    · cases q
    · rename_i hst
      obtain ⟨⟨f1, d1⟩, e1, q⟩ := Option.bind_eq_some_iff.mp q
      obtain ⟨ys, e2, rfl⟩ := Option.map_eq_some_iff.mp q
      rw [starEach_plain (by simpa using hst)]
      show wpAny _ _ (spliced ((false, eval e env) :: backTo pos (starEach es env))) _ _ _
      refine Calls.spliced_cons (h A env own ov ρ s f1 d1 R S e1 _ fun v h1 tk1 x1 r1 => hs A env own ov ρ _ pos ys R (S.ext x1) e2 _ fun vs h2 tk2 x2 r2 => hQ _ _ _ (x1.trans x2) ?_)
      simp only [VReps]
      refine ⟨v, vs, rfl, r1.ext x2, ?_⟩
      exact r2.lower x1

theorem Sim.ltAll {env : Env} {own : List Addr} {ov : List (Str × Addr)} {ρ : Rho} {h : Heap} (S : Sim w G hb κ env own ov ρ h) : ∀ a ∈ own, (h.get? a).isSome = true := let ⟨_, S⟩ := S; S.lt

noncomputable def dTup (fs : DenL) : Den := fun ρ => (fs ρ).bind fun xs => if (xs.all fun x => x.1 != .loose) = true ∧ xs.length ≤ cap then some (.fresh, .tup (xs.map (·.2))) else none
noncomputable def dLst (fs : DenL) : Den := fun ρ => (fs ρ).bind fun xs => if (xs.all fun x => x.1 != .loose) = true ∧ xs.length ≤ cap then some (.fresh, .lst (xs.map (·.2))) else none
theorem ev_tup {es : List Expr} {k : Nat} {pos : Pos} {fs : DenL} (hs : EvL prog w G hb n κ es fs) : Ev prog w G hb n κ (.Tuple es k pos) (dTup fs) :=
  fun A env own ov ρ s f d R S q Q hQ => by
    obtain ⟨xs, e1, q⟩ := Option.bind_eq_some_iff.mp q
    split at q
    · rename_i hc
      cases q
      refine Tuple_ (hs A env own ov ρ s pos xs R S e1 _ fun vs h1 tk1 x1 r1 => ?_)
      have rr := r1.reps S.ltAll hc.1
      have hl := rr.length
      refine wpAny_newTuple (hQ _ _ _ (x1.trans (Ext.push _ _)) (vrep_new x1 rfl ?_)) (by simp at hl; have := cap_lt; omega)
      simp only [ORep]
      exact ⟨trivial, _, _, rfl, by simpa using hc.2, by simpa using rr⟩
    · cases q
theorem ev_lst {es : List Expr} {pos : Pos} {fs : DenL} (hs : EvL prog w G hb n κ es fs) : Ev prog w G hb n κ (.List es pos) (dLst fs) :=
  fun A env own ov ρ s f d R S q Q hQ => by
    obtain ⟨xs, e1, q⟩ := Option.bind_eq_some_iff.mp q
    split at q
    · rename_i hc
      cases q
      refine List_ (hs A env own ov ρ s pos xs R S e1 _ fun vs h1 tk1 x1 r1 => ?_)
      have rr := r1.reps S.ltAll hc.1
      have hl := rr.length
      refine wpAny_newList (hQ _ _ _ (x1.trans (Ext.push _ _)) (vrep_new x1 rfl ?_)) (by simp at hl; have := cap_lt; omega)
      simp only [ORep]
      exact ⟨⟨trivial, trivial, trivial⟩, _, _, rfl, by simpa using hc.2, by simpa using rr⟩
    · cases q

/-! ## Subscripts -/
noncomputable def dSub (fo fi : Den) : Den := fun ρ => (fo ρ).bind fun x => (fi ρ).bind fun y => if x.2.comp then (itemD x.2 y.2).map fun d => (.frozen, d) else none
theorem ev_sub {o i : Expr} {pos : Pos} {fo fi : Den} (hsub : ∀ o u, ∃ ops, subscripted i false o u = operate ops (getItem o u)) (ho : Ev prog w G hb n κ o fo) (hi : Ev prog w G hb n κ i fi) : Ev prog w G hb n κ (.Subscript o i pos) (dSub fo fi) :=
  fun A env own ov ρ s f d R S q Q hQ => by
    obtain ⟨⟨f1, d1⟩, e1, q⟩ := Option.bind_eq_some_iff.mp q
    obtain ⟨⟨f2, d2⟩, e2, q⟩ := Option.bind_eq_some_iff.mp q
    split at q
    · rename_i hc
      obtain ⟨d', e3, q⟩ := Option.map_eq_some_iff.mp q
      cases q
      refine Subscript_ (ho A env own ov ρ s f1 d1 R S e1 _ fun v h1 tk1 x1 r1 => hi A env own ov ρ _ f2 d2 R (S.ext x1) e2 _ fun u h2 tk2 x2 r2 => ?_)
      obtain ⟨a, ob, rfl, p1, q1⟩ := (r1.ext x2).obj hc
      obtain ⟨T, id, hT, hl, hg⟩ := op_item (s := { s with heap := h2, toks := tk2 }) (E := NoE) R (Fz.le own h2) p1 q1 r2.any e3 (Q := Q) fun v' tk' r' => hQ v' h2 tk' (x1.trans x2) r'
      obtain ⟨ops, hs⟩ := hsub (.ref a) u
      exact tail_any hT hl hg hs
    · cases q

noncomputable def dUpto (fo : Den) (k : Int) : Den := fun ρ => (fo ρ).bind fun x => (lsOf x.2).bind fun ds => if 0 ≤ k then some (.fresh, .lst (ds.take k.toNat)) else none
theorem ev_upto {x : Str} {p0 : Pos} {k : Int} {j : Nat} {p1 p pos : Pos} {fo : Den} (ho : Ev prog w G hb n κ (.Name x p0) fo) :
    Ev prog w G hb n κ (.Subscript (.Name x p0) (.Slice none (some (.Constant (.int k) j p1)) none p) pos) (dUpto fo k) :=
  fun A env own ov ρ s f d R S q Q hQ => by
    obtain ⟨⟨f1, d1⟩, e1, q⟩ := Option.bind_eq_some_iff.mp q
    obtain ⟨ds, hl, z⟩ := Option.bind_eq_some_iff.mp q
    clear q
    have q := z
    clear z
    obtain rfl := lsOf_some hl
    split at q
    · rename_i hk
      cases q
      refine wpAny_Subscript_list_slice (ho A env own ov ρ s f1 _ R S e1 _ fun v h1 tk1 x1 r1 => ?_)
      obtain ⟨a, o, rfl, p1', q1⟩ := r1.obj rfl
      simp only [ORep] at q1
      obtain ⟨c, vs, m, dd, l, rr⟩ := q1
      have hz := rr.length
      refine wpAny_of_eq (a := Value.none) (by rfl) ?_
      refine wpAny_Constant_int (k := j) (pos := p1) ⟨a, vs, none, some k, rfl, ⟨o, p1', c.1, m, dd⟩, by simp at hz; have := cap_lt; exact om_19 l hz this, .none, .int _ _, ?_⟩
      have e : slicePick vs none (some k) none = (vs.toList.take k.toNat).toArray := by
        have ek : ((k.toNat : Nat) : Int) = k := by exact om_20 hk
        have := slicePick_upto' vs k.toNat
        rw [ek] at this
        exact this
      rw [e]
      have hsz : ((h1.push { cls := .type "slice", data := .fields #[.none, .int k tk1, .none] }).objs.size) = h1.objs.size + 1 := Heap.size_push ..
      refine hQ _ _ _ (x1.trans ((Ext.push _ _).trans (Ext.push _ _))) ?_
      show VRep w own _ _ _ _ (.ref (h1.objs.size + 1))
      rw [← hsz]
      refine vrep_new (x1.trans (Ext.push _ _)) rfl ?_
      simp only [ORep]
      refine ⟨⟨trivial, trivial, trivial⟩, _, _, rfl, by simp; exact om_21 l, by simpa using Reps.mono (Ext.push _ _).fz _ (rr.take k.toNat)⟩
    · cases q
end

end Mine
end
section
open PySem PySem.W PyProof.Rows PySem.Spec
namespace Mine

/-! ## Lists of ints -/
noncomputable def intsOf : List D → Option (List Int)
  | [] => some []
  | d :: ds => (itOf d).bind fun k => (intsOf ds).map fun ks => k :: ks
theorem intsOf_map : ∀ ns : List Int, intsOf (ns.map .int) = some ns
  | [] => rfl
  | n :: ns => congrArg (Option.map fun ks => n :: ks) (intsOf_map ns)
theorem of_intsOf : ∀ {ds : List D} {ns : List Int}, intsOf ds = some ns → ds = ns.map .int
  | [], ns, e => by cases e; rfl
  | d :: ds, ns, e => by
    obtain ⟨k, h1, e⟩ := Option.bind_eq_some_iff.mp e
    obtain ⟨ks, h2, rfl⟩ := Option.map_eq_some_iff.mp e
    rw [itOf_some h1, of_intsOf h2]; rfl

section
variable {w : World} {g : Part}
theorem Reps.intItems : ∀ {ns : List Int} {vs : List Value}, Reps w g (ns.map .int) vs → ∃ xs : List (Int × Tok), vs = xs.map (fun p => .int p.1 p.2) ∧ xs.map (·.1) = ns
  | [], _, x => by simp only [List.map_nil, Reps] at x; subst x; exact ⟨[], rfl, rfl⟩
  | n :: ns, _, x => by
    simp only [List.map_cons, Reps, Rep] at x
    obtain ⟨v, vs', rfl, ⟨t, rfl⟩, r⟩ := x
    obtain ⟨xs, rfl, rfl⟩ := Reps.intItems r
    exact ⟨(n, t) :: xs, rfl, rfl⟩
theorem Reps.intsAre : ∀ {ns : List Int} {vs : List Value}, Reps w g (ns.map .int) vs → IntsAre vs ns
  | [], _, x => by simp only [List.map_nil, Reps] at x; subst x; exact .nil
  | n :: ns, _, x => by
    simp only [List.map_cons, Reps, Rep] at x
    obtain ⟨v, vs', rfl, ⟨t, rfl⟩, r⟩ := x
    exact .cons n t (Reps.intsAre r)
theorem Reps.of_intsAre : ∀ {ns : List Int} {vs : List Value}, IntsAre vs ns → Reps w g (ns.map .int) vs
  | _, _, .nil => by simp [Reps]
  | _, _, .cons n t r => by simp only [List.map_cons, Reps, Rep]; exact ⟨_, _, rfl, ⟨t, rfl⟩, Reps.of_intsAre r⟩
end

/-- max and min as the built-ins reckon them -/
theorem numAt_val (xs : List (Int × Tok)) (i : Nat) (h : i < xs.length) : numAt xs.toArray i = (xs.map (·.1))[i]'(by simpa using h) := by
  simp [numAt, h]
theorem preSum_val (xs : List (Int × Tok)) : ∀ k, k ≤ xs.length → preSum (numAt xs.toArray) k = ((xs.map (·.1)).take k).sum
  | 0, _ => by simp [preSum]
  | k + 1, h => by
    have hk : k < (xs.map (·.1)).length := by simp; exact om_22 h
    rw [preSum, preSum_val xs k (Nat.le_of_succ_le h), numAt_val xs k h, List.take_add_one, List.getElem?_eq_getElem hk]
    simp
theorem sum_bound (B : Int) : ∀ (l : List Int), (∀ x ∈ l, -B ≤ x ∧ x ≤ B) → -(B * l.length) ≤ l.sum ∧ l.sum ≤ B * l.length
  | [], _ => by simp
  | x :: l, h => by
    have h1 := h x (.head _)
    have h2 := sum_bound B l fun y hy => h y (.tail _ hy)
    simp only [List.sum_cons, List.length_cons, Int.natCast_add, Int.natCast_one, Int.mul_add, Int.mul_one]
    exact om_23 h1 h2

/-- a sort -/
noncomputable def ins (x : Int) : List Int → List Int
  | [] => [x]
  | y :: l => if x ≤ y then x :: y :: l else y :: ins x l
noncomputable def isort : List Int → List Int
  | [] => []
  | x :: l => ins x (isort l)
theorem ins_perm (x : Int) : ∀ l : List Int, (ins x l).Perm (x :: l)
  | [] => .refl _
  | y :: l => by
    unfold ins; split
    · exact .refl _
    · exact ((ins_perm x l).cons y).trans (.swap x y l)
theorem isort_perm : ∀ l : List Int, (isort l).Perm l
  | [] => .refl _
  | x :: l => (ins_perm x (isort l)).trans ((isort_perm l).cons x)
theorem ins_sorted (x : Int) : ∀ l : List Int, l.Pairwise (· ≤ ·) → (ins x l).Pairwise (· ≤ ·)
  | [], _ => by simp [ins]
  | y :: l, h => by
    unfold ins; split
    · rename_i q
      refine List.pairwise_cons.mpr ⟨fun z hz => ?_, h⟩
      rcases List.mem_cons.mp hz with rfl | hz
      · exact q
      · exact Int.le_trans q ((List.pairwise_cons.mp h).1 z hz)
    · rename_i q
      obtain ⟨h1, h2⟩ := List.pairwise_cons.mp h
      refine List.pairwise_cons.mpr ⟨fun z hz => ?_, ins_sorted x l h2⟩
      rcases List.mem_cons.mp ((ins_perm x l).mem_iff.mp hz) with rfl | hz
      · exact om_24 q
      · exact h1 z hz
theorem isort_sorted : ∀ l : List Int, (isort l).Pairwise (· ≤ ·)
  | [] => .nil
  | x :: l => ins_sorted x _ (isort_sorted l)
theorem sorted_unique : ∀ {l l' : List Int}, l.Perm l' → l.Pairwise (· ≤ ·) → l'.Pairwise (· ≤ ·) → l = l'
  | [], l', p, _, _ => by rw [List.nil_perm] at p; exact p.symm
  | x :: l, [], p, _, _ => by rw [List.perm_nil] at p; cases p
  | x :: l, y :: l', p, h, h' => by
    obtain ⟨h1, h2⟩ := List.pairwise_cons.mp h
    obtain ⟨h1', h2'⟩ := List.pairwise_cons.mp h'
    have e : x = y := by
      have hx := p.mem_iff.mp (List.mem_cons_self (a := x) (l := l))
      have hy := p.mem_iff.mpr (List.mem_cons_self (a := y) (l := l'))
      rcases List.mem_cons.mp hx with rfl | hx
      · rfl
      · rcases List.mem_cons.mp hy with rfl | hy
        · rfl
        · have := h1 y hy; have := h1' x hx; omega
    subst e
    rw [sorted_unique (List.perm_cons x |>.mp p) h2 h2']
theorem isort_eq {l l' : List Int} (p : l.Perm l') (h : l.Pairwise (· ≤ ·)) : l = isort l' := sorted_unique (p.trans (isort_perm l').symm) h (isort_sorted l')

section
variable {prog : Program} {w : World} {A : Around} {E : Value → Shared → Prop} {s : Shared} {n : Nat} {own : List Addr} {h₀ : Heap} {fl : Fl} {v : Value} {Q : Value → Shared → Prop}

theorem VRep.lst {ds : List D} {h : Heap} (x : VRep w own h₀ h fl (.lst ds) v) : ∃ a vs m, v = .ref a ∧ h.get? a = some { cls := .type "list", dict := none, data := .seq vs m, slots := #[] } ∧ ds.length ≤ cap ∧ Reps w (Fz own h) ds vs.toList := by
  obtain ⟨a, o, rfl, p, q⟩ := x.obj rfl
  simp only [ORep] at q
  obtain ⟨c, vs, m, dd, l, r⟩ := q
  obtain ⟨oc, od, odt, os⟩ := o
  simp only at c dd
  obtain ⟨rfl, rfl, rfl⟩ := c
  subst dd
  exact ⟨a, vs, m, rfl, p, l, r⟩

theorem op_len {ds : List D} (x : VRep w own h₀ s.heap fl (.lst ds) v) (h : ∀ t tk, Q (.int ds.length t) { s with toks := tk }) : wpAny (model prog w) A (call (.builtin "len") [v]) Q E s := by
  obtain ⟨a, vs, m, rfl, p, l, r⟩ := x.lst
  have hz := r.length
  refine Calls.call_len_list ⟨_, p, rfl, m, rfl⟩ (by simp at hz; have : cap = 200 := rfl; omega) ?_
  rw [← Array.length_toList, hz]
  exact h _ _

theorem items_arr (xs : List (Int × Tok)) {vs : Array Value} (h : vs.toList = xs.map (fun p => .int p.1 p.2)) : vs = intItems xs.toArray := by
  apply Array.toList_inj.mp
  rw [h]; simp [intItems]

theorem op_sum {ds : List D} {ns : List Int} (R : Room A n) (y : VRep w own h₀ s.heap fl (.lst ds) v) (hi : intsOf ds = some ns) (hb : (ns.all fun x => decide (-300 ≤ x ∧ x ≤ 300)) = true)
    (h : ∀ t h' tk, Ext s.heap h' → Q (.int ns.sum t) { s with heap := h', toks := tk }) : wpAny (model prog w) A (call (.builtin "sum") [v]) Q E s := by
  obtain ⟨a, vs, m, rfl, p, l, r⟩ := y.lst
  rw [of_intsOf hi] at r l
  obtain ⟨xs, e1, e2⟩ := r.intItems
  obtain rfl := items_arr xs e1
  have hlen : xs.length = ns.length := by have := congrArg List.length e2; simpa using this
  have hc : ns.length ≤ 200 := by simpa [cap] using l
  have hall : ∀ x ∈ ns, -300 ≤ x ∧ x ≤ 300 := fun x hx => of_decide_eq_true (List.all_eq_true.mp hb x hx)
  refine sum_intList R.hd ⟨_, p, rfl, m, rfl⟩ (fun j hj => ?_) fun h' tk t' hk => ?_
  · simp only [List.size_toArray] at hj
    constructor
    · rw [numAt_val xs j hj]
      have := hall ((xs.map (·.1))[j]'(by simpa using hj)) (by rw [← e2]; exact List.getElem_mem _)
      constructor <;> omega
    · rw [preSum_val xs (j + 1) hj, e2]
      have := sum_bound 300 (ns.take (j + 1)) fun x hx => hall x (List.mem_of_mem_take hx)
      have hl : (ns.take (j + 1)).length ≤ 200 := Nat.le_trans (List.length_take_le _ _) (by exact om_25 hlen hc hj)
      constructor <;> omega
  · simp only [List.size_toArray]
    rw [preSum_val xs xs.length (Nat.le_refl _), e2, List.take_of_length_le (by exact om_12 hlen)]
    exact h t' h' tk hk
theorem op_min2 {a b : Int} {u : Value} {h₁ : Heap} {fl' : Fl} (R : Room A n) (x : VRep w own h₀ s.heap fl (.int a) v) (y : VRep w own h₁ s.heap fl' (.int b) u)
    (h : ∀ t h' tk, Ext s.heap h' → Q (.int (if b < a then b else a) t) { s with heap := h', toks := tk }) : wpAny (model prog w) A (call (.builtin "min") [v, u]) Q E s := by
  have x := x.any
  have y := y.any
  simp only [Rep] at x y
  obtain ⟨t, rfl⟩ := x
  obtain ⟨t', rfl⟩ := y
  refine min_two_ints R.hd fun h' tk hk => ?_
  split
  · rename_i q; have := h t' h' tk hk; rwa [if_pos q] at this
  · rename_i q; have := h t h' tk hk; rwa [if_neg q] at this

theorem op_max2 {a b : Int} {u : Value} {h₁ : Heap} {fl' : Fl} (R : Room A n) (x : VRep w own h₀ s.heap fl (.int a) v) (y : VRep w own h₁ s.heap fl' (.int b) u)
    (h : ∀ t h' tk, Ext s.heap h' → Q (.int (if a < b then b else a) t) { s with heap := h', toks := tk }) : wpAny (model prog w) A (call (.builtin "max") [v, u]) Q E s := by
  have x := x.any
  have y := y.any
  simp only [Rep] at x y
  obtain ⟨t, rfl⟩ := x
  obtain ⟨t', rfl⟩ := y
  refine max_two_ints R.hd fun h' tk hk => ?_
  split
  · rename_i q; have := h t' h' tk hk; rwa [if_pos q] at this
  · rename_i q; have := h t h' tk hk; rwa [if_neg q] at this

theorem op_sorted {ds : List D} {ns : List Int} (y : VRep w own h₀ s.heap fl (.lst ds) v) (hx : Ext h₀ s.heap) (hi : intsOf ds = some ns) (h64 : ns.length < 64)
    (h : ∀ u h' tk, Ext s.heap h' → VRep w own h₀ h' .fresh (.lst ((isort ns).map .int)) u → Q u { s with heap := h', toks := tk }) : wpAny (model prog w) A (call (.builtin "sorted") [v]) Q E s := by
  obtain ⟨a, vs, m, rfl, p, l, r⟩ := y.lst
  rw [of_intsOf hi] at r l
  have hI := r.intsAre
  have hl := hI.length
  refine sorted_ints ⟨_, p, rfl, m, by simp⟩ hI (by exact om_26 h64 hl) fun out ns' hI' hp hs => ?_
  have e : ns' = isort ns := isort_eq hp hs
  subst e
  have hn1 : s.heap.get? (s.heap.objs.size + 1) = none := by
    cases q : s.heap.get? (s.heap.objs.size + 1) with
    | none => rfl
    | some o => exact absurd (Heap.lt_size q) (Nat.not_lt.mpr (Nat.le_succ _))
  have hext : Ext s.heap (sortedAll s.heap vs.toList out) := fun b o q => sortedAll_old q
  obtain ⟨k, hk⟩ := sortedAll_at s.heap vs.toList out
  refine h _ _ s.toks hext ⟨_, _, rfl, hx.none hn1, hk, ?_⟩
  simp only [ORep]
  refine ⟨⟨trivial, trivial, trivial⟩, out, k, rfl, ?_, Reps.of_intsAre hI'⟩
  rw [List.length_map, (isort_perm ns).length_eq]
  have : cap = 200 := rfl
  exact om_27 h64 this
end

end Mine
end
section
open PySem PySem.W PyProof.Rows PySem.Spec PySem.SeqAt
set_option maxRecDepth 100000
namespace Mine

/-! ## sorted over pairs that lie in order already -/
def PairAt (h : Heap) (p : Int × Int) (v : Value) : Prop := ∃ a o xs n t u, v = .ref a ∧ h.get? a = some o ∧ o.cls = .type "tuple" ∧ o.data = .seq xs n ∧ xs.toList = [.int p.1 t, .int p.2 u]
abbrev lexLt (p q : Int × Int) : Prop := p.1 < q.1 ∨ (p.1 = q.1 ∧ p.2 < q.2)

section
variable {prog : Program} {w : World} {A : Around} {E : Value → Shared → Prop} {s : Shared}

theorem pair_lt {x y : Value} {p q : Int × Int} {Q : Bool → Shared → Prop} (hx : PairAt s.heap p x) (hy : PairAt s.heap q y) (hQ : Q (decide (lexLt p q)) s) : wpAny (model prog w) A (keyLt' (tuples' true) x y) Q E s := by
  obtain ⟨a, o, xs, n, t, u, rfl, h1, _, h3, h4⟩ := hx
  obtain ⟨a', o', xs', n', t', u', rfl, h1', _, h3', h4'⟩ := hy
  refine kat_lt h1 h3 h1' h3' ?_
  rw [h4, h4']
  have hz : xs.size = xs'.size := by rw [← Array.length_toList, h4, ← Array.length_toList, h4']; rfl
  refine kat_cons (wpAny_eqBool_int (kat_go (fun e => kat_yes (kat_cons (wpAny_eqBool_int (kat_go (fun e2 => kat_yes (kat_nil ?_)) (fun e2 => kat_no (kat_one _ _ (lt_int ?_))))))) (fun e => kat_no (oneLt_int ?_))))
  · have e := eq_of_beq e; have e2 := eq_of_beq e2
    have : decide (lexLt p q) = decide (xs.size < xs'.size) := by rw [hz]; simp [lexLt, e, e2]
    rw [← this]; exact hQ
  · have e := eq_of_beq e
    have : decide (lexLt p q) = decide (p.2 < q.2) := by simp [lexLt, e]
    show Q (decide (p.2 < q.2)) s
    rw [← this]; exact hQ
  · have e : p.1 ≠ q.1 := by simpa using e
    have : decide (lexLt p q) = decide (p.1 < q.1) := by simp [lexLt, e]
    rw [← this]; exact hQ
theorem pairs_tups {h : Heap} : ∀ {ps : List (Int × Int)} {vs : List Value}, vs.length = ps.length → (∀ (i : Nat) p, ps[i]? = some p → PairAt h p (vs.getD i Value.none)) → ∃ fs : List Value, fs.length = ps.length ∧ KatTups h vs fs ∧ ∀ v ∈ fs, ∃ i t, v = .int i t
  | [], [], _, _ => ⟨[], rfl, .nil, fun _ h => (nomatch h)⟩
  | [], _ :: _, e, _ => by cases e
  | _ :: _, [], e, _ => by cases e
  | p :: ps, v :: vs, e, hat => by
    obtain ⟨a, o, xs, n, t, u, e1, h1, h2, h3, h4⟩ : PairAt h p v := hat 0 p rfl
    obtain ⟨fs, l, k, q⟩ := pairs_tups (h := h) (ps := ps) (vs := vs) (Nat.succ.inj e) fun i p' e' => hat (i + 1) p' e'
    rw [e1]
    refine ⟨.int p.1 t :: fs, congrArg Nat.succ l, .cons h1 h2 h3 ?_ k, fun w hw => (List.mem_cons.mp hw).elim (fun e => ⟨_, _, e⟩) (q w)⟩
    rw [← Array.getElem?_toList, h4]; rfl
theorem asc_wp {cmp : Nat → Nat → (Bool → Shared → Prop) → Shared → Prop} {G : Nat → Shared → Prop} {p : Array Nat} : ∀ (f n : Nat), (∀ i, n ≤ i → i < n + f → ∀ C : Bool → Shared → Prop, C false s → cmp (p.getD i 0) (p.getD (i - 1) 0) C s) → G (n + f) s → (kas_asc p f n).kasWp cmp G s
  | 0, n, _, h => h
  | f + 1, n, hc, h => hc n (Nat.le_refl _) (by exact om_28) _ (asc_wp f (n + 1) (fun i h1 h2 => hc i (by exact om_29 h1) (by exact om_30 h2)) (by rw [show n + 1 + f = n + (f + 1) by exact om_31]; exact h))
theorem range_getD {n i : Nat} (h : i < n) : (List.toArray (List.range n)).getD i 0 = i := by simp [Array.getD, h]
theorem sort_wp {cmp : Nat → Nat → (Bool → Shared → Prop) → Shared → Prop} {G : Array Nat → Shared → Prop} {n : Nat} (h2 : 2 ≤ n) (h : ∀ i, 1 ≤ i → i < n → ∀ C : Bool → Shared → Prop, C false s → cmp i (i - 1) C s) (hG : G (List.toArray (List.range n)) s) : (kas_sort n).kasWp cmp G s := by
  unfold kas_sort kas_count
  rw [KasT.kasWp_bind, KasT.kasWp_bind]
  refine asc_wp (n - 1) 1 (fun i h1 h3 C hC => ?_) ?_
  · rw [range_getD (by exact om_32 h1 h3), range_getD (by exact om_33 h1 h3)]; exact h i h1 (by exact om_32 h1 h3) C hC
  · have e : ((1 + (n - 1)) == n) = true := by simp; exact om_34 h2
    rw [if_pos e]
    show KasT.kasWp cmp (if 1 + (n - 1) < n then _ else _) G s
    rw [if_neg (by exact om_35)]
    exact hG

/-- the heap while the list is being put in order: the list stands empty, what it held lies in a tuple -/
noncomputable def sortMid (h : Heap) (a : Addr) (vs : List Value) : Heap := ((h.update a (Obj.mapSeq fun _ => #[])).push (seqObj "tuple" vs.toArray 0)).push (seqObj "list" #[] 0)
theorem sortMid_at {h : Heap} {a : Addr} {vs : List Value} {n : Nat} (ho : h.get? a = some (seqObj "list" vs.toArray n)) : ∃ e, (h.update a (Obj.mapSeq fun _ => #[])).get? a = some (seqObj "list" #[] e) ∧ (sortMid h a vs).get? a = some (seqObj "list" #[] e) :=
  ⟨_, get?_update_seq ho fun _ => #[], Heap.get?_push_of_some _ (Heap.get?_push_of_some _ (get?_update_seq ho fun _ => #[]))⟩
theorem sortMid_keep {h : Heap} {a b : Addr} {o : Obj} {vs : List Value} (hb : b ≠ a) (e : h.get? b = some o) : (sortMid h a vs).get? b = some o :=
  Heap.get?_push_of_some _ (Heap.get?_push_of_some _ ((Heap.get?_update_other _ _ (Ne.symm hb)).trans e))
/-- pairs that lie in order stay as they lie -/
theorem order_stays {vs : List Value} {ps : List (Int × Int)} {Q : SortSt → Shared → Prop} (s : Shared) (hat : ∀ (i : Nat) p, ps[i]? = some p → PairAt s.heap p (vs.getD i Value.none)) (hlen : vs.length = ps.length) (h2 : 2 ≤ vs.length) (h64 : vs.length < 64) (hs : ps.Pairwise lexLt)
    (hQ : ∀ st, (arrOf st).map (·.2) = vs.toArray → failedOf st = none → Q st s) : wpAny (model prog w) A ((sortRuns').run (SortSt.mk' (tuples' true) (vs.toArray.zip vs.toArray) #[] 7 none)) (fun r s' => Q r.2 s') E s := by
  refine kat_run (Q := Q) (G := fun p s' => p = List.toArray (List.range vs.length) ∧ s' = s) rfl h2 h64 ?_ (sort_wp h2 (fun i h1 h3 C hC => ?_) ⟨rfl, rfl⟩)
  · rintro p st s' a1 a2 a3 ⟨rfl, rfl⟩
    refine hQ st ?_ a3
    rw [kat_snds rfl a2]
    apply Array.toList_inj.mp
    refine List.ext_getElem? fun i => ?_
    simp only [List.getElem?_map, List.toList_toArray]
    by_cases hi : i < vs.length
    · simp [hi]
    · simp [hi, Nat.le_of_not_lt hi]
  · have hip : i < ps.length := by exact om_36 hlen h3
    have hjp : i - 1 < ps.length := by exact om_37 hip
    have hlt := List.pairwise_iff_getElem.mp hs (i - 1) i hjp hip (by exact om_38 h1)
    refine pair_lt (hat i _ (List.getElem?_eq_getElem hip)) (hat (i - 1) _ (List.getElem?_eq_getElem hjp)) ?_
    rw [decide_eq_false (by unfold lexLt at hlt ⊢; exact om_39 hlt)]
    exact hC
theorem list_sortP {a : Addr} {vs : List Value} {ps : List (Int × Int)} {n : Nat} {P : PySem.Fin → Shared → Prop} (ho : s.heap.get? a = some (seqObj "list" vs.toArray n)) (hlen : vs.length = ps.length) (hp : ∀ (i : Nat) p, ps[i]? = some p → ∃ v, vs[i]? = some v ∧ ∀ h', (∀ b o, b ≠ a → s.heap.get? b = some o → h'.get? b = some o) → PairAt h' p v)
    (hs : ps.Pairwise lexLt) (h64 : vs.length < 64) (h : P (.done (.ret .none)) { s with heap := sortedHeap s.heap a vs vs.toArray }) :
    wpAny (model prog w) A (Builtin.«list.sort» ⟨[.ref a], []⟩) P E s := by
  obtain ⟨e, m1, m2⟩ := sortMid_at ho
  have hat : ∀ (i : Nat) p, ps[i]? = some p → PairAt (sortMid s.heap a vs) p (vs.getD i Value.none) := fun i p q => by
    obtain ⟨v, hv, pa⟩ := hp i p q
    rw [List.getD_eq_getElem?_getD, hv]
    exact pa _ fun _ _ => sortMid_keep
  rw [list_sort_plain]
  refine wpAny_bind (listItems_at ho rfl (wpAny_bind (listUpdate_at ho rfl (wpAny_bind (seqEpoch_at m1 rfl (wpAny_bind (wpAny_newTuple (wpAny_bind (wpAny_newList (wpAny_holding ?_))))))))))
  show wpAny (model prog w) A _ P E { s with heap := sortMid s.heap a vs }
  dsimp only
  by_cases h2 : vs.length < 2
  · rw [if_pos (by rwa [List.size_toArray]), if_pos (by rwa [List.size_toArray])]
    have same : (arrOf (SortSt.mk' general' (vs.toArray.zip vs.toArray) #[] 7 none)).map (·.2) = vs.toArray := by
      apply Array.toList_inj.mp
      show ((vs.toArray.zip vs.toArray).map (·.2)).toList = vs
      simp [List.map_snd_zip]
    refine wpAny_bind (wpAny_pure ?_)
    rw [StateT.run_pure]
    refine wpAny_bind (wpAny_pure ?_)
    dsimp only
    refine wpAny_bind (seqEpoch_at m2 rfl (wpAny_bind (listUpdate_at m2 rfl ?_ (hsz2 := by rw [same, List.size_toArray, sizeLine_eq]; exact om_42 h2))))
    rw [same]
    simp -iota only [bne_self_eq_false, Bool.false_eq_true, if_false]
    exact wpAny_pure h
  · rw [if_neg (by rwa [List.size_toArray]), if_neg (by rwa [List.size_toArray])]
    obtain ⟨fs, fl, ft, fi⟩ := pairs_tups hlen hat
    refine wpAny_bind (kat_kind (T := .type "int") ft (by exact om_43 hlen h2 fl) (fun v hv => by obtain ⟨i, t, rfl⟩ := fi v hv; exact Looks.of_pure rfl) rfl ?_)
    refine wpAny_bind (wpAny_mono (order_stays (E := E) (Q := fun st s' => (arrOf st).map (·.2) = vs.toArray ∧ failedOf st = none ∧ s' = { s with heap := sortMid s.heap a vs }) { s with heap := sortMid s.heap a vs } hat hlen (by exact om_44 h2) h64 hs fun st q1 q2 => ⟨q1, q2, rfl⟩) ?_ fun _ _ e => e)
    rintro ⟨⟨⟩, st⟩ s' ⟨same, ok, rfl⟩
    dsimp only
    refine wpAny_bind (seqEpoch_at m2 rfl (wpAny_bind (listUpdate_at m2 rfl ?_ (hsz2 := by rw [same, List.size_toArray, sizeLine_eq]; exact om_45 h64))))
    rw [ok, same]
    simp -iota only [bne_self_eq_false, Bool.false_eq_true, if_false]
    exact wpAny_pure h
/-- the heap with the list that is to be given back: gathered, not yet in order -/
noncomputable def gathered (h : Heap) (vs : List Value) : Heap := ((h.push (seqObj "list" #[] 0)).update h.objs.size (Obj.mapSeq (· ++ vs.toArray))).push (seqObj "list" vs.toArray 0)
theorem gathered_new (h : Heap) (vs : List Value) : ((h.push (seqObj "list" #[] 0)).update h.objs.size (Obj.mapSeq (· ++ vs.toArray))).objs.size = h.objs.size + 1 ∧ (gathered h vs).get? (h.objs.size + 1) = some (seqObj "list" vs.toArray 0) := by
  have e : ((h.push (seqObj "list" #[] 0)).update h.objs.size (Obj.mapSeq (· ++ vs.toArray))).objs.size = h.objs.size + 1 := (Heap.size_update ..).trans (size_push' ..)
  exact ⟨e, by rw [← e]; exact Heap.get?_push_size _ rfl⟩
theorem gathered_keep {h : Heap} {vs : List Value} {b : Addr} {o : Obj} (q : h.get? b = some o) : b ≠ h.objs.size + 1 ∧ (gathered h vs).get? b = some o := by
  have hlt := Heap.lt_size q
  exact ⟨Nat.ne_of_lt (Nat.lt_succ_of_lt hlt), Heap.get?_push_of_some _ ((Heap.get?_update_other _ _ (Ne.symm (Nat.ne_of_lt hlt))).trans (Heap.get?_push_of_some _ q))⟩
theorem sortedP {l : Addr} {vs : List Value} {ps : List (Int × Int)} {Q : Value → Shared → Prop} (hl : s.heap.IsList l vs.toArray) (hlen : vs.length = ps.length) (hp : ∀ (i : Nat) p, ps[i]? = some p → ∃ v, vs[i]? = some v ∧ PairAt s.heap p v)
    (hs : ps.Pairwise lexLt) (h64 : vs.length < 64) (h : Q (.ref (s.heap.objs.size + 1)) { s with heap := sortedAll s.heap vs vs.toArray }) :
    wpAny (model prog w) A (call (.builtin "sorted") [.ref l]) Q E s := by
  obtain ⟨hz, hn⟩ := gathered_new s.heap vs
  have pairs : ∀ (i : Nat) p, ps[i]? = some p → ∃ v, vs[i]? = some v ∧ ∀ h', (∀ b o, b ≠ s.heap.objs.size + 1 → (gathered s.heap vs).get? b = some o → h'.get? b = some o) → PairAt h' p v := fun i p q => by
    obtain ⟨v, hv, a, o, xs, n, t, u, e, g, r⟩ := hp i p q
    have kp := gathered_keep (vs := vs) g
    exact ⟨v, hv, fun h' k => ⟨a, o, xs, n, t, u, e, k _ _ kp.1 kp.2, r⟩⟩
  refine Calls.call_function_entry kind_sorted plain_sorted entry_sorted (args_sorted1 _) ?_
  unfold Builtin.«sorted»
  refine wpAny_bind (m := checkCount "sorted" 1 1 _) (wpAny_pure (wpAny_bind (collect_list hl (wpAny_bind (wpAny_newList ?_)))))
  rw [hz]
  show wpAny _ _ _ _ _ { s with heap := gathered s.heap vs }
  exact wpAny_bind (wpAny_holding (wpAny_call_entry slot_list_sort ⟨_, hn, rfl⟩ entry_list_sort (list_sortP hn hlen pairs hs h64 ⟨_, rfl, wpAny_pure ⟨_, rfl, h⟩⟩) (args_list_sort _)))
end

noncomputable def pairI (p : Int × Int) : D := .tup [.int p.1, .int p.2]
section
variable {prog : Program} {w : World} {A : Around} {s : Shared} {own : List Addr} {h₀ : Heap} {fl : Fl} {v : Value} {Q : Value → Shared → Prop} {E : Value → Shared → Prop}
theorem op_sortedP {ps : List (Int × Int)} (y : VRep w own h₀ s.heap fl (.lst (ps.map pairI)) v) (hx : Ext h₀ s.heap) (hs : ps.Pairwise lexLt) (h64 : ps.length < 64)
    (h : ∀ u h' tk, Ext s.heap h' → VRep w own h₀ h' .fresh (.lst (ps.map pairI)) u → Q u { s with heap := h', toks := tk }) : wpAny (model prog w) A (call (.builtin "sorted") [v]) Q E s := by
  obtain ⟨a, vs, m, rfl, p, l, r⟩ := y.lst
  have hl := r.length
  rw [List.length_map] at hl
  have hlen : vs.toList.length = ps.length := by simpa using hl
  refine sortedP (vs := vs.toList) (ps := ps) ⟨_, p, rfl, m, by simp⟩ hlen (fun i q e => ?_) hs (by exact om_26 h64 hlen) ?_
  · obtain ⟨u, h1, h2⟩ := r.get (i := i) (d := pairI q) (by rw [List.getElem?_map, e]; rfl)
    refine ⟨u, h1, ?_⟩
    simp only [pairI, Rep, Reps] at h2
    obtain ⟨b, o, ws, n, rfl, g, c, dd, _, v1, l1, e1, ⟨t, rfl⟩, v2, l2, e2, ⟨t2, rfl⟩, rfl⟩ := h2
    exact ⟨b, o, ws, n, t, t2, rfl, (Fz.get g).2, c, dd, by rw [e1, e2]⟩
  · have hn1 : s.heap.get? (s.heap.objs.size + 1) = none := by
      cases q : s.heap.get? (s.heap.objs.size + 1) with
      | none => rfl
      | some o => exact absurd (Heap.lt_size q) (Nat.not_lt.mpr (Nat.le_succ _))
    have hext : Ext s.heap (sortedAll s.heap vs.toList vs.toList.toArray) := fun b o q => sortedAll_old q
    obtain ⟨k, hk⟩ := sortedAll_at s.heap vs.toList vs.toList.toArray
    refine h _ _ s.toks hext ⟨_, _, rfl, hx.none hn1, hk, ?_⟩
    simp only [ORep]
    refine ⟨⟨trivial, trivial, trivial⟩, vs.toList.toArray, k, rfl, ?_, ?_⟩
    · rw [List.length_map]; have : cap = 200 := rfl; exact om_27 h64 this
    · refine Reps.mono (fun b o e => Fz.of (fun hm => ?_) (hext _ _ (Fz.get e).2)) _ r
      rcases List.mem_cons.mp hm with rfl | hm
      · have := (Fz.get e).2; rw [hn1] at this; cases this
      · exact (Fz.get e).1 hm
end
noncomputable def prB : (d : D) → { o : Option (Int × Int) // ∀ p, o = some p → d = pairI p }
  | .tup [.int i, .int j] => ⟨some (i, j), fun p h => by cases h; rfl⟩
  | _ => ⟨none, fun _ h => (nomatch h)⟩
noncomputable def pairsI : List D → Option (List (Int × Int))
  | [] => some []
  | d :: ds => (prB d).1.bind fun p => (pairsI ds).map fun ps => p :: ps
theorem pairsI_map : ∀ ps : List (Int × Int), pairsI (ps.map pairI) = some ps
  | [] => rfl
  | p :: ps => congrArg (Option.map fun qs => p :: qs) (pairsI_map ps)
theorem of_pairsI : ∀ {ds : List D} {ps : List (Int × Int)}, pairsI ds = some ps → ds = ps.map pairI
  | [], ps, e => by cases e; rfl
  | d :: ds, ps, e => by
    obtain ⟨p, h1, e⟩ := Option.bind_eq_some_iff.mp e
    obtain ⟨qs, h2, rfl⟩ := Option.map_eq_some_iff.mp e
    rw [(prB d).2 p h1, of_pairsI h2]; rfl
end Mine
end
section
--[01
--]
open PySem PySem.W PyProof.Rows PySem.Spec
namespace Mine

theorem boot_len : bootBuiltins "len" = some (.builtin "len") := by decide +kernel
theorem boot_list : bootBuiltins "list" = some (.type "list") := by decide +kernel
theorem boot_min : bootBuiltins "min" = some (.builtin "min") := by decide +kernel
theorem boot_max : bootBuiltins "max" = some (.builtin "max") := by decide +kernel
theorem boot_sum : bootBuiltins "sum" = some (.builtin "sum") := by decide +kernel
theorem boot_sorted : bootBuiltins "sorted" = some (.builtin "sorted") := by decide +kernel
theorem boot_isinstance : bootBuiltins "isinstance" = some (.builtin "isinstance") := by decide +kernel
theorem boot_range : bootBuiltins "range" = some (.type "range") := by decide +kernel
theorem boot_enumerate : bootBuiltins "enumerate" = some (.type "enumerate") := by decide +kernel
theorem boot_tuple : bootBuiltins "tuple" = some (.type "tuple") := by decide +kernel

noncomputable def plainL (es : List Expr) : Bool := es.all fun e => !isStarred e
theorem plain_any : ∀ (es : List Expr) (pos : Pos) (env : Env), plainL es = true → (backTo pos (starEach es env)).any (·.1) = false
  | [], _, _, _ => rfl
  | e :: es, pos, env, h => by
    simp only [plainL, List.all_cons, Bool.and_eq_true, Bool.not_eq_true'] at h
    rw [starEach_plain h.1]
    show (false || (backTo pos (starEach es env)).any (·.1)) = false
    rw [plain_any es pos env h.2]; rfl

section
variable {prog : Program} {w : World} {G : Str → Option Value} {hb : Heap} {n : Nat} {κ : Str → Option NameKind}

/-- a built-in's name -/
noncomputable def isB (κ : Str → Option NameKind) (x : Str) : Bool := κ x == some .globalImplicit && biN x && x != ("__name__" : Str) && okName x

theorem Sim.builtin {A : Around} {E : Value → Shared → Prop} {s : Shared} {env : Env} {own : List Addr} {ov : List (Str × Addr)} {ρ : Rho} {x : Str} {p : Pos} {v : Value} {Q : Value → Shared → Prop}
    (S : Sim w G hb κ env own ov ρ s.heap) (hx : isB κ x = true) (hv : bootBuiltins x = some v) (h : Q v s) : wpAny (model prog w) A (eval (.Name x p) env) Q E s := by
  obtain ⟨vm, S⟩ := S
  simp only [isB, Bool.and_eq_true, beq_iff_eq, bne_iff_ne, ne_eq] at hx
  obtain ⟨⟨⟨h1, h2⟩, h3⟩, h4⟩ := hx
  obtain ⟨mb, hm, hbb⟩ := S.bas.b
  refine Calls.Name_function_global S.eo.fn ((S.kap x).trans h1) (Calls.loadGlobal_builtin (by rw [S.eo.gl]; exact S.bas.g.keeps S.ext) (S.bas.free x h2) (by rw [S.eo.bl]; exact hm.keeps S.ext) ((hbb x h3).trans hv) h) ?_
  simp only [okName, Bool.and_eq_true, Bool.not_eq_true'] at h4; exact h4.1

/-- a call of a built-in function -/
theorem callB {A : Around} {s : Shared} {env : Env} {own : List Addr} {ov : List (Str × Addr)} {ρ : Rho} {x : Str} {id : String} {e : Expr} {es : List Expr} {p pos : Pos} {fs : DenL} {xs : List (Fl × D)} {Q : Value → Shared → Prop}
    (R : Room A n) (S : Sim w G hb κ env own ov ρ s.heap) (hx : isB κ x = true) (hv : bootBuiltins x = some (.builtin id)) (hp : plainL (e :: es) = true) (hs : EvL prog w G hb n κ (e :: es) fs) (hf : fs ρ = some xs)
    (h : ∀ vs h' tk, Ext s.heap h' → VReps w own s.heap h' xs vs → wpAny (model prog w) A (call (.builtin id) vs) Q NoE { s with heap := h', toks := tk }) :
    wpAny (model prog w) A (eval (.Call (.Name x p) (e :: es) [] pos) env) Q NoE s := by
  refine wpAny_Call_NameR (S.builtin hx hv ?_)
  have hp' := hp
  simp only [plainL, List.all_cons, Bool.and_eq_true, Bool.not_eq_true'] at hp'
  have hsp := hs A env own ov ρ s pos xs R S hf (fun vs s₁ => wpAny (model prog w) A (call (.builtin id) vs) Q NoE s₁) h
  refine callWith_builtin1 hsp (starEach_plain hp'.1 es env) (plain_any es pos env hp'.2)
theorem callT {A : Around} {s : Shared} {env : Env} {own : List Addr} {ov : List (Str × Addr)} {ρ : Rho} {x : Str} {id : String} {e : Expr} {es : List Expr} {p pos : Pos} {fs : DenL} {xs : List (Fl × D)} {Q : Value → Shared → Prop}
    (R : Room A n) (S : Sim w G hb κ env own ov ρ s.heap) (hx : isB κ x = true) (hv : bootBuiltins x = some (.type id)) (hp : plainL (e :: es) = true) (hs : EvL prog w G hb n κ (e :: es) fs) (hf : fs ρ = some xs)
    (h : ∀ vs h' tk, Ext s.heap h' → VReps w own s.heap h' xs vs → wpAny (model prog w) A (call (.type id) vs) Q NoE { s with heap := h', toks := tk }) :
    wpAny (model prog w) A (eval (.Call (.Name x p) (e :: es) [] pos) env) Q NoE s := by
  refine wpAny_Call_NameR (S.builtin hx hv ?_)
  have hp' := hp
  simp only [plainL, List.all_cons, Bool.and_eq_true, Bool.not_eq_true'] at hp'
  have hsp := hs A env own ov ρ s pos xs R S hf (fun vs s₁ => wpAny (model prog w) A (call (.type id) vs) Q NoE s₁) h
  exact PyProof.Rows.callWith_type1 hsp (starEach_plain hp'.1 es env) (plain_any es pos env hp'.2)

theorem vreps1 {own : List Addr} {h₀ h : Heap} {x : Fl × D} {vs : List Value} (r : VReps w own h₀ h [x] vs) : ∃ v, vs = [v] ∧ VRep w own h₀ h x.1 x.2 v := by
  simp only [VReps] at r
  obtain ⟨v, vs', rfl, q, rfl⟩ := r
  exact ⟨v, rfl, q⟩
theorem vreps2 {own : List Addr} {h₀ h : Heap} {x y : Fl × D} {vs : List Value} (r : VReps w own h₀ h [x, y] vs) : ∃ v u, vs = [v, u] ∧ VRep w own h₀ h x.1 x.2 v ∧ VRep w own h₀ h y.1 y.2 u := by
  simp only [VReps] at r
  obtain ⟨v, vs', rfl, q, u, vs'', rfl, q', rfl⟩ := r
  exact ⟨v, u, rfl, q, q'⟩

/-- what a built-in function answers -/
def BfnOk (x : Str) (xs : List (Fl × D)) (r : Option (Fl × D)) : Prop := ∀ (f : Fl) (d : D), r = some (f, d) → ∃ id, bootBuiltins x = some (.builtin id) ∧ ∀ (prog : Program) (w : World) (A : Around) (s : Shared) (n : Nat) (own : List Addr) (h₀ : Heap) (vs : List Value) (Q : Value → Shared → Prop),
    Room A n → Ext h₀ s.heap → VReps w own h₀ s.heap xs vs → (∀ v h' tk, Ext s.heap h' → VRep w own h₀ h' f d v → Q v { s with heap := h', toks := tk }) → wpAny (model prog w) A (call (.builtin id) vs) Q NoE s
theorem bfn_no {x : Str} {xs : List (Fl × D)} : BfnOk x xs none := fun _ _ e => (nomatch e)
theorem bfn_if {x : Str} {xs : List (Fl × D)} {p : Prop} [Decidable p] {r r' : Option (Fl × D)} (h1 : p → BfnOk x xs r) (h2 : BfnOk x xs r') : BfnOk x xs (if p then r else r') := by
  by_cases hp : p
  · rw [if_pos hp]; exact h1 hp
  · rw [if_neg hp]; exact h2
noncomputable def bfnInts (x : Str) (ns : List Int) : Option (Fl × D) :=
  if x = "sum" then (if (ns.all fun x => decide (-300 ≤ x ∧ x ≤ 300)) = true then some (.frozen, .int ns.sum) else none)
  else if x = "sorted" then (if ns.length < 64 then some (.fresh, .lst ((isort ns).map .int)) else none)
--[01
  else none
--]
theorem bfn_ints {x : Str} {f1 : Fl} {ds : List D} {ns : List Int} (hi : intsOf ds = some ns) : BfnOk x [(f1, .lst ds)] (bfnInts x ns) := by
--[01
  refine bfn_if (fun hx => bfn_if (fun hall => ?_) bfn_no) (bfn_if (fun hx => bfn_if (fun h64 => ?_) bfn_no) bfn_no)
--]
  · subst hx
    rintro f d e
    cases e
    refine ⟨_, boot_sum, fun prog w A s n own h₀ vs Q R hx r h => ?_⟩
    obtain ⟨v, rfl, r1⟩ := vreps1 r
    exact op_sum R r1 hi hall fun t h2 tk' x2 => h _ _ _ x2 vrep_int
  · subst hx
    rintro f d e
    cases e
    refine ⟨_, boot_sorted, fun prog w A s n own h₀ vs Q R hx r h => ?_⟩
    obtain ⟨v, rfl, r1⟩ := vreps1 r
    exact op_sorted r1 hx hi h64 fun u h2 tk' x2 r2 => h _ _ _ x2 r2
--[01
noncomputable def bfnP (x : Str) (ds : List D) : Option (Fl × D) := if x = "sorted" then (pairsI ds).bind fun ps => if ps.Pairwise lexLt ∧ ps.length < 64 then some (.fresh, .lst ds) else none else none
theorem bfn_bind {x : Str} {xs : List (Fl × D)} {α : Type} {o : Option α} {r : α → Option (Fl × D)} (h : ∀ a, o = some a → BfnOk x xs (r a)) : BfnOk x xs (o.bind r) := by
  cases o with
  | none => exact bfn_no
  | some a => exact h a rfl
theorem bfnP_ok {x : Str} {f1 : Fl} {ds : List D} : BfnOk x [(f1, .lst ds)] (bfnP x ds) := by
  refine bfn_if (fun hx => bfn_bind fun ps hp => bfn_if (fun hs => ?_) bfn_no) bfn_no
  subst hx
  obtain rfl := of_pairsI hp
  rintro f d e
  cases e
  refine ⟨_, boot_sorted, fun prog w A s n own h₀ vs Q R hx r h => ?_⟩
  obtain ⟨v, rfl, r1⟩ := vreps1 r
  exact op_sortedP r1 hx hs.1 hs.2 fun u h2 tk' x2 r2 => h _ _ _ x2 r2
noncomputable def bfnL (x : Str) (ds : List D) : Option (Fl × D) := if x = "len" then some (.frozen, .int ds.length) else (intsOf ds).elim (bfnP x ds) fun ns => bfnInts x ns
theorem bfnL_ok {x : Str} {f1 : Fl} {ds : List D} : BfnOk x [(f1, .lst ds)] (bfnL x ds) := by
  refine bfn_if (fun hx => ?_) ?_
  · subst hx
    rintro f d e
    cases e
    refine ⟨_, boot_len, fun prog w A s n own h₀ vs Q R hx r h => ?_⟩
    obtain ⟨v, rfl, r1⟩ := vreps1 r
    exact op_len r1 fun t tk' => h _ _ _ (Ext.refl _) vrep_int
  · cases hi : intsOf ds with
    | none => exact bfnP_ok
    | some ns => exact bfn_ints hi
--]
noncomputable def bfnT (x : Str) (a b : Int) : Option (Fl × D) := if x = "min" then some (.frozen, .int (if b < a then b else a)) else if x = "max" then some (.frozen, .int (if a < b then b else a)) else none
theorem bfnT_ok {x : Str} {f1 f2 : Fl} {a b : Int} : BfnOk x [(f1, .int a), (f2, .int b)] (bfnT x a b) := by
  refine bfn_if (fun hx => ?_) (bfn_if (fun hx => ?_) bfn_no)
  · subst hx
    rintro f d e
    cases e
    refine ⟨_, boot_min, fun prog w A s n own h₀ vs Q R hx r h => ?_⟩
    obtain ⟨v, u, rfl, r1, r2⟩ := vreps2 r
    exact op_min2 R r1 r2 fun t h2 tk' x2 => h _ _ _ x2 vrep_int
  · subst hx
    rintro f d e
    cases e
    refine ⟨_, boot_max, fun prog w A s n own h₀ vs Q R hx r h => ?_⟩
    obtain ⟨v, u, rfl, r1, r2⟩ := vreps2 r
    exact op_max2 R r1 r2 fun t h2 tk' x2 => h _ _ _ x2 vrep_int
/-- the built-in functions served -/
noncomputable def bfnB (x : Str) : (xs : List (Fl × D)) → { r : Option (Fl × D) // BfnOk x xs r }
  | [(_, .lst ds)] => ⟨bfnL x ds, bfnL_ok⟩
  | [(_, .int a), (_, .int b)] => ⟨bfnT x a b, bfnT_ok⟩
  | _ => ⟨none, bfn_no⟩
noncomputable def bfnD (x : Str) (xs : List (Fl × D)) : Option (Fl × D) := (bfnB x xs).1
theorem bfnD_one (x : Str) (f : Fl) (ds : List D) : bfnD x [(f, .lst ds)] = bfnL x ds := rfl
theorem bfnD_two (x : Str) (f g : Fl) (a b : Int) : bfnD x [(f, .int a), (g, .int b)] = bfnT x a b := rfl

noncomputable def dBfn (κ : Str → Option NameKind) (x : Str) (es : List Expr) (fs : DenL) : Den := fun ρ => if isB κ x && plainL es then (fs ρ).bind fun xs => bfnD x xs else none

theorem ev_bfn {x : Str} {p pos : Pos} {e : Expr} {es : List Expr} {fs : DenL} (hs : EvL prog w G hb n κ (e :: es) fs) : Ev prog w G hb n κ (.Call (.Name x p) (e :: es) [] pos) (dBfn κ x (e :: es) fs) :=
  fun A env own ov ρ s f d R S q Q hQ => by
    by_cases hc : (isB κ x && plainL (e :: es)) = true
    · obtain ⟨xs, e1, q'⟩ := Option.bind_eq_some_iff.mp ((if_pos hc).symm.trans q)
      simp only [Bool.and_eq_true] at hc
      obtain ⟨id, hb, h⟩ := (bfnB x xs).2 f d q'
      exact callB R S hc.1 hb hc.2 hs e1 fun vs h' tk x r => h prog w A { s with heap := h', toks := tk } n own s.heap vs Q R x r fun v h2 tk2 x2 r2 => hQ _ _ _ (x.trans x2) r2
    · cases (if_neg hc).symm.trans q

/-- isinstance(x, tuple), x an int -/
noncomputable def dIsTup (κ : Str → Option NameKind) (y : Str) (e : Expr) (f : Den) : Den := fun ρ =>
  if isB κ "isinstance" && isB κ y && decide (y = "tuple") && !isStarred e then (f ρ).bind fun x => (itOf x.2).map fun _ => (.frozen, .bool false)
  else none
theorem ev_isTup {y : Str} {p p' pos : Pos} {e : Expr} {f : Den} (he : Ev prog w G hb n κ e f) : Ev prog w G hb n κ (.Call (.Name "isinstance" p) [e, .Name y p'] [] pos) (dIsTup κ y e f) :=
  fun A env own ov ρ s fl d R S q Q hQ => by
    unfold dIsTup at q
    split at q
    · rename_i hc
      simp only [Bool.and_eq_true, decide_eq_true_eq, Bool.not_eq_true'] at hc
      obtain ⟨⟨⟨h1, h2⟩, rfl⟩, h3⟩ := hc
      obtain ⟨⟨f1, d1⟩, e1, q⟩ := Option.bind_eq_some_iff.mp q
      obtain ⟨i0, hl, z⟩ := Option.map_eq_some_iff.mp q
      clear q
      have q := z
      clear z
      obtain rfl := itOf_some hl
      cases q
      refine wpAny_Call_NameR (S.builtin h1 boot_isinstance ?_)
      refine callWith_builtin1 ?_ (starEach_plain h3 _ env) rfl
      rw [starEach_plain h3]
      refine Calls.spliced_cons (he A env own ov ρ s f1 _ R S e1 _ fun v h' tk x1 r => ?_)
      refine Calls.spliced_cons (Sim.builtin (S.ext x1) h2 boot_tuple (Calls.spliced_nil ?_))
      have r := r.any
      simp only [Rep] at r
      obtain ⟨t, rfl⟩ := r
      exact IsiPair.int_tuple (hQ _ _ _ x1 vrep_bool)
    · cases q

end

end Mine
end
section
open PySem PySem.W PyProof.Rows PySem.Spec
namespace Mine

/-! ## Steps of a frame -/
noncomputable def Kept (wr : List Addr) (h h' : Heap) : Prop := ∀ a o, a ∉ wr → h.get? a = some o → h'.get? a = some o

structure Step (own wr : List Addr) (h : Heap) (own' wr' : List Addr) (h' : Heap) : Prop where
  keep : Kept wr h h'
  live : ∀ a, (h.get? a).isSome = true → (h'.get? a).isSome = true
  ownNew : ∀ a ∈ own', a ∈ own ∨ h.get? a = none
  wrNew : ∀ a ∈ wr', a ∈ wr ∨ h.get? a = none
  stay : ∀ a ∈ own, a ∈ own' ∨ a ∈ wr

theorem isSome_none {α : Type} {x : Option α} (h : x.isSome = true) (e : x = none) : False := by rw [e] at h; cases h

theorem Step.refl (own wr : List Addr) (h : Heap) : Step own wr h own wr h := ⟨fun _ _ _ e => e, fun _ e => e, fun _ e => .inl e, fun _ e => .inl e, fun _ e => .inl e⟩
theorem Step.of_ext {own wr : List Addr} {h h' : Heap} (x : Ext h h') : Step own wr h own wr h' := ⟨fun a o _ e => x a o e, fun _ e => x.some e, fun _ e => .inl e, fun _ e => .inl e, fun _ e => .inl e⟩
theorem Step.trans {o₁ o₂ o₃ w₁ w₂ w₃ : List Addr} {h₁ h₂ h₃ : Heap} (hlt : ∀ a ∈ o₁, (h₁.get? a).isSome = true) (x : Step o₁ w₁ h₁ o₂ w₂ h₂) (y : Step o₂ w₂ h₂ o₃ w₃ h₃) : Step o₁ w₁ h₁ o₃ w₃ h₃ where
  keep := fun a o ha e => y.keep a o (fun hm => (x.wrNew a hm).elim ha fun q => by rw [q] at e; cases e) (x.keep a o ha e)
  live := fun a e => y.live a (x.live a e)
  ownNew := fun a ha => (y.ownNew a ha).elim (x.ownNew a) fun q => .inr (by
    cases e : h₁.get? a with
    | none => rfl
    | some o => exact (isSome_none (x.live a (by rw [e]; rfl)) q).elim)
  wrNew := fun a ha => (y.wrNew a ha).elim (x.wrNew a) fun q => .inr (by
    cases e : h₁.get? a with
    | none => rfl
    | some o => exact (isSome_none (x.live a (by rw [e]; rfl)) q).elim)
  stay := fun a ha => (x.stay a ha).elim (fun q => (y.stay a q).elim .inl fun q => (x.wrNew a q).elim .inr fun e => (isSome_none (hlt a ha) e).elim) .inr
theorem Step.le {own wr own' wr' : List Addr} {h h' : Heap} (x : Step own wr h own' wr' h') (hs : ∀ a ∈ wr, a ∈ own) : Le (Fz own h) (Fz own' h') := fun a o e => by
  have q := Fz.get e
  refine Fz.of (fun hm => ?_) (x.keep a o (fun hw => q.1 (hs a hw)) q.2)
  rcases x.ownNew a hm with h1 | h1
  · exact q.1 h1
  · rw [h1] at q; exact absurd q.2 (by simp)

/-- what the frame may write -/
structure Wr (env : Env) (own wr : List Addr) (sto : Str → Bool) : Prop where
  sub : ∀ a ∈ wr, a ∈ own
  loc : env.locals ∈ wr
  cel : ∀ x c, sto x = true → env.cells.lookup x = some c → c ∈ wr

inductive Flo where
  | next
  | cont
  | brk
  | ret (d : D)

/-- names that are not stored to keep their objects -/
noncomputable def Pin (sto : Str → Bool) (ov ov' : List (Str × Addr)) : Prop := ∀ y, sto y = false → ov'.lookup y = ov.lookup y
theorem Pin.refl (sto : Str → Bool) (ov : List (Str × Addr)) : Pin sto ov ov := fun _ _ => rfl
theorem Pin.trans {sto : Str → Bool} {o₁ o₂ o₃ : List (Str × Addr)} (x : Pin sto o₁ o₂) (y : Pin sto o₂ o₃) : Pin sto o₁ o₃ := fun z h => (y z h).trans (x z h)
theorem Pin.cons {sto : Str → Bool} {ov : List (Str × Addr)} {x : Str} {a : Addr} (h : sto x = true) : Pin sto ov ((x, a) :: ov) := fun y hy => by
  have : (y == x) = false := by
    simp only [beq_eq_false_iff_ne, ne_eq]
    intro e; rw [e, h] at hy; cases hy
  rw [List.lookup_cons, this]

noncomputable def FloOk (w : World) (own : List Addr) (h : Heap) (sto : Str → Bool) (ov ov' : List (Str × Addr)) : Flo → Flow → Prop
  | .next, r => r = .next ∧ Pin sto ov ov'
  | .cont, r => r = .cont ∧ Pin sto ov ov'
  | .brk, r => r = .brk ∧ Pin sto ov ov'
  | .ret d, r => ∃ v, r = .ret v ∧ Rep w (Fz own h) d v
theorem FloOk.pin {w : World} {own : List Addr} {h : Heap} {sto : Str → Bool} {ov ov' ov'' : List (Str × Addr)} {fl : Flo} {r : Flow} (x : FloOk w own h sto ov' ov'' fl r) (p : Pin sto ov ov') : FloOk w own h sto ov ov'' fl r := by
  cases fl with
  | next => exact ⟨x.1, p.trans x.2⟩
  | cont => exact ⟨x.1, p.trans x.2⟩
  | brk => exact ⟨x.1, p.trans x.2⟩
  | ret d => exact x

abbrev DenS := Rho → Option (Flo × Rho)
noncomputable def upd (ρ : Rho) (x : Str) (b : Bd) : Rho := fun y => if y = x then some b else ρ y

noncomputable def After (w : World) (G : Str → Option Value) (hb : Heap) (κ : Str → Option NameKind) (sto : Str → Bool) (env : Env) (own wr : List Addr) (ov : List (Str × Addr)) (fl : Flo) (ρ' : Rho) (s : Shared) (Q : Flow → Shared → Prop) : Prop :=
  ∀ r h' tk own' wr' ov', Step own wr s.heap own' wr' h' → Sim w G hb κ env own' ov' ρ' h' → Wr env own' wr' sto → (∀ p ∈ ov', p.2 ∈ wr') → FloOk w own' h' sto ov ov' fl r → Q r { s with heap := h', toks := tk }

noncomputable def Ex (prog : Program) (w : World) (G : Str → Option Value) (hb : Heap) (n : Nat) (κ : Str → Option NameKind) (sto : Str → Bool) (st : Stmt) (f : DenS) : Prop :=
  ∀ (A : Around) (env : Env) (own wr : List Addr) (ov : List (Str × Addr)) (ρ : Rho) (s : Shared) (E : Value → Shared → Prop) (fl : Flo) (ρ' : Rho), Room A n → Sim w G hb κ env own ov ρ s.heap → Wr env own wr sto → (∀ p ∈ ov, p.2 ∈ wr) →
    f ρ = some (fl, ρ') → ∀ Q, After w G hb κ sto env own wr ov fl ρ' s Q → wpAny (model prog w) A (exec st env) Q E s
noncomputable def Exs (prog : Program) (w : World) (G : Str → Option Value) (hb : Heap) (n : Nat) (κ : Str → Option NameKind) (sto : Str → Bool) (st : List Stmt) (f : DenS) : Prop :=
  ∀ (A : Around) (env : Env) (own wr : List Addr) (ov : List (Str × Addr)) (ρ : Rho) (s : Shared) (E : Value → Shared → Prop) (fl : Flo) (ρ' : Rho), Room A n → Sim w G hb κ env own ov ρ s.heap → Wr env own wr sto → (∀ p ∈ ov, p.2 ∈ wr) →
    f ρ = some (fl, ρ') → ∀ Q, After w G hb κ sto env own wr ov fl ρ' s Q → wpAny (model prog w) A (execs st env) Q E s

section
variable {prog : Program} {w : World} {G : Str → Option Value} {hb : Heap} {n : Nat} {κ : Str → Option NameKind} {sto : Str → Bool}

theorem anyE {α : Type} {M : Model} {A : Around} {x : Sem α} {Q : α → Shared → Prop} {E : Value → Shared → Prop} {s : Shared} (h : wpAny M A x Q NoE s) : wpAny M A x Q E s := wpAny_mono h (fun _ _ q => q) fun _ _ q => q.elim

noncomputable def dSeq (f g : DenS) : DenS := fun ρ => (f ρ).bind fun x => match x.1 with
  | .next => g x.2
  | fl => some (fl, x.2)
theorem exs_nil : Exs prog w G hb n κ sto [] (fun ρ => some (.next, ρ)) :=
  fun A env own wr ov ρ s E fl ρ' R S W O e Q hQ => by
    cases e
    exact wpAny_execs_nil (hQ .next s.heap s.toks own wr ov (Step.refl _ _ _) S W O ⟨rfl, Pin.refl _ _⟩)
theorem exs_cons {st : Stmt} {rest : List Stmt} {f g : DenS} (h : Ex prog w G hb n κ sto st f) (hr : Exs prog w G hb n κ sto rest g) : Exs prog w G hb n κ sto (st :: rest) (dSeq f g) :=
  fun A env own wr ov ρ s E fl ρ' R S W O e Q hQ => by
    obtain ⟨⟨fl1, ρ1⟩, e1, e⟩ := Option.bind_eq_some_iff.mp e
    refine wpAny_execs_cons (h A env own wr ov ρ s E fl1 ρ1 R S W O e1 _ fun r h1 tk1 own1 wr1 ov1 st1 S1 W1 O1 F1 => ?_)
    cases fl1 with
    | next =>
      obtain ⟨rfl, P1⟩ := F1
      exact hr A env own1 wr1 ov1 ρ1 _ E fl ρ' R S1 W1 O1 e _ fun r2 h2 tk2 own2 wr2 ov2 st2 S2 W2 O2 F2 => hQ r2 h2 tk2 own2 wr2 ov2 (st1.trans S.ltAll st2) S2 W2 O2 (F2.pin P1)
    | cont => obtain ⟨rfl, P1⟩ := F1; cases e; exact hQ .cont h1 tk1 own1 wr1 ov1 st1 S1 W1 O1 ⟨rfl, P1⟩
    | brk => obtain ⟨rfl, P1⟩ := F1; cases e; exact hQ .brk h1 tk1 own1 wr1 ov1 st1 S1 W1 O1 ⟨rfl, P1⟩
    | ret d => obtain ⟨v, rfl, q⟩ := F1; cases e; exact hQ (.ret v) h1 tk1 own1 wr1 ov1 st1 S1 W1 O1 ⟨v, rfl, q⟩

/-! ## Stores -/
theorem SameBut.live {p : Addr} {h h' : Heap} (x : Heap.SameBut p h h') (hp : (h'.get? p).isSome = true) {a : Addr} (e : (h.get? a).isSome = true) : (h'.get? a).isSome = true := by
  by_cases q : a = p
  · rw [q]; exact hp
  · rw [x.2 a q]; exact e

theorem EnvOk.placeLive {env : Env} {own : List Addr} {vm : Str → Option Value} {h : Heap} (x : EnvOk env own vm h) : (h.get? env.locals).isSome = true := by
  obtain ⟨m, ⟨o, es, ep, q, _⟩, _⟩ := x.loc
  rw [q]; rfl

/-- bind a name -/
theorem Sim.bind {A : Around} {E : Value → Shared → Prop} {s : Shared} {env : Env} {own : List Addr} {ov ov' : List (Str × Addr)} {ρ : Rho} {x : Str} {v : Value} {b : Bd} {Q : Unit → Shared → Prop}
    (S : Sim w G hb κ env own ov ρ s.heap) (hk : κ x = some .local ∨ κ x = some .cell) (hov : ∀ p ∈ ov', p.2 ∈ own ∧ ¬ isPlace env p.2) (hinj : (ov'.map (·.2)).Nodup) (hother : ∀ y, y ≠ x → ov'.lookup y = ov.lookup y)
    (hB : BdOk w own ov' s.heap x v b)
    (h : ∀ h' tk p, (p = env.locals ∨ env.cells.lookup x = some p) → p ∈ own → Heap.SameBut p s.heap h' → (∀ a, (s.heap.get? a).isSome = true → (h'.get? a).isSome = true) → Sim w G hb κ env own ov' (upd ρ x b) h' → Q () { s with heap := h', toks := tk }) :
    wpAny (model prog w) A (storeName env x v) Q E s := by
  obtain ⟨vm, S⟩ := S
  refine S.eo.store (by rw [S.kap]; exact hk) fun h' tk p hp hpo live eo' sb => ?_
  have hpp : isPlace env p := hp.elim .inl fun q => .inr ⟨x, q⟩
  have lv : ∀ a, (s.heap.get? a).isSome = true → (h'.get? a).isSome = true := fun a e => SameBut.live sb live e
  have lef : Le (Fz own s.heap) (Fz own h') := fun a o e => Fz.of (Fz.get e).1 (by rw [sb.2 a (fun q => (Fz.get e).1 (q ▸ hpo))]; exact (Fz.get e).2)
  refine h h' tk p hp hpo sb lv ⟨_, eo', S.kap, S.bas, fun a o e => ?_, S.high, fun a ha => lv a (S.lt a ha), fun y b' hy => ?_, hov, hinj⟩
  · have : a ≠ p := fun q => by subst q; have := S.high _ hpo; rw [this] at e; cases e
    rw [sb.2 a this]; exact S.ext a o e
  · have up : ∀ {z : Str} {u : Value} {c : Bd}, BdOk w own ov' s.heap z u c → BdOk w own ov' h' z u c := by
      intro z u c hc
      cases c with
      | frz d => exact Rep.mono lef d hc
      | own d =>
        obtain ⟨a, o, h1, h2, h3, h4⟩ := hc
        refine ⟨a, o, h1, h2, ?_, h4.mono lef⟩
        have hm := hov _ (mem_of_lookup h2)
        rw [sb.2 a (fun q => hm.2 (q ▸ hpp))]; exact h3
    unfold upd at hy
    split at hy
    · rename_i e; subst e; cases hy
      exact ⟨by rcases hk with k | k <;> simp [isV, k], v, by simp, up hB⟩
    · rename_i e
      obtain ⟨k, u, h1, h2⟩ := S.vars y b' hy
      refine ⟨k, u, by rw [if_neg e]; exact h1, up ?_⟩
      cases b' with
      | frz d => exact h2
      | own d => obtain ⟨a, o, q1, q2, q3, q4⟩ := h2; exact ⟨a, o, q1, (hother y e).trans q2, q3, q4⟩

noncomputable def dPut (κ : Str → Option NameKind) (sto mu : Str → Bool) (x : Str) (y : Fl × D) (ρ : Rho) : Option Rho :=
  if (κ x = some .local ∨ κ x = some .cell) ∧ sto x = true then
    match y.1 with
    | .fresh => if mu x then some (upd ρ x (.own y.2)) else some (upd ρ x (.frz y.2))
    | .frozen => some (upd ρ x (.frz y.2))
    | .loose => none
  else none

theorem SimV.place {env : Env} {own : List Addr} {ov : List (Str × Addr)} {ρ : Rho} {h : Heap} {vm : Str → Option Value} (S : SimV w G hb κ env own ov ρ vm h) {a : Addr} (ha : isPlace env a) : a ∈ own := by
  rcases ha with rfl | ⟨y, q⟩
  · exact S.eo.locIn
  · exact S.eo.celIn y a q

theorem Wr.step {env : Env} {own wr : List Addr} {p : Addr} {x : Str} {h h' : Heap} (W : Wr env own wr sto) (hs : sto x = true) (hp : p = env.locals ∨ env.cells.lookup x = some p) (sb : Heap.SameBut p h h') (lv : ∀ a, (h.get? a).isSome = true → (h'.get? a).isSome = true) :
    Step own wr h own wr h' := by
  have hpw : p ∈ wr := hp.elim (fun q => q ▸ W.loc) fun q => W.cel x p hs q
  exact ⟨fun a o ha e => by rw [sb.2 a (fun q => ha (q ▸ hpw))]; exact e, lv, fun _ q => .inl q, fun _ q => .inl q, fun _ q => .inl q⟩

theorem Sim.put {A : Around} {E : Value → Shared → Prop} {s : Shared} {env : Env} {own wr : List Addr} {ov : List (Str × Addr)} {ρ ρ' : Rho} {x : Str} {v : Value} {fl : Fl} {d : D} {mu : Str → Bool} {h₀ : Heap} {Q : Unit → Shared → Prop}
    (S : Sim w G hb κ env own ov ρ h₀) (W : Wr env own wr sto) (O : ∀ p ∈ ov, p.2 ∈ wr) (hx : Ext h₀ s.heap) (r : VRep w own h₀ s.heap fl d v) (e : dPut κ sto mu x (fl, d) ρ = some ρ')
    (h : ∀ h' tk own' wr' ov', Step own wr h₀ own' wr' h' → Sim w G hb κ env own' ov' ρ' h' → Wr env own' wr' sto → (∀ p ∈ ov', p.2 ∈ wr') → Pin sto ov ov' → Q () { s with heap := h', toks := tk }) :
    wpAny (model prog w) A (storeName env x v) Q E s := by
  unfold dPut at e
  split at e
  · rename_i hk
    have frozen : ∀ ρ'', Rep w (Fz own s.heap) d v → upd ρ x (.frz d) = ρ'' → (∀ h' tk own' wr' ov', Step own wr h₀ own' wr' h' → Sim w G hb κ env own' ov' ρ'' h' → Wr env own' wr' sto → (∀ p ∈ ov', p.2 ∈ wr') → Pin sto ov ov' → Q () { s with heap := h', toks := tk }) →
        wpAny (model prog w) A (storeName env x v) Q E s := by
      intro ρ'' rr e2 h
      subst e2
      have S' := S.ext hx
      refine S'.bind (ov' := ov) (b := .frz d) hk.1 (let ⟨vm, S'⟩ := S'; S'.ovIn) (let ⟨vm, S'⟩ := S'; S'.ovInj) (fun _ _ => rfl) rr fun h' tk p hp hpo sb lv S2 => ?_
      exact h h' tk own wr ov ((Step.of_ext hx).trans S.ltAll (W.step hk.2 hp sb lv)) S2 W O (Pin.refl _ _)
    cases fl with
    | loose => cases e
    | frozen => cases e; exact frozen _ r rfl h
    | fresh =>
      simp only at e
      split at e
      · cases e
        obtain ⟨a, o, rfl, h2, h3, h4⟩ := r
        have ha : a ∉ own := fun q => isSome_none (S.ltAll a q) h2
        have S' := S.more (new := [a]) hx (fun b hb => by rw [List.mem_singleton.mp hb]; exact ⟨h2, by rw [h3]; rfl⟩)
        have W' : Wr env (a :: own) (a :: wr) sto := ⟨fun b hb => (List.mem_cons.mp hb).elim (fun q => q ▸ List.mem_cons_self) fun q => List.mem_cons_of_mem _ (W.sub b q), List.mem_cons_of_mem _ W.loc, fun y c hy q => List.mem_cons_of_mem _ (W.cel y c hy q)⟩
        have hpl : ¬ isPlace env a := fun q => ha (let ⟨vm, S⟩ := S; S.place q)
        have hov := (let ⟨vm, S'⟩ := S'; S'.ovIn : ∀ p ∈ ov, p.2 ∈ [a] ++ own ∧ ¬ isPlace env p.2)
        have hov0 := (let ⟨vm, S⟩ := S; S.ovIn : ∀ p ∈ ov, p.2 ∈ own ∧ ¬ isPlace env p.2)
        refine S'.bind (ov' := (x, a) :: ov) (b := .own d) hk.1 (fun p hp => ?_) ?_ (fun y hy => ?_) ⟨a, o, rfl, by simp, h3, h4⟩ fun h' tk p hp hpo sb lv S2 => ?_
        · rcases List.mem_cons.mp hp with rfl | hp
          · exact ⟨by simp, hpl⟩
          · exact hov p hp
        · rw [List.map_cons, List.nodup_cons]
          refine ⟨fun hm => ?_, let ⟨vm, S'⟩ := S'; S'.ovInj⟩
          obtain ⟨p, hp, q⟩ := List.mem_map.mp hm
          exact ha (by have q' := (hov0 p hp).1; rw [q] at q'; exact q')
        · have : (y == x) = false := by simpa using hy
          rw [List.lookup_cons, this]
        · have st1 : Step own wr h₀ (a :: own) (a :: wr) s.heap := ⟨fun b o' _ q => hx b o' q, fun b q => hx.some q, fun b hb => (List.mem_cons.mp hb).elim (fun q => .inr (q ▸ h2)) .inl, fun b hb => (List.mem_cons.mp hb).elim (fun q => .inr (q ▸ h2)) .inl, fun b hb => .inl (List.mem_cons_of_mem _ hb)⟩
          exact h h' tk (a :: own) (a :: wr) ((x, a) :: ov) (st1.trans S.ltAll (W'.step hk.2 hp sb lv)) S2 W' (fun p hp => (List.mem_cons.mp hp).elim (fun q => q ▸ List.mem_cons_self) fun q => List.mem_cons_of_mem _ (O p q)) (Pin.cons hk.2)
      · cases e; exact frozen _ (r.frz (by simp) S.ltAll) rfl h
  · cases e

/-! ## Simple statements -/
noncomputable def ncB : (e : Expr) → { b : Bool // b = true → ∀ (t : Option Expr) (l : Nat) (env : Env), swapsWith e t l env = pure false }
  | .Constant c0 k0 p0 => ⟨true, fun _ _ _ _ => rfl⟩
  | .Name x0 p0 => ⟨true, fun _ _ _ _ => rfl⟩
  | .BinOp a0 o0 b0 p0 => ⟨true, fun _ _ _ _ => rfl⟩
  | .Call f0 es0 kw0 p0 => ⟨true, fun _ _ _ _ => rfl⟩
  | .Compare a0 os0 es0 p0 => ⟨true, fun _ _ _ _ => rfl⟩
  | .IfExp a0 b0 c0 p0 => ⟨true, fun _ _ _ _ => rfl⟩
  | .Dict ks0 vs0 p0 => ⟨true, fun _ _ _ _ => rfl⟩
  | .List es0 p0 => ⟨true, fun _ _ _ _ => rfl⟩
  | .Tuple es0 k0 p0 => ⟨true, fun _ _ _ _ => rfl⟩
  | .Subscript a0 b0 p0 => ⟨true, fun _ _ _ _ => rfl⟩
  | .BoolOp o0 es0 p0 => ⟨true, fun _ _ _ _ => rfl⟩
  | _ => ⟨false, fun h => (nomatch h)⟩
noncomputable def notComp (e : Expr) : Bool := (ncB e).1
theorem swaps_not {value : Expr} {t : Option Expr} {l : Nat} {env : Env} (h : notComp value = true) : swapsWith value t l env = pure false := (ncB value).2 h t l env

noncomputable def dAssign (κ : Str → Option NameKind) (sto mu : Str → Bool) (x : Str) (value : Expr) (f : Den) : DenS := fun ρ =>
  if notComp value then (f ρ).bind fun y => (dPut κ sto mu x y ρ).map fun ρ' => (.next, ρ') else none
theorem ex_assign {x : Str} {value : Expr} {p pos : Pos} {f : Den} {mu : Str → Bool} (hv : Ev prog w G hb n κ value f) : Ex prog w G hb n κ sto (.Assign [.Name x p] value pos) (dAssign κ sto mu x value f) :=
  fun A env own wr ov ρ s E fl ρ' R S W O e Q hQ => by
    unfold dAssign at e
    split at e
    · rename_i hn
      obtain ⟨⟨f1, d1⟩, e1, e⟩ := Option.bind_eq_some_iff.mp e
      obtain ⟨ρ1, e2, e⟩ := Option.map_eq_some_iff.mp e
      cases e
      refine anyE (wpAny_Assign_Name (hv A env own ov ρ s f1 d1 R S e1 _ fun v h1 tk1 x1 r1 => ?_) (swaps_not hn))
      exact S.put (s := { s with heap := h1, toks := tk1 }) W O x1 r1 e2 fun h' tk own' wr' ov' st S' W' O' P' => hQ .next h' tk own' wr' ov' st S' W' O' ⟨rfl, P'⟩
    · cases e

noncomputable def dIfS (ft : DenB) (fb fo : DenS) : DenS := fun ρ => (ft ρ).bind fun b => if b then fb ρ else fo ρ
theorem ex_if {t : Expr} {b o : List Stmt} {pos : Pos} {ft : DenB} {fb fo : DenS} (ht : EvB prog w G hb n κ t ft) (hbd : Exs prog w G hb n κ sto b fb) (ho : Exs prog w G hb n κ sto o fo) : Ex prog w G hb n κ sto (.If t b o pos) (dIfS ft fb fo) :=
  fun A env own wr ov ρ s E fl ρ' R S W O e Q hQ => by
    obtain ⟨b1, e1, e⟩ := Option.bind_eq_some_iff.mp e
    refine wpAny_If (anyE (ht A env own ov ρ s b1 R S e1 _ fun h1 tk1 x1 => ?_))
    have go : ∀ r h' tk own' wr' ov', Step own wr h1 own' wr' h' → Sim w G hb κ env own' ov' ρ' h' → Wr env own' wr' sto → (∀ p ∈ ov', p.2 ∈ wr') → FloOk w own' h' sto ov ov' fl r → Q r { s with heap := h', toks := tk } :=
      fun r h' tk own' wr' ov' st S' W' O' F => hQ r h' tk own' wr' ov' ((Step.of_ext x1).trans S.ltAll st) S' W' O' F
    cases b1 with
    | true => exact hbd A env own wr ov ρ { s with heap := h1, toks := tk1 } E fl ρ' R (S.ext x1) W O e Q go
    | false => exact ho A env own wr ov ρ { s with heap := h1, toks := tk1 } E fl ρ' R (S.ext x1) W O e Q go

/-- all that is one's own is laid down -/
noncomputable def layB : Bd → Bd
  | .own d => .frz d
  | .frz d => .frz d
noncomputable def lay (ρ : Rho) : Rho := fun x => (ρ x).map layB
theorem lay_frz {ρ : Rho} {x : Str} {d : D} (h : ρ x = some (.frz d)) : Mine.lay ρ x = some (.frz d) := by unfold Mine.lay; rw [h]; rfl
theorem lay_own {ρ : Rho} {x : Str} {d : D} (h : ρ x = some (.own d)) : Mine.lay ρ x = some (.frz d) := by unfold Mine.lay; rw [h]; rfl
theorem Sim.lay {env : Env} {own wr : List Addr} {ov : List (Str × Addr)} {ρ : Rho} {h : Heap} (S : Sim w G hb κ env own ov ρ h) (W : Wr env own wr sto) (O : ∀ p ∈ ov, p.2 ∈ wr) :
    ∃ own' wr', Step own wr h own' wr' h ∧ Sim w G hb κ env own' [] (lay ρ) h ∧ Wr env own' wr' sto := by
  obtain ⟨vm, S⟩ := S
  let keep : Addr → Bool := fun a => !(ov.map (·.2)).contains a
  have hk : ∀ a, isPlace env a → keep a = true := fun a ha => by
    simp only [keep, Bool.not_eq_true', List.contains_eq_mem, decide_eq_false_iff_not]
    intro hm
    obtain ⟨p, hp, rfl⟩ := List.mem_map.mp hm
    exact (S.ovIn p hp).2 ha
  have hfew : ∀ a ∈ own.filter keep, a ∈ own := fun a ha => (List.mem_filter.mp ha).1
  refine ⟨own.filter keep, wr.filter keep, ⟨fun _ _ _ e => e, fun _ e => e, fun a ha => .inl (hfew a ha), fun a ha => .inl (List.mem_filter.mp ha).1, fun a ha => ?_⟩, ⟨vm, S.eo.keep (fun a ha hp => List.mem_filter.mpr ⟨ha, hk a hp⟩) (fun _ _ _ e => e), S.kap, S.bas, S.ext, fun a ha => S.high a (hfew a ha), fun a ha => S.lt a (hfew a ha), fun x b hb => ?_, fun p hp => (nomatch hp), by simp⟩, fun a ha => List.mem_filter.mpr ⟨W.sub a (List.mem_filter.mp ha).1, (List.mem_filter.mp ha).2⟩, List.mem_filter.mpr ⟨W.loc, hk _ (.inl rfl)⟩, fun x c hs hc => List.mem_filter.mpr ⟨W.cel x c hs hc, hk c (.inr ⟨x, hc⟩)⟩⟩
  · by_cases q : keep a = true
    · exact .inl (List.mem_filter.mpr ⟨ha, q⟩)
    · simp only [keep, Bool.not_eq_true', List.contains_eq_mem, decide_eq_false_iff_not, Classical.not_not] at q
      obtain ⟨p, hp, rfl⟩ := List.mem_map.mp q
      exact .inr (O p hp)
  · obtain ⟨b0, hd, rfl⟩ := Option.map_eq_some_iff.mp hb
    cases b0 with
    | own d =>
      obtain ⟨k, v, h1, a, o, rfl, h2, h3, h4⟩ := S.vars x _ hd
      refine ⟨k, .ref a, h1, ?_⟩
      refine Rep.of_obj (Fz.of (fun hm => ?_) h3) (h4.mono (Fz.fewer hfew))
      have := (List.mem_filter.mp hm).2
      simp only [keep, Bool.not_eq_true', List.contains_eq_mem, decide_eq_false_iff_not] at this
      exact this (List.mem_map.mpr ⟨_, mem_of_lookup h2, rfl⟩)
    | frz d =>
      obtain ⟨k, v, h1, h2⟩ := S.vars x _ hd
      exact ⟨k, v, h1, Rep.mono (Fz.fewer hfew) d h2⟩

/-- a return after all is laid down -/
noncomputable def retOf : Flo → Option D
  | .ret d => some d
  | .next => none
  | .cont => none
  | .brk => none
noncomputable def dLay (f : DenS) : DenS := fun ρ => (f (Mine.lay ρ)).bind fun x => (retOf x.1).map fun d => (.ret d, x.2)
theorem ex_lay {st : Stmt} {f : DenS} (h : Ex prog w G hb n κ sto st f) : Ex prog w G hb n κ sto st (dLay f) :=
  fun A env own wr ov ρ s E fl ρ' R S W O e Q hQ => by
    obtain ⟨own1, wr1, st1, S1, W1⟩ := S.lay W O
    obtain ⟨⟨f1, ρ1⟩, e1, e⟩ := Option.bind_eq_some_iff.mp e
    cases f1 with
    | ret d =>
      cases e
      exact h A env own1 wr1 [] _ s E (.ret d) _ R S1 W1 (fun p hp => (nomatch hp)) e1 Q fun r h' tk own' wr' ov' st S' W' O' F => hQ r h' tk own' wr' ov' (st1.trans S.ltAll st) S' W' O' F
    | next => cases e
    | cont => cases e
    | brk => cases e

noncomputable def dRet (f : Den) : DenS := fun ρ => (f ρ).bind fun x => if x.1 = .loose then none else some (.ret x.2, ρ)
theorem ex_ret {e : Expr} {pos : Pos} {f : Den} (he : Ev prog w G hb n κ e f) : Ex prog w G hb n κ sto (.Return (some e) pos) (dLay (dRet f)) :=
  ex_lay fun A env own wr ov ρ s E fl ρ' R S W O e Q hQ => by
    obtain ⟨⟨f1, d1⟩, e1, e⟩ := Option.bind_eq_some_iff.mp e
    split at e
    · cases e
    · rename_i hl
      cases e
      refine wpAny_Return_some (anyE (he A env own ov ρ s f1 d1 R S e1 _ fun v h1 tk1 x1 r1 => ?_))
      exact hQ (.ret v) h1 tk1 own wr ov (Step.of_ext x1) (S.ext x1) W O ⟨v, rfl, r1.frz hl S.ltAll⟩
theorem ex_retNone {pos : Pos} : Ex prog w G hb n κ sto (.Return none pos) (fun ρ => some (.ret .none, ρ)) :=
  fun A env own wr ov ρ s E fl ρ' R S W O e Q hQ => by
    cases e
    exact wpAny_Return_none (hQ (.ret .none) s.heap s.toks own wr ov (Step.refl _ _ _) S W O ⟨_, rfl, by simp only [Rep]⟩)
end
end Mine
end
section
open PySem PySem.W PyProof.Rows PySem.Spec
set_option maxRecDepth 100000
namespace Mine

/-! ## Walks over a dict whatever its keys -/
section
variable {prog : Program} {w : World} {A : Around} {E : Value → Shared → Prop} {s : Shared}

theorem itemsView_iter {v d : Addr} {o : Obj} {es : Array DictEntry} {ep : Nat} {Q : Value → Shared → Prop} (hv : s.heap.IsItemsView v d) (ho : s.heap.get? d = some o) (hdat : o.data = .dict es ep)
    (hQ : Q (.ref s.heap.objs.size) { s with heap := s.heap.push { cls := .type "dict_itemiterator", data := .fields #[.none, .bool false, .ref d, .int 0 0, .int es.size 0, .int ep 0, .none, .none] } }) :
    wpAny (model prog w) A (pyIter (.ref v)) Q E s := by
  obtain ⟨ov, hov, hcv, hdv⟩ := id hv
  refine wpAny_pyIter_slot hv.typeIs F.slot_dict_items_iter (wpAny_call_entry F.slot_dict_items_iter hv.typeIs F.entry_dict_items_iter ?_ (F.args_dict_items_iter_1 _))
  unfold Builtin.«dict_items.__iter__»
  refine wpAny_bind (wpAny_pure (wpAny_bind ?_))
  unfold Builtin.Dict_items.dictOf
  refine wpAny_bind (wpAny_field hov hdv (x := .ref d) rfl (wpAny_pure (wpAny_bind ?_)))
  unfold Builtin.Dict_items.newIterator
  refine wpAny_bind (wpAny_dictEntries ho hdat (wpAny_bind (wpAny_dictEpoch ho hdat ?_)))
  have hown : Builtin.Dict_items.ownsTuple "dict_itemiterator" = true := by decide
  simp -iota only [hown, if_true]
  refine wpAny_newObj_type (wpAny_pure ⟨_, rfl, "dict_itemiterator", _, ⟨_, Heap.get?_push_size _ rfl, rfl⟩, F.slot_dict_itemiterator_next.lookup, ?_⟩)
    (by simp only [sizeOk, Builtin.Dict_items.ownedTupleFields, List.size_toArray, List.length_append, List.length_cons, List.length_nil, sizeLine_eq]; exact om_46)
  simpa [rawInt, Builtin.Dict_items.ownedTupleFields] using hQ

theorem idx_at {es : Array DictEntry} {i : Nat} {x : Option DictEntry} (h : es[i]? = x) : (if (i : Int) < 0 then none else es[(i : Int).toNat]?) = x := by
  rw [if_neg (Int.not_lt.mpr (Int.natCast_nonneg i))]; exact h
theorem stop_exc {Q1 : PySem.Fin → Shared → Prop} {Q : Option Value → Shared → Prop} (hh : A.handled = none) (hQ : ∀ h', Ext s.heap h' → Q none { s with heap := h' }) :
    wpAny (model prog w) A.in1 (newExc (.type "StopIteration") [] >>= fun e => raiseNew e) Q1 (fun e s' => wpAny (model prog w) A (isInstance e (.type "StopIteration") >>= fun b => if b = true then pure none else throw e) Q E s') s := by
  refine wpAny_bind ?_
  simp -iota only [newExc, newTuple]
  refine wpAny_bind (wpAny_newObj_type ?_ (by size_fits))
  refine wpAny_bind (m := firstArgMember _ _) (wpAny_of_eq (a := Value.none) (by first | rfl | (simp only [firstArgMember]; rfl)) ?_)
  refine wpAny_newObj_type ?_ (by size_fits)
  refine wpAny_bind (wpAny_handled ?_)
  rw [show A.in1.handled = none from hh]
  refine wpAny_bind (wpAny_pure (wpAny_throw ?_))
  refine wpAny_bind (wpAny_isInstance (T := "StopIteration") (b := true) ⟨_, Heap.get?_push_size _ rfl, rfl⟩ isSubtype_stop ?_)
  exact wpAny_pure (hQ _ ((Ext.push _ _).trans (Ext.push _ _)))

theorem items_turn {it d : Addr} {i : Nat} {od : Obj} {es : Array DictEntry} {ep : Nat} {ok ov : Value} {en : DictEntry} {Q : Option Value → Shared → Prop} (hit : IsItemIter s.heap it d i es.size ep ok ov)
    (hod : s.heap.get? d = some od) (hdd : od.data = .dict es ep) (hx : es[i]? = some en)
    (hQ : ∀ h', IsItemIterOut h' it d (i + 1) es.size ep en.key en.val s.heap.objs.size →
      h'.get? s.heap.objs.size = some { cls := .type "tuple", data := .seq #[en.key, en.val] } →
      (∀ b o, b ≠ it → s.heap.get? b = some o → h'.get? b = some o) → Q (some (.ref s.heap.objs.size)) { s with heap := h' }) :
    wpAny (model prog w) A (pyNext (.ref it)) Q E s := by
  obtain ⟨hp, g, dr, tk, os⟩ := s
  have hT : Shared.TypeIs ⟨hp, g, dr, tk, os⟩ (.ref it) "dict_itemiterator" := ⟨_, hit, rfl⟩
  obtain ⟨hlt, hxe⟩ := Array.getElem?_eq_some_iff.mp hx
  have hown : Builtin.Dict_items.ownsTuple "dict_itemiterator" = true := by decide
  unfold pyNext
  refine wpAny_bind (wpAny_attempt (wpAny_callSpecial?_slot (name := Str.ofString "__next__") hT F.slot_dict_itemiterator_next
    (wpAny_call_entry F.slot_dict_itemiterator_next hT F.entry_dict_itemiterator_next ?_ (F.args_dict_itemiterator_next_1 _))))
  refine wpAny_bind (wpAny_pure (wpAny_bind (wpAny_bind ?_)))
  first | refine wpAny_bind (wpAny_typeNameOfWhole_itemiter hT (wpAny_pure ?_)) | refine wpAny_bind (wpAny_typeNameOf_itemiter hT (wpAny_pure ?_))
  refine wpAny_bind (wpAny_fieldsOf hit rfl ?_)
  simp -iota only [hown, if_true]
  show wpAny _ _ (if (Value.ref d == Value.none) = true then _ else _) _ _ _
  rw [if_neg (show ¬ ((Value.ref d == Value.none) = true) from Bool.false_ne_true)]
  refine wpAny_bind (wpAny_pure (wpAny_bind (wpAny_dictEntries hod hdd ?_)))
  rw [if_neg (by simp)]
  refine wpAny_bind (wpAny_pure (wpAny_bind (wpAny_dictEpoch hod hdd ?_)))
  rw [if_neg (by simp)]
  refine wpAny_pure ?_
  dsimp only
  rw [idx_at hx]
  refine wpAny_bind ?_
  first | refine wpAny_bind (wpAny_typeNameOfWhole_itemiter hT (wpAny_pure ?_)) | refine wpAny_bind (wpAny_typeNameOf_itemiter hT (wpAny_pure ?_))
  refine wpAny_bind (wpAny_isOneOf_itemiter hT ?_)
  show wpAny _ _ (setField (.ref it) 3 (rawInt ((i : Int) + 1)) >>= _) _ _ ⟨hp, g, dr, tk, os⟩
  refine wpAny_bind (wpAny_setField_rec hit (by simp) fun h₁ he₁ hs₁ => ?_)
  replace hs₁ : Heap.SameBut it hp h₁ := hs₁
  replace he₁ : IsItemIter h₁ it d (i + 1) es.size ep ok ov := by
    have e : ((i + 1 : Nat) : Int) = (i : Int) + 1 := by exact om_47
    unfold IsItemIter; rw [e]; simpa [rawInt] using he₁
  have hT₁ : Shared.TypeIs ⟨h₁, g, dr, tk, os⟩ (.ref it) "dict_itemiterator" := ⟨_, he₁, rfl⟩
  refine wpAny_bind (wpAny_holding (wpAny_bind (wpAny_isOneOf_itemiter hT₁ ?_)))
  refine wpAny_bind (wpAny_isOneOf_itemiter hT₁ ?_)
  show wpAny _ _ (Builtin.Dict_items.pairFromOwner (.ref it) 6 en.key en.val) _ _ ⟨h₁, g, dr, tk, os⟩
  unfold Builtin.Dict_items.pairFromOwner
  refine wpAny_bind (wpAny_newTuple ?_)
  have he₂ : IsItemIter (h₁.push { cls := .type "tuple", data := .seq #[en.key, en.val] }) it d (i + 1) es.size ep ok ov := Heap.get?_push_of_some _ he₁
  generalize hh₂ : h₁.push { cls := .type "tuple", data := .seq #[en.key, en.val] } = h₂ at he₂
  have hz₁ : h₁.objs.size = hp.objs.size := hs₁.1
  have hil : it ≠ hp.objs.size := Nat.ne_of_lt (Heap.lt_size hit)
  have ht₂ : h₂.get? hp.objs.size = some { cls := .type "tuple", data := .seq #[en.key, en.val] } := by rw [← hh₂, ← hz₁]; exact Heap.get?_push_size _ rfl
  have hk₂ : ∀ b o, b ≠ it → hp.get? b = some o → h₂.get? b = some o := fun b o hb e => by rw [← hh₂]; exact Heap.get?_push_of_some _ (hs₁.extBut b o hb e)
  show wpAny _ _ (Builtin.Dict_items.ownedTupleIsFree (.ref it) >>= _) _ _ ⟨h₂, g, dr, tk, os⟩
  rw [hz₁]
  refine wpAny_bind ?_
  unfold Builtin.Dict_items.ownedTupleIsFree
  refine wpAny_bind (wpAny_field he₂ rfl (x := .none) rfl (wpAny_pure ?_))
  simp only [if_true]
  refine wpAny_bind (wpAny_field he₂ rfl (x := ok) rfl (wpAny_bind (wpAny_field he₂ rfl (x := ov) rfl ?_)))
  refine wpAny_bind (wpAny_setField_rec he₂ (by simp) fun h₃ he₃ hs₃ => ?_)
  replace hs₃ : Heap.SameBut it h₂ h₃ := hs₃
  replace he₃ : IsItemIter h₃ it d (i + 1) es.size ep en.key ov := he₃
  refine wpAny_bind (wpAny_setField_rec he₃ (by simp) fun h₄ he₄ hs₄ => ?_)
  replace hs₄ : Heap.SameBut it h₃ h₄ := hs₄
  replace he₄ : IsItemIter h₄ it d (i + 1) es.size ep en.key en.val := he₄
  refine wpAny_bind (wpAny_setField_rec he₄ (by simp) fun h₅ he₅ hs₅ => ?_)
  replace hs₅ : Heap.SameBut it h₄ h₅ := hs₅
  replace he₅ : IsItemIterOut h₅ it d (i + 1) es.size ep en.key en.val hp.objs.size := he₅
  refine wpAny_bind (wpAny_setField_rec he₅ (by simp) fun h₆ he₆ hs₆ => ?_)
  replace hs₆ : Heap.SameBut it h₅ h₆ := hs₆
  replace he₆ : IsItemIterOut h₆ it d (i + 1) es.size ep en.key en.val hp.objs.size := he₆
  have up : ∀ b o, b ≠ it → h₂.get? b = some o → h₆.get? b = some o := fun b o hb e => hs₆.extBut b o hb (hs₅.extBut b o hb (hs₄.extBut b o hb (hs₃.extBut b o hb e)))
  exact wpAny_bind (wpAny_letGo (wpAny_pure (wpAny_pure ⟨_, rfl, wpAny_pure (hQ h₆ he₆ (up _ _ hil.symm ht₂) fun b o hb e => up b o hb (hk₂ b o hb e))⟩)))

theorem items_stop {it d : Addr} {i : Nat} {od : Obj} {es : Array DictEntry} {ep : Nat} {ok ov : Value} {Q : Option Value → Shared → Prop} (hh : A.handled = none) (hit : IsItemIter s.heap it d i es.size ep ok ov)
    (hod : s.heap.get? d = some od) (hdd : od.data = .dict es ep) (hx : es[i]? = none) (hQ : ∀ h', Heap.ExtBut it s.heap h' → Q none { s with heap := h' }) : wpAny (model prog w) A (pyNext (.ref it)) Q E s := by
  have hT : s.TypeIs (.ref it) "dict_itemiterator" := ⟨_, hit, rfl⟩
  have hown : Builtin.Dict_items.ownsTuple "dict_itemiterator" = true := by decide
  unfold pyNext
  refine wpAny_bind (wpAny_attempt (wpAny_callSpecial?_slot (name := Str.ofString "__next__") hT F.slot_dict_itemiterator_next
    (wpAny_call_entry F.slot_dict_itemiterator_next hT F.entry_dict_itemiterator_next ?_ (F.args_dict_itemiterator_next_1 _))))
  refine wpAny_bind (wpAny_pure (wpAny_bind (wpAny_bind ?_)))
  first | refine wpAny_bind (wpAny_typeNameOfWhole_itemiter hT (wpAny_pure ?_)) | refine wpAny_bind (wpAny_typeNameOf_itemiter hT (wpAny_pure ?_))
  refine wpAny_bind (wpAny_fieldsOf hit rfl ?_)
  simp -iota only [hown, if_true]
  show wpAny _ _ (if (Value.ref d == Value.none) = true then _ else _) _ _ s
  rw [if_neg (show ¬ ((Value.ref d == Value.none) = true) from Bool.false_ne_true)]
  refine wpAny_bind (wpAny_pure (wpAny_bind (wpAny_dictEntries hod hdd ?_)))
  rw [if_neg (by simp)]
  refine wpAny_bind (wpAny_pure (wpAny_bind (wpAny_dictEpoch hod hdd ?_)))
  rw [if_neg (by simp)]
  refine wpAny_pure ?_
  dsimp only
  rw [idx_at hx]
  refine wpAny_bind ?_
  first | refine wpAny_bind (wpAny_typeNameOfWhole_itemiter hT (wpAny_pure ?_)) | refine wpAny_bind (wpAny_typeNameOf_itemiter hT (wpAny_pure ?_))
  show wpAny _ _ (setField (.ref it) 2 .none >>= _) _ _ s
  refine wpAny_bind (wpAny_setField hit rfl (by simp) ?_)
  exact stop_exc hh fun h' x => hQ h' fun b o hb e => x b o ((Heap.SameBut.update ..).extBut b o hb e)

theorem valuesView_iter {v d : Addr} {o : Obj} {es : Array DictEntry} {ep : Nat} {Q : Value → Shared → Prop} (hv : s.heap.IsValuesView v d) (ho : s.heap.get? d = some o) (hdat : o.data = .dict es ep)
    (hQ : Q (.ref s.heap.objs.size) { s with heap := s.heap.push { cls := .type "dict_valueiterator", data := .fields #[.ref d, .int 0 0, .int es.size 0, .int ep 0] } }) :
    wpAny (model prog w) A (pyIter (.ref v)) Q E s := by
  obtain ⟨ov, hov, hcv, hdv⟩ := id hv
  refine wpAny_pyIter_slot hv.typeIs F.slot_dict_values_iter (wpAny_call_entry F.slot_dict_values_iter hv.typeIs F.entry_dict_values_iter ?_ (F.args_dict_values_iter_1 _))
  unfold Builtin.«dict_values.__iter__»
  refine wpAny_bind (wpAny_pure (wpAny_bind ?_))
  unfold Builtin.Dict_items.dictOf
  refine wpAny_bind (wpAny_field hov hdv (x := .ref d) rfl (wpAny_pure (wpAny_bind ?_)))
  unfold Builtin.Dict_items.newIterator
  refine wpAny_bind (wpAny_dictEntries ho hdat (wpAny_bind (wpAny_dictEpoch ho hdat ?_)))
  have hown : Builtin.Dict_items.ownsTuple "dict_valueiterator" = false := by decide
  simp -iota only [hown, Bool.false_eq_true, if_false]
  refine wpAny_newObj_type (wpAny_pure ⟨_, rfl, "dict_valueiterator", _, ⟨_, Heap.get?_push_size _ rfl, rfl⟩, F.slot_dict_valueiterator_next.lookup, ?_⟩)
  simpa [rawInt] using hQ

theorem values_turn {it d : Addr} {i : Nat} {od : Obj} {es : Array DictEntry} {ep : Nat} {en : DictEntry} {Q : Option Value → Shared → Prop} (hit : s.heap.IsValIter it d i es.size ep)
    (hod : s.heap.get? d = some od) (hdd : od.data = .dict es ep) (hx : es[i]? = some en)
    (hQ : ∀ h', h'.IsValIter it d (i + 1) es.size ep → Heap.SameBut it s.heap h' → Q (some en.val) { s with heap := h' }) :
    wpAny (model prog w) A (pyNext (.ref it)) Q E s := by
  obtain ⟨o, ho, hc, hd⟩ := id hit
  have hown : Builtin.Dict_items.ownsTuple "dict_valueiterator" = false := by decide
  unfold pyNext
  refine wpAny_bind (wpAny_attempt (wpAny_callSpecial?_slot (name := Str.ofString "__next__") hit.typeIs F.slot_dict_valueiterator_next
    (wpAny_call_entry F.slot_dict_valueiterator_next hit.typeIs F.entry_dict_valueiterator_next ?_ (F.args_dict_valueiterator_next_1 _))))
  refine wpAny_bind (wpAny_pure (wpAny_bind (wpAny_bind ?_)))
  first | refine wpAny_bind (wpAny_typeNameOfWhole_valiter hit.typeIs (wpAny_pure ?_)) | refine wpAny_bind (wpAny_typeNameOf_valiter hit.typeIs (wpAny_pure ?_))
  refine wpAny_bind (wpAny_fieldsOf ho hd ?_)
  simp -iota only [hown, Bool.false_eq_true, if_false]
  show wpAny _ _ (if (Value.ref d == Value.none) = true then _ else _) _ _ s
  rw [if_neg (show ¬ ((Value.ref d == Value.none) = true) from Bool.false_ne_true)]
  refine wpAny_bind (wpAny_pure (wpAny_bind (wpAny_dictEntries hod hdd ?_)))
  rw [if_neg (by simp)]
  refine wpAny_bind (wpAny_pure (wpAny_bind (wpAny_dictEpoch hod hdd ?_)))
  rw [if_neg (by simp)]
  refine wpAny_pure ?_
  dsimp only
  rw [idx_at hx]
  refine wpAny_bind ?_
  first | refine wpAny_bind (wpAny_typeNameOfWhole_valiter hit.typeIs (wpAny_pure ?_)) | refine wpAny_bind (wpAny_typeNameOf_valiter hit.typeIs (wpAny_pure ?_))
  refine wpAny_bind (wpAny_isOneOf_valiter hit.typeIs ?_)
  show wpAny _ _ (setField (.ref it) 1 (rawInt ((i : Int) + 1)) >>= _) _ _ s
  refine wpAny_bind (wpAny_setField ho hd (by simp) ?_)
  have hit' : (s.heap.update it (Obj.mapFields (·.setIfInBounds 1 (rawInt ((i : Int) + 1))))).IsValIter it d (i + 1) es.size ep :=
    ⟨_, Heap.get?_update_self _ ho (Obj.isFreed_of_fields (Obj.data_mapFields hd _)), (Obj.cls_mapFields ..).trans hc, by rw [Obj.data_mapFields hd]; simp [rawInt]⟩
  refine wpAny_bind (wpAny_holding ?_)
  refine wpAny_bind (wpAny_isOneOf_valiter (s := { s with heap := s.heap.update it (Obj.mapFields (·.setIfInBounds 1 (rawInt ((i : Int) + 1)))) }) hit'.typeIs ?_)
  refine wpAny_bind (wpAny_isOneOf_valiter (s := { s with heap := s.heap.update it (Obj.mapFields (·.setIfInBounds 1 (rawInt ((i : Int) + 1)))) }) hit'.typeIs ?_)
  show wpAny _ _ (pure en.val) _ _ _
  exact wpAny_pure (wpAny_pure ⟨_, rfl, wpAny_pure (hQ _ hit' (Heap.SameBut.update ..))⟩)

theorem values_stop {it d : Addr} {i : Nat} {od : Obj} {es : Array DictEntry} {ep : Nat} {Q : Option Value → Shared → Prop} (hh : A.handled = none) (hit : s.heap.IsValIter it d i es.size ep)
    (hod : s.heap.get? d = some od) (hdd : od.data = .dict es ep) (hx : es[i]? = none) (hQ : ∀ h', Heap.ExtBut it s.heap h' → Q none { s with heap := h' }) : wpAny (model prog w) A (pyNext (.ref it)) Q E s := by
  obtain ⟨o, ho, hc, hd⟩ := id hit
  have hown : Builtin.Dict_items.ownsTuple "dict_valueiterator" = false := by decide
  unfold pyNext
  refine wpAny_bind (wpAny_attempt (wpAny_callSpecial?_slot (name := Str.ofString "__next__") hit.typeIs F.slot_dict_valueiterator_next
    (wpAny_call_entry F.slot_dict_valueiterator_next hit.typeIs F.entry_dict_valueiterator_next ?_ (F.args_dict_valueiterator_next_1 _))))
  refine wpAny_bind (wpAny_pure (wpAny_bind (wpAny_bind ?_)))
  first | refine wpAny_bind (wpAny_typeNameOfWhole_valiter hit.typeIs (wpAny_pure ?_)) | refine wpAny_bind (wpAny_typeNameOf_valiter hit.typeIs (wpAny_pure ?_))
  refine wpAny_bind (wpAny_fieldsOf ho hd ?_)
  simp -iota only [hown, Bool.false_eq_true, if_false]
  show wpAny _ _ (if (Value.ref d == Value.none) = true then _ else _) _ _ s
  rw [if_neg (show ¬ ((Value.ref d == Value.none) = true) from Bool.false_ne_true)]
  refine wpAny_bind (wpAny_pure (wpAny_bind (wpAny_dictEntries hod hdd ?_)))
  rw [if_neg (by simp)]
  refine wpAny_bind (wpAny_pure (wpAny_bind (wpAny_dictEpoch hod hdd ?_)))
  rw [if_neg (by simp)]
  refine wpAny_pure ?_
  dsimp only
  rw [idx_at hx]
  refine wpAny_bind ?_
  first | refine wpAny_bind (wpAny_typeNameOfWhole_valiter hit.typeIs (wpAny_pure ?_)) | refine wpAny_bind (wpAny_typeNameOf_valiter hit.typeIs (wpAny_pure ?_))
  show wpAny _ _ (setField (.ref it) 0 .none >>= _) _ _ s
  refine wpAny_bind (wpAny_setField ho hd (by simp) ?_)
  exact stop_exc hh fun h' x => hQ h' fun b o hb e => x b o ((Heap.SameBut.update ..).extBut b o hb e)

/-- d.items(), d.values() -/
theorem view_call {d : Addr} {o : Obj} {id cls : String} {name : Str} {pos : Pos} {Q : Value → Shared → Prop} (hc : (name = "items" ∧ id = "dict.items" ∧ cls = "dict_items") ∨ (name = "values" ∧ id = "dict.values" ∧ cls = "dict_values")) (hd : d ≠ sysModules)
    (ho : s.heap.get? d = some o) (hx : o.ExactDict) (hQ : Q (.ref s.heap.objs.size) { s with heap := s.heap.push { cls := .type cls, data := .fields #[.ref d] } }) :
    MethodOn prog w A name pos (.ref d) [] Q E s := by
  have hT : s.TypeIs (.ref d) "dict" := ⟨o, ho, hx.1⟩
  have hdb : ¬ ((d == sysModules) = true) := by simpa using hd
  have nod : ∀ a, Value.ref d = .ref a → ∃ ob, s.heap.get? a = some ob ∧ ob.dict = none := fun a e => by cases e; exact ⟨o, ho, hx.2.1⟩
  rcases hc with ⟨rfl, rfl, rfl⟩ | ⟨rfl, rfl, rfl⟩
  · refine ⟨"dict", "dict.items", F.plainAttrs_dict, F.slot_dict_items, F.type_dict_items, hT, nod, ?_⟩
    refine Calls.callWith_builtin rfl (PySem.evalArgs_none ?_)
    refine wpAny_call_entry F.slot_dict_items hT F.entry_dict_items ?_ (F.args_dict_items_1 _)
    unfold Builtin.«dict.items»
    refine wpAny_bind ?_
    unfold Builtin.Dict.noArgs
    refine wpAny_bind (wpAny_notOrdered_dict hT ?_)
    refine wpAny_pure (a := d) ?_
    show wpAny _ _ (Builtin.Dict.showsAll d >>= _) _ _ s
    unfold Builtin.Dict.showsAll
    rw [if_neg hdb]
    exact wpAny_bind (wpAny_pure (wpAny_bind (wpAny_newObj_type (wpAny_pure ⟨_, rfl, hQ⟩))))
  · refine ⟨"dict", "dict.values", F.plainAttrs_dict, F.slot_dict_values, F.type_dict_values, hT, nod, ?_⟩
    refine Calls.callWith_builtin rfl (PySem.evalArgs_none ?_)
    refine wpAny_call_entry F.slot_dict_values hT F.entry_dict_values ?_ (F.args_dict_values_1 _)
    unfold Builtin.«dict.values»
    refine wpAny_bind ?_
    unfold Builtin.Dict.noArgs
    refine wpAny_bind (wpAny_notOrdered_dict hT ?_)
    refine wpAny_pure (a := d) ?_
    show wpAny _ _ (Builtin.Dict.showsAll d >>= _) _ _ s
    unfold Builtin.Dict.showsAll
    rw [if_neg hdb]
    exact wpAny_bind (wpAny_pure (wpAny_bind (wpAny_newObj_type (wpAny_pure ⟨_, rfl, hQ⟩))))
end
end Mine
end
section
open PySem PySem.W PyProof.Rows PySem.Spec
set_option maxRecDepth 100000
namespace Mine

structure Turns (prog : Program) (w : World) (A : Around) (target : Expr) (I : Addr) (fp wrI : List Addr) (ds : List D) (own₀ : List Addr) (h₀ : Heap) (St : Nat → Heap → Prop) : Prop where
  sub : ∀ b ∈ wrI, b ∈ fp
  frame : ∀ i h h', St i h → (∀ b ∈ fp, ∀ o, h.get? b = some o → h'.get? b = some o) → St i h'
  lv : ∀ i h, St i h → ∀ b ∈ wrI, (h.get? b).isSome = true
  item : ∀ i d (s : Shared) (own : List Addr) (Q : Value → Shared → Prop) (E : Value → Shared → Prop), ds[i]? = some d → St i s.heap → (∀ a ∈ own, (s.heap.get? a).isSome = true) → Le (Fz own₀ h₀) (Fz own s.heap) → (∀ b ∈ wrI, b ∈ own) →
    (∀ v h' tk, St (i + 1) h' → Rep w (Fz own h') d v → Kept wrI s.heap h' → Q v { s with heap := h', toks := tk }) →
    wpAny (model prog w) A (pyNext (.ref I)) (fun r s₁ => ∃ v, r = some v ∧ wpAny (model prog w) A (letOwnedTupleGo target (.ref I) v) (fun _ s₂ => Q v s₂) E s₁) E s
  done : ∀ (s : Shared) (Q : Option Value → Shared → Prop) (E : Value → Shared → Prop), St ds.length s.heap → (∀ h' tk, Kept wrI s.heap h' → Q none { s with heap := h', toks := tk }) → wpAny (model prog w) A (pyNext (.ref I)) Q E s

noncomputable def ownersOfTuples : List String := ["enumerate", "zip", "dict_itemiterator", "dict_reverseitemiterator", "odict_iterator", "itertools.zip_longest", "itertools.pairwise"]
section
variable {prog : Program} {w : World} {A : Around} {E : Value → Shared → Prop} {s : Shared}

theorem letGo_plain {M : Model} {target : Expr} {I : Addr} {v : Value} {o : Obj} {T : String} {Q : Unit → Shared → Prop} (ho : s.heap.get? I = some o) (hc : o.cls = .type T) (hn : ownersOfTuples.contains T = false) (h : Q () s) :
    wpAny M A (letOwnedTupleGo target (.ref I) v) Q E s := by
  have core : wpAny M A (do
      let (.ref r, .ref a) := (Value.ref I, v) | return
      let o ← load r
      match o.cls, o.data with
      | .type n, .fields vs =>
        if ["enumerate", "zip", "dict_itemiterator", "dict_reverseitemiterator", "odict_iterator", "itertools.zip_longest", "itertools.pairwise"].contains n && vs[0]? == some (rawInt a) then
          rule "for.unpacks-the-owned-tuple"
          updateField r 0 .none
      | _, _ => pure ()) Q E s := by
    cases v <;> first
      | exact wpAny_pure h
      | (refine wpAny_bind (wpAny_load ho ?_)
         rw [hc]
         split
         · rename_i e1 _
           cases e1
           have hn' : (["enumerate", "zip", "dict_itemiterator", "dict_reverseitemiterator", "odict_iterator", "itertools.zip_longest", "itertools.pairwise"] : List String).contains T = false := hn
           rw [hn']
           exact wpAny_pure h
         · exact wpAny_pure h)
  unfold letOwnedTupleGo
  cases target <;> first
    | exact core
    | exact wpAny_pure h

/-! ## A list -/
theorem Turns.list {target : Expr} {I ax : Addr} {items : Array Value} {ds : List D} {own₀ : List Addr} {h₀ : Heap} (hh : A.handled = none) (hne : ax ≠ I) (r : Reps w (Fz own₀ h₀) ds items.toList) :
    Turns prog w A target I [I, ax] [I] ds own₀ h₀ (fun i h => h.IsListIter I ax i ∧ h.IsList ax items) where
  sub := fun b hb => by simp at hb; simp [hb]
  frame := fun _ _ _ st hk => ⟨st.1.at fun o e => hk I (by simp) o e, st.2.at fun o e => hk ax (by simp) o e⟩
  lv := fun i h st b hb => by simp at hb; subst hb; obtain ⟨o, q, _⟩ := st.1; rw [q]; rfl
  item := fun i d s own Q E hi st hlt le hw hQ => by
    obtain ⟨v, hv, rv⟩ := r.get hi
    have hv' : items[i]? = some v := by simpa using hv
    refine wpAny_pyNext_list_item st.1 st.2 hv' fun h' hit' hs' => ⟨v, rfl, ?_⟩
    obtain ⟨o, q, qc, _⟩ := id hit'
    refine letGo_plain q qc (by decide) (hQ v h' s.toks ⟨hit', st.2.extBut hs'.extBut hne⟩ ?_ fun b o hb e => hs'.extBut b o (fun h => hb (by simp [h])) e)
    refine Rep.mono (fun a o e => ?_) d rv
    have e2 := Fz.get (le a o e)
    exact Fz.of e2.1 (hs'.extBut a o (fun h => e2.1 (h ▸ hw I (by simp))) e2.2)
  done := fun s Q E st hQ => wpAny_pyNext_list_end hh st.1 st.2 (by have := r.length; simp at this; simp [this]) fun h' he' => hQ h' s.toks fun b o hb e => he' b o (fun h => hb (by simp [h])) e

/-! ## A range -/
theorem Turns.range {target : Expr} {I : Addr} {n : Nat} {own₀ : List Addr} {h₀ : Heap} (hh : A.handled = none) :
    Turns prog w A target I [I] [I] ((List.range n).map fun i => D.int ((i : Nat) : Int)) own₀ h₀ (fun i h => IsRangeIter h I ((i : Nat) : Int) ((n : Int) - i) 1) where
  sub := fun b hb => hb
  frame := fun _ _ _ st hk => hk I (by simp) _ st
  lv := fun i h st b hb => by simp at hb; subst hb; rw [st]; rfl
  item := fun i d s own Q E hi st hlt le hw hQ => by
    obtain ⟨hlt', e⟩ := List.getElem?_eq_some_iff.mp hi
    simp only [List.length_map, List.length_range] at hlt'
    simp only [List.getElem_map, List.getElem_range] at e
    subst e
    refine wpAny_pyNext_range_item st (by exact om_51 hlt') fun h' hit' hs' => ⟨_, rfl, ?_⟩
    refine letGo_plain hit' rfl (by decide) (hQ _ h' (s.toks + 1) ?_ (by simp only [Rep]; exact ⟨_, rfl⟩) fun b o hb e => hs'.extBut b o (fun h => hb (by simp [h])) e)
    have e1 : ((i + 1 : Nat) : Int) = (i : Int) + 1 := by exact om_47
    have e2 : (n : Int) - ((i + 1 : Nat) : Int) = (n : Int) - i - 1 := by exact om_52
    rw [e2, e1]; exact hit'
  done := fun s Q E st hQ => wpAny_pyNext_range_end hh st (by simp) fun h' he' => hQ h' s.toks fun b o hb e => he' b o (fun h => hb (by simp [h])) e

/-! ## enumerate of a list -/
theorem pair_rep {g : Part} {T : Addr} {o : Obj} {v u : Value} {d e : D} {n : Nat} (h : g T = some o) (c : o.cls = .type "tuple") (dd : o.data = .seq #[v, u] n) (x : Rep w g d v) (y : Rep w g e u) : Rep w g (.tup [d, e]) (.ref T) := by
  simp only [Rep]
  refine ⟨T, o, _, _, rfl, h, c, dd, (by show 2 ≤ cap; decide), ?_⟩
  simp only [Reps]
  exact ⟨v, [u], rfl, x, u, [], rfl, y, rfl⟩
/-! ## The items and the values of a dict -/
noncomputable def zipD : List D → List D → List D
  | k :: ks, d :: ds => .tup [k, d] :: zipD ks ds
  | _, _ => []
theorem zipD_get : ∀ {ks ds : List D} {i : Nat} {x : D}, (zipD ks ds)[i]? = some x → ∃ k d, ks[i]? = some k ∧ ds[i]? = some d ∧ x = .tup [k, d]
  | [], _, _, _, e => by simp [zipD] at e
  | _ :: _, [], _, _, e => by simp [zipD] at e
  | k :: ks, d :: ds, 0, x, e => by simp [zipD] at e; exact ⟨k, d, rfl, rfl, e.symm⟩
  | k :: ks, d :: ds, i + 1, x, e => by
    have e' : (zipD ks ds)[i]? = some x := by simpa [zipD] using e
    obtain ⟨a, b, h1, h2, h3⟩ := zipD_get e'
    exact ⟨a, b, by simpa using h1, by simpa using h2, h3⟩
theorem zipD_length : ∀ {ks ds : List D}, ks.length = ds.length → (zipD ks ds).length = ds.length
  | [], [], _ => rfl
  | k :: ks, d :: ds, h => by simp [zipD]; exact zipD_length (by simpa using h)
  | [], _ :: _, h => by simp at h
  | _ :: _, [], h => by simp at h

theorem Turns.items {elts : List Expr} {k : Nat} {pos : Pos} {I d : Addr} {od : Obj} {es : Array DictEntry} {ep : Nat} {ks ds : List D} {own₀ : List Addr} {h₀ : Heap} (hh : A.handled = none) (hne : d ≠ I) (hdd : od.data = .dict es ep)
    (rk : Reps w (Fz own₀ h₀) ks (es.toList.map (·.key))) (rv : Reps w (Fz own₀ h₀) ds (es.toList.map (·.val))) :
    Turns prog w A (.Tuple elts k pos) I [I, d] [I] (zipD ks ds) own₀ h₀ (fun i h => (∃ ok ov, IsItemIter h I d i es.size ep ok ov) ∧ h.get? d = some od) where
  sub := fun b hb => by simp at hb; simp [hb]
  frame := fun i h h' st hk => by
    obtain ⟨⟨ok, ov, he⟩, hd⟩ := st
    exact ⟨⟨ok, ov, hk I (by simp) _ he⟩, hk d (by simp) _ hd⟩
  lv := fun i h st b hb => by simp at hb; subst hb; obtain ⟨⟨ok, ov, he⟩, _⟩ := st; rw [he]; rfl
  item := fun i x s own Q E hi st hlt le hw hQ => by
    obtain ⟨⟨ok, ov, he⟩, hd⟩ := st
    obtain ⟨dk, dv, h1, h2, rfl⟩ := zipD_get hi
    obtain ⟨vk, g1, r1⟩ := rk.get h1
    obtain ⟨vv, g2, r2⟩ := rv.get h2
    rw [List.getElem?_map] at g1 g2
    obtain ⟨en, e1, rfl⟩ := Option.map_eq_some_iff.mp g1
    rw [e1] at g2
    cases g2
    have hx : es[i]? = some en := by simpa using e1
    have hTI : s.heap.objs.size ≠ I := Nat.ne_of_gt (Heap.lt_size he)
    refine items_turn he hd hdd hx fun h' ho hT hk => ⟨_, rfl, ?_⟩
    refine wpAny_letOwnedTupleGo_items ho fun h2 he2 hs2 => ?_
    have keep : Kept [I] s.heap h2 := fun b o hb x => by
      simp at hb
      exact (hs2.2 b hb).trans (hk b o hb x)
    refine hQ (.ref s.heap.objs.size) h2 s.toks ⟨⟨_, _, he2⟩, keep d _ (by simp [hne]) hd⟩ ?_ keep
    have hown : s.heap.objs.size ∉ own := fun hm => isSome_none (hlt _ hm) (get_size _)
    have le' : Le (Fz own₀ h₀) (Fz own h2) := fun a o q => by
      have q2 := Fz.get (le a o q)
      exact Fz.of q2.1 (keep a o (fun hm => q2.1 (hw a hm)) q2.2)
    exact pair_rep (Fz.of hown ((hs2.2 _ hTI).trans hT)) rfl rfl (Rep.mono le' _ r1) (Rep.mono le' _ r2)
  done := fun s Q E st hQ => by
    obtain ⟨⟨ok, ov, he⟩, hd⟩ := st
    have hz := rv.length
    have hz2 := rk.length
    refine items_stop hh he hd hdd (by rw [zipD_length (by simp at hz hz2; exact om_53 hz hz2)]; simp at hz ⊢; exact om_11 hz) fun h' hx => hQ h' s.toks fun b o hb y => hx b o (fun e' => hb (by simp [e'])) y

theorem Turns.values {target : Expr} {I d : Addr} {od : Obj} {es : Array DictEntry} {ep : Nat} {ds : List D} {own₀ : List Addr} {h₀ : Heap} (hh : A.handled = none) (hne : d ≠ I) (hdd : od.data = .dict es ep)
    (rv : Reps w (Fz own₀ h₀) ds (es.toList.map (·.val))) :
    Turns prog w A target I [I, d] [I] ds own₀ h₀ (fun i h => h.IsValIter I d i es.size ep ∧ h.get? d = some od) where
  sub := fun b hb => by simp at hb; simp [hb]
  frame := fun i h h' st hk => ⟨let ⟨o, q, r⟩ := st.1; ⟨o, hk I (by simp) _ q, r⟩, hk d (by simp) _ st.2⟩
  lv := fun i h st b hb => by simp at hb; subst hb; obtain ⟨⟨o, q, _⟩, _⟩ := st; rw [q]; rfl
  item := fun i x s own Q E hi st hlt le hw hQ => by
    obtain ⟨he, hd⟩ := st
    obtain ⟨vv, g2, r2⟩ := rv.get hi
    rw [List.getElem?_map] at g2
    obtain ⟨en, e1, rfl⟩ := Option.map_eq_some_iff.mp g2
    have hx : es[i]? = some en := by simpa using e1
    refine values_turn he hd hdd hx fun h' ho hs => ⟨_, rfl, ?_⟩
    obtain ⟨o, q, qc, _⟩ := id ho
    have keep : Kept [I] s.heap h' := fun b o hb x => (hs.2 b (by simpa using hb)).trans x
    refine letGo_plain q qc (by decide) (hQ _ h' s.toks ⟨ho, keep d _ (by simp [hne]) hd⟩ ?_ keep)
    refine Rep.mono (fun a o q => ?_) x r2
    have q2 := Fz.get (le a o q)
    exact Fz.of q2.1 (keep a o (fun hm => q2.1 (hw a hm)) q2.2)
  done := fun s Q E st hQ => by
    obtain ⟨he, hd⟩ := st
    have hz := rv.length
    refine values_stop hh he hd hdd (by simp at hz ⊢; exact om_11 hz) fun h' hx => hQ h' s.toks fun b o hb y => hx b o (fun e' => hb (by simp [e'])) y
end

/-! ## What is walked over -/
noncomputable def EvIt (prog : Program) (w : World) (G : Str → Option Value) (hb : Heap) (n : Nat) (κ : Str → Option NameKind) (target : Expr) (e : Expr) (fc lo : Bool) (f : Rho → Option (List D)) : Prop :=
  ∀ (A : Around) (env : Env) (own : List Addr) (ov : List (Str × Addr)) (ρ : Rho) (s : Shared) (ds : List D), Room A n → Sim w G hb κ env own ov ρ s.heap → f ρ = some ds → ∀ Q : Value → Shared → Prop,
    (∀ I fp wrI St h' tk, Ext s.heap h' → Turns prog w A target I fp wrI ds (wrI ++ own) h' St → St 0 h' → (∀ b ∈ wrI, s.heap.get? b = none) → (∀ b ∈ fp, (h'.get? b).isSome = true) → (lo = false → ∀ b ∈ fp, b ∉ own) →
      (fc = true → ∀ i (s : Shared) (Q : Value → Shared → Prop) (E : Value → Shared → Prop), St i s.heap → Q (.ref I) s → wpAny (model prog w) A (pyIter (.ref I)) Q E s) → Q (.ref I) { s with heap := h', toks := tk }) →
    wpAny (model prog w) A (eval e env) (fun x s₁ => wpAny (model prog w) A (pyIter x) Q NoE s₁) NoE s

section
variable {prog : Program} {w : World} {G : Str → Option Value} {hb : Heap} {n : Nat} {κ : Str → Option NameKind} {target : Expr} {fc lo : Bool}

theorem VRep.apart {own : List Addr} {h₀ h : Heap} {fl : Fl} {d : D} {a : Addr} (hlt : ∀ a ∈ own, (h₀.get? a).isSome = true) (hd : d.comp = true) (hf : fl ≠ .loose) (x : VRep w own h₀ h fl d (.ref a)) : a ∉ own := by
  cases fl with
  | loose => exact absurd rfl hf
  | frozen =>
    obtain ⟨a', o, e, q, _⟩ := Rep.obj (by cases d <;> first | trivial | cases hd) (show Rep w (Fz own h) d (.ref a) from x)
    cases e; exact (Fz.get q).1
  | fresh => obtain ⟨a', o, e, q, _⟩ := x; cases e; exact fun hm => isSome_none (hlt a hm) q

noncomputable def dItList (lo : Bool) (f : Den) : Rho → Option (List D) := fun ρ => (f ρ).bind fun x => (lsOf x.2).bind fun ds => if lo = true ∨ x.1 ≠ .loose then some ds else none
theorem evit_list {e : Expr} {f : Den} (he : Ev prog w G hb n κ e f) : EvIt prog w G hb n κ target e fc lo (dItList lo f) :=
  fun A env own ov ρ s ds R S q Q hQ => by
    obtain ⟨⟨f1, d1⟩, e1, q⟩ := Option.bind_eq_some_iff.mp q
    obtain ⟨l0, hl, z⟩ := Option.bind_eq_some_iff.mp q
    clear q
    have q := z
    clear z
    obtain rfl := lsOf_some hl
    split at q
    · rename_i hc
      cases q
      refine he A env own ov ρ s f1 _ R S e1 _ fun v h1 tk1 x1 r1 => ?_
      obtain ⟨a, vs, m, rfl, p, l, r⟩ := r1.lst
      have hne : a ≠ h1.objs.size := Nat.ne_of_lt (Heap.lt_size p)
      have hl : h1.IsList a vs := ⟨_, p, rfl, m, rfl⟩
      refine wpAny_pyIter_list hl ?_
      have hI : (h1.push { cls := .type "list_iterator", data := .fields #[.ref a, .int 0 0] }).get? h1.objs.size = some { cls := .type "list_iterator", data := .fields #[.ref a, .int 0 0] } := Heap.get?_push_size _ rfl
      have hnone : s.heap.get? h1.objs.size = none := x1.none (get_size h1)
      have new1 : ∀ {b : Addr}, b ∈ [h1.objs.size] ++ own → b ∈ own ∨ h1.get? b = none := fun hm => (List.mem_cons.mp hm).elim (fun e => .inr (e ▸ get_size h1)) .inl
      refine hQ h1.objs.size _ _ _ _ _ (x1.trans (Ext.push _ _)) (Turns.list R.hd hne (Reps.mono ((Ext.push _ _).fzNew fun a ha => new1 ha) _ r)) ⟨⟨_, hI, rfl, rfl⟩, hl.push _⟩ (fun b hb => by simp at hb; subst hb; exact hnone) (fun b hb => ?_) (fun hfc b hb => ?_) fun _ i s' Q' E' st hq => wpAny_pyIter_listiter st.1 hq
      · simp at hb
        rcases hb with rfl | rfl
        · rw [hI]; rfl
        · exact (Ext.push _ _).some (by rw [p]; rfl)
      · simp at hb
        rcases hb with rfl | rfl
        · exact fun hm => isSome_none (S.ltAll _ hm) hnone
        · exact r1.apart S.ltAll rfl (hc.elim (fun q => by rw [hfc] at q; cases q) id)
    · cases q

noncomputable def rangeD (k : Int) : List D := (List.range k.toNat).map fun i => D.int ((i : Nat) : Int)
noncomputable def dItRange (κ : Str → Option NameKind) (e : Expr) (f : Den) : Rho → Option (List D) := fun ρ =>
  if isB κ "range" && !isStarred e then (f ρ).bind fun x => (itOf x.2).bind fun k => if 0 ≤ k ∧ k ≤ 200 then some (rangeD k) else none
  else none
theorem rangeSize_nat (k : Int) (h0 : 0 ≤ k) : Builtin.Range.rangeSize 0 k 1 = k := by rw [rangeSize_one]; split <;> omega
theorem evit_range {e : Expr} {x : Str} {p pos : Pos} {f : Den} (he : Ev prog w G hb n κ e f) (hx : x = "range") : EvIt prog w G hb n κ target (.Call (.Name x p) [e] [] pos) fc lo (dItRange κ e f) :=
  fun A env own ov ρ s ds R S q Q hQ => by
    subst hx
    unfold dItRange at q
    split at q
    · rename_i hc
      simp only [Bool.and_eq_true, Bool.not_eq_true'] at hc
      obtain ⟨⟨f1, d1⟩, e1, q⟩ := Option.bind_eq_some_iff.mp q
      obtain ⟨k, hl, z⟩ := Option.bind_eq_some_iff.mp q
      clear q
      have q := z
      clear z
      obtain rfl := itOf_some hl
      split at q
      · rename_i hk
        cases q
        have hs := evl_cons (n := n) he (evl_nil (prog := prog) (w := w) (G := G) (hb := hb) (n := n) (κ := κ))
        have e2 : dCons e f dNil ρ = some [(f1, .int k)] := by unfold dCons; rw [if_neg (by simp [hc.2]), e1]; rfl
        refine callT R S hc.1 boot_range (by simp [plainL, hc.2]) hs e2 fun vs h1 tk1 x1 r1 => ?_
        obtain ⟨v, rfl, r2⟩ := vreps1 r1
        have r2 := r2.any
        simp only [Rep] at r2
        obtain ⟨t, rfl⟩ := r2
        refine call_range_1 ?_
        generalize hH : h1.push { cls := .type "range", data := .fields #[.int 0 tk1, .int k t, .int 1 (tk1 + 1)] } = H
        have hr : IsRange H h1.objs.size 0 k 1 tk1 t (tk1 + 1) := by rw [← hH]; exact Heap.get?_push_size _ rfl
        have xH : Ext s.heap H := by rw [← hH]; exact x1.trans (Ext.push _ _)
        have h0 := hk.1
        refine wpAny_pyIter_range hr (small_one (by omega) (by omega) (by omega) (by omega)) ?_
        have hnone : s.heap.get? H.objs.size = none := xH.none (get_size H)
        have hI : IsRangeIter (H.push { cls := .type "range_iterator", data := .fields #[rawInt 0, rawInt (Builtin.Range.rangeSize 0 k 1), rawInt 1] }) H.objs.size ((0 : Nat) : Int) ((k.toNat : Int) - (0 : Nat)) 1 := by
          have e3 : ((k.toNat : Nat) : Int) - ((0 : Nat) : Int) = Builtin.Range.rangeSize 0 k 1 := by rw [rangeSize_nat k h0]; exact om_54 h0
          rw [e3]; exact Heap.get?_push_size _ rfl
        refine hQ H.objs.size _ _ _ _ _ (xH.trans (Ext.push _ _)) (Turns.range R.hd) hI (fun b hb => by simp at hb; subst hb; exact hnone) (fun b hb => by simp at hb; subst hb; rw [hI]; rfl)
          (fun _ b hb => by simp at hb; subst hb; exact fun hm => isSome_none (S.ltAll _ hm) hnone) fun _ i s' Q' E' st hq => wpAny_pyIter_rangeiter st hq
      · cases q
    · cases q

noncomputable def pbB : (o : Expr) → { b : Bool // b = true → ∀ (a : Str) (env : Env) (whole : Sem Value), attributeBase o a env whole = whole }
  | .Name x p => ⟨true, fun _ _ _ _ => rfl⟩
  | .Call (.Name x q) (e :: es) kw p => ⟨true, fun _ _ _ _ => rfl⟩
  | _ => ⟨false, fun h => (nomatch h)⟩
noncomputable def plainBase (o : Expr) : Bool := (pbB o).1
theorem base_plain {o : Expr} {a : Str} {env : Env} {whole : Sem Value} (h : plainBase o = true) : attributeBase o a env whole = whole := (pbB o).2 h a env whole

noncomputable def keysD : D → List D
  | .idict ks _ => ks.map .int
  | .tdict ks _ => ks.map keyD
  | _ => []
noncomputable def valsD : D → Option (List D)
  | .idict _ ds => some ds
  | .tdict _ ds => some ds
  | _ => none
theorem ikeys_reps {g : Part} : ∀ {ks : List Int} {es : List DictEntry}, IKeys ks es → Reps w g (ks.map .int) (es.map (·.key))
  | [], _, x => by simp only [IKeys] at x; subst x; simp [Reps]
  | k :: ks, _, x => by
    simp only [IKeys] at x
    obtain ⟨e, es', rfl, h1, _, r⟩ := x
    simp only [List.map_cons, Reps, Rep]
    refine ⟨e.key, _, rfl, ?_, ikeys_reps r⟩
    cases hk : e.key <;> simp [hk, Value.isInt] at h1
    exact ⟨_, by rw [h1]⟩
theorem tkeys_reps {g : Part} : ∀ {ks : List (List Scal)} {es : List DictEntry}, TKeys w g ks es → Reps w g (ks.map keyD) (es.map (·.key))
  | [], _, x => by simp only [TKeys] at x; subst x; simp [Reps]
  | k :: ks, _, x => by
    simp only [TKeys] at x
    obtain ⟨e, es', rfl, h1, _, r⟩ := x
    simp only [List.map_cons, Reps]
    exact ⟨e.key, _, rfl, h1.rep, tkeys_reps r⟩
theorem dict_parts {g : Part} {a : Addr} {o : Obj} {d : D} {ds : List D} (e : valsD d = some ds) (x : ORep w g a o d) :
    a ≠ sysModules ∧ o.ExactDict ∧ ∃ es ep, o.data = .dict es ep ∧ Reps w g (keysD d) (es.toList.map (·.key)) ∧ Reps w g ds (es.toList.map (·.val)) := by
  cases d <;> simp only [valsD] at e <;> first | (cases e; done) | skip
  · cases e
    simp only [ORep] at x
    obtain ⟨⟨c1, c2⟩, es, ep, dd, _, kk, r⟩ := x
    exact ⟨c1, c2, es, ep, dd, ikeys_reps kk, r⟩
  · cases e
    simp only [ORep] at x
    obtain ⟨⟨c1, c2⟩, es, ep, dd, _, kk, r⟩ := x
    exact ⟨c1, c2, es, ep, dd, tkeys_reps kk, r⟩

noncomputable def dItItems (o : Expr) (apos pos : Pos) (f : Den) : Rho → Option (List D) := fun ρ =>
  if plainBase o && (apos.endLine == pos.line) then (f ρ).bind fun x => (valsD x.2).bind fun ds => if x.1 ≠ .loose then some (zipD (keysD x.2) ds) else none else none
theorem evit_items {o : Expr} {a : Str} {apos pos : Pos} {f : Den} {elts : List Expr} {k : Nat} {tp : Pos} (ho : Ev prog w G hb n κ o f) (ha : a = "items") : EvIt prog w G hb n κ (.Tuple elts k tp) (.Call (.Attribute o a apos) [] [] pos) false false (dItItems o apos pos f) :=
  fun A env own ov ρ s ds R S q Q hQ => by
    subst ha
    unfold dItItems at q
    split at q
    · rename_i hc
      simp only [Bool.and_eq_true] at hc
      obtain ⟨⟨f1, d1⟩, e1, q⟩ := Option.bind_eq_some_iff.mp q
      obtain ⟨vs, e2, q⟩ := Option.bind_eq_some_iff.mp q
      split at q
      · rename_i hl
        cases q
        refine wpAny_Call_method_late (base_plain hc.1) rfl hc.2 rfl (ho A env own ov ρ s f1 d1 R S e1 _ fun v h1 tk1 x1 r1 => ?_)
        have hcomp : d1.comp = true := by cases d1 <;> simp [valsD] at e2 <;> rfl
        obtain ⟨d, od, rfl, p, ro⟩ := r1.obj hcomp
        obtain ⟨c1, c2, es, ep, dd, rk, rv⟩ := dict_parts e2 ro
        have hne : d ≠ h1.objs.size := Nat.ne_of_lt (Heap.lt_size p)
        refine view_call (cls := "dict_items") (.inl ⟨rfl, rfl, rfl⟩) c1 p c2 ?_
        generalize hH : h1.push { cls := .type "dict_items", data := .fields #[.ref d] } = H
        have hv : H.IsItemsView h1.objs.size d := by rw [← hH]; exact ⟨_, Heap.get?_push_size _ rfl, rfl, rfl⟩
        have p2 : H.get? d = some od := by rw [← hH]; exact Heap.get?_push_of_some _ p
        have xH : Ext h1 H := by rw [← hH]; exact Ext.push _ _
        have hneH : d ≠ H.objs.size := Nat.ne_of_lt (Heap.lt_size p2)
        refine itemsView_iter hv p2 dd ?_
        have hI : IsItemIter (H.push { cls := .type "dict_itemiterator", data := .fields #[.none, .bool false, .ref d, .int 0 0, .int es.size 0, .int ep 0, .none, .none] }) H.objs.size d 0 es.size ep .none .none := Heap.get?_push_size _ rfl
        have hnone : s.heap.get? H.objs.size = none := x1.none (xH.none (get_size H))
        refine hQ H.objs.size _ _ _ _ _ (x1.trans (xH.trans (Ext.push _ _))) (Turns.items R.hd hneH dd (Reps.mono (Le.trans xH.fz ((Ext.push _ _).fzNew fun b hm => (List.mem_cons.mp hm).elim (fun e => .inr (e ▸ get_size H)) .inl)) _ rk) (Reps.mono (Le.trans xH.fz ((Ext.push _ _).fzNew fun b hm => (List.mem_cons.mp hm).elim (fun e => .inr (e ▸ get_size H)) .inl)) _ rv)) ⟨⟨_, _, hI⟩, Heap.get?_push_of_some _ p2⟩
          (fun b hb => by simp at hb; subst hb; exact hnone) (fun b hb => ?_) (fun _ b hb => ?_) (fun h => by cases h)
        · simp at hb
          rcases hb with rfl | rfl
          · rw [hI]; rfl
          · exact (Ext.push _ _).some (by rw [p2]; rfl)
        · simp at hb
          rcases hb with rfl | rfl
          · exact fun hm => isSome_none (S.ltAll _ hm) hnone
          · exact r1.apart S.ltAll hcomp hl
      · cases q
    · cases q

noncomputable def dItVals (o : Expr) (apos pos : Pos) (f : Den) : Rho → Option (List D) := fun ρ =>
  if plainBase o && (apos.endLine == pos.line) then (f ρ).bind fun x => (valsD x.2).bind fun ds => if x.1 ≠ .loose then some ds else none else none
theorem evit_vals {o : Expr} {a : Str} {apos pos : Pos} {f : Den} (ho : Ev prog w G hb n κ o f) (ha : a = "values") : EvIt prog w G hb n κ target (.Call (.Attribute o a apos) [] [] pos) false false (dItVals o apos pos f) :=
  fun A env own ov ρ s ds R S q Q hQ => by
    subst ha
    unfold dItVals at q
    split at q
    · rename_i hc
      simp only [Bool.and_eq_true] at hc
      obtain ⟨⟨f1, d1⟩, e1, q⟩ := Option.bind_eq_some_iff.mp q
      obtain ⟨vs, e2, q⟩ := Option.bind_eq_some_iff.mp q
      split at q
      · rename_i hl
        cases q
        refine wpAny_Call_method_late (base_plain hc.1) rfl hc.2 rfl (ho A env own ov ρ s f1 d1 R S e1 _ fun v h1 tk1 x1 r1 => ?_)
        have hcomp : d1.comp = true := by cases d1 <;> simp [valsD] at e2 <;> rfl
        obtain ⟨d, od, rfl, p, ro⟩ := r1.obj hcomp
        obtain ⟨c1, c2, es, ep, dd, rk, rv⟩ := dict_parts e2 ro
        have hne : d ≠ h1.objs.size := Nat.ne_of_lt (Heap.lt_size p)
        refine view_call (cls := "dict_values") (.inr ⟨rfl, rfl, rfl⟩) c1 p c2 ?_
        generalize hH : h1.push { cls := .type "dict_values", data := .fields #[.ref d] } = H
        have hv : H.IsValuesView h1.objs.size d := by rw [← hH]; exact ⟨_, Heap.get?_push_size _ rfl, rfl, rfl⟩
        have p2 : H.get? d = some od := by rw [← hH]; exact Heap.get?_push_of_some _ p
        have xH : Ext h1 H := by rw [← hH]; exact Ext.push _ _
        have hneH : d ≠ H.objs.size := Nat.ne_of_lt (Heap.lt_size p2)
        refine valuesView_iter hv p2 dd ?_
        have hI : (H.push { cls := .type "dict_valueiterator", data := .fields #[.ref d, .int 0 0, .int es.size 0, .int ep 0] }).IsValIter H.objs.size d 0 es.size ep := ⟨_, Heap.get?_push_size _ rfl, rfl, rfl⟩
        have hnone : s.heap.get? H.objs.size = none := x1.none (xH.none (get_size H))
        refine hQ H.objs.size _ _ _ _ _ (x1.trans (xH.trans (Ext.push _ _))) (Turns.values R.hd hneH dd (Reps.mono (Le.trans xH.fz ((Ext.push _ _).fzNew fun b hm => (List.mem_cons.mp hm).elim (fun e => .inr (e ▸ get_size H)) .inl)) _ rv)) ⟨hI, Heap.get?_push_of_some _ p2⟩
          (fun b hb => by simp at hb; subst hb; exact hnone) (fun b hb => ?_) (fun _ b hb => ?_) (fun h => by cases h)
        · simp at hb
          rcases hb with rfl | rfl
          · obtain ⟨o, q, _⟩ := hI; rw [q]; rfl
          · exact (Ext.push _ _).some (by rw [p2]; rfl)
        · simp at hb
          rcases hb with rfl | rfl
          · exact fun hm => isSome_none (S.ltAll _ hm) hnone
          · exact r1.apart S.ltAll hcomp hl
      · cases q
    · cases q
end
end Mine
end
section
open PySem PySem.W PyProof.Rows PySem.Spec
set_option maxRecDepth 100000
namespace Mine

section
variable {prog : Program} {w : World} {G : Str → Option Value} {hb : Heap} {n : Nat} {κ : Str → Option NameKind} {sto : Str → Bool}

/-! ## Targets -/
noncomputable def okT (κ : Str → Option NameKind) (sto : Str → Bool) (x : Str) : Bool := (κ x == some .local || κ x == some .cell) && sto x
/-- a name, a tuple; a tuple's parts -/
noncomputable def nmB : (e : Expr) → { o : Option Str // ∀ x, o = some x → ∃ p, e = .Name x p }
  | .Name x p => ⟨some x, fun y h => ⟨p, by cases h; rfl⟩⟩
  | _ => ⟨none, fun _ h => (nomatch h)⟩
noncomputable def nmOf (e : Expr) : Option Str := (nmB e).1
theorem nmOf_some {e : Expr} {x : Str} (h : nmOf e = some x) : ∃ p, e = .Name x p := (nmB e).2 x h
noncomputable def tpB : (e : Expr) → { o : Option (List Expr) // ∀ es, o = some es → ∃ k p, e = .Tuple es k p }
  | .Tuple es k p => ⟨some es, fun y h => ⟨k, p, by cases h; rfl⟩⟩
  | _ => ⟨none, fun _ h => (nomatch h)⟩
noncomputable def tpOf (e : Expr) : Option (List Expr) := (tpB e).1
theorem tpOf_some {e : Expr} {es : List Expr} (h : tpOf e = some es) : ∃ k p, e = .Tuple es k p := (tpB e).2 es h
noncomputable def tdB : (d : D) → { o : Option (List D) // ∀ ds, o = some ds → d = .tup ds }
  | .tup ds => ⟨some ds, fun y h => by cases h; rfl⟩
  | _ => ⟨none, fun _ h => (nomatch h)⟩
noncomputable def tdOf (d : D) : Option (List D) := (tdB d).1
theorem tdOf_some {d : D} {ds : List D} (h : tdOf d = some ds) : d = .tup ds := (tdB d).2 ds h
noncomputable def dBinds (κ : Str → Option NameKind) (sto : Str → Bool) : List Expr → List D → Rho → Option Rho
  | [], ds, ρ => if ds.isEmpty = true then some ρ else none
  | e :: es, ds, ρ => ds.head?.bind fun d => (nmOf e).bind fun x => if okT κ sto x = true then dBinds κ sto es ds.tail (upd ρ x (.frz d)) else none
noncomputable def dTarget (κ : Str → Option NameKind) (sto : Str → Bool) (t : Expr) (d : D) (ρ : Rho) : Option Rho := match nmOf t with
  | some x => if okT κ sto x = true then some (upd ρ x (.frz d)) else none
  | none => (tpOf t).bind fun es => (tdOf d).bind fun ds => dBinds κ sto es ds ρ
theorem dBinds_nil {ds : List D} {ρ ρ' : Rho} (e : dBinds κ sto [] ds ρ = some ρ') : ds = [] ∧ ρ = ρ' := by
  cases ds with
  | nil => cases e; exact ⟨rfl, rfl⟩
  | cons d ds => cases e
theorem dBinds_cons {t : Expr} {es : List Expr} {ds : List D} {ρ ρ' : Rho} (e : dBinds κ sto (t :: es) ds ρ = some ρ') : ∃ x p d ds', t = .Name x p ∧ ds = d :: ds' ∧ okT κ sto x = true ∧ dBinds κ sto es ds' (upd ρ x (.frz d)) = some ρ' := by
  cases ds with
  | nil => cases e
  | cons d ds =>
    obtain ⟨x, h1, e2⟩ := Option.bind_eq_some_iff.mp (show (nmOf t).bind _ = _ from e)
    obtain ⟨p, rfl⟩ := nmOf_some h1
    by_cases hx : okT κ sto x = true
    · exact ⟨x, p, d, ds, rfl, rfl, hx, (if_pos hx).symm.trans e2⟩
    · cases (if_neg hx).symm.trans e2
theorem dTarget_cases {t : Expr} {d : D} {ρ ρ' : Rho} (e : dTarget κ sto t d ρ = some ρ') : (∃ x p, t = .Name x p ∧ okT κ sto x = true ∧ ρ' = upd ρ x (.frz d)) ∨ (∃ es k p ds, t = .Tuple es k p ∧ d = .tup ds ∧ dBinds κ sto es ds ρ = some ρ') := by
  unfold dTarget at e
  cases h : nmOf t with
  | some x =>
    obtain ⟨p, rfl⟩ := nmOf_some h
    rw [h] at e
    by_cases hx : okT κ sto x = true
    · exact .inl ⟨x, p, rfl, hx, (Option.some.inj ((if_pos hx).symm.trans e)).symm⟩
    · cases (if_neg hx).symm.trans e
  | none =>
    rw [h] at e
    obtain ⟨es, h1, e2⟩ := Option.bind_eq_some_iff.mp (show (tpOf t).bind _ = _ from e)
    obtain ⟨ds, h2, e3⟩ := Option.bind_eq_some_iff.mp e2
    obtain ⟨k, p, rfl⟩ := tpOf_some h1
    exact .inr ⟨es, k, p, ds, rfl, tdOf_some h2, e3⟩

noncomputable def AfterT (w : World) (G : Str → Option Value) (hb : Heap) (κ : Str → Option NameKind) (env : Env) (own wr : List Addr) (ov : List (Str × Addr)) (ρ' : Rho) (s : Shared) (Q : Unit → Shared → Prop) : Prop :=
  ∀ h' tk, Step own wr s.heap own wr h' → Sim w G hb κ env own ov ρ' h' → Q () { s with heap := h', toks := tk }

theorem okT_kinds {x : Str} (h : okT κ sto x = true) : (κ x = some .local ∨ κ x = some .cell) ∧ sto x = true := by
  simp only [okT, Bool.and_eq_true, Bool.or_eq_true, beq_iff_eq] at h; exact h

theorem asn_name {A : Around} {E : Value → Shared → Prop} {s : Shared} {env : Env} {own wr : List Addr} {ov : List (Str × Addr)} {ρ : Rho} {x : Str} {p : Pos} {v : Value} {d : D} {Q : Unit → Shared → Prop}
    (S : Sim w G hb κ env own ov ρ s.heap) (W : Wr env own wr sto) (r : Rep w (Fz own s.heap) d v) (hx : okT κ sto x = true) (h : AfterT w G hb κ env own wr ov (upd ρ x (.frz d)) s Q) :
    wpAny (model prog w) A (assign (.Name x p) env v) Q E s := by
  have hk := okT_kinds hx
  refine wpAny_assign_Name (S.bind (ov' := ov) (b := .frz d) hk.1 (let ⟨vm, S'⟩ := S; S'.ovIn) (let ⟨vm, S'⟩ := S; S'.ovInj) (fun _ _ => rfl) r fun h' tk p hp hpo sb lv S2 => ?_)
  exact h h' tk (W.step hk.2 hp sb lv) S2

theorem asn_names {A : Around} {E : Value → Shared → Prop} {env : Env} {own wr : List Addr} {ov : List (Str × Addr)} (W : Wr env own wr sto) (es : List Expr) : ∀ (ds : List D) (vs : List Value) (ρ ρ' : Rho) (s : Shared) (Q : Unit → Shared → Prop),
    Sim w G hb κ env own ov ρ s.heap → Reps w (Fz own s.heap) ds vs → dBinds κ sto es ds ρ = some ρ' → AfterT w G hb κ env own wr ov ρ' s Q → wpAny (model prog w) A (assignInOrder ((assignEach es env).map (·.2)) vs) Q E s := by
  induction es with
  | nil =>
    intro ds vs ρ ρ' s Q S r e h
    obtain ⟨rfl, rfl⟩ := dBinds_nil e
    simp only [Reps] at r
    subst r
    exact wpAny_pure (h s.heap s.toks (Step.refl _ _ _) S)
  | cons t es ih =>
    intro ds vs ρ ρ' s Q S r e h
    obtain ⟨x, p, d, ds', rfl, rfl, hx, e⟩ := dBinds_cons e
    simp only [Reps] at r
    obtain ⟨v, vs', rfl, r1, r2⟩ := r
    show wpAny _ _ (do holding vs' (assign (.Name x p) env v); assignInOrder ((assignEach es env).map (·.2)) vs') _ _ _
    refine wpAny_bind (wpAny_holding (asn_name S W r1 hx fun h1 tk1 st1 S1 => ?_))
    exact ih ds' vs' _ ρ' _ Q S1 (Reps.mono (st1.le W.sub) _ r2) e fun h2 tk2 st2 S2 => h h2 tk2 (st1.trans S.ltAll st2) S2

theorem each_names (es : List Expr) : ∀ {ds : List D} {ρ ρ' : Rho} (env : Env), dBinds κ sto es ds ρ = some ρ' → (assignEach es env).length = ds.length ∧ (assignEach es env).findIdx? (·.1) = none := by
  induction es with
  | nil => intro ds ρ ρ' env e; obtain ⟨rfl, _⟩ := dBinds_nil e; exact ⟨rfl, rfl⟩
  | cons t es ih =>
    intro ds ρ ρ' env e
    obtain ⟨x, p, d, ds', rfl, rfl, hx, e⟩ := dBinds_cons e
    have ih := ih env e
    constructor
    · show ((assignEach es env).length + 1) = ds'.length + 1; rw [ih.1]
    · show List.findIdx? _ ((false, _) :: assignEach es env) = none
      rw [List.findIdx?_cons, ih.2]; rfl

theorem asn_target {A : Around} {E : Value → Shared → Prop} {s : Shared} {env : Env} {own wr : List Addr} {ov : List (Str × Addr)} {ρ ρ' : Rho} {t : Expr} {v : Value} {d : D} {Q : Unit → Shared → Prop} (R : Room A n)
    (S : Sim w G hb κ env own ov ρ s.heap) (W : Wr env own wr sto) (r : Rep w (Fz own s.heap) d v) (e : dTarget κ sto t d ρ = some ρ') (h : AfterT w G hb κ env own wr ov ρ' s Q) :
    wpAny (model prog w) A (assign t env v) Q E s := by
  rcases dTarget_cases e with ⟨x, p, rfl, hx, rfl⟩ | ⟨es, k, p, ds, rfl, rfl, e⟩
  · exact asn_name S W r hx h
  · simp only [Rep] at r
    obtain ⟨a, o, vs, m, rfl, q, c, dd, l, r⟩ := r
    have hz := r.length
    have q2 := Fz.get q
    obtain ⟨e1, e2⟩ := each_names es env e
    refine wpAny_assign_Tuple R.hd ⟨o, q2.2, c, m, dd⟩ (by rw [e1, ← hz]; simp) e2 fun h1 x1 => ?_
    have x1 : Ext s.heap h1 := fun b o' hb => x1 b o' (Nat.ne_of_lt (Heap.lt_size hb)) hb
    exact asn_names W es ds vs.toList ρ ρ' _ Q (S.ext x1) (Reps.mono x1.fz _ r) e fun h2 tk2 st2 S2 => h h2 tk2 ((Step.of_ext x1).trans S.ltAll st2) S2

/-! ## The step of an iterator -/
theorem Sim.iter {env : Env} {own : List Addr} {ov : List (Str × Addr)} {ρ : Rho} {h h' : Heap} {wrI : List Addr} (S : Sim w G hb κ env own ov ρ h) (k : Kept wrI h h') (hlive : ∀ b ∈ wrI, (h'.get? b).isSome = true) (hin : ∀ b ∈ wrI, b ∈ own)
    (hp : ∀ b ∈ wrI, ¬ isPlace env b) (ho : ∀ p ∈ ov, p.2 ∉ wrI) : Sim w G hb κ env own ov ρ h' := by
  obtain ⟨vm, S⟩ := S
  have live : ∀ a, (h.get? a).isSome = true → (h'.get? a).isSome = true := fun a e => by
    by_cases q : a ∈ wrI
    · exact hlive a q
    · obtain ⟨o, e⟩ := Option.isSome_iff_exists.mp e; rw [k a o q e]; rfl
  have lef : Le (Fz own h) (Fz own h') := fun a o e => Fz.of (Fz.get e).1 (k a o (fun q => (Fz.get e).1 (hin a q)) (Fz.get e).2)
  refine ⟨vm, S.eo.keep (fun _ q _ => q) (fun a ha o q => k a o (fun q => hp a q ha) q), S.kap, S.bas, fun a o e => ?_, S.high, fun a ha => live a (S.lt a ha), fun y b hy => ?_, S.ovIn, S.ovInj⟩
  · exact k a o (fun q => by have := S.high a (hin a q); rw [this] at e; cases e) (S.ext a o e)
  · obtain ⟨kk, v, h1, h2⟩ := S.vars y b hy
    refine ⟨kk, v, h1, ?_⟩
    cases b with
    | frz d => exact Rep.mono lef d h2
    | own d =>
      obtain ⟨a, o, q1, q2, q3, q4⟩ := h2
      exact ⟨a, o, q1, q2, k a o (ho _ (mem_of_lookup q2)) q3, q4.mono lef⟩

/-- fewer of one's own, none of them a place or a variable's -/
theorem Sim.drop {env : Env} {own own' : List Addr} {ov : List (Str × Addr)} {ρ : Rho} {h h' : Heap} {wrI : List Addr} (S : Sim w G hb κ env own ov ρ h) (k : Kept wrI h h') (hin : ∀ b ∈ wrI, b ∈ own)
    (hp : ∀ b ∈ wrI, ¬ isPlace env b) (ho : ∀ p ∈ ov, p.2 ∉ wrI) (hsub : ∀ a ∈ own', a ∈ own ∧ a ∉ wrI) (hsup : ∀ a ∈ own, a ∉ wrI → a ∈ own') : Sim w G hb κ env own' ov ρ h' := by
  obtain ⟨vm, S⟩ := S
  have lef : Le (Fz own h) (Fz own' h') := fun a o e => Fz.of (fun q => (Fz.get e).1 (hsub a q).1) (k a o (fun q => (Fz.get e).1 (hin a q)) (Fz.get e).2)
  refine ⟨vm, S.eo.keep (fun a q hpl => hsup a q fun m => hp a m hpl) (fun a ha o q => k a o (fun q => hp a q ha) q), S.kap, S.bas, fun a o e => ?_, fun a ha => S.high a (hsub a ha).1, fun a ha => ?_, fun y b hy => ?_, fun p hpv => ⟨hsup _ (S.ovIn p hpv).1 (ho p hpv), (S.ovIn p hpv).2⟩, S.ovInj⟩
  · exact k a o (fun q => by have := S.high a (hin a q); rw [this] at e; cases e) (S.ext a o e)
  · obtain ⟨o, e⟩ := Option.isSome_iff_exists.mp (S.lt a (hsub a ha).1); rw [k a o (hsub a ha).2 e]; rfl
  · obtain ⟨kk, v, h1, h2⟩ := S.vars y b hy
    refine ⟨kk, v, h1, ?_⟩
    cases b with
    | frz d => exact Rep.mono lef d h2
    | own d =>
      obtain ⟨a, o, q1, q2, q3, q4⟩ := h2
      exact ⟨a, o, q1, q2, k a o (ho _ (mem_of_lookup q2)) q3, q4.mono lef⟩

/-! ## For -/
noncomputable def loopD (bind : D → Rho → Option Rho) (body : DenS) : List D → Rho → Option (Flo × Rho)
  | [], ρ => some (.next, ρ)
  | d :: ds, ρ => (bind d ρ).bind fun ρ1 => (body ρ1).bind fun x => match x.1 with
    | .next => loopD bind body ds x.2
    | .cont => loopD bind body ds x.2
    | .brk => some (.next, x.2)
    | .ret v => some (.ret v, x.2)
noncomputable def dFor (it : Rho → Option (List D)) (bind : D → Rho → Option Rho) (body : DenS) : DenS := fun ρ => (it ρ).bind fun ds => loopD bind body ds ρ

noncomputable def nsB : (e : Expr) → { b : Bool // b = true → ∀ (env : Env) (x : Value), foldedSetIterable e env x = pure x }
  | .Constant c0 k0 p0 => ⟨true, fun _ _ _ => rfl⟩
  | .Name x0 p0 => ⟨true, fun _ _ _ => rfl⟩
  | .BinOp a0 o0 b0 p0 => ⟨true, fun _ _ _ => rfl⟩
  | .Call f0 es0 kw0 p0 => ⟨true, fun _ _ _ => rfl⟩
  | .Compare a0 os0 es0 p0 => ⟨true, fun _ _ _ => rfl⟩
  | .IfExp a0 b0 c0 p0 => ⟨true, fun _ _ _ => rfl⟩
  | .Dict ks0 vs0 p0 => ⟨true, fun _ _ _ => rfl⟩
  | .List es0 p0 => ⟨true, fun _ _ _ => rfl⟩
  | .Tuple es0 k0 p0 => ⟨true, fun _ _ _ => rfl⟩
  | .Subscript a0 b0 p0 => ⟨true, fun _ _ _ => rfl⟩
  | .BoolOp o0 es0 p0 => ⟨true, fun _ _ _ => rfl⟩
  | _ => ⟨false, fun h => (nomatch h)⟩
noncomputable def noSet (e : Expr) : Bool := (nsB e).1
theorem noSet_fold {iter : Expr} {env : Env} (h : noSet iter = true) (x : Value) : foldedSetIterable iter env x = pure x := (nsB iter).2 h env x

theorem ex_for {target iter : Expr} {body : List Stmt} {pos : Pos} {it : Rho → Option (List D)} {bd : DenS} (hns : noSet iter = true) (hit : EvIt prog w G hb n κ target iter false false it) (hbd : Exs prog w G hb n κ sto body bd) :
    Ex prog w G hb n κ sto (.For target iter body [] pos) (dFor it (dTarget κ sto target) bd) :=
  fun A env own wr ov ρ s E fl ρ' R S W O e Q hQ => by
    obtain ⟨ds, e1, e⟩ := Option.bind_eq_some_iff.mp e
    refine wpAny_For (wpAny_mono (hit A env own ov ρ s ds R S e1 (fun it s₂ => codeAny (model prog w) A (.forLoop target it body [] env) (fun r s' => match r with | .ok f => Q f s' | .error e => cameBackBy (model prog w) A env E e s') s₂) ?_) (fun x s₁ h₁ => wpAny_mono h₁ (fun _ _ q => q) fun _ _ q => q.elim) fun _ _ q => q.elim) (noSet_fold hns)
    intro I fp wrI St h1 tk1 x1 T st0 hfresh hfpl hfpo _
    have hS1 : Sim w G hb κ env (wrI ++ own) ov ρ h1 := S.more x1 fun a ha => ⟨hfresh a ha, hfpl a (T.sub a ha)⟩
    have hfpw : ∀ b ∈ fp, b ∉ wr := fun b hb hm => hfpo rfl b hb (W.sub b hm)
    have hIpl : ∀ b ∈ wrI, ¬ isPlace env b := fun b hb hm => isSome_none (S.ltAll b (let ⟨vm, S⟩ := S; S.place hm)) (hfresh b hb)
    let Inv : Nat → Shared → Prop := fun k s' => ∃ h' tk own' wr' ov' ρ₁ i, s' = { s with heap := h', toks := tk } ∧ Step own wr s.heap own' wr' h' ∧ Sim w G hb κ env own' ov' ρ₁ h' ∧ Wr env own' wr' sto ∧ (∀ p ∈ ov', p.2 ∈ wr') ∧ St i h' ∧
      Pin sto ov ov' ∧ (∀ b ∈ wrI, b ∈ own') ∧ (∀ b ∈ fp, b ∉ wr' ∧ (h'.get? b).isSome = true) ∧ Le (Fz (wrI ++ own) h1) (Fz own' h') ∧ loopD (dTarget κ sto target) bd (ds.drop i) ρ₁ = some (fl, ρ') ∧ i ≤ ds.length ∧ k = ds.length - i
    refine codeAny_forLoop_any Inv ?_ ds.length
      ⟨h1, tk1, wrI ++ own, wr, ov, ρ, 0, rfl, ⟨fun a o _ q => x1 a o q, fun a q => x1.some q, fun a ha => (List.mem_append.mp ha).elim (fun q => .inr (hfresh a q)) .inl, fun a ha => .inl ha, fun a ha => .inl (List.mem_append_right _ ha)⟩,
        hS1, ⟨fun a ha => List.mem_append_right _ (W.sub a ha), W.loc, W.cel⟩, O, st0, Pin.refl _ _, fun b hb => List.mem_append_left _ hb, fun b hb => ⟨hfpw b hb, hfpl b hb⟩, Le.refl _, by simpa using e, Nat.zero_le _, rfl⟩
    rintro k s' ⟨h', tk, own', wr', ov', ρ₁, i, rfl, sp, S', W', O', st, pn, hwI, hfw, le, el, hi, rfl⟩
    have hov : ∀ p ∈ ov', p.2 ∉ wrI := fun p hp hm => (hfw _ (T.sub _ hm)).1 (O' p hp)
    cases hd : ds[i]? with
    | none =>
      have hlen : i = ds.length := Nat.le_antisymm hi (by simpa using hd)
      subst hlen
      refine T.done _ _ _ st fun h2 tk2 kp => wpAny_execs_nil ?_
      rw [List.drop_length] at el
      cases el
      let own2 := own'.filter (fun a => !wrI.contains a)
      have m2 : ∀ a, a ∈ own2 ↔ a ∈ own' ∧ a ∉ wrI := fun a => by simp [own2]
      have S2 : Sim w G hb κ env own2 ov' ρ' h2 := S'.drop kp hwI hIpl hov (fun a ha => (m2 a).mp ha) fun a ha hn => (m2 a).mpr ⟨ha, hn⟩
      refine hQ .next h2 tk2 own2 wr' ov' ⟨fun a o ha ea => ?_, fun a ea => ?_, fun a ha => sp.ownNew a ((m2 a).mp ha).1, sp.wrNew, fun a ha => ?_⟩ S2 ⟨fun a ha => (m2 a).mpr ⟨W'.sub a ha, fun hm => (hfw a (T.sub a hm)).1 ha⟩, W'.loc, W'.cel⟩ O' ⟨rfl, pn⟩
      · exact kp a o (fun hm => by have := hfresh a hm; rw [this] at ea; cases ea) (sp.keep a o ha ea)
      · have hnI : a ∉ wrI := fun hm => isSome_none ea (hfresh a hm)
        obtain ⟨o, q⟩ := Option.isSome_iff_exists.mp (sp.live a ea)
        rw [kp a o hnI q]; rfl
      · have hnI : a ∉ wrI := fun hm => isSome_none (S.ltAll a ha) (hfresh a hm)
        exact (sp.stay a ha).elim (fun q => .inl ((m2 a).mpr ⟨q, hnI⟩)) .inr
    | some d =>
      have hlt : i < ds.length := (List.getElem?_eq_some_iff.mp hd).1
      have hdrop : ds.drop i = d :: ds.drop (i + 1) := by
        rw [List.drop_eq_getElem_cons hlt]; congr 1; exact (List.getElem?_eq_some_iff.mp hd).2
      rw [hdrop] at el
      obtain ⟨ρ2, e2, el⟩ := Option.bind_eq_some_iff.mp el
      obtain ⟨⟨fl3, ρ3⟩, e3, el⟩ := Option.bind_eq_some_iff.mp el
      refine wpAny_mono (T.item i d { s with heap := h', toks := tk } own' (fun v s₂ => wpAny (model prog w) A (assign target env v) (fun _ s₂ => wpAny (model prog w) A (execs body env) (fun f s₃ => match f with
            | .next | .cont => ∃ m, m < ds.length - i ∧ Inv m s₃
            | .brk => Q .next s₃
            | .ret v => Q (.ret v) s₃) (notedBy (model prog w) A env fun e s' => cameBackBy (model prog w) A env E e s') s₂) (notedBy (model prog w) A env fun e s' => cameBackBy (model prog w) A env E e s') s₂) _ hd st S'.ltAll le hwI ?_) (fun r s₁ h₁ => ?_) fun _ _ q => q
      · intro v h2 tk2 st2 rv kp2
        have S2 := S'.iter kp2 (T.lv _ _ st2) hwI hIpl hov
        have sp2 : Step own wr s.heap own' wr' h2 := ⟨fun a o ha ea => kp2 a o (fun hm => by have := hfresh a hm; rw [this] at ea; cases ea) (sp.keep a o ha ea), fun a ea => by
          have hnI : a ∉ wrI := fun hm => isSome_none ea (hfresh a hm)
          obtain ⟨o, q⟩ := Option.isSome_iff_exists.mp (sp.live a ea)
          rw [kp2 a o hnI q]; rfl, sp.ownNew, sp.wrNew, sp.stay⟩
        have le2 : Le (Fz own' h') (Fz own' h2) := fun a o q => Fz.of (Fz.get q).1 (kp2 a o (fun hm => (Fz.get q).1 (hwI a hm)) (Fz.get q).2)
        have lv2 : ∀ b ∈ fp, (h2.get? b).isSome = true := fun b hb => by
          by_cases q : b ∈ wrI
          · exact T.lv _ _ st2 b q
          · obtain ⟨o, q2⟩ := Option.isSome_iff_exists.mp (hfw b hb).2
            rw [kp2 b o q q2]; rfl
        refine asn_target R S2 W' rv e2 fun h3 tk3 sp3 S3 => ?_
        have st3 : St (i + 1) h3 := T.frame _ _ _ st2 fun b hb o q => sp3.keep b o (hfw b hb).1 q
        refine hbd A env own' wr' ov' ρ2 { s with heap := h3, toks := tk3 } _ fl3 ρ3 R S3 W' O' e3 _ fun r h4 tk4 own4 wr4 ov4 sp4 S4 W4 O4 F4 => ?_
        have sp34 := sp3.trans S2.ltAll sp4
        have sp4' := sp2.trans S.ltAll sp34
        have st4 : St (i + 1) h4 := T.frame _ _ _ st3 fun b hb o q => sp4.keep b o (hfw b hb).1 q
        have again : ∃ m, m < ds.length - i ∧ (Pin sto ov' ov4 → loopD (dTarget κ sto target) bd (ds.drop (i + 1)) ρ3 = some (fl, ρ') → Inv m { s with heap := h4, toks := tk4 }) := by
          refine ⟨ds.length - (i + 1), by exact om_55 hlt, fun pn4 el => ⟨h4, tk4, own4, wr4, ov4, ρ3, i + 1, rfl, sp4', S4, W4, O4, st4, pn.trans pn4, fun b hb => ?_, fun b hb => ⟨fun hm => ?_, sp34.live b (lv2 b hb)⟩, le.trans (le2.trans (sp34.le W'.sub)), el, hlt, rfl⟩⟩
          · exact (sp34.stay b (hwI b hb)).elim id fun q => absurd q (hfw b (T.sub b hb)).1
          · exact (sp34.wrNew b hm).elim (hfw b hb).1 fun q => isSome_none (lv2 b hb) q
        cases fl3 with
        | next => obtain ⟨rfl, pn4⟩ := F4; obtain ⟨m, hm, q⟩ := again; exact ⟨m, hm, q pn4 el⟩
        | cont => obtain ⟨rfl, pn4⟩ := F4; obtain ⟨m, hm, q⟩ := again; exact ⟨m, hm, q pn4 el⟩
        | brk => obtain ⟨rfl, pn4⟩ := F4; cases el; exact hQ .next h4 tk4 own4 wr4 ov4 sp4' S4 W4 O4 ⟨rfl, pn.trans pn4⟩
        | ret d => obtain ⟨v4, rfl, q4⟩ := F4; cases el; exact hQ (.ret v4) h4 tk4 own4 wr4 ov4 sp4' S4 W4 O4 ⟨v4, rfl, q4⟩
      · obtain ⟨v, rfl, h₁⟩ := h₁
        exact h₁

end
end Mine
end
section
open PySem PySem.W PyProof.Rows PySem.Spec
set_option maxRecDepth 100000
namespace Mine

/-! ## A comprehension's frame -/
noncomputable def cellsNew (n : Nat) (names : List (Str × NameKind)) : List (Str × Addr) := cellsFrom n names []
theorem cellsFrom_acc : ∀ (names : List (Str × NameKind)) (n : Nat) (acc : List (Str × Addr)), cellsFrom n names acc = cellsFrom n names [] ++ acc
  | [], _, _ => rfl
  | (x, k) :: r, n, acc => by
    unfold cellsFrom
    split
    · rw [cellsFrom_acc r (n + 1) ((x, n) :: acc), cellsFrom_acc r (n + 1) [(x, n)]]; simp
    · exact cellsFrom_acc r n acc
theorem cellsFrom_mem : ∀ (names : List (Str × NameKind)) (n : Nat) (y : Str) (c : Addr), (y, c) ∈ cellsFrom n names [] → (y, NameKind.cell) ∈ names
  | [], _, _, _, h => (nomatch h)
  | (x, k) :: r, n, y, c, h => by
    unfold cellsFrom at h
    split at h
    · rename_i hk
      rw [cellsFrom_acc] at h
      rcases List.mem_append.mp h with h | h
      · exact List.mem_cons_of_mem _ (cellsFrom_mem r _ y c h)
      · simp at h
        obtain ⟨rfl, rfl⟩ := h
        have : k = .cell := by simpa using hk
        subst this
        exact List.mem_cons_self
    · exact List.mem_cons_of_mem _ (cellsFrom_mem r _ y c h)
theorem cellsFrom_has : ∀ (names : List (Str × NameKind)) (n : Nat) (y : Str), (y, NameKind.cell) ∈ names → ∃ c, (y, c) ∈ cellsFrom n names []
  | [], _, _, h => (nomatch h)
  | (x, k) :: r, n, y, h => by
    unfold cellsFrom
    split
    · rename_i hk
      rw [cellsFrom_acc]
      rcases List.mem_cons.mp h with h | h
      · cases h; exact ⟨n, List.mem_append_right _ (by simp)⟩
      · obtain ⟨c, q⟩ := cellsFrom_has r (n + 1) y h; exact ⟨c, List.mem_append_left _ q⟩
    · rename_i hk
      rcases List.mem_cons.mp h with h | h
      · cases h; simp at hk
      · exact cellsFrom_has r n y h
theorem lookup_isSome_of_mem {α : Type} : ∀ {l : List (Str × α)} {y : Str} {c : α}, (y, c) ∈ l → ∃ c', l.lookup y = some c'
  | (x, v) :: r, y, c, h => by
    rw [List.lookup_cons]
    cases hb : y == x with
    | true => exact ⟨v, rfl⟩
    | false =>
      rcases List.mem_cons.mp h with h | h
      · cases h; simp at hb
      · exact lookup_isSome_of_mem h
theorem lookup_nodup {α : Type} : ∀ {l : List (Str × α)} {y : Str} {c : α}, (l.map (·.1)).Nodup → (y, c) ∈ l → l.lookup y = some c
  | (x, v) :: r, y, c, hn, h => by
    rw [List.lookup_cons]
    rw [List.map_cons, List.nodup_cons] at hn
    rcases List.mem_cons.mp h with h | h
    · cases h; simp
    · have : (y == x) = false := by
        simp only [beq_eq_false_iff_ne, ne_eq]
        intro e
        exact hn.1 (List.mem_map.mpr ⟨(y, c), h, e⟩)
      rw [this]; exact lookup_nodup hn.2 h

/-- the cells that a comprehension closes over -/
noncomputable def clos (cells : List (Str × Addr)) : List (Str × NameKind) → List (Str × Addr) → List (Str × Addr)
  | [], acc => acc
  | (x, k) :: r, acc => if k == .free then clos cells r ((x, (cells.lookup x).getD 0) :: acc) else clos cells r acc
theorem closureFor_clos {scope : Scope} {env : Env} (h : ∀ x, (x, NameKind.free) ∈ scope.names → ∃ c, env.cells.lookup x = some c) : closureFor scope env = pure (clos env.cells scope.names []) := by
  have key : ∀ (names : List (Str × NameKind)) (acc : List (Str × Addr)), (∀ x, (x, NameKind.free) ∈ names → ∃ c, env.cells.lookup x = some c) →
      (forIn names acc fun (x : Str × NameKind) (cs : List (Str × Addr)) => (if x.2 == .free then do let c ← cellOf env x.1; pure (.yield ((x.1, c) :: cs)) else pure (.yield cs) : Sem (ForInStep (List (Str × Addr))))) = pure (clos env.cells names acc) := by
    intro names
    induction names with
    | nil => intro acc _; rfl
    | cons x r ih =>
      intro acc hn
      obtain ⟨x, k⟩ := x
      rw [List.forIn_cons]
      have ih' := fun acc => ih acc fun y hy => hn y (List.mem_cons_of_mem _ hy)
      unfold clos
      by_cases hk : (k == NameKind.free) = true
      · have : k = .free := by simpa using hk
        subst this
        obtain ⟨c, hc⟩ := hn x List.mem_cons_self
        have : cellOf env x = pure c := by unfold cellOf; rw [hc]
        simp only [beq_self_eq_true, if_true, this, hc, Option.getD_some, pure_bind]
        exact ih' _
      · simp only [hk, if_false, pure_bind]
        exact ih' _
  unfold closureFor
  have e : (fun (x : Str × NameKind) (r : List (Str × Addr)) => (match x with | (name, kind) => if (kind == NameKind.free) = true then do let __do_lift ← cellOf env name; pure (ForInStep.yield ((name, __do_lift) :: r)) else pure (ForInStep.yield r) : Sem (ForInStep (List (Str × Addr))))) =
      fun (x : Str × NameKind) (cs : List (Str × Addr)) => (if x.2 == .free then do let c ← cellOf env x.1; pure (.yield ((x.1, c) :: cs)) else pure (.yield cs)) := by
    funext x cs; rfl
  have k2 := key scope.names [] h
  simp only [bind_pure]
  first
    | exact k2
    | (rw [← k2]; rfl)
    | (rw [← k2]; congr)

theorem clos_mem (cells : List (Str × Addr)) : ∀ (names : List (Str × NameKind)) (acc : List (Str × Addr)) (y : Str) (c : Addr), (∀ x, (x, NameKind.free) ∈ names → ∃ c, cells.lookup x = some c) → (y, c) ∈ clos cells names acc → (y, c) ∈ acc ∨ ((y, NameKind.free) ∈ names ∧ cells.lookup y = some c)
  | [], _, _, _, _, h => .inl h
  | (x, k) :: r, acc, y, c, hn, h => by
    unfold clos at h
    have hn' : ∀ z, (z, NameKind.free) ∈ r → ∃ c, cells.lookup z = some c := fun z hz => hn z (List.mem_cons_of_mem _ hz)
    split at h
    · rename_i hk
      have : k = .free := by simpa using hk
      subst this
      rcases clos_mem cells r _ y c hn' h with h | h
      · rcases List.mem_cons.mp h with h | h
        · cases h
          obtain ⟨c, hc⟩ := hn x List.mem_cons_self
          exact .inr ⟨List.mem_cons_self, by rw [hc]; rfl⟩
        · exact .inl h
      · exact .inr ⟨List.mem_cons_of_mem _ h.1, h.2⟩
    · rcases clos_mem cells r _ y c hn' h with h | h
      · exact .inl h
      · exact .inr ⟨List.mem_cons_of_mem _ h.1, h.2⟩
theorem clos_sub (cells : List (Str × Addr)) : ∀ (names : List (Str × NameKind)) (acc : List (Str × Addr)) (p : Str × Addr), p ∈ acc → p ∈ clos cells names acc
  | [], _, _, h => h
  | (x, k) :: r, acc, p, h => by
    unfold clos
    split
    · exact clos_sub cells r _ p (List.mem_cons_of_mem _ h)
    · exact clos_sub cells r _ p h
theorem clos_has (cells : List (Str × Addr)) : ∀ (names : List (Str × NameKind)) (acc : List (Str × Addr)) (y : Str), (y, NameKind.free) ∈ names → ∃ c, (y, c) ∈ clos cells names acc
  | [], _, _, h => (nomatch h)
  | (x, k) :: r, acc, y, h => by
    unfold clos
    rcases List.mem_cons.mp h with h | h
    · cases h
      simp only [beq_self_eq_true, if_true]
      exact ⟨_, clos_sub cells r _ _ List.mem_cons_self⟩
    · split
      · exact clos_has cells r _ y h
      · exact clos_has cells r _ y h

/-- kinds in a comprehension's frame -/
noncomputable def kapC (scope : Scope) (κ : Str → Option NameKind) : Str → Option NameKind := fun x => (scope.names.lookup x).map fun k => if (k == .free && κ x == some .cell) then .cell else k
noncomputable def stoC (scope : Scope) : Str → Bool := fun x => scope.names.lookup x == some .local || scope.names.lookup x == some .cell
noncomputable def rhoC (scope : Scope) (ρ : Rho) : Rho := fun x => if scope.names.lookup x = some .free then ρ x else none
noncomputable def scopeOk (scope : Scope) (κ : Str → Option NameKind) : Bool :=
  (scope.kind == .function) && decide ((scope.names.map (·.1)).Nodup) && scope.names.all fun p => !(p.2 == .free) || (κ p.1 == some .cell || κ p.1 == some .free)

theorem lookup_relabel {env : Env} (hf : env.scope.kind = .function) : ∀ (names : List (Str × NameKind)) (x : Str),
    (names.map fun (n, k) => if (k == NameKind.free && env.scope.kind == .function && env.kindOf n == some .cell) then (n, NameKind.cell) else (n, k)).lookup x =
      (names.lookup x).map fun k => if (k == .free && env.kindOf x == some .cell) then .cell else k
  | [], _ => rfl
  | (y, k) :: r, x => by
    have ih := lookup_relabel hf r x
    have hf' : (env.scope.kind == ScopeKind.function) = true := by rw [hf]; rfl
    simp only [hf', Bool.and_true] at ih ⊢
    rw [List.map_cons]
    by_cases hc : (k == NameKind.free && env.kindOf y == some NameKind.cell) = true
    · simp only [hc, if_true]
      rw [List.lookup_cons, List.lookup_cons]
      cases hb : x == y with
      | true =>
        have : x = y := by simpa using hb
        subst this
        simp only [Option.map_some, hc, if_true]
      | false => exact ih
    · have hc' : (k == NameKind.free && env.kindOf y == some NameKind.cell) = false := by simpa using hc
      simp only [hc', Bool.false_eq_true, if_false]
      rw [List.lookup_cons, List.lookup_cons]
      cases hb : x == y with
      | true =>
        have : x = y := by simpa using hb
        subst this
        simp only [Option.map_some, hc', Bool.false_eq_true, if_false]
      | false => exact ih

noncomputable def compFrame (scope : Scope) (L : Addr) (env : Env) : Env :=
  { scope := relabel scope env, locals := L, globals := env.globals, cells := cellsFrom (L + 1) scope.names [] ++ clos env.cells scope.names [], qual := env.qual, func := none, code := env.code, frame := env.frame, builtins := env.builtins }

section
variable {prog : Program} {w : World} {G : Str → Option Value} {hb : Heap} {n : Nat} {κ : Str → Option NameKind} {sto : Str → Bool}

theorem compFrame_sim {env : Env} {own : List Addr} {ov : List (Str × Addr)} {ρ : Rho} {h : Heap} {scope : Scope} (S : Sim w G hb κ env own ov ρ h) (hs : scopeOk scope κ = true) :
    ∃ new, (∀ a ∈ new, h.get? a = none ∧ ((pushCells (h.push { cls := .type "dict", data := .dict #[] }) scope.names).get? a).isSome = true) ∧
      Sim w G hb (kapC scope κ) (compFrame scope h.objs.size env) (new ++ own) ov (rhoC scope ρ) (pushCells (h.push { cls := .type "dict", data := .dict #[] }) scope.names) ∧
      Wr (compFrame scope h.objs.size env) (new ++ own) new (stoC scope) ∧ Ext h (pushCells (h.push { cls := .type "dict", data := .dict #[] }) scope.names) ∧ h.objs.size ∈ new := by
  obtain ⟨vm, S⟩ := S
  simp only [scopeOk, Bool.and_eq_true, beq_iff_eq, decide_eq_true_eq, List.all_eq_true, Bool.or_eq_true, Bool.not_eq_true', beq_eq_false_iff_ne, ne_eq] at hs
  obtain ⟨⟨hk, hn⟩, hfree⟩ := hs
  generalize hL : h.objs.size = L
  generalize hH : pushCells (h.push { cls := .type "dict", data := .dict #[] }) scope.names = H
  have x0 : Ext h (h.push { cls := .type "dict", data := .dict #[] }) := Ext.push _ _
  have x1 : Ext (h.push { cls := .type "dict", data := .dict #[] }) H := by rw [← hH]; exact fun a o e => pushCells_keeps _ _ a o e
  have ok := cellsFrom_ok scope.names (h.push { cls := .type "dict", data := .dict #[] }) (L + 1) [] ⟨fun _ _ hm => (nomatch hm), List.Pairwise.nil⟩ (by rw [Heap.size_push, hL]; exact Nat.le_refl _)
  rw [Heap.size_push, hL, hH] at ok
  have hns : H.Ns L (fun _ => none) := by rw [← hL]; exact (Heap.Ns.new h (.type "dict")).keeps x1
  have freeAt : ∀ x, (x, NameKind.free) ∈ scope.names → ∃ c, env.cells.lookup x = some c ∧ c ∈ own ∧ h.IsCell c (vm x) := fun x hx => by
    have := hfree _ hx
    simp only [not_true_eq_false, false_or] at this
    obtain ⟨c, h1, h2, _, h4⟩ := S.eo.cel x (by rw [S.kap]; exact this)
    exact ⟨c, h1, h2, h4⟩
  have freeC : ∀ x, (x, NameKind.free) ∈ scope.names → ∃ c, env.cells.lookup x = some c := fun x hx => let ⟨c, q, _⟩ := freeAt x hx; ⟨c, q⟩
  have newLo : ∀ y c, (y, c) ∈ cellsFrom (L + 1) scope.names [] → H.IsCell c none ∧ L + 1 ≤ c := ok.empty
  have notIn : ∀ {a : Addr}, L ≤ a → h.get? a = none := fun {a} ha => by
    cases q : h.get? a with
    | none => rfl
    | some o => exact absurd (Heap.lt_size q) (by rw [hL]; exact Nat.not_lt.mpr ha)
  let cs := cellsFrom (L + 1) scope.names [] ++ clos env.cells scope.names []
  have csLook : ∀ x c, cs.lookup x = some c → (∃ q : (x, c) ∈ cellsFrom (L + 1) scope.names [], (x, NameKind.cell) ∈ scope.names) ∨ ((x, NameKind.free) ∈ scope.names ∧ env.cells.lookup x = some c) := fun x c hc => by
    rcases List.mem_append.mp (mem_of_lookup hc) with q | q
    · exact .inl ⟨q, cellsFrom_mem _ _ _ _ q⟩
    · rcases clos_mem env.cells scope.names [] x c freeC q with q | q
      · cases q
      · exact .inr q
  let new := L :: (cellsFrom (L + 1) scope.names []).map (·.2)
  have hnew : ∀ a ∈ new, h.get? a = none ∧ (H.get? a).isSome = true := fun a ha => by
    rcases List.mem_cons.mp ha with rfl | ha
    · obtain ⟨o, es, ep, q, _⟩ := hns; exact ⟨notIn (Nat.le_refl _), by rw [q]; rfl⟩
    · obtain ⟨p, hp, rfl⟩ := List.mem_map.mp ha
      obtain ⟨⟨o, q, _⟩, lo⟩ := newLo p.1 p.2 hp
      exact ⟨notIn (Nat.le_of_succ_le lo), by rw [q]; rfl⟩
  have hfk : env.scope.kind = .function := S.eo.fn
  have kO : ∀ x, (compFrame scope L env).kindOf x = kapC scope κ x := fun x => by
    show (relabel scope env).names.lookup x = _
    unfold relabel kapC
    rw [lookup_relabel hfk, S.kap]
  refine ⟨new, hnew, ⟨fun x => if scope.names.lookup x = some .free then vm x else none, ?_⟩, ⟨fun a ha => List.mem_append_left _ ha, List.mem_cons_self, fun x c hx hc => ?_⟩, x0.trans x1, List.mem_cons_self⟩
  · refine ⟨⟨hk, S.eo.gl, S.eo.bl, List.mem_append_left _ List.mem_cons_self, ⟨fun _ => none, hns, fun x hx => ?_⟩, fun x hx => ?_, fun x y c hx hy => ?_, fun y c hc => ?_, fun y c hc => ?_⟩, kO, S.bas, S.ext.trans (x0.trans x1), fun a ha => ?_, fun a ha => ?_, fun y b hy => ?_, fun p hp => ?_, S.ovInj⟩
    · rw [kO] at hx
      unfold kapC at hx
      by_cases q : scope.names.lookup x = some .free
      · rw [q] at hx; simp only [Option.map_some] at hx; split at hx <;> simp at hx
      · rw [if_neg q]
    · have hk' : scope.names.lookup x = some .cell ∨ scope.names.lookup x = some .free := by
        rw [kO] at hx
        unfold kapC at hx
        cases q : scope.names.lookup x with
        | none => rw [q] at hx; simp at hx
        | some k => rw [q] at hx; cases k <;> simp at hx <;> simp
      rcases hk' with hk' | hk'
      · obtain ⟨c, hc⟩ := cellsFrom_has scope.names (L + 1) x (mem_of_lookup hk')
        obtain ⟨c', hc'⟩ := lookup_isSome_of_mem hc
        have hm := mem_of_lookup hc'
        have e : cs.lookup x = some c' := by
          show (cellsFrom (L + 1) scope.names [] ++ clos env.cells scope.names []).lookup x = some c'
          rw [List.lookup_append, hc']; rfl
        obtain ⟨ic, lo⟩ := newLo x c' hm
        refine ⟨c', e, List.mem_append_left _ (List.mem_cons_of_mem _ (List.mem_map.mpr ⟨_, hm, rfl⟩)), fun q => by
          have q2 : c' = L := q
          rw [q2] at lo; exact Nat.not_succ_le_self _ lo, ?_⟩
        rw [if_neg (by rw [hk']; simp)]; exact ic
      · have hm := mem_of_lookup hk'
        obtain ⟨c, h1, h2, h3⟩ := freeAt x hm
        obtain ⟨c0, hc0⟩ := clos_has env.cells scope.names [] x hm
        have hl : (cellsFrom (L + 1) scope.names []).lookup x = none := by
          cases q : (cellsFrom (L + 1) scope.names []).lookup x with
          | none => rfl
          | some c1 =>
            have := lookup_nodup hn (cellsFrom_mem _ _ _ _ (mem_of_lookup q))
            rw [hk'] at this; cases this
        obtain ⟨c1, hc1⟩ := lookup_isSome_of_mem hc0
        have e : cs.lookup x = some c1 := by
          show (cellsFrom (L + 1) scope.names [] ++ clos env.cells scope.names []).lookup x = some c1
          rw [List.lookup_append, hl, hc1]; rfl
        have e2 : env.cells.lookup x = some c1 := by
          rcases csLook x c1 e with ⟨q, q2⟩ | q
          · have := lookup_nodup hn q2; rw [hk'] at this; cases this
          · exact q.2
        rw [h1] at e2; cases e2
        refine ⟨c, e, List.mem_append_right _ h2, fun q => ?_, ?_⟩
        · have q2 : c = L := q
          exact isSome_none (S.lt c h2) (notIn (Nat.le_of_eq q2.symm))
        · rw [if_pos hk']; exact h3.keeps (x0.trans x1)
    · rcases csLook x c hx with ⟨q1, q2⟩ | ⟨q1, q2⟩ <;> rcases csLook y c hy with ⟨q3, q4⟩ | ⟨q3, q4⟩
      · exact name_of_addr ok.apart q1 q3
      · exact absurd (S.eo.celIn y c q4) fun hm => isSome_none (S.lt c hm) (notIn (Nat.le_of_succ_le (newLo x c q1).2))
      · exact absurd (S.eo.celIn x c q2) fun hm => isSome_none (S.lt c hm) (notIn (Nat.le_of_succ_le (newLo y c q3).2))
      · exact S.eo.inj x y c q2 q4
    · rcases csLook y c hc with ⟨q1, q2⟩ | ⟨q1, q2⟩
      · exact List.mem_append_left _ (List.mem_cons_of_mem _ (List.mem_map.mpr ⟨_, q1, rfl⟩))
      · exact List.mem_append_right _ (S.eo.celIn y c q2)
    · rw [kO]
      unfold kapC
      rcases csLook y c hc with ⟨_, q2⟩ | ⟨q1, _⟩
      · rw [lookup_nodup hn q2]; exact .inl rfl
      · rw [lookup_nodup hn q1]
        simp only [Option.map_some]
        split
        · exact .inl rfl
        · exact .inr rfl
    · rcases List.mem_append.mp ha with q | q
      · exact S.ext.none (hnew a q).1
      · exact S.high a q
    · rcases List.mem_append.mp ha with q | q
      · exact (hnew a q).2
      · exact (x0.trans x1).some (S.lt a q)
    · unfold rhoC at hy
      split at hy
      · rename_i hf
        obtain ⟨_, v, h1, h2⟩ := S.vars y b hy
        refine ⟨?_, v, by rw [if_pos hf]; exact h1, h2.more (x0.trans x1) fun a ha => (List.mem_append.mp ha).elim (fun q => .inr (hnew a q).1) .inl⟩
        show isV (kapC scope κ y) = true
        unfold kapC
        rw [hf]
        simp only [Option.map_some]
        split <;> simp [isV]
      · cases hy
    · obtain ⟨h1, h2⟩ := S.ovIn p hp
      refine ⟨List.mem_append_right _ h1, fun q => ?_⟩
      rcases q with q | ⟨y, q⟩
      · exact isSome_none (S.lt _ h1) (notIn (Nat.le_of_eq (show L = p.2 from q.symm)))
      · rcases csLook y p.2 q with ⟨q1, _⟩ | ⟨_, q2⟩
        · exact isSome_none (S.lt _ h1) (notIn (Nat.le_of_succ_le (newLo y p.2 q1).2))
        · exact h2 (.inr ⟨y, q2⟩)
  · rcases csLook x c hc with ⟨q1, _⟩ | ⟨q1, _⟩
    · exact List.mem_cons_of_mem _ (List.mem_map.mpr ⟨_, q1, rfl⟩)
    · have := lookup_nodup hn q1
      simp [stoC, this] at hx

theorem newCompFrame {M : Model} {A : Around} {E : Value → Shared → Prop} {s : Shared} {env : Env} {scope : Scope} {Q : Env → Shared → Prop}
    (h : Q { scope := scope, locals := s.heap.objs.size, globals := env.globals, cells := cellsFrom (s.heap.objs.size + 1) scope.names [] ++ clos env.cells scope.names [], qual := env.qual, func := none, code := env.code, frame := env.frame, builtins := env.builtins }
      { s with heap := pushCells (s.heap.push { cls := .type "dict", data := .dict #[] }) scope.names }) :
    wpAny M A (newFunctionEnv scope env.globals (clos env.cells scope.names []) [] env.qual none .none (some env)) Q E s := by
  simp only [newFunctionEnv, Option.isSome_some, if_true]
  refine wpAny_bind (wpAny_alloc ?_)
  refine wpAny_bind (wpAny_layCells _ (fun name kind cells => by cases hkc : kind == NameKind.cell <;> simp [hkc]) _ _ _ _ ?_)
  rw [show ({ s with heap := s.heap.push { cls := .type "dict", data := .dict #[] } } : Shared).heap.objs.size = s.heap.objs.size + 1 from Heap.size_push .., cellsFrom_acc]
  exact wpAny_bind (wpAny_pure (wpAny_pure h))
end
end Mine
end
section
open PySem PySem.W PyProof.Rows PySem.Spec
set_option maxRecDepth 100000
namespace Mine

/-! ## The generators of a list comprehension -/
section
variable {prog : Program} {w : World} {G : Str → Option Value} {hb : Heap} {n : Nat} {κ : Str → Option NameKind} {sto : Str → Bool}

noncomputable def targetNames (t : Expr) : List Str := match nmOf t with
  | some x => [x]
  | none => ((tpOf t).getD []).filterMap nmOf
theorem dBinds_other (es : List Expr) : ∀ {ds : List D} {ρ ρ' : Rho} {x : Str}, dBinds κ sto es ds ρ = some ρ' → x ∉ es.filterMap nmOf → ρ' x = ρ x := by
  induction es with
  | nil => intro ds ρ ρ' x e _; obtain ⟨_, rfl⟩ := dBinds_nil e; rfl
  | cons t es ih =>
    intro ds ρ ρ' x e hx
    obtain ⟨y, p, d, ds', rfl, rfl, _, e⟩ := dBinds_cons e
    rw [List.filterMap_cons, show nmOf (.Name y p) = some y from rfl] at hx
    simp only [List.mem_cons, not_or] at hx
    rw [ih e hx.2]
    simp [upd, hx.1]
theorem dTarget_other {t : Expr} {d : D} {ρ ρ' : Rho} {x : Str} (e : dTarget κ sto t d ρ = some ρ') (hx : x ∉ targetNames t) : ρ' x = ρ x := by
  rcases dTarget_cases e with ⟨y, p, rfl, _, rfl⟩ | ⟨es, k, p, ds, rfl, rfl, e⟩
  · have hx : x ∉ [y] := hx
    simp only [List.mem_singleton] at hx
    simp [upd, hx]
  · exact dBinds_other es e hx

theorem Sim.mono {env : Env} {own : List Addr} {ov : List (Str × Addr)} {ρ ρ' : Rho} {h : Heap} (S : Sim w G hb κ env own ov ρ' h) (hs : ∀ x b, ρ x = some b → ρ' x = some b) : Sim w G hb κ env own ov ρ h :=
  let ⟨vm, S⟩ := S
  ⟨vm, S.eo, S.kap, S.bas, S.ext, S.high, S.lt, fun x b hb => S.vars x b (hs x b hb), S.ovIn, S.ovInj⟩

noncomputable def dTests (FB : Expr → DenB) : List Expr → Rho → Option Bool
  | [], _ => some true
  | c :: cs, ρ => (FB c ρ).bind fun b => if b then dTests FB cs ρ else some false

theorem tests_go {A : Around} {env : Env} {own : List Addr} {ov : List (Str × Addr)} {ρ : Rho} {E : Value → Shared → Prop} {FB : Expr → DenB} (hB : ∀ c, EvB prog w G hb n κ c (FB c)) (R : Room A n) :
    ∀ (ifs : List Expr) (s : Shared) (b : Bool) (Q : Bool → Shared → Prop), Sim w G hb κ env own ov ρ s.heap → dTests FB ifs ρ = some b → (∀ h' tk, Ext s.heap h' → Q b { s with heap := h', toks := tk }) →
      wpAny (model prog w) A (forIn ifs true fun c r => if r = true then do let ok ← isTrue c env (eval c env); pure (ForInStep.yield ok) else pure (ForInStep.yield r)) Q E s
  | [], s, b, Q, S, e, hQ => by
    cases e
    exact wpAny_pure (hQ s.heap s.toks (Ext.refl _))
  | c :: cs, s, b, Q, S, e, hQ => by
    obtain ⟨b1, e1, e⟩ := Option.bind_eq_some_iff.mp e
    rw [List.forIn_cons]
    simp only [if_true]
    refine wpAny_bind (wpAny_bind (anyE (hB c A env own ov ρ s b1 R S e1 _ fun h1 tk1 x1 => ?_)))
    refine wpAny_pure ?_
    cases b1 with
    | true => exact tests_go hB R cs _ b Q (S.ext x1) e fun h2 tk2 x2 => hQ h2 tk2 (x1.trans x2)
    | false =>
      cases e
      have skip : ∀ (cs : List Expr) (s : Shared) (Q : Bool → Shared → Prop), Q false s → wpAny (model prog w) A (forIn cs false fun c r => if r = true then do let ok ← isTrue c env (eval c env); pure (ForInStep.yield ok) else pure (ForInStep.yield r)) Q E s := by
        intro cs
        induction cs with
        | nil => intro s Q h; exact wpAny_pure h
        | cons c cs ih =>
          intro s Q h
          rw [List.forIn_cons]
          simp only [Bool.false_eq_true, if_false]
          exact wpAny_bind (wpAny_pure (ih s Q h))
      exact skip cs _ Q (hQ h1 tk1 x1)

noncomputable def dTurns (f : D → Option (List D)) : List D → Option (List D)
  | [] => some []
  | d :: ds => (f d).bind fun xs => (dTurns f ds).map fun ys => xs ++ ys

/-- what the generators give, one after the other -/
noncomputable def dGens (κ : Str → Option NameKind) (sto : Str → Bool) (FE : Expr → Den) (FB : Expr → DenB) (FI : Expr → Expr → Rho → Option (List D)) (elt : Expr) : List Comprehension → Rho → Option (List D)
  | [], ρ => (FE elt ρ).bind fun x => if x.1 = .loose then none else some [x.2]
  | g :: gs, ρ => if g.is_async = 0 ∧ noSet g.iter = true ∧ ((targetNames g.target).all fun x => (ρ x).isNone) = true then
      (FI g.target g.iter ρ).bind fun ds => dTurns (fun d => (dTarget κ sto g.target d ρ).bind fun ρ' => (dTests FB g.ifs ρ').bind fun b => if b then dGens κ sto FE FB FI elt gs ρ' else some []) ds
    else none
/-- one turn of a generator -/
noncomputable def dTurn (κ : Str → Option NameKind) (sto : Str → Bool) (FE : Expr → Den) (FB : Expr → DenB) (FI : Expr → Expr → Rho → Option (List D)) (elt : Expr) (g : Comprehension) (gs : List Comprehension) (ρ : Rho) (d : D) : Option (List D) :=
  (dTarget κ sto g.target d ρ).bind fun ρ' => (dTests FB g.ifs ρ').bind fun b => if b then dGens κ sto FE FB FI elt gs ρ' else some []

noncomputable def KL (wr : List Addr) (h h' : Heap) : Prop := Kept wr h h' ∧ ∀ a, (h.get? a).isSome = true → (h'.get? a).isSome = true
theorem KL.refl (wr : List Addr) (h : Heap) : KL wr h h := ⟨fun _ _ _ e => e, fun _ e => e⟩
theorem KL.trans {wr : List Addr} {h₁ h₂ h₃ : Heap} (x : KL wr h₁ h₂) (y : KL wr h₂ h₃) : KL wr h₁ h₃ := ⟨fun a o ha e => y.1 a o ha (x.1 a o ha e), fun a e => y.2 a (x.2 a e)⟩
theorem KL.ext {wr : List Addr} {h h' : Heap} (x : Ext h h') : KL wr h h' := ⟨fun a o _ e => x a o e, fun _ e => x.some e⟩
theorem KL.le {own wr : List Addr} {h h' : Heap} (x : KL wr h h') (hs : ∀ a ∈ wr, a ∈ own) : Le (Fz own h) (Fz own h') := fun a o e => Fz.of (Fz.get e).1 (x.1 a o (fun q => (Fz.get e).1 (hs a q)) (Fz.get e).2)

noncomputable def AccIs (w : World) (own : List Addr) (h : Heap) (D : Addr) (ds : List Mine.D) : Prop := ∃ vs m, h.get? D = some { cls := .type "list", dict := none, data := .seq vs m, slots := #[] } ∧ ds.length ≤ cap ∧ Reps w (Fz own h) ds vs.toList
theorem AccIs.step {own wr : List Addr} {h h' : Heap} {D : Addr} {ds : List Mine.D} (x : AccIs w own h D ds) (k : KL wr h h') (hs : ∀ a ∈ wr, a ∈ own) (hD : D ∉ wr) : AccIs w own h' D ds :=
  let ⟨vs, m, e, l, r⟩ := x; ⟨vs, m, k.1 D _ hD e, l, Reps.mono (k.le hs) _ r⟩

/-- what a comprehension's frame holds apart from its names: D the list that grows -/
structure CFrame (env : Env) (own wr : List Addr) (sto : Str → Bool) (ov : List (Str × Addr)) (D : Addr) : Prop where
  hw : Wr env own wr sto
  dIn : D ∈ own
  dW : D ∉ wr
  dPl : ¬ isPlace env D
  dOv : ∀ p ∈ ov, p.2 ≠ D

noncomputable def inner (elt : Expr) (gens : List Comprehension) (scope : Scope) (pos : Pos) (depth : Nat) (acc : Value) (env : Env) : Sem Unit :=
  match gens[depth]? with
  | some g' => do
    let x ← eval g'.iter env
    standAt g'.iter.pos
    let x ← foldedSetIterable g'.iter env x
    let _ ← runOwn (.compStart (.ListComp elt gens scope pos) depth (← holding [x] (pyIter x)) acc env) env
    pure ()
  | none => do let _ ← call (.builtin "list.append") [acc, ← eval elt env]

theorem compTurn_at {elt : Expr} {gens : List Comprehension} {scope : Scope} {pos : Pos} {depth : Nat} {it acc : Value} {env : Env} {target iter : Expr} {ifs : List Expr} (hg : gens[depth]? = some ⟨target, iter, ifs, 0⟩)
    (hz : ∀ g', gens[depth + 1]? = some g' → g'.is_async = 0) :
    compTurn (.ListComp elt gens scope pos) depth it acc env = (do
      standAt iter.pos
      match ← pyNext it with
      | none => pure (.done .next)
      | some v =>
        letOwnedTupleGo target it v
        assign target env v
        let ok ← (forIn ifs true fun c r => if r = true then do let ok ← isTrue c env (eval c env); pure (ForInStep.yield ok) else pure (ForInStep.yield r))
        if ok then do
          inner elt gens scope pos (depth + 1) acc env
          again (.compLoop (.ListComp elt gens scope pos) depth it acc env)
        else again (.compLoop (.ListComp elt gens scope pos) depth it acc env)) := by
  unfold compTurn inner
  simp only [hg]
  cases hq : gens[depth + 1]? with
  | none => rfl
  | some g' =>
    have h0 := hz g' hq
    simp only [h0, bind_assoc, pure_bind]
    rfl


theorem CFrame.more {env : Env} {own wr : List Addr} {ov : List (Str × Addr)} {D : Addr} (F : CFrame env own wr sto ov D) (new : List Addr) : CFrame env (new ++ own) wr sto ov D :=
  ⟨⟨fun a ha => List.mem_append_right _ (F.hw.sub a ha), F.hw.loc, F.hw.cel⟩, List.mem_append_right _ F.dIn, F.dW, F.dPl, F.dOv⟩
theorem CFrame.sub {env : Env} {own wr : List Addr} {ov : List (Str × Addr)} {D : Addr} (F : CFrame env own wr sto ov D) : ∀ a ∈ D :: wr, a ∈ own := fun a ha => (List.mem_cons.mp ha).elim (fun q => q ▸ F.dIn) (F.hw.sub a)

/-- what is asked of the code within a turn -/
noncomputable def InnerOk (prog : Program) (w : World) (G : Str → Option Value) (hb : Heap) (n : Nat) (κ : Str → Option NameKind) (sto : Str → Bool) (A : Around) (env : Env) (wr : List Addr) (ov : List (Str × Addr)) (D : Addr) (code : Sem Unit) (f : Rho → Option (List Mine.D)) : Prop :=
  ∀ (own : List Addr) (ρ : Rho) (s : Shared) (acc ds : List Mine.D) (E : Value → Shared → Prop) (Q : Unit → Shared → Prop), Sim w G hb κ env own ov ρ s.heap → CFrame env own wr sto ov D → AccIs w own s.heap D acc → f ρ = some ds → acc.length + ds.length ≤ cap →
    (∀ h' tk, KL (D :: wr) s.heap h' → Sim w G hb κ env own ov ρ h' → AccIs w own h' D (acc ++ ds) → Q () { s with heap := h', toks := tk }) → wpAny (model prog w) A code Q E s

theorem comp_loop {FE : Expr → Den} {FB : Expr → DenB} {FI : Expr → Expr → Rho → Option (List Mine.D)} (hB : ∀ c, EvB prog w G hb n κ c (FB c)) {elt : Expr} {gens : List Comprehension} {scope : Scope} {pos : Pos} {depth : Nat} {target iter : Expr} {ifs : List Expr} {gs : List Comprehension}
    {A : Around} {env : Env} {own wr : List Addr} {ov : List (Str × Addr)} {ρ : Rho} {D I : Addr} {fp wrI : List Addr} {ds acc total : List Mine.D} {St : Nat → Heap → Prop} {own₀ : List Addr} {h₀ h1 : Heap} {s : Shared} {R : Result → Shared → Prop} (Rm : Room A n)
    (hg : gens[depth]? = some ⟨target, iter, ifs, 0⟩) (hz : ∀ g', gens[depth + 1]? = some g' → g'.is_async = 0)
    (hin : InnerOk prog w G hb n κ sto A env wr ov D (inner elt gens scope pos (depth + 1) (.ref D) env) (dGens κ sto FE FB FI elt gs))
    (hun : ((targetNames target).all fun x => (ρ x).isNone) = true)
    (T : Turns prog w A target I fp wrI ds own₀ h₀ St) (le0 : Le (Fz own₀ h₀) (Fz (wrI ++ own) h1)) (st0 : St 0 h1) (hfpl : ∀ b ∈ fp, (h1.get? b).isSome = true) (hfpw : ∀ b ∈ fp, b ∉ D :: wr)
    (hS1 : Sim w G hb κ env (wrI ++ own) ov ρ h1) (F : CFrame env own wr sto ov D) (hIpl : ∀ b ∈ wrI, ¬ isPlace env b) (hov : ∀ p ∈ ov, p.2 ∉ wrI) (hIo : ∀ a ∈ own, a ∉ wrI) (acc1 : AccIs w (wrI ++ own) h1 D acc) (hs1 : s.heap = h1)
    (e : dTurns (dTurn κ sto FE FB FI elt ⟨target, iter, ifs, 0⟩ gs ρ) ds = some total) (hcap : acc.length + total.length ≤ cap)
    (hR : ∀ h' tk, Kept (wrI ++ D :: wr) h1 h' → (∀ a, a ∉ wrI → (h1.get? a).isSome = true → (h'.get? a).isSome = true) → Sim w G hb κ env own ov ρ h' → AccIs w own h' D (acc ++ total) → R (.ok .next) { s with heap := h', toks := tk }) :
    codeAny (model prog w) A (.compLoop (.ListComp elt gens scope pos) depth (.ref I) (.ref D) env) R s := by
  have F1 : CFrame env (wrI ++ own) wr sto ov D := F.more wrI
  have hwI : ∀ b ∈ wrI, b ∈ wrI ++ own := fun b hb => List.mem_append_left _ hb
  have hDI : D ∉ wrI := hIo D F.dIn
  let Inv : Nat → Shared → Prop := fun k s' => ∃ h' tk i out rest, s' = { s with heap := h', toks := tk } ∧ KL (wrI ++ D :: wr) h1 h' ∧ Sim w G hb κ env (wrI ++ own) ov ρ h' ∧ AccIs w (wrI ++ own) h' D out ∧ St i h' ∧ (∀ b ∈ fp, (h'.get? b).isSome = true) ∧
    Le (Fz (wrI ++ own) h1) (Fz (wrI ++ own) h') ∧ dTurns (dTurn κ sto FE FB FI elt ⟨target, iter, ifs, 0⟩ gs ρ) (ds.drop i) = some rest ∧ out ++ rest = acc ++ total ∧ i ≤ ds.length ∧ k = ds.length - i
  refine codeAny_loop rfl Inv (fun k s' hI => ?_) ds.length ⟨h1, s.toks, 0, acc, total, by rw [← hs1], KL.refl _ _, hS1, acc1, st0, hfpl, Le.refl _, by simpa using e, rfl, Nat.zero_le _, rfl⟩
  obtain ⟨h', tk, i, out, rest, rfl, kl, S', a', st, hfl, le, el, hsum, hi, rfl⟩ := hI
  show wpAny _ A ((compTurn (.ListComp elt gens scope pos) depth (.ref I) (.ref D) env).onRaise (fun x => do noteFrame x env; theTreesLotGoes x)) _ _ _
  refine wpAny_noted ?_
  rw [compTurn_at hg hz]
  refine wpAny_bind (wpAny_standAt (wpAny_bind ?_))
  cases hd : ds[i]? with
  | none =>
    have hlen : i = ds.length := Nat.le_antisymm hi (by simpa using hd)
    subst hlen
    refine T.done _ _ _ st fun h2 tk2 kp => wpAny_pure ?_
    rw [List.drop_length] at el
    cases el
    have S2 : Sim w G hb κ env own ov ρ h2 := S'.drop kp hwI hIpl hov (fun a ha => ⟨List.mem_append_right _ ha, hIo a ha⟩) fun a ha hn => (List.mem_append.mp ha).elim (fun q => absurd q hn) id
    refine hR h2 tk2 (fun a o ha ea => kp a o (fun hm => ha (List.mem_append_left _ hm)) (kl.1 a o ha ea)) (fun a hnI ea => ?_) S2 ?_
    · obtain ⟨o, q⟩ := Option.isSome_iff_exists.mp (kl.2 a ea)
      rw [kp a o hnI q]; rfl
    · rw [List.append_nil] at hsum
      subst hsum
      obtain ⟨vs, m, q, l, r⟩ := a'
      exact ⟨vs, m, kp D _ hDI q, l, Reps.mono (fun a o e => Fz.of (fun hm => (Fz.get e).1 (List.mem_append_right _ hm)) (kp a o (fun hm => (Fz.get e).1 (hwI a hm)) (Fz.get e).2)) _ r⟩
  | some d =>
    have hlt : i < ds.length := (List.getElem?_eq_some_iff.mp hd).1
    have hdrop : ds.drop i = d :: ds.drop (i + 1) := by
      rw [List.drop_eq_getElem_cons hlt]; congr 1; exact (List.getElem?_eq_some_iff.mp hd).2
    rw [hdrop] at el
    obtain ⟨xs, e2, el⟩ := Option.bind_eq_some_iff.mp el
    obtain ⟨ys, e3, el⟩ := Option.map_eq_some_iff.mp el
    subst el
    obtain ⟨ρ2, e4, e2⟩ := Option.bind_eq_some_iff.mp e2
    obtain ⟨b, e5, e2⟩ := Option.bind_eq_some_iff.mp e2
    have hlen := congrArg List.length hsum
    simp only [List.length_append] at hlen
    have again : ∀ h2 tk2, Sim w G hb κ env (wrI ++ own) ov ρ2 h2 → AccIs w (wrI ++ own) h2 D (out ++ xs) → St (i + 1) h2 → (∀ b ∈ fp, (h2.get? b).isSome = true) → Le (Fz (wrI ++ own) h') (Fz (wrI ++ own) h2) → KL (wrI ++ D :: wr) h1 h2 →
        ∃ m, m < ds.length - i ∧ Inv m { s with heap := h2, toks := tk2 } := fun h2 tk2 S2 a2 st2 fl2 le2 kl3 =>
      ⟨ds.length - (i + 1), by exact om_55 hlt, h2, tk2, i + 1, out ++ xs, ys, rfl, kl3, S2.mono (fun x b hb => (dTarget_other e4 (fun hm => by
          have := List.all_eq_true.mp hun x hm
          rw [hb] at this; cases this)).trans hb), a2, st2, fl2, le.trans le2, e3, by rw [List.append_assoc]; exact hsum, hlt, rfl⟩
    refine wpAny_mono (T.item i d { s with heap := h', toks := tk } (wrI ++ own) (fun v s₂ => wpAny (model prog w) A (assign target env v) (fun _ s₂ =>
        wpAny (model prog w) A (forIn ifs true fun c r => if r = true then do let ok ← isTrue c env (eval c env); pure (ForInStep.yield ok) else pure (ForInStep.yield r)) (fun ok s₃ =>
          if ok = true then wpAny (model prog w) A (inner elt gens scope pos (depth + 1) (.ref D) env) (fun _ s₄ => ∃ m, m < ds.length - i ∧ Inv m s₄) (notedBy (model prog w) A env fun e s' => R (.error e) s') s₃
          else ∃ m, m < ds.length - i ∧ Inv m s₃) (notedBy (model prog w) A env fun e s' => R (.error e) s') s₂) (notedBy (model prog w) A env fun e s' => R (.error e) s') s₂) _ hd st S'.ltAll (le0.trans le) hwI ?_) (fun r s₁ h₁ => ?_) fun _ _ q => q
    · intro v h2 tk2 st2 rv kp2
      have S2 := S'.iter kp2 (T.lv _ _ st2) hwI hIpl hov
      have le2 : Le (Fz (wrI ++ own) h') (Fz (wrI ++ own) h2) := fun a o q => Fz.of (Fz.get q).1 (kp2 a o (fun hm => (Fz.get q).1 (hwI a hm)) (Fz.get q).2)
      have lv2 : ∀ b ∈ fp, (h2.get? b).isSome = true := fun b hb => by
        by_cases q : b ∈ wrI
        · exact T.lv _ _ st2 b q
        · obtain ⟨o, q2⟩ := Option.isSome_iff_exists.mp (hfl b hb)
          rw [kp2 b o q q2]; rfl
      have a2 : AccIs w (wrI ++ own) h2 D out := by
        obtain ⟨vs, m, q, l, r⟩ := a'
        exact ⟨vs, m, kp2 D _ hDI q, l, Reps.mono le2 _ r⟩
      have kl2 : KL (wrI ++ D :: wr) h1 h2 := ⟨fun a o ha ea => kp2 a o (fun hm => ha (List.mem_append_left _ hm)) (kl.1 a o ha ea), fun a ea => by
        by_cases q : a ∈ wrI
        · exact T.lv _ _ st2 a q
        · obtain ⟨o, q2⟩ := Option.isSome_iff_exists.mp (kl.2 a ea)
          rw [kp2 a o q q2]; rfl⟩
      have up : ∀ {x y : Heap}, KL (D :: wr) x y → KL (wrI ++ D :: wr) x y := fun k => ⟨fun a o ha => k.1 a o fun hm => ha (List.mem_append_right _ hm), k.2⟩
      refine asn_target Rm S2 F1.hw rv e4 fun h3 tk3 sp3 S3 => ?_
      have kl3 : KL (D :: wr) h2 h3 := ⟨fun a o ha ea => sp3.keep a o (fun hm => ha (List.mem_cons_of_mem _ hm)) ea, sp3.live⟩
      have a3 : AccIs w (wrI ++ own) h3 D out := a2.step (wr := wr) ⟨sp3.keep, sp3.live⟩ F1.hw.sub F1.dW
      have st3 : St (i + 1) h3 := T.frame _ _ _ st2 fun b hb o q => kl3.1 b o (hfpw b hb) q
      refine tests_go hB Rm ifs { s with heap := h3, toks := tk3 } b _ S3 e5 fun h4 tk4 x4 => ?_
      have kl4 : KL (D :: wr) h3 h4 := KL.ext x4
      have S4 := S3.ext x4
      have a4 : AccIs w (wrI ++ own) h4 D out := a3.step (wr := []) (KL.ext x4) (fun _ hm => (nomatch hm)) (fun hm => (nomatch hm))
      have st4 : St (i + 1) h4 := T.frame _ _ _ st3 fun b hb o q => x4 b o q
      have kl24 := kl3.trans kl4
      have le4 : Le (Fz (wrI ++ own) h') (Fz (wrI ++ own) h4) := le2.trans (kl24.le F1.sub)
      cases b with
      | true =>
        simp only [if_true] at e2 ⊢
        refine hin (wrI ++ own) ρ2 { s with heap := h4, toks := tk4 } out xs _ _ S4 F1 a4 e2 (by exact om_56 hcap hlen) fun h5 tk5 kl5 S5 a5 => ?_
        have kl25 := kl24.trans kl5
        exact again h5 tk5 S5 a5 (T.frame _ _ _ st4 fun b hb o q => kl5.1 b o (hfpw b hb) q) (fun b hb => kl25.2 b (lv2 b hb)) (le4.trans (kl5.le F1.sub)) (kl2.trans (up kl25))
      | false =>
        simp only [Bool.false_eq_true, if_false] at e2 ⊢
        cases e2
        exact again h4 tk4 S4 (by rw [List.append_nil]; exact a4) st4 (fun b hb => kl24.2 b (lv2 b hb)) le4 (kl2.trans (up kl24))
    · obtain ⟨v, rfl, h₁⟩ := h₁
      refine wpAny_bind (wpAny_mono h₁ (fun _ s₂ h₂ => wpAny_bind (wpAny_mono h₂ (fun _ s₃ h₃ => wpAny_bind (wpAny_mono h₃ (fun ok s₄ h₄ => ?_) fun _ _ q => q)) fun _ _ q => q)) fun _ _ q => q)
      cases ok with
      | true => exact wpAny_bind (wpAny_mono h₄ (fun _ s₅ h₅ => wpAny_pure ⟨rfl, h₅⟩) fun _ _ q => q)
      | false => exact wpAny_pure ⟨rfl, h₄⟩
end
end Mine
end
section
open PySem PySem.W PyProof.Rows PySem.Spec
set_option maxRecDepth 100000
namespace Mine

section
variable {prog : Program} {w : World} {G : Str → Option Value} {hb : Heap} {n : Nat} {κ : Str → Option NameKind} {sto : Str → Bool}

theorem compStart_at {A : Around} {R : Result → Shared → Prop} {s : Shared} {elt : Expr} {gens : List Comprehension} {scope : Scope} {pos : Pos} {depth : Nat} {it acc : Value} {env : Env} {target iter : Expr} {ifs : List Expr} (hg : gens[depth]? = some ⟨target, iter, ifs, 0⟩)
    (h0 : codeAny (model prog w) A (.compLoop (.ListComp elt gens scope pos) depth it acc env) R s)
    (h : wpAny (model prog w) A (pyIter it) (fun it' s' => codeAny (model prog w) A (.compLoop (.ListComp elt gens scope pos) depth it' acc env) R s') (notedBy (model prog w) A env fun x s' => R (.error x) s') s) :
    codeAny (model prog w) A (.compStart (.ListComp elt gens scope pos) depth it acc env) R s := by
  refine codeAny_of_tree ?_
  show wpAny _ _ ((compStart (.ListComp elt gens scope pos) depth it acc env).onRaise (fun x => do noteFrame x env; standAt theWindowsPlace)) _ _ s
  refine wpAny_notedAt ?_
  unfold compStart
  have hc : (clausesOf (.ListComp elt gens scope pos))[depth]? = some ⟨target, iter, ifs, 0⟩ := hg
  rw [hc]
  show wpAny _ _ (ask >>= _) _ _ s
  refine wpAny_bind (wpAny_askSetting (wpAny_ite ?_))
  split
  · first
      | exact wpAny_bind (wpAny_pure (wpAny_pure (And.intro rfl h0)))
      | exact wpAny_pure (And.intro rfl h0)
  · first
      | exact wpAny_bind (wpAny_rule (wpAny_bind (wpAny_standAt (wpAny_bind (wpAny_mono h (fun it' s' h' => wpAny_pure (And.intro rfl h')) fun _ _ x => x)))))
      | (refine wpAny_bind (wpAny_rule ?_); show wpAny _ _ (standAt iter.pos >>= _) _ _ s; exact wpAny_bind (wpAny_standAt (wpAny_bind (wpAny_mono h (fun it' s' h' => wpAny_pure (And.intro rfl h')) fun _ _ x => x))))

theorem gens_inner {FE : Expr → Den} {FB : Expr → DenB} {FI : Expr → Expr → Rho → Option (List Mine.D)} (hE : ∀ c, Ev prog w G hb n κ c (FE c)) (hB : ∀ c, EvB prog w G hb n κ c (FB c)) (hI : ∀ t c, noSet c = true → EvIt prog w G hb n κ t c true false (FI t c))
    {elt : Expr} {gens : List Comprehension} {scope : Scope} {pos : Pos} {A : Around} {env : Env} {wr : List Addr} {ov : List (Str × Addr)} {D : Addr} (Rm : Room A n) (hz : ∀ g ∈ gens, g.is_async = 0) :
    ∀ (gs : List Comprehension) (depth : Nat), gens.drop depth = gs → InnerOk prog w G hb n κ sto A env wr ov D (inner elt gens scope pos depth (.ref D) env) (dGens κ sto FE FB FI elt gs)
  | [], depth, hd => fun own ρ s acc ds E Q S F a e hc hQ => by
    have hg : gens[depth]? = none := by
      have := List.drop_eq_nil_iff.mp hd
      simpa using this
    unfold inner
    rw [hg]
    obtain ⟨⟨f1, d1⟩, e1, e⟩ := Option.bind_eq_some_iff.mp e
    split at e
    · cases e
    · rename_i hl
      cases e
      refine wpAny_bind (anyE (hE elt A env own ov ρ s f1 d1 Rm S e1 _ fun v h1 tk1 x1 r1 => ?_))
      have rv := r1.frz hl S.ltAll
      obtain ⟨vs, m, q, l, r⟩ := a.step (wr := []) (KL.ext x1) (fun _ hm => (nomatch hm)) (fun hm => (nomatch hm))
      have hz2 := r.length
      simp only [List.length_cons, List.length_nil] at hc
      have hsz : vs.size ≤ sizeLine := by have := cap_lt; simp at hz2; exact om_19 l hz2 this
      refine wpAny_bind (wpAny_list_append_plain (hsz := hsz) ⟨m, q⟩ fun h2 pl sb => wpAny_pure ?_)
      obtain ⟨m2, q2⟩ := pl
      have kp : Kept [D] h1 h2 := fun b o hb e => (sb.2 b (by simpa using hb)).trans e
      have S1 := S.ext x1
      have S2 := S1.iter (wrI := [D]) kp (fun b hb => by rw [List.mem_singleton.mp hb, q2]; rfl) (fun b hb => by rw [List.mem_singleton.mp hb]; exact F.dIn) (fun b hb => by rw [List.mem_singleton.mp hb]; exact F.dPl) (fun p hp hm => F.dOv p hp (List.mem_singleton.mp hm))
      have le2 : Le (Fz own h1) (Fz own h2) := fun b o e => Fz.of (Fz.get e).1 (kp b o (fun hm => (Fz.get e).1 (by rw [List.mem_singleton.mp hm]; exact F.dIn)) (Fz.get e).2)
      refine hQ h2 tk1 ⟨fun b o hb e => kp b o (fun hm => hb (by rw [List.mem_singleton.mp hm]; exact List.mem_cons_self)) (x1 b o e), fun b e => ?_⟩ S2 ⟨_, m2, q2, by simpa using hc, ?_⟩
      · by_cases hb : b ∈ [D]
        · rw [List.mem_singleton.mp hb, q2]; rfl
        · obtain ⟨o, e'⟩ := Option.isSome_iff_exists.mp (x1.some e)
          rw [kp b o hb e']; rfl
      · rw [Array.toList_push]
        exact (Reps.mono le2 _ r).append (Reps.single (Rep.mono le2 _ rv))
  | ⟨target, iter, ifs, z⟩ :: gs, depth, hd => fun own ρ s acc total E Q S F a e hc hQ => by
    have hlt : depth < gens.length := by
      rcases Nat.lt_or_ge depth gens.length with h | h
      · exact h
      · rw [List.drop_of_length_le h] at hd; cases hd
    rw [List.drop_eq_getElem_cons hlt] at hd
    obtain ⟨hg0, hd2⟩ := List.cons.inj hd
    have hg : gens[depth]? = some ⟨target, iter, ifs, z⟩ := by rw [List.getElem?_eq_getElem hlt, hg0]
    have hz0 : z = 0 := hz _ (List.mem_of_getElem? hg)
    subst hz0
    unfold dGens at e
    split at e
    · rename_i hcond
      obtain ⟨ds, e1, e⟩ := Option.bind_eq_some_iff.mp e
      unfold inner
      rw [hg]
      refine wpAny_bind (wpAny_mono (hI target iter hcond.2.1 A env own ov ρ s ds Rm S e1 (fun it s₂ => codeAny (model prog w) A (.compStart (.ListComp elt gens scope pos) depth it (.ref D) env) (fun r s' => match r with | .ok _ => Q () s' | .error e => cameBackBy (model prog w) A env E e s') s₂) ?_) (fun x s₁ h₁ => ?_) fun _ _ q => q.elim)
      · intro I fp wrI St h1 tk1 x1 T st0 hfresh hfpl hfpo hself
        have hS1 : Sim w G hb κ env (wrI ++ own) ov ρ h1 := S.more x1 fun a ha => ⟨hfresh a ha, hfpl a (T.sub a ha)⟩
        have hIo : ∀ a ∈ own, a ∉ wrI := fun a ha hm => isSome_none (S.ltAll a ha) (hfresh a hm)
        have acc1 : AccIs w (wrI ++ own) h1 D acc := by
          obtain ⟨vs, m, q, l, r⟩ := a
          exact ⟨vs, m, x1 _ _ q, l, Reps.mono (x1.fzNew fun a ha => (List.mem_append.mp ha).elim (fun q => .inr (hfresh a q)) .inl) _ r⟩
        have lp : ∀ tk, codeAny (model prog w) A (.compLoop (.ListComp elt gens scope pos) depth (.ref I) (.ref D) env) (fun r s' => match r with | .ok _ => Q () s' | .error e => cameBackBy (model prog w) A env E e s') { s with heap := h1, toks := tk } := fun tk =>
          comp_loop (FE := FE) (FI := FI) hB Rm hg (fun g' hg' => hz g' (List.mem_of_getElem? hg')) (gens_inner hE hB hI Rm hz gs (depth + 1) hd2) hcond.2.2 T (Le.refl _) st0 hfpl (fun b hb hm => hfpo rfl b hb (F.sub b hm)) hS1 F
            (fun b hb hm => hIo b (let ⟨vm, S⟩ := S; S.place hm) hb) (fun p hp hm => hIo _ (let ⟨vm, S⟩ := S; (S.ovIn p hp).1) hm) hIo acc1 rfl e hc fun h2 tk2 kp lv S2 a2 => hQ h2 tk2
              ⟨fun b o hb eb => kp b o (fun hm => (List.mem_append.mp hm).elim (fun q => by rw [hfresh b q] at eb; cases eb) hb) (x1 b o eb), fun b eb => lv b (fun hm => isSome_none eb (hfresh b hm)) (x1.some eb)⟩ S2 a2
        exact compStart_at hg (lp tk1) (hself rfl 0 _ _ _ st0 (lp tk1))
      · refine wpAny_bind (wpAny_standAt (wpAny_bind (wpAny_of_eq (noSet_fold hcond.2.1 x) (wpAny_bind (wpAny_holding (wpAny_mono h₁ (fun it s₂ h₂ => ?_) fun _ _ q => q.elim))))))
        refine wpAny_bind (wpAny_runOwn (codeAny_mono h₂ fun r s' hr => ?_))
        cases r with
        | ok f => exact wpAny_pure hr
        | error e => exact hr
    · cases e

theorem Sim.perm {env : Env} {own own' : List Addr} {ov : List (Str × Addr)} {ρ : Rho} {h : Heap} (S : Sim w G hb κ env own ov ρ h) (hp : ∀ a, a ∈ own ↔ a ∈ own') : Sim w G hb κ env own' ov ρ h := by
  obtain ⟨vm, S⟩ := S
  have e : Fz own' h = Fz own h := by
    funext a; unfold Fz
    by_cases q : a ∈ own
    · rw [if_pos q, if_pos ((hp a).mp q)]
    · rw [if_neg q, if_neg fun m => q ((hp a).mpr m)]
  refine ⟨vm, S.eo.keep (fun a q _ => (hp a).mp q) (fun _ _ _ q => q), S.kap, S.bas, S.ext, fun a ha => S.high a ((hp a).mpr ha), fun a ha => S.lt a ((hp a).mpr ha), fun x b hb => ?_, fun p hq => ⟨(hp _).mp (S.ovIn p hq).1, (S.ovIn p hq).2⟩, S.ovInj⟩
  obtain ⟨k, v, h1, h2⟩ := S.vars x b hb
  refine ⟨k, v, h1, ?_⟩
  cases b with
  | frz d => show Rep w (Fz own' h) d v; rw [e]; exact h2
  | own d => obtain ⟨a, o, q1, q2, q3, q4⟩ := h2; exact ⟨a, o, q1, q2, q3, by rw [e]; exact q4⟩

/-- the whole of a list comprehension -/
noncomputable def dComp (κ : Str → Option NameKind) (FI0 : Expr → Expr → Rho → Option (List Mine.D)) (FE : Expr → Den) (FB : Expr → DenB) (FI : Expr → Expr → Rho → Option (List Mine.D)) (elt : Expr) (gens : List Comprehension) (scope : Scope) (ρ : Rho) : Option (List Mine.D) :=
  match gens with
  | [] => none
  | g :: gs => if scopeOk scope κ = true ∧ (gens.all fun g => decide (g.is_async = 0)) = true ∧ noSet g.iter = true ∧ ((targetNames g.target).all fun x => (rhoC scope ρ x).isNone) = true then
      (FI0 g.target g.iter ρ).bind fun ds => (dTurns (dTurn (kapC scope κ) (stoC scope) FE FB FI elt g gs (rhoC scope ρ)) ds).bind fun out => if out.length ≤ cap then some out else none
    else none

theorem comp_core {FI0 FI : Expr → Expr → Rho → Option (List Mine.D)} {FE : Expr → Den} {FB : Expr → DenB} {scope : Scope} (hI0 : ∀ t c, noSet c = true → EvIt prog w G hb n κ t c true true (FI0 t c))
    (hE : ∀ c, Ev prog w G hb n (kapC scope κ) c (FE c)) (hB : ∀ c, EvB prog w G hb n (kapC scope κ) c (FB c)) (hI : ∀ t c, noSet c = true → EvIt prog w G hb n (kapC scope κ) t c true false (FI t c))
    {elt : Expr} {gens : List Comprehension} {pos : Pos} {A : Around} {env : Env} {own : List Addr} {ov : List (Str × Addr)} {ρ : Rho} {s : Shared} {E : Value → Shared → Prop} {out : List Mine.D} {use : Option (Value → Sem Unit)} {Q : Value → Shared → Prop} (Rm : Room A n)
    (S : Sim w G hb κ env own ov ρ s.heap) (e : dComp κ FI0 FE FB FI elt gens scope ρ = some out) (p1 : Pos)
    (hQ : ∀ D L m h' tk, Ext s.heap h' → s.heap.get? L = none → L ≠ D → h'.Ns L m → VRep w (L :: own) s.heap h' .fresh (.lst out) (.ref D) →
      match use with
      | none => ∀ h'', Heap.SameBut L h' h'' → Q (.ref D) { s with heap := h'', toks := tk }
      | some u => wpAny (model prog w) A (u (.ref D)) (fun _ s'' => ∃ m, s''.heap.Ns L m ∧ ∀ h'', Heap.SameBut L s''.heap h'' → Q .none { s'' with heap := h'' }) E { s with heap := h', toks := tk }) :
    wpAny (model prog w) A (comprehension (.ListComp elt gens scope pos) scope env p1 (newList []) (firstAsync gens) (firstIter gens env) use) Q E s := by
  unfold dComp at e
  split at e
  · cases e
  · rename_i g gs
    split at e
    · rename_i hc
      obtain ⟨hsc, hall, hns, hun⟩ := hc
      obtain ⟨ds, e1, e⟩ := Option.bind_eq_some_iff.mp e
      obtain ⟨out', e2, e⟩ := Option.bind_eq_some_iff.mp e
      split at e
      · rename_i hcap
        cases e
        obtain ⟨target, iter, ifs, z⟩ := g
        have hz : ∀ g' ∈ (⟨target, iter, ifs, z⟩ : Comprehension) :: gs, g'.is_async = 0 := fun g' hg' => of_decide_eq_true (List.all_eq_true.mp hall g' hg')
        have hz0 : z = 0 := hz _ List.mem_cons_self
        subst hz0
        have hsc' := hsc
        simp only [scopeOk, Bool.and_eq_true, beq_iff_eq, decide_eq_true_eq, List.all_eq_true, Bool.or_eq_true, Bool.not_eq_true', beq_eq_false_iff_ne, ne_eq] at hsc'
        obtain ⟨⟨hkind, hnod⟩, hfree⟩ := hsc'
        have hclos : closureFor scope env = pure (clos env.cells scope.names []) := closureFor_clos fun x hx => by
          obtain ⟨vm, S⟩ := S
          have := hfree _ hx
          simp only [not_true_eq_false, false_or] at this
          obtain ⟨c, h1, _⟩ := S.eo.cel x (by rw [S.kap]; exact this)
          exact ⟨c, h1⟩
        show wpAny _ _ (comprehension _ scope env p1 (newList []) false (eval iter env) use) _ _ _
        refine wpAny_comprehension_free rfl (noSet_fold hns) hclos hkind (fun x hx hl => lookup_nodup hnod (by rw [← hl]; exact hx)) ?_
        refine wpAny_mono (hI0 target iter hns A env own ov ρ s ds Rm S e1 (fun it s₂ => wpAny (model prog w) A (newList []) (fun acc s₃ =>
          wpAny (model prog w) A (newFunctionEnv scope env.globals (clos env.cells scope.names []) [] env.qual none .none (some env)) (fun cenv s₄ =>
            codeAny (model prog w) A (.compStart (.ListComp elt (⟨target, iter, ifs, 0⟩ :: gs) scope pos) 0 it acc { cenv with scope := relabel scope env }) (compPost (model prog w) A E use Q acc cenv.locals) s₄) E s₃) E s₂) ?_)
          (fun x s₁ h₁ => wpAny_mono h₁ (fun _ _ q => q) fun _ _ q => q.elim) fun _ _ q => q.elim
        intro I fp wrI St h1 tk1 x1 T st0 hfresh hfpl _ hself
        refine wpAny_newList ?_ (by decide)
        refine newCompFrame ?_
        generalize hH2 : h1.push { cls := .type "list", data := .seq ([] : List Value).toArray } = h2
        have x2 : Ext h1 h2 := by rw [← hH2]; exact Ext.push _ _
        have hD : h2.get? h1.objs.size = some { cls := .type "list", data := .seq ([] : List Value).toArray } := by rw [← hH2]; exact Heap.get?_push_size _ rfl
        generalize hDn : h1.objs.size = D at hD ⊢
        have hDnone1 : h1.get? D = none := by rw [← hDn]; exact get_size h1
        have hDnone : s.heap.get? D = none := x1.none hDnone1
        have hS1 : Sim w G hb κ env (wrI ++ own) ov ρ h1 := S.more x1 fun a ha => ⟨hfresh a ha, hfpl a (T.sub a ha)⟩
        have S2 : Sim w G hb κ env ([D] ++ (wrI ++ own)) ov ρ h2 := hS1.more x2 fun a ha => by rw [List.mem_singleton.mp ha]; exact ⟨hDnone1, by rw [hD]; rfl⟩
        obtain ⟨new, hnew, S3, W3, x3, hL⟩ := compFrame_sim S2 hsc
        generalize hLn : h2.objs.size = L at hL S3 W3 hnew x3 ⊢
        have hLnone2 : h2.get? L = none := by rw [← hLn]; exact get_size h2
        generalize hH3 : pushCells (h2.push { cls := .type "dict", data := .dict #[] }) scope.names = h3 at S3 W3 hnew x3 ⊢
        have hIo : ∀ a ∈ own, a ∉ wrI := fun a ha hm => isSome_none (S.ltAll a ha) (hfresh a hm)
        have hDI : D ∉ wrI := fun hm => isSome_none (hfpl D (T.sub D hm)) hDnone1
        have hnI : ∀ a ∈ new, a ∉ wrI := fun a ha hm => isSome_none (x2.some (hfpl a (T.sub a hm))) (hnew a ha).1
        have hnO : ∀ a ∈ new, s.heap.get? a = none := fun a ha => x1.none (x2.none (hnew a ha).1)
        have hDnew : D ∉ new := fun hm => by have := (hnew D hm).1; rw [hD] at this; cases this
        have S3' : Sim w G hb (kapC scope κ) (compFrame scope L env) (wrI ++ (new ++ ([D] ++ own))) ov (rhoC scope ρ) h3 := S3.perm fun a => by simp only [List.mem_append]; constructor <;> intro h <;> rcases h with h | h | h | h <;> simp [h]
        have hpl : ∀ a, isPlace (compFrame scope L env) a → a ∈ new ∨ isPlace env a := fun a ha => by
          rcases ha with ha | ⟨y, ha⟩
          · exact .inl (ha ▸ hL)
          · rcases List.mem_append.mp (mem_of_lookup ha) with q | q
            · have hc1 := cellsFrom_mem _ _ _ _ q
              have hy : stoC scope y = true := by simp [stoC, lookup_nodup hnod hc1]
              exact .inl (W3.cel y a hy ha)
            · rcases clos_mem env.cells scope.names [] y a (fun x hx => by
                obtain ⟨vm, S⟩ := S
                have := hfree _ hx
                simp only [not_true_eq_false, false_or] at this
                obtain ⟨c, h1, _⟩ := S.eo.cel x (by rw [S.kap]; exact this)
                exact ⟨c, h1⟩) q with q | q
              · cases q
              · exact .inr (.inr ⟨y, q.2⟩)
        have hplO : ∀ a, isPlace env a → a ∈ own := fun a ha => let ⟨vm, S⟩ := S; S.place ha
        have hovO : ∀ p ∈ ov, p.2 ∈ own := fun p hp => let ⟨vm, S⟩ := S; (S.ovIn p hp).1
        have F : CFrame (compFrame scope L env) (new ++ ([D] ++ own)) new (stoC scope) ov D := by
          refine ⟨⟨fun a ha => List.mem_append_left _ ha, W3.loc, W3.cel⟩, by simp, hDnew, fun q => ?_, fun p hp q => ?_⟩
          · rcases hpl D q with q | q
            · exact hDnew q
            · exact isSome_none (S.ltAll D (hplO D q)) hDnone
          · exact isSome_none (S.ltAll D (q ▸ hovO p hp)) hDnone
        have acc0 : AccIs w (wrI ++ (new ++ ([D] ++ own))) h3 D [] := ⟨#[], 0, x3 _ _ hD, Nat.zero_le _, by simp [Reps]⟩
        have T0 : St 0 h3 := T.frame _ _ _ st0 fun b _ o q => x3 b o (x2 b o q)
        have le0 : Le (Fz (wrI ++ own) h1) (Fz (wrI ++ (new ++ ([D] ++ own))) h3) := (x2.trans x3).fzNew fun a ha => by
          simp only [List.mem_append] at ha
          rcases ha with q | q | q | q
          · exact .inl (List.mem_append_left _ q)
          · exact .inr (x2.none (hnew a q).1)
          · rw [List.mem_singleton.mp q]; exact .inr hDnone1
          · exact .inl (List.mem_append_right _ q)
        have lp : ∀ tk, codeAny (model prog w) A (.compLoop (.ListComp elt (⟨target, iter, ifs, 0⟩ :: gs) scope pos) 0 (.ref I) (.ref D) (compFrame scope L env)) (compPost (model prog w) A E use Q (.ref D) L) { s with heap := h3, toks := tk } := fun tk => by
          refine comp_loop (FE := FE) (FI := FI) (acc := []) hB Rm rfl (fun g' hg' => hz g' (List.mem_of_getElem? hg')) (gens_inner hE hB hI Rm hz gs 1 rfl) hun T le0 T0 (fun b hb => x3.some (x2.some (hfpl b hb))) (fun b hb hm => ?_) S3' F
            (fun b hb q => ?_) (fun p hp hm => hIo _ (hovO p hp) hm) (fun a ha => ?_) acc0 rfl e2 (by simpa using hcap) fun h4 tk4 kp lv S4 a4 => ?_
          · rcases List.mem_cons.mp hm with rfl | hm
            · exact isSome_none (hfpl b hb) hDnone1
            · exact isSome_none (x2.some (hfpl b hb)) (hnew b hm).1
          · rcases hpl b q with q | q
            · exact hnI b q hb
            · exact hIo b (hplO b q) hb
          · simp only [List.mem_append] at ha
            rcases ha with q | q | q
            · exact hnI a q
            · rw [List.mem_singleton.mp q]; exact hDI
            · exact hIo a q
          · have x4 : Ext s.heap h4 := fun a o q => kp a o (fun hm => by
              have : s.heap.get? a = none := by
                rcases List.mem_append.mp hm with q2 | q2
                · exact hfresh a q2
                · rcases List.mem_cons.mp q2 with rfl | q2
                  · exact hDnone
                  · exact hnO a q2
              rw [this] at q; cases q) (x3 a o (x2 a o (x1 a o q)))
            have hns : ∃ m, h4.Ns L m := by
              obtain ⟨vm, S4⟩ := S4
              obtain ⟨m, q, _⟩ := S4.eo.loc
              exact ⟨m, q⟩
            obtain ⟨m, hns⟩ := hns
            have hLD : L ≠ D := fun q => hDnew (q ▸ hL)
            have vr : VRep w (L :: own) s.heap h4 .fresh (.lst out) (.ref D) := by
              obtain ⟨vs, m4, q4, l4, r4⟩ := a4
              refine ⟨D, _, rfl, hDnone, q4, ?_⟩
              simp only [ORep]
              refine ⟨⟨trivial, trivial, trivial⟩, vs, m4, rfl, by simpa using l4, Reps.mono (Fz.fewer fun a ha => ?_) _ (by simpa using r4)⟩
              rcases List.mem_cons.mp ha with rfl | ha
              · simp
              · rcases List.mem_cons.mp ha with rfl | ha
                · exact List.mem_append_left _ hL
                · simp [ha]
            have q := hQ D L m h4 tk4 x4 (hnO L hL) hLD hns vr
            cases use with
            | none => exact ⟨m, hns, fun h' sb => q h' sb⟩
            | some u => exact q
        exact compStart_at (gens := ⟨target, iter, ifs, 0⟩ :: gs) (depth := 0) rfl (lp tk1) (hself rfl 0 _ _ _ T0 (lp tk1))
      · cases e
    · cases e
end
end Mine
end
section
open PySem PySem.W PyProof.Rows PySem.Spec
set_option maxRecDepth 100000
namespace Mine

section
variable {prog : Program} {w : World} {G : Str → Option Value} {hb : Heap} {n : Nat} {κ : Str → Option NameKind} {sto : Str → Bool}

theorem ev_comp {FI0 FI : Expr → Expr → Rho → Option (List Mine.D)} {FE : Expr → Den} {FB : Expr → DenB} {scope : Scope} (hI0 : ∀ t c, noSet c = true → EvIt prog w G hb n κ t c true true (FI0 t c))
    (hE : ∀ c, Ev prog w G hb n (kapC scope κ) c (FE c)) (hB : ∀ c, EvB prog w G hb n (kapC scope κ) c (FB c)) (hI : ∀ t c, noSet c = true → EvIt prog w G hb n (kapC scope κ) t c true false (FI t c))
    {elt : Expr} {gens : List Comprehension} {pos : Pos} : Ev prog w G hb n κ (.ListComp elt gens scope pos) (fun ρ => (dComp κ FI0 FE FB FI elt gens scope ρ).map fun out => (.fresh, .lst out)) :=
  fun A env own ov ρ s fl d R S e Q hQ => by
    obtain ⟨out, e1, e⟩ := Option.map_eq_some_iff.mp e
    cases e
    rw [eval_ListComp]
    refine comp_core (use := none) hI0 hE hB hI R S e1 _ fun D L m h' tk x1 hL hLD hns vr h'' sb => ?_
    have x2 : Ext s.heap h'' := fun a o q => (sb.2 a (fun e => by rw [e, hL] at q; cases q)).trans (x1 a o q)
    obtain ⟨a, o, e2, h2, h3, h4⟩ := vr
    cases e2
    refine hQ _ h'' tk x2 ⟨D, o, rfl, h2, (sb.2 D hLD.symm).trans h3, h4.mono fun a o q => ?_⟩
    have q2 := Fz.get q
    simp only [List.mem_cons, not_or] at q2
    exact Fz.of (by simp only [List.mem_cons, not_or]; exact ⟨q2.1.1, q2.1.2.2⟩) ((sb.2 a q2.1.2.1).trans q2.2)

/-- is the value handed straight to the name -/
noncomputable def swapsB (κ : Str → Option NameKind) (x : Str) (p : Pos) (scope : Scope) (vp : Pos) : Bool := κ x == some .local && p.line == vp.line && !(scope.names.any fun q => q.1 == x && (q.2 == .local || q.2 == .cell))
theorem swaps_comp {env : Env} {elt : Expr} {gens : List Comprehension} {scope : Scope} {pos p : Pos} {x : Str} {l : Nat} (hf : env.scope.kind = .function) (hk : ∀ x, env.kindOf x = κ x) :
    swapsWith (.ListComp elt gens scope pos) (some (.Name x p)) l env = pure (swapsB κ x p scope pos) := by
  have hb : (env.blockKind == ScopeKind.function) = true := by
    unfold Env.blockKind
    rw [hf]; rfl
  show (pure (env.blockKind == .function && env.kindOf x == some .local && p.line == pos.line && !(scope.names.any fun (n, k) => n == x && (k == .local || k == .cell))) : Sem Bool) = _
  rw [hb, hk]
  simp [swapsB]

noncomputable def dAssignC (κ : Str → Option NameKind) (sto mu : Str → Bool) (x : Str) (p : Pos) (scope : Scope) (vp : Pos) (f : Rho → Option (List Mine.D)) : DenS := fun ρ =>
  (f ρ).bind fun out => (dPut κ sto mu x (.fresh, .lst out) ρ).map fun ρ' => (.next, ρ')

theorem ex_assignC {FI0 FI : Expr → Expr → Rho → Option (List Mine.D)} {FE : Expr → Den} {FB : Expr → DenB} {scope : Scope} (hI0 : ∀ t c, noSet c = true → EvIt prog w G hb n κ t c true true (FI0 t c))
    (hE : ∀ c, Ev prog w G hb n (kapC scope κ) c (FE c)) (hB : ∀ c, EvB prog w G hb n (kapC scope κ) c (FB c)) (hI : ∀ t c, noSet c = true → EvIt prog w G hb n (kapC scope κ) t c true false (FI t c))
    {elt : Expr} {gens : List Comprehension} {pos p spos : Pos} {x : Str} {mu : Str → Bool} :
    Ex prog w G hb n κ sto (.Assign [.Name x p] (.ListComp elt gens scope pos) spos) (dAssignC κ sto mu x p scope pos (dComp κ FI0 FE FB FI elt gens scope)) :=
  fun A env own wr ov ρ s E fl ρ' R S W O e Q hQ => by
    obtain ⟨out, e1, e⟩ := Option.bind_eq_some_iff.mp e
    obtain ⟨ρ1, e2, e⟩ := Option.map_eq_some_iff.mp e
    cases e
    have hsw : swapsWith (.ListComp elt gens scope pos) (some (.Name x p)) spos.line env = pure (swapsB κ x p scope pos) := by
      obtain ⟨vm, S⟩ := S
      exact swaps_comp S.eo.fn S.kap
    cases hsb : swapsB κ x p scope pos with
    | false =>
      rw [hsb] at hsw
      refine wpAny_Assign_Name (anyE (ev_comp hI0 hE hB hI A env own ov ρ s .fresh (.lst out) R S (by show Option.map _ (dComp κ FI0 FE FB FI elt gens scope ρ) = _; rw [e1]; rfl) _ fun v h1 tk1 x1 r1 => ?_)) hsw
      exact S.put (s := { s with heap := h1, toks := tk1 }) W O x1 r1 e2 fun h' tk own' wr' ov' st S' W' O' P' => hQ .next h' tk own' wr' ov' st S' W' O' ⟨rfl, P'⟩
    | true =>
      rw [hsb] at hsw
      rw [exec_Assign_Name_used _ _ _ _ hsw]
      refine wpAny_bind (wpAny_standAt (wpAny_bind ?_))
      show wpAny _ A (do let _ ← comprehension (.ListComp elt gens scope pos) scope env _ (newList []) (firstAsync gens) (firstIter gens env) (some (assign (.Name x p) env))) _ _ s
      refine wpAny_bind (wpAny_mono (comp_core (use := some (assign (.Name x p) env)) (Q := fun _ s' => Q .next s') hI0 hE hB hI R S e1 _ fun D L m h' tk x1 hL hLD hns vr => ?_) (fun _ s' hq => wpAny_pure (wpAny_pure hq)) fun _ _ q => q)
      obtain ⟨a, o, e3, hD, h3, h4⟩ := vr
      cases e3
      have hLlive : (h'.get? L).isSome = true := by obtain ⟨o, es, ep, q, _⟩ := id hns; rw [q]; rfl
      have hov0 := (let ⟨vm, S⟩ := S; S.ovIn : ∀ p ∈ ov, p.2 ∈ own ∧ ¬ isPlace env p.2)
      have hinj0 := (let ⟨vm, S⟩ := S; S.ovInj : (ov.map (·.2)).Nodup)
      have plO : ∀ a, isPlace env a → a ∈ own := fun a ha => let ⟨vm, S⟩ := S; S.place ha
      have hLpl : ¬ isPlace env L := fun q => isSome_none (S.ltAll L (plO L q)) hL
      have hDpl : ¬ isPlace env D := fun q => isSome_none (S.ltAll D (plO D q)) hD
      have hDo : D ∉ own := fun q => isSome_none (S.ltAll D q) hD
      have hLo : L ∉ own := fun q => isSome_none (S.ltAll L q) hL
      have fin : ∀ (own2 : List Addr) (ov' : List (Str × Addr)) h2 tk2, Sim w G hb κ env (L :: own2) ov' ρ' h2 → (∀ a ∈ own2, a ∈ own ∨ a = D) → (∀ a ∈ own, a ∈ own2) → (∀ p ∈ ov', p.2 ∈ own2) → (∀ p ∈ ov', p.2 ∈ (if D ∈ own2 then D :: wr else wr)) →
          (∀ a, ¬ isPlace env a → h2.get? a = h'.get? a) → (∀ a, (h'.get? a).isSome = true → (h2.get? a).isSome = true) → (∀ a o, a ∉ wr → s.heap.get? a = some o → h2.get? a = some o) → Pin sto ov ov' →
          ∃ m, h2.Ns L m ∧ ∀ h'', Heap.SameBut L h2 h'' → Q .next { s with heap := h'', toks := tk2 } := by
        intro own2 ov' h2 tk2 S2 ho1 ho2 hov hovw hsame hlv hkeep hpin
        obtain ⟨om, es, ep, q1, q2⟩ := id hns
        refine ⟨m, ⟨om, es, ep, by rw [hsame L hLpl]; exact q1, q2⟩, fun h'' sb => ?_⟩
        have hLo2 : L ∉ own2 := fun q => (ho1 L q).elim hLo hLD
        have S3 : Sim w G hb κ env own2 ov' ρ' h'' := S2.drop (wrI := [L]) (fun a o hn q => (sb.2 a (by simpa using hn)).trans q) (fun b hb => by rw [List.mem_singleton.mp hb]; exact List.mem_cons_self) (fun b hb => by rw [List.mem_singleton.mp hb]; exact hLpl)
          (fun p hp hm => hLo2 (List.mem_singleton.mp hm ▸ hov p hp)) (fun a ha => ⟨List.mem_cons_of_mem _ ha, fun hm => hLo2 (List.mem_singleton.mp hm ▸ ha)⟩) fun a ha hn => (List.mem_cons.mp ha).elim (fun q => absurd (by rw [q]; exact List.mem_cons_self) hn) id
        refine hQ .next h'' tk2 own2 (if D ∈ own2 then D :: wr else wr) ov' ⟨fun a o ha q => (sb.2 a (fun e => by rw [e, hL] at q; cases q)).trans (hkeep a o ha q), fun a q => ?_, fun a ha => (ho1 a ha).elim .inl fun q => .inr (q ▸ hD), fun a ha => ?_, fun a ha => .inl (ho2 a ha)⟩ S3 ⟨fun a ha => ?_, ?_, fun y c hy hc => ?_⟩ hovw ⟨rfl, hpin⟩
        · rw [sb.2 a (fun e => isSome_none q (by rw [e]; exact hL))]; exact hlv a (x1.some q)
        · split at ha
          · exact (List.mem_cons.mp ha).elim (fun q => .inr (q ▸ hD)) .inl
          · exact .inl ha
        · split at ha
          · rename_i hm; exact (List.mem_cons.mp ha).elim (fun q => q ▸ hm) fun q => ho2 a (W.sub a q)
          · exact ho2 a (W.sub a ha)
        · split
          · exact List.mem_cons_of_mem _ W.loc
          · exact W.loc
        · split
          · exact List.mem_cons_of_mem _ (W.cel y c hy hc)
          · exact W.cel y c hy hc
      unfold dPut at e2
      split at e2
      · rename_i hk
        simp only at e2
        split at e2
        · cases e2
          have S2 : Sim w G hb κ env ([L, D] ++ own) ov ρ h' := S.more x1 fun a ha => by
            rcases List.mem_cons.mp ha with rfl | ha
            · exact ⟨hL, hLlive⟩
            · rw [List.mem_singleton.mp ha]; exact ⟨hD, by rw [h3]; rfl⟩
          refine wpAny_assign_Name (S2.bind (s := { s with heap := h', toks := tk }) (ov' := (x, D) :: ov) (b := .own (.lst out)) hk.1 (fun p hp => ?_) ?_ (fun y hy => ?_) ⟨D, o, rfl, by simp, h3, h4.mono (Fz.fewer fun a ha => by simp at ha ⊢; rcases ha with h | h | h <;> simp [h])⟩ fun h2 tk2 p hp hpo sb lv S3 => ?_)
          · rcases List.mem_cons.mp hp with rfl | hp
            · exact ⟨by simp, hDpl⟩
            · exact ⟨List.mem_append_right _ (hov0 p hp).1, (hov0 p hp).2⟩
          · rw [List.map_cons, List.nodup_cons]
            refine ⟨fun hm => ?_, hinj0⟩
            obtain ⟨p, hp, q⟩ := List.mem_map.mp hm
            exact hDo (by have q' := (hov0 p hp).1; rw [q] at q'; exact q')
          · have : (y == x) = false := by simpa using hy
            rw [List.lookup_cons, this]
          · have hpp : isPlace env p := hp.elim .inl fun q => .inr ⟨x, q⟩
            have hpw : p ∈ wr := hp.elim (fun q => q ▸ W.loc) fun q => W.cel x p hk.2 q
            exact fin (D :: own) ((x, D) :: ov) h2 tk2 S3 (fun a ha => (List.mem_cons.mp ha).elim .inr .inl) (fun a ha => List.mem_cons_of_mem _ ha)
              (fun q hq => (List.mem_cons.mp hq).elim (fun e => e ▸ List.mem_cons_self) fun hq => List.mem_cons_of_mem _ (hov0 q hq).1)
              (fun q hq => by rw [if_pos List.mem_cons_self]; exact (List.mem_cons.mp hq).elim (fun e => e ▸ List.mem_cons_self) fun hq => List.mem_cons_of_mem _ (O q hq))
              (fun a ha => sb.2 a (fun e => ha (e ▸ hpp))) lv (fun a o' ha q => (sb.2 a (fun e => ha (e ▸ hpw))).trans (x1 a o' q)) (Pin.cons hk.2)
        · cases e2
          have S2 : Sim w G hb κ env ([L] ++ own) ov ρ h' := S.more x1 fun a ha => by rw [List.mem_singleton.mp ha]; exact ⟨hL, hLlive⟩
          have rr : Rep w (Fz ([L] ++ own) h') (.lst out) (.ref D) := Rep.of_obj (Fz.of (by simp only [List.mem_append, List.mem_singleton, not_or]; exact ⟨hLD.symm, hDo⟩) h3) (h4.mono (Fz.fewer fun a ha => by simp at ha ⊢; rcases ha with h | h <;> simp [h]))
          refine wpAny_assign_Name (S2.bind (s := { s with heap := h', toks := tk }) (ov' := ov) (b := .frz (.lst out)) hk.1 (fun p hp => ⟨List.mem_append_right _ (hov0 p hp).1, (hov0 p hp).2⟩) hinj0 (fun _ _ => rfl) rr fun h2 tk2 p hp hpo sb lv S3 => ?_)
          have hpp : isPlace env p := hp.elim .inl fun q => .inr ⟨x, q⟩
          have hpw : p ∈ wr := hp.elim (fun q => q ▸ W.loc) fun q => W.cel x p hk.2 q
          exact fin own ov h2 tk2 S3 (fun a ha => .inl ha) (fun a ha => ha) (fun q hq => (hov0 q hq).1) (fun q hq => by rw [if_neg hDo]; exact O q hq)
            (fun a ha => sb.2 a (fun e => ha (e ▸ hpp))) lv (fun a o' ha q => (sb.2 a (fun e => ha (e ▸ hpw))).trans (x1 a o' q)) (Pin.refl _ _)
      · cases e2
end
end Mine
end
section
open PySem PySem.W PyProof.Rows PySem.Spec
set_option maxRecDepth 100000
namespace Mine

/-! ## Writes to what is one's own -/
def PutV (d e f r : D) : Prop := (∃ ds k, d = .lst ds ∧ e = .int k ∧ (0 ≤ k ∧ k.toNat < ds.length) ∧ r = .lst (ds.set k.toNat f)) ∨ (∃ ks ds k, d = .idict ks ds ∧ e = .int k ∧ (putK ks ds k f).1.length ≤ cap ∧ r = .idict (putK ks ds k f).1 (putK ks ds k f).2) ∨
  (∃ ks ds k, d = .tdict ks ds ∧ keyOf e = some k ∧ (putK ks ds k f).1.length ≤ cap ∧ r = .tdict (putK ks ds k f).1 (putK ks ds k f).2)
noncomputable def putB : (d e f : D) → { r : Option D // ∀ r', r = some r' → PutV d e f r' }
  | .lst ds, .int k, f => ⟨if 0 ≤ k ∧ k.toNat < ds.length then some (.lst (ds.set k.toNat f)) else none, fun r h => .inl ⟨ds, k, rfl, rfl, (if_of h).1, (Option.some.inj (if_of h).2).symm⟩⟩
  | .idict ks ds, .int k, f => ⟨if (putK ks ds k f).1.length ≤ cap then some (.idict (putK ks ds k f).1 (putK ks ds k f).2) else none, fun r h => .inr (.inl ⟨ks, ds, k, rfl, rfl, (if_of h).1, (Option.some.inj (if_of h).2).symm⟩)⟩
  | .tdict ks ds, e, f => ⟨(keyOf e).bind fun k => if (putK ks ds k f).1.length ≤ cap then some (.tdict (putK ks ds k f).1 (putK ks ds k f).2) else none, fun r h => by
      obtain ⟨k, h1, h2⟩ := Option.bind_eq_some_iff.mp h; exact .inr (.inr ⟨ks, ds, k, rfl, h1, (if_of h2).1, (Option.some.inj (if_of h2).2).symm⟩)⟩
  | _, _, _ => ⟨none, fun _ h => (nomatch h)⟩
noncomputable def putD (d e f : D) : Option D := (putB d e f).1
theorem putD_lst (ds : List D) (k : Int) (f : D) : putD (.lst ds) (.int k) f = if 0 ≤ k ∧ k.toNat < ds.length then some (.lst (ds.set k.toNat f)) else none := rfl
theorem putD_idict (ks : List Int) (ds : List D) (k : Int) (f : D) : putD (.idict ks ds) (.int k) f = if (putK ks ds k f).1.length ≤ cap then some (.idict (putK ks ds k f).1 (putK ks ds k f).2) else none := rfl
theorem putD_tdict (ks : List (List Scal)) (ds : List D) (e f : D) : putD (.tdict ks ds) e f = (keyOf e).bind fun k => if (putK ks ds k f).1.length ≤ cap then some (.tdict (putK ks ds k f).1 (putK ks ds k f).2) else none := rfl

theorem Reps.set {w : World} {g : Part} {d : D} {v : Value} : ∀ {ds : List D} {vs : List Value} (i : Nat), Reps w g ds vs → Rep w g d v → Reps w g (ds.set i d) (vs.set i v)
  | [], _, _, x, _ => by simp only [Reps] at x; subst x; simp [Reps]
  | _ :: _, _, 0, x, y => by
    simp only [Reps] at x
    obtain ⟨u, us, rfl, q, r⟩ := x
    simp only [List.set_cons_zero, Reps]
    exact ⟨v, us, rfl, y, r⟩
  | _ :: _, _, i + 1, x, y => by
    simp only [Reps] at x
    obtain ⟨u, us, rfl, q, r⟩ := x
    simp only [List.set_cons_succ, Reps]
    exact ⟨u, _, rfl, q, Reps.set i r y⟩

section
variable {prog : Program} {w : World} {A : Around} {E : Value → Shared → Prop} {s : Shared} {n : Nat}

theorem setItem_plain {l : Addr} {items : Array Value} {m : Nat} {k : Int} {t : Tok} {v : Value} {Q : Unit → Shared → Prop} (ho : s.heap.get? l = some { cls := .type "list", dict := none, data := .seq items m, slots := #[] })
    (h0 : 0 ≤ k) (hfit : k < 2 ^ 63) (hn : k < items.size)
    (hQ : ∀ h' m', Heap.SameBut l s.heap h' → h'.get? l = some { cls := .type "list", dict := none, data := .seq (items.setIfInBounds k.toNat v) m', slots := #[] } → Q () { s with heap := h' }) :
    wpAny (model prog w) A (setItem (.ref l) (.int k t) v) Q E s := by
  have hl : s.heap.IsList l items := ⟨_, ho, rfl, m, rfl⟩
  unfold setItem
  try with_reducible refine wpAny_holding ?_
  first | refine wpAny_bind (wpAny_pure ?_) | skip
  refine wpAny_bind (wpAny_sequenceKey hl.typeIs (by decide) ?_)
  refine wpAny_bind (wpAny_callSpecial?_slot (name := Str.ofString "__setitem__") hl.typeIs slot_list_setitem
    (wpAny_call_entry slot_list_setitem hl.typeIs entry_list_setitem ?_ (args_list_setitem _ _ _)))
  show wpAny _ _ (Builtin.List.listSubscript? (.int k t) >>= _) _ _ s
  refine wpAny_bind (wpAny_listSubscript_int (fitsIndex_of h0 hfit) ?_)
  clear hfit
  obtain ⟨j, rfl⟩ := Int.eq_ofNat_of_zero_le h0
  have hj : j < items.size := by exact om_57 hn
  have hx' : items[j]? = some items[j] := Array.getElem?_eq_getElem hj
  show wpAny _ _ ((seqItemAt l j >>= fun r => pure (r.map (j, ·))) >>= _) _ _ s
  refine wpAny_bind (wpAny_bind (wpAny_seqItemAt ho rfl (wpAny_pure ?_)))
  rw [hx']
  show wpAny _ _ (setSeqItemAt l j v >>= _) _ _ s
  have hfin := hQ (s.heap.update l (Obj.mapSeq (·.setIfInBounds j v))) (if (items.setIfInBounds j v).size = items.size then m else m + 1) (Heap.SameBut.update ..) (by
    rw [Heap.get?_update_self _ ho (by simp [Obj.mapSeq, Obj.isFreed])]
    simp [Obj.mapSeq])
  refine wpAny_bind (wpAny_setSeqItemAt ho rfl ?_)
  first
    | exact wpAny_bind (wpAny_pure (wpAny_pure ⟨.none, rfl, wpAny_pure hfin⟩))
    | exact wpAny_pure ⟨.none, rfl, wpAny_pure hfin⟩

/-- a[e] = f, a one's own -/
theorem op_setItem {g : Part} {a : Addr} {o : Obj} {d e f d' : D} {u v : Value} {Q : Unit → Shared → Prop} (r : Room A n) (hg : Le g s.heap.get?) (ho : s.heap.get? a = some o) (x : ORep w g a o d) (y : Rep w g e u) (z : Rep w g f v)
    (hf : putD d e f = some d')
    (h : ∀ h' o' tk, Heap.SameBut a s.heap h' → h'.get? a = some o' → ORep w g a o' d' → Q () { s with heap := h', toks := tk }) : wpAny (model prog w) A (setItem (.ref a) u v) Q E s := by
  rcases (putB d e f).2 d' hf with ⟨ds, k, rfl, rfl, hk, rfl⟩ | ⟨ks, ds, k, rfl, rfl, hk, rfl⟩ | ⟨ks, ds, k, rfl, hk, hc, rfl⟩
  · ·
      simp only [Rep] at y
      obtain ⟨t, rfl⟩ := y
      simp only [ORep] at x
      obtain ⟨c, vs, m, dd, l, r⟩ := x
      have hz := r.length
      obtain ⟨oc, od, odt, os⟩ := o
      simp only at c dd
      obtain ⟨rfl, rfl, rfl⟩ := c
      subst dd
      refine setItem_plain ho hk.1 (by have : cap = 200 := rfl; omega) (by simp at hz; exact om_58 hk hz) fun h' m' sb q => h h' _ _ sb q ?_
      simp only [ORep]
      exact ⟨⟨trivial, trivial, trivial⟩, _, _, rfl, by simpa using l, by simpa using r.set k.toNat z⟩
  · ·
      simp only [Rep] at y
      obtain ⟨t, rfl⟩ := y
      have hne : a ≠ sysModules := by simp only [ORep] at x; obtain ⟨c, _⟩ := x; exact c.1
      obtain ⟨vs, hm, rr, hl, hs, hcap, _⟩ := idict_of (prog := prog) ho x
      have hdl := rr.length
      refine wpAny_setItem_pairs (knd := intKind prog w) (k := k) (by simp [intKind, Value.isInt]) hm (fun h' hm' sb => ?_) (by rw [List.length_zip]; have := cap_lt; exact om_59 hcap this)
      rw [stored_putK ks vs k v hl] at hm'
      have hput : (putK ks vs k v).1 = (putK ks ds k f).1 := by unfold putK; split <;> rfl
      have rr' : Reps w g (putK ks ds k f).2 (putK ks vs k v).2 := by
        unfold putK
        split
        · exact rr.setK z
        · exact rr.append (Reps.single z)
      obtain ⟨o', q, ro⟩ := idict_back (prog := prog) (w := w) hm' (putK_length hl) rr' (by rw [hput]; exact hk) hne
      rw [hput] at ro
      exact h h' o' _ sb q ro
  · ·
      have hne : a ≠ sysModules := by simp only [ORep] at x; exact x.1.1
      have ky := y.key hk
      obtain ⟨c, rfl, hi⟩ := KeyAt.is (prog := prog) (w := w) hg ky
      obtain ⟨xs, hm, rfl, rr, hke, hs, hcap⟩ := tdict_of (prog := prog) hg ho x
      refine wpAny_setItem_heap (tupleKind_room_in1 (by have := r.un; exact om_6 this)) hi hm (fun h' hm' sb => ?_) (by have := cap_lt; simp at hcap; exact om_60 this hcap)
      obtain ⟨e1, e2⟩ := storedH_putK xs k c v
      have hput : (putK (xs.map (·.1)) (xs.map (·.2.2)) k v).1 = (putK (xs.map (·.1)) ds k f).1 := by unfold putK; split <;> rfl
      have rr' : Reps w g (putK (xs.map (·.1)) ds k f).2 ((storedH xs k c v).map (·.2.2)) := by
        rw [e2]
        unfold putK
        split
        · exact rr.setK z
        · exact rr.append (Reps.single z)
      have hlen : (storedH xs k c v).length ≤ cap := by
        have : (storedH xs k c v).length = ((storedH xs k c v).map (·.1)).length := by simp
        rw [this, e1, hput]; exact hc
      obtain ⟨o', q, ro⟩ := tdict_back (prog := prog) (w := w) hm' rr' (storedH_keyAt hke ky) hlen hne
      rw [e1, hput] at ro
      exact h h' o' _ sb q ro
end
end Mine
end
section
open PySem PySem.W PyProof.Rows PySem.Spec PySem.SeqAt
set_option maxRecDepth 100000
namespace Mine

section
variable {prog : Program} {w : World} {G : Str → Option Value} {hb : Heap} {n : Nat} {κ : Str → Option NameKind} {sto : Str → Bool}

/-! ## Methods -/
theorem few_ok {es : List Expr} {pos : Pos} {env : Env} (hp : plainL es = true) (hl : es.length < 29) :
    ((backTo pos (starEach es env)).all (fun x => !x.1) && (backToKw pos (keywordEach [] env)).all (fun x => x.1.isSome) && decide (es.length + ([] : List Keyword).length + (if ([] : List Keyword).isEmpty then 0 else 1) < 30)) = true := by
  have h1 : (backTo pos (starEach es env)).all (fun x => !x.1) = true := by
    have := plain_any es pos env hp
    rw [List.any_eq_false] at this
    rw [List.all_eq_true]
    intro x hx
    have := this x hx
    simpa using this
  rw [h1, show (backToKw pos (keywordEach [] env)).all (fun x => x.1.isSome) = true from rfl]
  simp only [Bool.true_and, List.length_nil, List.isEmpty_nil, if_true, decide_eq_true_eq]
  exact om_61 hl

/-- o.name(e, ..) of a built-in class, its own object and its arguments run -/
theorem method_run {A : Around} {s : Shared} {env : Env} {own : List Addr} {ov : List (Str × Addr)} {ρ : Rho} {o e : Expr} {es : List Expr} {name : Str} {T id : String} {apos pos : Pos} {fs : DenL} {xs : List (Fl × D)} {Q : Value → Shared → Prop}
    (R : Room A n) (hbase : plainBase o = true) (hp : plainL (e :: es) = true) (hlen : (e :: es).length < 29) (hline : (apos.endLine == pos.line) = true) (hs : EvL prog w G hb n κ (e :: es) fs) (hf : fs ρ = some xs)
    (pa : PlainAttrs T) (slot : Slot T name id) (hty : typeOf (.builtin id) = pure (.type "method_descriptor"))
    (h : wpAny (model prog w) A (eval o env) (fun ov' s₁ => Ext s.heap s₁.heap ∧ Sim w G hb κ env own ov ρ s₁.heap ∧ s₁.TypeIs ov' T ∧ (∀ a, ov' = .ref a → ∃ ob, s₁.heap.get? a = some ob ∧ ob.dict = none) ∧
      ∀ vs h' tk, Ext s₁.heap h' → VReps w own s₁.heap h' xs vs → wpAny (model prog w) A (call (.builtin id) (ov' :: vs)) Q NoE { s₁ with heap := h', toks := tk }) NoE s) :
    wpAny (model prog w) A (eval (.Call (.Attribute o name apos) (e :: es) [] pos) env) Q NoE s := by
  refine wpAny_Call_method_late (base_plain hbase) (few_ok hp hlen) hline rfl (wpAny_mono h (fun ov' s₁ h₁ => ?_) fun _ _ q => q)
  obtain ⟨_, S, hT, hd, hc⟩ := h₁
  refine ⟨T, id, pa, slot, hty, hT, hd, ?_⟩
  have hp' := hp
  simp only [plainL, List.all_cons, Bool.and_eq_true, Bool.not_eq_true'] at hp'
  refine Calls.callWith_builtin (plain_any (e :: es) pos env hp) ?_
  have hsp := hs A env own ov ρ s₁ pos xs R S hf (fun vs s₂ => wpAny (model prog w) A (call (.builtin id) (ov' :: vs)) Q NoE s₂) hc
  rw [starEach_plain hp'.1] at hsp ⊢
  exact Calls.evalArgs_plain (wpAny_mono hsp (fun vs s₂ q => q) fun _ _ q => q)

/-- what a method of a built-in class answers -/
def MethOk (name : Str) (d : D) (xs : List (Fl × D)) (r : Option (Fl × D)) : Prop := ∀ (f : Fl) (d' : D), r = some (f, d') → ∃ T id, PlainAttrs T ∧ Slot T name id ∧ typeOf (.builtin id) = pure (.type "method_descriptor") ∧
    (∀ (w : World) (own : List Addr) (h₀ h : Heap) (f1 : Fl) (v : Value), VRep w own h₀ h f1 d v → ∃ a o, v = .ref a ∧ h.get? a = some o ∧ o.cls = .type T ∧ o.dict = none) ∧
    ∀ (prog : Program) (w : World) (A : Around) (s : Shared) (n : Nat) (own : List Addr) (h₀ h₁ : Heap) (f1 : Fl) (v : Value) (vs : List Value) (Q : Value → Shared → Prop), Room A n → VRep w own h₀ s.heap f1 d v → VReps w own h₁ s.heap xs vs →
      (∀ v h' tk, Ext s.heap h' → VRep w own h₀ h' f d' v → Q v { s with heap := h', toks := tk }) → wpAny (model prog w) A (call (.builtin id) (v :: vs)) Q NoE s
theorem meth_no {name : Str} {d : D} {xs : List (Fl × D)} : MethOk name d xs none := fun _ _ e => (nomatch e)
--[01
noncomputable def getD2 (ks : List (List Scal)) (ds : List D) (k : List Scal) (d : D) : Option (Fl × D) := match getK ks ds k with
  | some x => if x.comp = false then some (.frozen, x) else none
  | none => some (.frozen, d)
theorem meth_get {f2 f3 : Fl} {ks : List (List Scal)} {ds : List D} {e0 d0 : D} : MethOk "get" (.tdict ks ds) [(f2, e0), (f3, d0)] ((keyOf e0).bind fun k => if d0.comp = false then getD2 ks ds k d0 else none) := fun f d' e => by
  obtain ⟨k, hk, e⟩ := Option.bind_eq_some_iff.mp e
  by_cases hflat : d0.comp = false
  · have e := (if_pos hflat).symm.trans e
    refine ⟨_, _, F.plainAttrs_dict, F.slot_dict_get, F.type_dict_get, fun w own h₀ h f1 v r => ?_, fun prog w A s n own h₀ h₁ f1 v vs Q R r1 r2 h => ?_⟩
    · obtain ⟨a, o, rfl, p, ro⟩ := r.obj rfl
      simp only [ORep] at ro
      exact ⟨a, o, rfl, p, ro.1.2.1, ro.1.2.2.1⟩
    · obtain ⟨u, u', rfl, r3, r4⟩ := vreps2 r2
      obtain ⟨a, o, rfl, p, ro⟩ := r1.obj rfl
      have ky := r3.any.key hk
      obtain ⟨c, rfl, hi⟩ := KeyAt.is (prog := prog) (w := w) (h := s.heap) (Le.refl _) ky
      obtain ⟨xs', hm, rfl, rr, hke, hsy, _⟩ := tdict_of (prog := prog) (Fz.le _ _) p ro
      refine call_meetsIn F.slot_dict_get hm.typeIs F.entry_dict_get (F.args_dict_get_3 _ _ _) (meetsH_dict_get_default (tk prog w) a c hsy u') ⟨tupleKind_room_in1 (by have := R.un; exact om_6 this), k, xs', hi, hm, ?_⟩
      unfold getD2 at e
      cases hx : getK (xs'.map (·.1)) ds k with
      | some x =>
        rw [hx] at e
        by_cases hxf : x.comp = false
        · have e := (if_pos hxf).symm.trans e
          cases e
          obtain ⟨v2, g1, g2⟩ := rr.getK hx
          rw [atKey_getK, g1]
          exact h v2 s.heap _ (Ext.refl _) (VRep.flat (h₀ := h₀) (fl := .frozen) hxf (show Rep w (Fz own s.heap) _ _ from g2))
        · cases (if_neg hxf).symm.trans e
      | none =>
        rw [hx] at e
        cases e
        have g1 : getK (xs'.map (·.1)) (xs'.map (·.2.2)) k = none := by
          have hz := rr.length
          exact (getK_none (by simp)).mpr ((getK_none (by simpa using hz)).mp hx)
        rw [atKey_getK, g1]
        exact h u' s.heap _ (Ext.refl _) (VRep.flat hflat r4)
  · cases (if_neg hflat).symm.trans e
theorem VRep.fit {w : World} {own : List Addr} {h₀ h : Heap} {fl : Fl} {d e : D} {v : Value} (hd : d.comp = true) (x : VRep w own h₀ h fl d v) : VRep w own h₀ h fl (fitD d e) v := by
  cases fl with
  | frozen =>
    obtain ⟨a, o, rfl, q, r⟩ := Rep.obj (by cases d <;> first | trivial | cases hd) (show Rep w (Fz own h) d v from x)
    exact Rep.of_obj q r.fit
  | loose => obtain ⟨a, o, h1, h2, r⟩ := x; exact ⟨a, o, h1, h2, r.fit⟩
  | fresh => obtain ⟨a, o, h1, h2, h3, r⟩ := x; exact ⟨a, o, h1, h2, h3, r.fit⟩
theorem meth_fit {name : Str} {xs : List (Fl × D)} {d e : D} {r : Option (Fl × D)} (hd : d.comp = true) (h : MethOk name (fitD d e) xs r) : MethOk name d xs r := fun f d' q => by
  obtain ⟨T, id, h1, h2, h3, h4, h5⟩ := h f d' q
  exact ⟨T, id, h1, h2, h3, fun w own h₀ h f1 v x => h4 w own h₀ h f1 v (x.fit hd), fun prog w A s n own h₀ h₁ f1 v vs Q R x => h5 prog w A s n own h₀ h₁ f1 v vs Q R (x.fit hd)⟩
--]
theorem meth_if {name x : Str} {d : D} {xs : List (Fl × D)} {r : Option (Fl × D)} (h : MethOk x d xs r) : MethOk name d xs (if name = x then r else none) := by
  by_cases q : name = x
  · rw [if_pos q, q]; exact h
  · rw [if_neg q]; exact meth_no
noncomputable def methB (name : Str) : (d : D) → (xs : List (Fl × D)) → { r : Option (Fl × D) // MethOk name d xs r }
--[01
  | .tdict ks ds, [(_, e), (_, d)] => ⟨if name = "get" then (keyOf e).bind fun k => if d.comp = false then getD2 ks ds k d else none else none, meth_if meth_get⟩
  | .idict [] [], [(_, .tup es), (_, d)] => ⟨if name = "get" then (keyOf (.tup es)).bind fun k => if d.comp = false then getD2 [] [] k d else none else none, meth_if (meth_fit (e := .tup es) rfl meth_get)⟩
--]
  | _, _ => ⟨none, meth_no⟩
noncomputable def methD (name : Str) (d : D) (xs : List (Fl × D)) : Option (Fl × D) := (methB name d xs).1
--[01
theorem methD_get (name : Str) (ks : List (List Scal)) (ds : List D) (f g : Fl) (e d : D) : methD name (.tdict ks ds) [(f, e), (g, d)] = if name = "get" then (keyOf e).bind fun k => if d.comp = false then getD2 ks ds k d else none else none := rfl
theorem methD_get0 (name : Str) (f g : Fl) (es : List D) (d : D) : methD name (.idict [] []) [(f, .tup es), (g, d)] = if name = "get" then (keyOf (.tup es)).bind fun k => if d.comp = false then getD2 [] [] k d else none else none := rfl
--]
noncomputable def dMeth (o : Expr) (name : Str) (es : List Expr) (apos pos : Pos) (fo : Den) (fs : DenL) : Den := fun ρ =>
  if plainBase o && plainL es && decide (es.length < 29) && (apos.endLine == pos.line) then (fo ρ).bind fun x => (fs ρ).bind fun xs => methD name x.2 xs else none

theorem ev_meth {o e : Expr} {es : List Expr} {name : Str} {apos pos : Pos} {fo : Den} {fs : DenL} (ho : Ev prog w G hb n κ o fo) (hs : EvL prog w G hb n κ (e :: es) fs) : Ev prog w G hb n κ (.Call (.Attribute o name apos) (e :: es) [] pos) (dMeth o name (e :: es) apos pos fo fs) :=
  fun A env own ov ρ s f d R S q Q hQ => by
    by_cases hc : (plainBase o && plainL (e :: es) && decide ((e :: es).length < 29) && (apos.endLine == pos.line)) = true
    · obtain ⟨⟨f1, d1⟩, e1, q⟩ := Option.bind_eq_some_iff.mp ((if_pos hc).symm.trans q)
      obtain ⟨xs, e2, q⟩ := Option.bind_eq_some_iff.mp q
      simp only [Bool.and_eq_true, decide_eq_true_eq] at hc
      obtain ⟨T, id, pa, sl, ty, hT, hm⟩ := (methB name d1 xs).2 f d q
      refine method_run R hc.1.1.1 hc.1.1.2 hc.1.2 hc.2 hs e2 pa sl ty (ho A env own ov ρ s f1 d1 R S e1 _ fun v h1 tk1 x1 r1 => ⟨x1, S.ext x1, ?_, fun a ea => ?_, fun vs h2 tk2 x2 r2 => ?_⟩)
      · obtain ⟨a, o', rfl, p, c, _⟩ := hT w own s.heap h1 f1 v r1
        exact ⟨o', p, c⟩
      · obtain ⟨a', o', e', p, _, dn⟩ := hT w own s.heap h1 f1 v r1
        rw [e'] at ea; cases ea
        exact ⟨o', p, dn⟩
      · exact hm prog w A { s with heap := h2, toks := tk2 } n own s.heap h1 f1 v vs Q R (r1.ext x2) r2 fun u h3 tk3 x3 r3 => hQ u h3 tk3 ((x1.trans x2).trans x3) r3
    · cases (if_neg hc).symm.trans q

/-! ## A value of two sides -/
noncomputable def dAndV (fl fr : Den) : Den := fun ρ => (fl ρ).bind fun x => (blOf x.2).bind fun b => if b then fr ρ else some (.frozen, .bool false)
theorem ev_andV {l r : Expr} {pos : Pos} {fl fr : Den} (hl : Ev prog w G hb n κ l fl) (hr : Ev prog w G hb n κ r fr) : Ev prog w G hb n κ (.BoolOp .And [l, r] pos) (dAndV fl fr) :=
  fun A env own ov ρ s f d R S q Q hQ => by
    obtain ⟨⟨f1, d1⟩, e1, q⟩ := Option.bind_eq_some_iff.mp q
    rw [arm_eval_BoolOp]
    show wpAny _ _ (do
      let v ← eval l env
      standAt pos
      let t ← holding [v] (truthy v)
      match BoolOp.And, t with
      | .And, false | .Or, true => pure v
      | _, _ => eval r env) _ _ _
    obtain ⟨b, hbl, z⟩ := Option.bind_eq_some_iff.mp q
    clear q
    have q := z
    clear z
    obtain rfl := blOf_some hbl
    refine wpAny_bind (hl A env own ov ρ s f1 _ R S e1 _ fun v h1 tk1 x1 r1 => wpAny_bind (wpAny_standAt ?_))
    have r1 := r1.any
    simp only [Rep] at r1
    subst r1
    refine wpAny_bind (wpAny_holding (wpAny_truthy_bool ?_))
    cases b with
    | true =>
      exact hr A env own ov ρ _ f d R (S.ext x1) q _ fun v h2 tk2 x2 r2 => hQ v h2 tk2 (x1.trans x2) (r2.lower x1)
    | false =>
      cases q
      exact wpAny_pure (hQ _ h1 tk1 x1 vrep_bool)
end
end Mine
end
section
open PySem PySem.W PyProof.Rows PySem.Spec PySem.SeqAt
set_option maxRecDepth 100000
namespace Mine

section
variable {prog : Program} {w : World} {G : Str → Option Value} {hb : Heap} {n : Nat} {κ : Str → Option NameKind} {sto : Str → Bool}

/-- a variable's own object -/
theorem Sim.ownAt {env : Env} {own : List Addr} {ov : List (Str × Addr)} {ρ : Rho} {x : Str} {d : D} {h : Heap} (S : Sim w G hb κ env own ov ρ h) (hx : ρ x = some (.own d)) :
    ∃ a o, ov.lookup x = some a ∧ h.get? a = some o ∧ ORep w (Fz own h) a o d ∧ a ∈ own ∧ ∀ (A : Around) (E : Value → Shared → Prop) (s : Shared) (p : Pos) (Q : Value → Shared → Prop), s.heap = h → okName x = true → Q (.ref a) s → wpAny (model prog w) A (eval (.Name x p) env) Q E s := by
  obtain ⟨vm, S⟩ := S
  obtain ⟨k, v, h1, a, o, rfl, h2, h3, h4⟩ := S.vars x _ hx
  refine ⟨a, o, h2, h3, h4, (S.ovIn _ (mem_of_lookup h2)).1, fun A E s p Q hs hn hq => ?_⟩
  subst hs
  exact S.eo.name (by rw [S.kap]; exact k) hn h1 hq

theorem Sim.mutate {env : Env} {own wr : List Addr} {ov : List (Str × Addr)} {ρ : Rho} {x : Str} {a : Addr} {o' : Obj} {d' : D} {h h' : Heap} (S : Sim w G hb κ env own ov ρ h) (O : ∀ p ∈ ov, p.2 ∈ wr) (hk : isV (κ x) = true) (ha : ov.lookup x = some a) (hv : ∃ d, ρ x = some (.own d))
    (sb : Heap.SameBut a h h') (q : h'.get? a = some o') (r : ORep w (Fz own h) a o' d') : Sim w G hb κ env own ov (upd ρ x (.own d')) h' ∧ Step own wr h own wr h' := by
  obtain ⟨vm, S⟩ := S
  have hm := mem_of_lookup ha
  have hin := (S.ovIn _ hm).1
  have hpl := (S.ovIn _ hm).2
  have live : ∀ b, (h.get? b).isSome = true → (h'.get? b).isSome = true := fun b e => SameBut.live sb (by rw [q]; rfl) e
  have lef : Le (Fz own h) (Fz own h') := fun b o e => Fz.of (Fz.get e).1 (by rw [sb.2 b (fun z => (Fz.get e).1 (z ▸ hin))]; exact (Fz.get e).2)
  refine ⟨⟨vm, S.eo.keep (fun _ z _ => z) (fun b hb o e => by rw [sb.2 b (fun z => hpl (z ▸ hb))]; exact e), S.kap, S.bas, fun b o e => ?_, S.high, fun b hb => live b (S.lt b hb), fun y b hy => ?_, S.ovIn, S.ovInj⟩,
    fun b o hb e => by rw [sb.2 b (fun z => hb (z ▸ O _ hm))]; exact e, live, fun _ z => .inl z, fun _ z => .inl z, fun _ z => .inl z⟩
  · rw [sb.2 b (fun z => by have := S.high a hin; rw [z, this] at e; cases e)]; exact S.ext b o e
  · unfold upd at hy
    split at hy
    · rename_i e
      subst e
      cases hy
      obtain ⟨d, hd⟩ := hv
      obtain ⟨k, v, h1, a2, o2, rfl, h2, _, _⟩ := S.vars y _ hd
      rw [ha] at h2
      cases h2
      exact ⟨k, .ref a, h1, a, o', rfl, ha, q, r.mono lef⟩
    · rename_i hne
      obtain ⟨k, v, h1, h2⟩ := S.vars y b hy
      refine ⟨k, v, h1, ?_⟩
      cases b with
      | frz d => exact Rep.mono lef d h2
      | own d =>
        obtain ⟨a2, o2, q1, q2, q3, q4⟩ := h2
        refine ⟨a2, o2, q1, q2, ?_, q4.mono lef⟩
        have hne2 : a2 ≠ a := fun z => by
          subst z
          have m2 := mem_of_lookup q2
          exact hne (map_inj_of_nodup S.ovInj m2 hm)
        rw [sb.2 a2 hne2]; exact q3
where
  map_inj_of_nodup {l : List (Str × Addr)} {x y : Str} {a : Addr} (hn : (l.map (·.2)).Nodup) (h1 : (x, a) ∈ l) (h2 : (y, a) ∈ l) : x = y := by
    induction l with
    | nil => cases h1
    | cons p l ih =>
      rw [List.map_cons, List.nodup_cons] at hn
      rcases List.mem_cons.mp h1 with e1 | e1 <;> rcases List.mem_cons.mp h2 with e2 | e2
      · rw [← e1] at e2; exact (Prod.mk.inj e2).1.symm
      · exact absurd (List.mem_map.mpr ⟨_, e2, by rw [← e1]⟩) hn.1
      · exact absurd (List.mem_map.mpr ⟨_, e1, by rw [← e2]⟩) hn.1
      · exact ih hn.2 e1 e2

/-- the value of a store: frozen -/
noncomputable def dFrz (f : Den) : Rho → Option D := fun ρ => (f ρ).bind fun x => if x.1 = .loose then none else some x.2
theorem dFrz_some {f : Den} {ρ : Rho} {d : D} (e : dFrz f ρ = some d) : ∃ fl, f ρ = some (fl, d) ∧ fl ≠ .loose := by
  obtain ⟨⟨fl, d'⟩, e1, e⟩ := Option.bind_eq_some_iff.mp e
  split at e
  · cases e
  · rename_i h; cases e; exact ⟨fl, e1, h⟩

noncomputable def ownB : Bd → Option D
  | .own d => some d
  | .frz _ => none
noncomputable def frzB : Bd → Option D
  | .own _ => none
  | .frz d => some d
noncomputable def ownOf (ρ : Rho) (x : Str) : Option D := (ρ x).bind ownB
theorem ownOf_some {ρ : Rho} {x : Str} {d : D} (e : ownOf ρ x = some d) : ρ x = some (.own d) := by
  obtain ⟨b, h, e⟩ := Option.bind_eq_some_iff.mp e
  cases b with
  | own d => cases e; exact h
  | frz d => cases e
theorem own_at {ρ : Rho} {x : Str} {d : D} (h : ρ x = some (.own d)) : ownOf ρ x = some d := by unfold ownOf; rw [h]; rfl
theorem own_frz {ρ : Rho} {x : Str} {d : D} (h : ρ x = some (.frz d)) : ownOf ρ x = none := by unfold ownOf; rw [h]; rfl

/-! ## x[i] = v -/
noncomputable def dStore (κ : Str → Option NameKind) (x : Str) (fi : Den) (v : D) (ρ : Rho) : Option Rho :=
  if isV (κ x) && okName x then (dFrz fi ρ).bind fun k => (ownOf ρ x).bind fun d => (putD (fitD d k) k v).map fun d' => upd ρ x (.own d') else none
theorem asn_store {A : Around} {E : Value → Shared → Prop} {s : Shared} {env : Env} {own wr : List Addr} {ov : List (Str × Addr)} {ρ ρ' : Rho} {x : Str} {p p2 : Pos} {i : Expr} {fi : Den} {v : Value} {d : D} {Q : Unit → Shared → Prop} (R : Room A n) (hi : Ev prog w G hb n κ i fi)
    (S : Sim w G hb κ env own ov ρ s.heap) (W : Wr env own wr sto) (O : ∀ p ∈ ov, p.2 ∈ wr) (r : Rep w (Fz own s.heap) d v) (e : dStore κ x fi d ρ = some ρ')
    (h : ∀ h' tk, Step own wr s.heap own wr h' → Sim w G hb κ env own ov ρ' h' → (∀ b, (∀ p ∈ ov, p.2 ≠ b) → (s.heap.get? b).isSome = true → h'.get? b = s.heap.get? b) → Q () { s with heap := h', toks := tk }) :
    wpAny (model prog w) A (assign (.Subscript (.Name x p) i p2) env v) Q E s := by
  unfold dStore at e
  split at e
  · rename_i hx
    simp only [Bool.and_eq_true] at hx
    obtain ⟨k, e1, e⟩ := Option.bind_eq_some_iff.mp e
    obtain ⟨d0, e2, e⟩ := Option.bind_eq_some_iff.mp e
    obtain ⟨d', e3, e⟩ := Option.map_eq_some_iff.mp e
    subst e
    obtain ⟨fk, e1, hl⟩ := dFrz_some e1
    have hown := ownOf_some e2
    obtain ⟨a, o, ha, hao, hr, hin, rd⟩ := S.ownAt (prog := prog) hown
    rw [assign_Subscript]
    refine wpAny_bind (wpAny_holding (rd _ _ _ _ _ rfl hx.2 (wpAny_bind (wpAny_holding (anyE (hi A env own ov ρ s fk k R S e1 _ fun u h1 tk1 x1 r1 => ?_))))))
    refine wpAny_bind (wpAny_standAt (wpAny_bind (wpAny_holding ?_)))
    have S1 := S.ext x1
    refine op_setItem (s := { s with heap := h1, toks := tk1 }) (g := Fz own h1) R (Fz.le _ _) (x1 _ _ hao) (hr.mono x1.fz).fit (r1.frz hl S.ltAll) (Rep.mono x1.fz _ r) e3 fun h2 o2 tk2 sb q ro => ?_
    obtain ⟨S2, st2⟩ := S1.mutate O hx.1 ha ⟨_, hown⟩ sb q ro
    exact wpAny_release (h h2 tk2 ((Step.of_ext x1).trans S.ltAll st2) S2 fun b hb hl => by
      obtain ⟨ob, eb⟩ := Option.isSome_iff_exists.mp hl
      rw [sb.2 b (fun q => hb _ (mem_of_lookup ha) q.symm), x1 b ob eb, eb])
  · cases e

theorem swaps_sub {value o i : Expr} {p2 : Pos} {l : Nat} {env : Env} : swapsWith value (some (.Subscript o i p2)) l env = pure false := by cases value <;> rfl
noncomputable def dSetSub (κ : Str → Option NameKind) (x : Str) (fi fv : Den) : DenS := fun ρ => (dFrz fv ρ).bind fun v => (dStore κ x fi v ρ).map fun ρ' => (.next, ρ')
theorem ex_setSub {x : Str} {p p2 pos : Pos} {i value : Expr} {fi fv : Den} (hi : Ev prog w G hb n κ i fi) (hv : Ev prog w G hb n κ value fv) : Ex prog w G hb n κ sto (.Assign [.Subscript (.Name x p) i p2] value pos) (dSetSub κ x fi fv) :=
  fun A env own wr ov ρ s E fl ρ' R S W O e Q hQ => by
    obtain ⟨v, e1, e⟩ := Option.bind_eq_some_iff.mp e
    obtain ⟨ρ1, e2, e⟩ := Option.map_eq_some_iff.mp e
    cases e
    obtain ⟨f1, e1, hl⟩ := dFrz_some e1
    rw [exec_Assign_Subscript _ _ _ _ _ swaps_sub]
    refine wpAny_bind (wpAny_standAt (wpAny_bind (anyE (hv A env own ov ρ s f1 v R S e1 _ fun u h1 tk1 x1 r1 => ?_))))
    refine wpAny_bind (asn_store (s := { s with heap := h1, toks := tk1 }) R hi (S.ext x1) W O (r1.frz hl S.ltAll) e2 fun h2 tk2 st2 S2 _ => wpAny_pure ?_)
    exact hQ .next h2 tk2 own wr ov ((Step.of_ext x1).trans S.ltAll st2) S2 W O ⟨rfl, Pin.refl _ _⟩

/-! ## x[i] += v -/
noncomputable def nlB : (e : Expr) → { b : Bool // b = true → ∀ (ov iv new : Value), augStore e ov iv new = (do holding [new, ov, iv] (setItem ov iv new); release [new, ov, iv] []; pure .next) }
  | .Constant c0 k0 p0 => ⟨true, fun _ _ _ _ => rfl⟩
  | .Name x0 p0 => ⟨true, fun _ _ _ _ => rfl⟩
  | _ => ⟨false, fun h => (nomatch h)⟩
noncomputable def noSlice (e : Expr) : Bool := (nlB e).1
theorem augStore_plain {i : Expr} (h : noSlice i = true) (ov iv new : Value) : augStore i ov iv new = (do holding [new, ov, iv] (setItem ov iv new); release [new, ov, iv] []; pure .next) := (nlB i).2 h ov iv new
noncomputable def dAugSub (κ : Str → Option NameKind) (x : Str) (i : Expr) (fi fv : Den) : DenS := fun ρ =>
  if isV (κ x) && okName x && noSlice i then (dFrz fi ρ).bind fun k => (ownOf ρ x).bind fun d => (itemD (fitD d k) k).bind fun old => (dFrz fv ρ).bind fun v => (itOf old).bind fun a => (itOf v).bind fun b => (putD (fitD d k) k (.int (a + b))).map fun d' => (.next, upd ρ x (.own d'))
  else none
theorem ex_augSub {x : Str} {p p2 pos : Pos} {i value : Expr} {fi fv : Den} (hi : Ev prog w G hb n κ i fi) (hv : Ev prog w G hb n κ value fv) : Ex prog w G hb n κ sto (.AugAssign (.Subscript (.Name x p) i p2) .Add value pos) (dAugSub κ x i fi fv) :=
  fun A env own wr ov ρ s E fl ρ' R S W O e Q hQ => by
    unfold dAugSub at e
    split at e
    · rename_i hx
      simp only [Bool.and_eq_true] at hx
      obtain ⟨k, e1, e⟩ := Option.bind_eq_some_iff.mp e
      obtain ⟨d0, e2, e⟩ := Option.bind_eq_some_iff.mp e
      obtain ⟨old, e3, e⟩ := Option.bind_eq_some_iff.mp e
      obtain ⟨v, e4, e⟩ := Option.bind_eq_some_iff.mp e
      obtain ⟨a, hla, e⟩ := Option.bind_eq_some_iff.mp e
      obtain ⟨b, hlb, e⟩ := Option.bind_eq_some_iff.mp e
      obtain rfl := itOf_some hla
      obtain rfl := itOf_some hlb
      · obtain ⟨d', e5, e⟩ := Option.map_eq_some_iff.mp e
        cases e
        obtain ⟨fk, e1, hl⟩ := dFrz_some e1
        obtain ⟨fv', e4, hl4⟩ := dFrz_some e4
        have hown := ownOf_some e2
        obtain ⟨ad, o, ha, hao, hr, hin, rd⟩ := S.ownAt (prog := prog) hown
        refine wpAny_AugAssign_SubscriptAny (rd _ _ _ _ _ rfl hx.1.2 (anyE (hi A env own ov ρ s fk k R S e1 _ fun u h1 tk1 x1 r1 => ?_))) (augStore_plain hx.2)
        have S1 := S.ext x1
        have key : ∀ v' tk', Rep w (Fz own h1) (.int a) v' → wpAny (model prog w) A (eval value env) (fun v s₄ => wpAny (model prog w) A (inplaceOp .Add v' v) (fun new s₅ => wpAny (model prog w) A (setItem (.ref ad) u new) (fun _ => Q .next) E s₅) E s₄) E { s with heap := h1, toks := tk' } := by
          intro v' tk' r'
          simp only [Rep] at r'
          obtain ⟨t, rfl⟩ := r'
          refine anyE (hv A env own ov ρ { s with heap := h1, toks := tk' } fv' _ R S1 e4 _ fun v2 h2 tk2 x2 r2 => ?_)
          have r2 := r2.any
          simp only [Rep] at r2
          obtain ⟨t2, rfl⟩ := r2
          refine P.iadd_int ?_
          have S2 := S1.ext x2
          have x12 := x1.trans x2
          refine op_setItem (s := { s with heap := h2, toks := tk2 + 1 }) (g := Fz own h2) R (Fz.le _ _) (x12 _ _ hao) (hr.mono x12.fz).fit (Rep.mono x2.fz _ (r1.frz hl S.ltAll)) (by simp only [Rep]; exact ⟨_, rfl⟩) e5 fun h3 o3 tk3 sb q ro => ?_
          obtain ⟨S3, st3⟩ := S2.mutate O hx.1.1 ha ⟨_, hown⟩ sb q ro
          exact hQ .next h3 tk3 own wr ov ((Step.of_ext x12).trans S.ltAll st3) S3 W O ⟨rfl, Pin.refl _ _⟩
        obtain ⟨T, id, _, _, hg⟩ := op_item (s := { s with heap := h1, toks := tk1 }) (E := E) R (Fz.le own h1) (x1 _ _ hao) (hr.mono x1.fz).fit r1.any e3
          (Q := fun old s₃ => wpAny (model prog w) A (eval value env) (fun v s₄ => wpAny (model prog w) A (inplaceOp .Add old v) (fun new s₅ => wpAny (model prog w) A (setItem (.ref ad) u new) (fun _ => Q .next) E s₅) E s₄) E s₃) key
        exact hg
    · cases e

/-! ## x += v -/
noncomputable def dAugName (κ : Str → Option NameKind) (sto : Str → Bool) (x : Str) (fv : Den) : DenS := fun ρ =>
  if (okT κ sto x && okName x) = true then (ρ x).bind fun c => (frzB c).bind fun d => (itOf d).bind fun a => (fv ρ).bind fun y => (itOf y.2).map fun b => (.next, upd ρ x (.frz (.int (a + b)))) else none
theorem ex_augName {x : Str} {p pos : Pos} {value : Expr} {fv : Den} (hv : Ev prog w G hb n κ value fv) : Ex prog w G hb n κ sto (.AugAssign (.Name x p) .Add value pos) (dAugName κ sto x fv) :=
  fun A env own wr ov ρ s E fl ρ' R S W O e Q hQ => by
        obtain ⟨hx, q1⟩ := if_of e
        clear e
        simp only [Bool.and_eq_true] at hx
        obtain ⟨c, hρ, q2⟩ := Option.bind_eq_some_iff.mp q1
        clear q1
        obtain ⟨d, hc, q3⟩ := Option.bind_eq_some_iff.mp q2
        clear q2
        obtain ⟨a, hd, q4⟩ := Option.bind_eq_some_iff.mp q3
        clear q3
        obtain ⟨⟨f1, d1⟩, e1, q5⟩ := Option.bind_eq_some_iff.mp q4
        clear q4
        obtain ⟨b, hl, z⟩ := Option.map_eq_some_iff.mp q5
        clear q5
        obtain rfl := itOf_some hd
        obtain rfl := itOf_some hl
        obtain rfl : c = .frz (.int a) := by
          cases c with
          | own d => cases hc
          | frz d => exact congrArg Bd.frz (Option.some.inj hc)
        cases z
        have hk := okT_kinds hx.1
        obtain ⟨vm, S0⟩ := id S
        obtain ⟨k, v, h1, h2⟩ := S0.vars x _ hρ
        have h2 : Rep w (Fz own s.heap) (.int a) v := h2
        simp only [Rep] at h2
        obtain ⟨t, rfl⟩ := h2
        refine wpAny_AugAssign_Name (S0.eo.load (by rw [S0.kap]; exact k) hx.2 h1 (anyE (hv A env own ov ρ s f1 _ R S e1 _ fun u h2 tk2 x2 r2 => ?_)))
        have r2 := r2.any
        simp only [Rep] at r2
        obtain ⟨t2, rfl⟩ := r2
        refine P.iadd_int ?_
        have S1 := S.ext x2
        refine S1.bind (s := { s with heap := h2, toks := tk2 + 1 }) (ov' := ov) (b := .frz (.int (a + b))) hk.1 (let ⟨vm, S'⟩ := S1; S'.ovIn) (let ⟨vm, S'⟩ := S1; S'.ovInj) (fun _ _ => rfl) (by show Rep w _ _ _; simp only [Rep]; exact ⟨_, rfl⟩) fun h' tk p hp hpo sb lv S2 => ?_
        exact hQ .next h' tk own wr ov ((Step.of_ext x2).trans S.ltAll (W.step hk.2 hp sb lv)) S2 W O ⟨rfl, Pin.refl _ _⟩
end
end Mine
end
section
open PySem PySem.W PyProof.Rows PySem.Spec PySem.SeqAt
set_option maxRecDepth 100000
namespace Mine

section
variable {prog : Program} {w : World} {G : Str → Option Value} {hb : Heap} {n : Nat} {κ : Str → Option NameKind} {sto : Str → Bool}

/-! ## x.append(v), x.insert(i, v) -/
theorem Sim.noninteractive {env : Env} {own : List Addr} {ov : List (Str × Addr)} {ρ : Rho} {h : Heap} (S : Sim w G hb κ env own ov ρ h) : interactive env = false := by
  obtain ⟨vm, S⟩ := S
  unfold interactive
  rw [S.eo.fn]; rfl
theorem swaps_none {value : Expr} {l : Nat} {env : Env} (h : notComp value = true) : swapsWith value none l env = pure false := swaps_not h

noncomputable def appD (d v : D) : Option D := (lsOf d).bind fun ds => if ds.length + 1 ≤ cap then some (.lst (ds ++ [v])) else none
noncomputable def dAppend (κ : Str → Option NameKind) (x : Str) (e : Expr) (apos pos : Pos) (fv : Den) : DenS := fun ρ =>
  if isV (κ x) && okName x && !isStarred e && (apos.endLine == pos.line) then (dFrz fv ρ).bind fun v => (ownOf ρ x).bind fun d => (appD d v).map fun d' => (.next, upd ρ x (.own d')) else none
theorem ex_append {x : Str} {p apos pos spos : Pos} {e : Expr} {fv : Den} {name : Str} (hn : name = "append") (hv : Ev prog w G hb n κ e fv) : Ex prog w G hb n κ sto (.Expr (.Call (.Attribute (.Name x p) name apos) [e] [] pos) spos) (dAppend κ x e apos pos fv) :=
  fun A env own wr ov ρ s E fl ρ' R S W O q Q hQ => by
    subst hn
    unfold dAppend at q
    split at q
    · rename_i hc
      simp only [Bool.and_eq_true, Bool.not_eq_true'] at hc
      obtain ⟨v, e1, q⟩ := Option.bind_eq_some_iff.mp q
      obtain ⟨d0, e2, q⟩ := Option.bind_eq_some_iff.mp q
      obtain ⟨d', e3, q⟩ := Option.map_eq_some_iff.mp q
      cases q
      obtain ⟨ds, hls, e3b⟩ := Option.bind_eq_some_iff.mp e3
      obtain ⟨hcap, e3c⟩ := if_of e3b
      clear e3 e3b
      obtain rfl := lsOf_some hls
      · · cases e3c
          obtain ⟨f1, e1, hl⟩ := dFrz_some e1
          have hown := ownOf_some e2
          obtain ⟨a, o, ha, hao, hr, hin, rd⟩ := S.ownAt (prog := prog) hown
          have hs := evl_cons (n := n) hv (evl_nil (prog := prog) (w := w) (G := G) (hb := hb) (n := n) (κ := κ))
          have e4 : dCons e fv dNil ρ = some [(f1, v)] := by unfold dCons; rw [if_neg (by simp [hc.1.2]), e1]; rfl
          simp only [ORep] at hr
          obtain ⟨⟨c1, c2, c3⟩, vs, m, dd, l, r⟩ := hr
          refine wpAny_Expr (anyE (method_run R rfl (by simp [plainL, hc.1.2]) (by simp) hc.2 hs e4 PySem.F.plainAttrs_list PySem.F.slot_list_append PySem.F.type_list_append
            (rd _ _ _ _ _ rfl hc.1.1.2 ⟨Ext.refl _, S, ⟨o, hao, c1⟩, fun a' ea => by cases ea; exact ⟨o, hao, c2⟩, fun us h1 tk1 x1 r1 => ?_⟩))) S.noninteractive (swaps_none rfl)
          obtain ⟨u, rfl, r2⟩ := vreps1 r1
          have hz := r.length
          obtain ⟨oc, od, odt, os⟩ := o
          simp only at c1 c2 c3 dd
          subst c1 c2 c3 dd
          have S1 := S.ext x1
          refine wpAny_list_append_plain (s := { s with heap := h1, toks := tk1 }) (hsz := by have := cap_lt; simp at hz; exact om_19 l hz this) ⟨m, x1 _ _ hao⟩ fun h2 pl sb => ?_
          obtain ⟨m2, q2⟩ := pl
          have ro : ORep w (Fz own h1) a { cls := .type "list", data := .seq (vs.push u) m2 } (.lst (ds ++ [v])) := by
            simp only [ORep]
            refine ⟨⟨trivial, trivial, trivial⟩, _, _, rfl, by simpa using hcap, ?_⟩
            rw [Array.toList_push]
            exact (Reps.mono x1.fz _ r).append (Reps.single (r2.frz hl S.ltAll))
          obtain ⟨S2, st2⟩ := S1.mutate O hc.1.1.1 ha ⟨_, hown⟩ sb q2 ro
          exact hQ .next h2 tk1 own wr ov ((Step.of_ext x1).trans S.ltAll st2) S2 W O ⟨rfl, Pin.refl _ _⟩
    · cases q

theorem ins_arr (l : List Value) (k : Nat) (y : Value) : (l.toArray.extract 0 k).push y ++ l.toArray.extract k = (l.take k ++ y :: l.drop k).toArray := by
  apply Array.toList_inj.mp
  simp
  exact List.take_of_length_le (by simp)
noncomputable def insD (d : D) (i : Int) (v : D) : Option D := (lsOf d).bind fun ds => if 0 ≤ i ∧ i < 300 ∧ ds.length + 1 ≤ cap then some (.lst (ds.take i.toNat ++ v :: ds.drop i.toNat)) else none
noncomputable def dInsert (κ : Str → Option NameKind) (x : Str) (e0 e : Expr) (apos pos : Pos) (fi fv : Den) : DenS := fun ρ =>
  if isV (κ x) && okName x && !isStarred e0 && !isStarred e && (apos.endLine == pos.line) then (fi ρ).bind fun i => (fv ρ).bind fun v => (ownOf ρ x).bind fun d => (itOf i.2).bind fun k => if v.1 = .loose then none else (insD d k v.2).map fun d' => (.next, upd ρ x (.own d'))
  else none
theorem ex_insert {x : Str} {p apos pos spos : Pos} {e0 e : Expr} {fi fv : Den} {name : Str} (hn : name = "insert") (hi : Ev prog w G hb n κ e0 fi) (hv : Ev prog w G hb n κ e fv) :
    Ex prog w G hb n κ sto (.Expr (.Call (.Attribute (.Name x p) name apos) [e0, e] [] pos) spos) (dInsert κ x e0 e apos pos fi fv) :=
  fun A env own wr ov ρ s E fl ρ' R S W O q Q hQ => by
    subst hn
    unfold dInsert at q
    split at q
    · rename_i hc
      simp only [Bool.and_eq_true, Bool.not_eq_true'] at hc
      obtain ⟨⟨f0, d0⟩, e1, q1⟩ := Option.bind_eq_some_iff.mp q
      obtain ⟨⟨f1, v⟩, e2, q2⟩ := Option.bind_eq_some_iff.mp q1
      obtain ⟨d1, e3, q3⟩ := Option.bind_eq_some_iff.mp q2
      clear q q1 q2
      have q := q3
      clear q3
      obtain ⟨k, hk0, q1⟩ := Option.bind_eq_some_iff.mp q
      obtain rfl := itOf_some hk0
      clear q
      have q := q1
      clear q1
      split at q
      · cases q
      · rename_i hl
        obtain ⟨d', e4, q⟩ := Option.map_eq_some_iff.mp q
        cases q
        obtain ⟨ds, hls, e4b⟩ := Option.bind_eq_some_iff.mp e4
        obtain ⟨hcap, e4c⟩ := if_of e4b
        clear e4 e4b
        obtain rfl := lsOf_some hls
        · · cases e4c
            have hown := ownOf_some e3
            obtain ⟨a, o, ha, hao, hr, hin, rd⟩ := S.ownAt (prog := prog) hown
            have hs := evl_cons (n := n) hi (evl_cons hv (evl_nil (prog := prog) (w := w) (G := G) (hb := hb) (n := n) (κ := κ)))
            have e5 : dCons e0 fi (dCons e fv dNil) ρ = some [(f0, .int k), (f1, v)] := by
              unfold dCons
              rw [if_neg (by simp [hc.1.1.2]), e1]
              simp only [Option.bind_some]
              rw [if_neg (by simp [hc.1.2]), e2]; rfl
            simp only [ORep] at hr
            obtain ⟨⟨c1, c2, c3⟩, vs, m, dd, l, r⟩ := hr
            refine wpAny_Expr (anyE (method_run R rfl (by simp [plainL, hc.1.1.2, hc.1.2]) (by simp) hc.2 hs e5 PySem.F.plainAttrs_list PySem.F.slot_list_insert PySem.F.type_list_insert
              (rd _ _ _ _ _ rfl hc.1.1.1.2 ⟨Ext.refl _, S, ⟨o, hao, c1⟩, fun a' ea => by cases ea; exact ⟨o, hao, c2⟩, fun us h1 tk1 x1 r1 => ?_⟩))) S.noninteractive (swaps_none rfl)
            obtain ⟨u0, u, rfl, r2, r3⟩ := vreps2 r1
            have r2 := r2.any
            simp only [Rep] at r2
            obtain ⟨t, rfl⟩ := r2
            have hz := r.length
            obtain ⟨oc, od, odt, os⟩ := o
            simp only at c1 c2 c3 dd
            subst c1 c2 c3 dd
            have S1 := S.ext x1
            have hao1 := x1 _ _ hao
            have hvz : vs.size ≤ sizeLine := by have := cap_lt; simp at hz; exact om_19 l hz this
            have hfit : Builtin.List.listFitsIndex k = true := fitsIndex_of hcap.1 (by omega)
            refine call_meets (s := { s with heap := h1, toks := tk1 }) PySem.F.slot_list_insert ⟨_, hao1, rfl⟩ PySem.F.entry_list_insert (PySem.F.args_list_insert_3 _ _ _) (PySem.AutoSeq1.list_insert_list_int_val_1 a vs m k t u (by simp [hfit]) hvz) ⟨hao1, ?_⟩
            generalize hf : (fun xs : Array Value => have k' := if k < 0 then (k + (xs.size : Int)).toNat else min k.toNat xs.size; (xs.extract 0 k').push u ++ xs.extract k') = f
            have hval : f vs = (vs.toList.take k.toNat ++ u :: vs.toList.drop k.toNat).toArray := by
              rw [← hf]
              show (vs.extract 0 (if k < 0 then (k + (vs.size : Int)).toNat else min k.toNat vs.size)).push u ++ vs.extract (if k < 0 then (k + (vs.size : Int)).toNat else min k.toNat vs.size) = _
              rw [if_neg (by exact om_62 hcap)]
              have hk := ins_arr vs.toList (min k.toNat vs.size) u
              rw [Array.toArray_toList] at hk
              rw [hk]
              rcases Nat.le_total k.toNat vs.size with hle | hle
              · rw [Nat.min_eq_left hle]
              · rw [Nat.min_eq_right hle]
                have e1 : vs.toList.take vs.size = vs.toList := List.take_of_length_le (by simp)
                have e2 : vs.toList.drop vs.size = [] := List.drop_of_length_le (by simp)
                have e3 : vs.toList.take k.toNat = vs.toList := List.take_of_length_le (by simpa using hle)
                have e4 : vs.toList.drop k.toNat = [] := List.drop_of_length_le (by simpa using hle)
                rw [e1, e2, e3, e4]
            obtain ⟨m2, hm2⟩ : ∃ m2, Obj.mapSeq f { cls := Value.type "list", data := .seq vs m } = { cls := Value.type "list", data := .seq (f vs) m2 } := ⟨_, rfl⟩
            have q2 : (h1.update a (Obj.mapSeq f)).get? a = some { cls := Value.type "list", data := .seq (f vs) m2 } := by
              rw [Heap.get?_update_self _ hao1 (by rw [hm2]; rfl), hm2]
            have ro : ORep w (Fz own h1) a { cls := .type "list", data := .seq (f vs) m2 } (.lst (ds.take k.toNat ++ v :: ds.drop k.toNat)) := by
              simp only [ORep]
              refine ⟨⟨trivial, trivial, trivial⟩, _, _, rfl, ?_, ?_⟩
              · simp only [List.length_append, List.length_cons, List.length_take, List.length_drop]; exact om_63 hcap
              · rw [hval]
                have rr := Reps.mono x1.fz _ r
                have := (rr.take k.toNat).append ((Reps.single (r3.frz hl S.ltAll)).append (rr.drop k.toNat))
                simpa using this
            obtain ⟨S2, st2⟩ := S1.mutate O hc.1.1.1.1 ha ⟨_, hown⟩ (Heap.SameBut.update ..) q2 ro
            exact hQ .next _ tk1 own wr ov ((Step.of_ext x1).trans S.ltAll st2) S2 W O ⟨rfl, Pin.refl _ _⟩
    · cases q

/-! ## while -/
noncomputable def whileD (ft : DenB) (fb : DenS) : Nat → Rho → Option (Flo × Rho)
  | 0, _ => none
  | k + 1, ρ => (ft ρ).bind fun b => if b then (fb ρ).bind fun x => match x.1 with
      | .next => whileD ft fb k x.2
      | .cont => whileD ft fb k x.2
      | .brk => some (.next, x.2)
      | .ret v => some (.ret v, x.2)
    else some (.next, ρ)
theorem ex_while {test : Expr} {body : List Stmt} {pos : Pos} {ft : DenB} {fb : DenS} (K : Nat) (ht : EvB prog w G hb n κ test ft) (hbd : Exs prog w G hb n κ sto body fb) : Ex prog w G hb n κ sto (.While test body [] pos) (whileD ft fb K) :=
  fun A env own wr ov ρ s E fl ρ' R S W O e Q hQ => by
    refine wpAny_While ?_
    let Inv : Nat → Shared → Prop := fun k s' => ∃ h' tk own' wr' ov' ρ₁, s' = { s with heap := h', toks := tk } ∧ Step own wr s.heap own' wr' h' ∧ Sim w G hb κ env own' ov' ρ₁ h' ∧ Wr env own' wr' sto ∧ (∀ p ∈ ov', p.2 ∈ wr') ∧ Pin sto ov ov' ∧ whileD ft fb k ρ₁ = some (fl, ρ')
    refine codeAny_whileLoop Inv ?_ K ⟨s.heap, s.toks, own, wr, ov, ρ, rfl, Step.refl _ _ _, S, W, O, Pin.refl _ _, e⟩
    rintro k s' ⟨h', tk, own', wr', ov', ρ₁, rfl, sp, S', W', O', pn, el⟩
    cases k with
    | zero => cases el
    | succ k =>
      obtain ⟨b, e1, el⟩ := Option.bind_eq_some_iff.mp el
      refine anyE (ht A env own' ov' ρ₁ _ b R S' e1 _ fun h1 tk1 x1 => ?_)
      have sp1 := sp.trans S.ltAll (Step.of_ext (own := own') (wr := wr') x1)
      cases b with
      | false =>
        simp only [Bool.false_eq_true, if_false] at el ⊢
        cases el
        exact wpAny_execs_nil (hQ .next h1 tk1 own' wr' ov' sp1 (S'.ext x1) W' O' ⟨rfl, pn⟩)
      | true =>
        simp only [if_true] at el ⊢
        obtain ⟨⟨fl3, ρ3⟩, e3, el⟩ := Option.bind_eq_some_iff.mp el
        refine hbd A env own' wr' ov' ρ₁ { s with heap := h1, toks := tk1 } _ fl3 ρ3 R (S'.ext x1) W' O' e3 _ fun r h4 tk4 own4 wr4 ov4 sp4 S4 W4 O4 F4 => ?_
        have sp4' := sp1.trans S.ltAll sp4
        cases fl3 with
        | next => obtain ⟨rfl, pn4⟩ := F4; exact ⟨k, Nat.lt_succ_self k, h4, tk4, own4, wr4, ov4, ρ3, rfl, sp4', S4, W4, O4, pn.trans pn4, el⟩
        | cont => obtain ⟨rfl, pn4⟩ := F4; exact ⟨k, Nat.lt_succ_self k, h4, tk4, own4, wr4, ov4, ρ3, rfl, sp4', S4, W4, O4, pn.trans pn4, el⟩
        | brk => obtain ⟨rfl, pn4⟩ := F4; cases el; exact hQ .next h4 tk4 own4 wr4 ov4 sp4' S4 W4 O4 ⟨rfl, pn.trans pn4⟩
        | ret d => obtain ⟨v4, rfl, q4⟩ := F4; cases el; exact hQ (.ret v4) h4 tk4 own4 wr4 ov4 sp4' S4 W4 O4 ⟨v4, rfl, q4⟩
end
end Mine
end
section
open PySem PySem.W PyProof.Rows PySem.Spec PySem.SeqAt
set_option maxRecDepth 100000
namespace Mine

section
variable {prog : Program} {w : World} {G : Str → Option Value} {hb : Heap} {n : Nat} {κ : Str → Option NameKind} {sto : Str → Bool}

/-! ## for over a list of one's own that grows -/
theorem own_ls {ρ : Rho} {x : Str} {ds : List D} (h : (ownOf ρ x).bind lsOf = some ds) : ownOf ρ x = some (.lst ds) := by
  obtain ⟨d, h1, h2⟩ := Option.bind_eq_some_iff.mp h
  rw [h1, lsOf_some h2]
noncomputable def growD (bind : D → Rho → Option Rho) (body : DenS) (x : Str) : Nat → Nat → Rho → Option (Flo × Rho)
  | 0, _, _ => none
  | k + 1, i, ρ => ((ownOf ρ x).bind lsOf).bind fun ds => match ds[i]? with
    | none => some (.next, ρ)
    | some d => (bind d ρ).bind fun ρ1 => (body ρ1).bind fun y => match y.1 with
      | .next => growD bind body x k (i + 1) y.2
      | .cont => growD bind body x k (i + 1) y.2
      | .brk => some (.next, y.2)
      | .ret v => some (.ret v, y.2)
theorem growD_ls {bind : D → Rho → Option Rho} {body : DenS} {x : Str} {k i : Nat} {ρ : Rho} {r : Flo × Rho} (e : growD bind body x (k + 1) i ρ = some r) : ∃ ds, ownOf ρ x = some (.lst ds) ∧ (ds[i]? = none ∧ (.next, ρ) = r ∨ ∃ d ρ1 y, ds[i]? = some d ∧ bind d ρ = some ρ1 ∧ body ρ1 = some y ∧ (match y.1 with
      | .next => growD bind body x k (i + 1) y.2
      | .cont => growD bind body x k (i + 1) y.2
      | .brk => some (.next, y.2)
      | .ret v => some (.ret v, y.2)) = some r) := by
  obtain ⟨ds, h1, e⟩ := Option.bind_eq_some_iff.mp (show ((ownOf ρ x).bind lsOf).bind _ = _ from e)
  refine ⟨ds, own_ls h1, ?_⟩
  cases hd : ds[i]? with
  | none => rw [hd] at e; exact .inl ⟨rfl, Option.some.inj e⟩
  | some d =>
    rw [hd] at e
    obtain ⟨ρ1, e1, e⟩ := Option.bind_eq_some_iff.mp (show (bind d ρ).bind _ = _ from e)
    obtain ⟨y, e2, e⟩ := Option.bind_eq_some_iff.mp e
    exact .inr ⟨d, ρ1, y, rfl, e1, e2, e⟩
noncomputable def stoBut (sto : Str → Bool) (x : Str) : Str → Bool := fun y => sto y && !(y == x)
noncomputable def dGrow (κ : Str → Option NameKind) (sto : Str → Bool) (K : Nat) (x : Str) (target : Expr) (bd : DenS) : DenS := fun ρ =>
  if κ x = some .local ∧ okName x = true then growD (dTarget κ (stoBut sto x) target) bd x K 0 ρ else none

theorem stoBut_pin {x : Str} {o₁ o₂ : List (Str × Addr)} (p : Pin (stoBut sto x) o₁ o₂) : Pin sto o₁ o₂ := fun y hy => p y (by simp [stoBut, hy])
theorem stoBut_wr {env : Env} {own own' wr' : List Addr} {ov : List (Str × Addr)} {ρ : Rho} {h : Heap} {x : Str} (S : Sim w G hb κ env own ov ρ h) (hx : κ x = some .local) (W : Wr env own' wr' (stoBut sto x)) : Wr env own' wr' sto :=
  ⟨W.sub, W.loc, fun y c hy hc => W.cel y c (by
    obtain ⟨vm, S⟩ := S
    have hk := S.eo.celK y c hc
    rw [S.kap] at hk
    simp only [stoBut, hy, Bool.true_and, Bool.not_eq_true', beq_eq_false_iff_ne, ne_eq]
    intro e
    rw [e, hx] at hk
    rcases hk with hk | hk <;> cases hk) hc⟩
theorem wr_stoBut {env : Env} {own' wr' : List Addr} {x : Str} (W : Wr env own' wr' sto) : Wr env own' wr' (stoBut sto x) :=
  ⟨W.sub, W.loc, fun y c hy hc => W.cel y c (by simp only [stoBut, Bool.and_eq_true] at hy; exact hy.1) hc⟩

theorem ex_grow {x : Str} {p pos : Pos} {target : Expr} {body : List Stmt} {bd : DenS} (K : Nat) (hbd : Exs prog w G hb n κ (stoBut sto x) body bd) : Ex prog w G hb n κ sto (.For target (.Name x p) body [] pos) (dGrow κ sto K x target bd) :=
  fun A env own wr ov ρ s E fl ρ' R S W O e Q hQ => by
    unfold dGrow at e
    split at e
    · rename_i hx
      obtain ⟨hxl, hxn⟩ := hx
      cases K with
      | zero => cases e
      | succ K =>
      obtain ⟨l1, el0, _⟩ := growD_ls e
      obtain ⟨a, o, ha, hao, hr, hin, rd⟩ := S.ownAt (prog := prog) (ownOf_some el0)
      simp only [ORep] at hr
      obtain ⟨⟨c1, c2, c3⟩, vs0, m0, dd0, lc0, rr0⟩ := hr
      have hl0 : s.heap.IsList a vs0 := ⟨o, hao, c1, m0, dd0⟩
      refine wpAny_For (rd _ _ _ _ _ rfl hxn (wpAny_pyIter_list hl0 ?_)) (noSet_fold rfl)
      generalize hI : s.heap.objs.size = I
      generalize hh1 : s.heap.push { cls := .type "list_iterator", data := .fields #[.ref a, .int 0 0] } = h1
      have x1 : Ext s.heap h1 := by rw [← hh1]; exact Ext.push _ _
      have hInone : s.heap.get? I = none := by rw [← hI]; exact get_size _
      have hIit : h1.IsListIter I a 0 := by rw [← hh1, ← hI]; exact ⟨_, Heap.get?_push_size _ rfl, rfl, rfl⟩
      have hIl : ∀ {h : Heap} {i : Nat}, h.IsListIter I a i → (h.get? I).isSome = true := fun ⟨o, q, _⟩ => by rw [q]; rfl
      have haI : a ≠ I := fun z => by rw [z, hInone] at hao; cases hao
      have hS1 : Sim w G hb κ env ([I] ++ own) ov ρ h1 := S.more x1 fun b hb => by rw [List.mem_singleton.mp hb]; exact ⟨hInone, hIl hIit⟩
      have hIpl : ∀ b ∈ [I], ¬ isPlace env b := fun b hb hm => by rw [List.mem_singleton.mp hb] at hm; exact isSome_none (S.ltAll I (let ⟨vm, S⟩ := S; S.place hm)) hInone
      have hIo : I ∉ own := fun hm => isSome_none (S.ltAll I hm) hInone
      let Inv : Nat → Shared → Prop := fun k s' => ∃ h' tk own' wr' ov' ρ₁ i, s' = { s with heap := h', toks := tk } ∧ Step own wr s.heap own' wr' h' ∧ Sim w G hb κ env own' ov' ρ₁ h' ∧ Wr env own' wr' sto ∧ (∀ p ∈ ov', p.2 ∈ wr') ∧ Pin sto ov ov' ∧
        ov'.lookup x = some a ∧ I ∈ own' ∧ I ∉ wr' ∧ h'.IsListIter I a i ∧ growD (dTarget κ (stoBut sto x) target) bd x k i ρ₁ = some (fl, ρ')
      refine codeAny_forLoop_any Inv ?_ (K + 1)
        ⟨h1, s.toks, [I] ++ own, wr, ov, ρ, 0, rfl, ⟨fun b o' _ q => x1 b o' q, fun b q => x1.some q, fun b hb => (List.mem_append.mp hb).elim (fun q => .inr (by rw [List.mem_singleton.mp q]; exact hInone)) .inl, fun b hb => .inl hb, fun b hb => .inl (List.mem_append_right _ hb)⟩,
          hS1, ⟨fun b hb => List.mem_append_right _ (W.sub b hb), W.loc, W.cel⟩, O, Pin.refl _ _, ha, List.mem_append_left _ (List.mem_singleton.mpr rfl), fun hm => hIo (W.sub I hm), hIit, e⟩
      rintro k s' ⟨h', tk, own', wr', ov', ρ₁, i, rfl, sp, S', W', O', pn, ha', hIo', hIw, hit, el⟩
      cases k with
      | zero => cases el
      | succ k =>
      obtain ⟨ds, el2, el⟩ := growD_ls el
      obtain ⟨a2, o2, ha2, hao2, hr2, hin2, _⟩ := S'.ownAt (prog := prog) (ownOf_some el2)
      rw [ha'] at ha2
      cases ha2
      simp only [ORep] at hr2
      obtain ⟨⟨d1, d2, d3⟩, vs, m, dd, lc, rr⟩ := hr2
      have hl : h'.IsList a vs := ⟨o2, hao2, d1, m, dd⟩
      have hov : ∀ p ∈ ov', p.2 ∉ [I] := fun p hp hm => hIw (by rw [← List.mem_singleton.mp hm]; exact O' p hp)
      have hz := rr.length
      rcases el with ⟨hd, el⟩ | ⟨d, ρ2, ⟨fl3, ρ3⟩, hd, e2, e3, el⟩
      · cases el
        refine wpAny_pyNext_list_end (s := { s with heap := h', toks := tk }) R.hd hit hl (by simp at hd hz ⊢; exact om_64 hz hd) fun h2 he => wpAny_execs_nil ?_
        have kp : Kept [I] h' h2 := fun b o hb q => he b o (by simpa using hb) q
        let own2 := own'.filter (fun b => !(b == I))
        have m2 : ∀ b, b ∈ own2 ↔ b ∈ own' ∧ b ∉ [I] := fun b => by simp [own2]
        have S2 : Sim w G hb κ env own2 ov' ρ' h2 := S'.drop kp (fun b hb => by rw [List.mem_singleton.mp hb]; exact hIo') hIpl hov (fun b hb => (m2 b).mp hb) fun b hb hn => (m2 b).mpr ⟨hb, hn⟩
        have hne : ∀ b, (s.heap.get? b).isSome = true → b ∉ [I] := fun b eb hm => isSome_none eb (by rw [List.mem_singleton.mp hm]; exact hInone)
        refine hQ .next h2 tk own2 wr' ov' ⟨fun b o hb eb => kp b o (hne b (by rw [eb]; rfl)) (sp.keep b o hb eb), fun b eb => ?_, fun b hb => sp.ownNew b ((m2 b).mp hb).1, sp.wrNew, fun b hb => ?_⟩ S2 ⟨fun b hb => (m2 b).mpr ⟨W'.sub b hb, fun hm => hIw (List.mem_singleton.mp hm ▸ hb)⟩, W'.loc, W'.cel⟩ O' ⟨rfl, pn⟩
        · obtain ⟨o, q⟩ := Option.isSome_iff_exists.mp (sp.live b eb)
          rw [kp b o (hne b eb) q]; rfl
        · exact (sp.stay b hb).elim (fun q => .inl ((m2 b).mpr ⟨q, hne b (S.ltAll b hb)⟩)) .inr
      · obtain ⟨v, hv, rv⟩ := rr.get hd
        have hv' : vs[i]? = some v := by simpa using hv
        refine wpAny_pyNext_list_item (s := { s with heap := h', toks := tk }) hit hl hv' fun h2 hit2 sb2 => ?_
        obtain ⟨oI, qI, qc, _⟩ := id hit2
        refine letGo_plain (T := "list_iterator") qI qc (by decide) ?_
        have kp2 : Kept [I] h' h2 := fun b o hb q => sb2.extBut b o (by simpa using hb) q
        have S2 := S'.iter kp2 (fun b hb => by rw [List.mem_singleton.mp hb]; exact hIl hit2) (fun b hb => by rw [List.mem_singleton.mp hb]; exact hIo') hIpl hov
        have lv2 : ∀ b, (h'.get? b).isSome = true → (h2.get? b).isSome = true := fun b eb => SameBut.live sb2 (hIl hit2) eb
        have sp2 : Step own wr s.heap own' wr' h2 := ⟨fun b o hb eb => kp2 b o (fun hm => by rw [List.mem_singleton.mp hm, hInone] at eb; cases eb) (sp.keep b o hb eb), fun b eb => lv2 b (sp.live b eb), sp.ownNew, sp.wrNew, sp.stay⟩
        have le2 : Le (Fz own' h') (Fz own' h2) := fun b o q => Fz.of (Fz.get q).1 (kp2 b o (fun hm => (Fz.get q).1 (by rw [List.mem_singleton.mp hm]; exact hIo')) (Fz.get q).2)
        refine asn_target R S2 (wr_stoBut W') (Rep.mono le2 _ rv) e2 fun h3 tk3 sp3 S3 => ?_
        have hit3 : h3.IsListIter I a (i + 1) := hit2.at fun o q => sp3.keep I o hIw q
        refine hbd A env own' wr' ov' ρ2 { s with heap := h3, toks := tk3 } _ fl3 ρ3 R S3 (wr_stoBut W') O' e3 _ fun r h4 tk4 own4 wr4 ov4 sp4 S4 W4 O4 F4 => ?_
        have sp34 := sp3.trans S2.ltAll sp4
        have sp4' := sp2.trans S.ltAll sp34
        have W4' := stoBut_wr S4 hxl W4
        have again : Pin (stoBut sto x) ov' ov4 → growD (dTarget κ (stoBut sto x) target) bd x k (i + 1) ρ3 = some (fl, ρ') → Inv k { s with heap := h4, toks := tk4 } := fun pn4 el =>
          ⟨h4, tk4, own4, wr4, ov4, ρ3, i + 1, rfl, sp4', S4, W4', O4, pn.trans (stoBut_pin pn4), (pn4 x (by simp [stoBut])).trans ha', (sp34.stay I hIo').elim id fun q => absurd q hIw, fun hm => (sp34.wrNew I hm).elim hIw fun q => isSome_none (hIl hit2) q,
            hit3.at fun o q => sp4.keep I o hIw q, el⟩
        cases fl3 with
        | next => obtain ⟨rfl, pn4⟩ := F4; exact ⟨k, Nat.lt_succ_self k, again pn4 el⟩
        | cont => obtain ⟨rfl, pn4⟩ := F4; exact ⟨k, Nat.lt_succ_self k, again pn4 el⟩
        | brk => obtain ⟨rfl, pn4⟩ := F4; cases el; exact hQ .next h4 tk4 own4 wr4 ov4 sp4' S4 W4' O4 ⟨rfl, pn.trans (stoBut_pin pn4)⟩
        | ret d => obtain ⟨v4, rfl, q4⟩ := F4; cases el; exact hQ (.ret v4) h4 tk4 own4 wr4 ov4 sp4' S4 W4' O4 ⟨v4, rfl, q4⟩
    · cases e

/-- one of two readings -/
theorem ex_either {st : Stmt} {f g : DenS} {c : Rho → Bool} (hf : Ex prog w G hb n κ sto st f) (hg : Ex prog w G hb n κ sto st g) : Ex prog w G hb n κ sto st (fun ρ => if c ρ then f ρ else g ρ) :=
  fun A env own wr ov ρ s E fl ρ' R S W O e Q hQ => by
    simp only at e
    split at e
    · exact hf A env own wr ov ρ s E fl ρ' R S W O e Q hQ
    · exact hg A env own wr ov ρ s E fl ρ' R S W O e Q hQ

/-- a variable's own object is laid down -/
noncomputable def layOne (x : Str) (ρ : Rho) : Rho := match ownOf ρ x with
  | some d => upd ρ x (.frz d)
  | none => ρ
noncomputable def dLayOne (sto : Str → Bool) (x : Str) (f : DenS) : DenS := fun ρ => if sto x then f (layOne x ρ) else none
theorem ex_layOne {st : Stmt} {f : DenS} (x : Str) (h : Ex prog w G hb n κ sto st f) : Ex prog w G hb n κ sto st (dLayOne sto x f) :=
  fun A env own wr ov ρ s E fl ρ' R S W O e Q hQ => by
    unfold dLayOne at e
    split at e
    · rename_i hsx
      unfold layOne at e
      split at e
      · rename_i d hd
        obtain ⟨a, o, ha, hao, hr, hin, _⟩ := S.ownAt (prog := prog) (ownOf_some hd)
        have hm := mem_of_lookup ha
        let own1 := own.filter (fun b => !(b == a))
        let wr1 := wr.filter (fun b => !(b == a))
        let ov1 := ov.filter (fun q => !(q.1 == x))
        have m1 : ∀ b, b ∈ own1 ↔ b ∈ own ∧ b ≠ a := fun b => by simp [own1]
        have mw : ∀ b, b ∈ wr1 ↔ b ∈ wr ∧ b ≠ a := fun b => by simp [wr1]
        have mo : ∀ q, q ∈ ov1 ↔ q ∈ ov ∧ q.1 ≠ x := fun q => by simp [ov1]
        have look : ∀ (l : List (Str × Addr)) y, y ≠ x → (l.filter (fun q => !(q.1 == x))).lookup y = l.lookup y := by
          intro l y hy
          induction l with
          | nil => rfl
          | cons q l ih =>
            obtain ⟨z, b⟩ := q
            by_cases hz : z = x
            · subst hz
              have : (y == z) = false := by simpa using hy
              rw [List.filter_cons_of_neg (by simp), List.lookup_cons, this, ih]
            · rw [List.filter_cons_of_pos (by simpa using hz), List.lookup_cons, List.lookup_cons, ih]
        have hfew : ∀ b ∈ own1, b ∈ own := fun b hb => ((m1 b).mp hb).1
        have hapart : ∀ q ∈ ov, q.1 ≠ x → q.2 ≠ a := fun q hq hne e => by
          obtain ⟨vm, S⟩ := S
          exact hne (Sim.mutate.map_inj_of_nodup S.ovInj (show (q.1, a) ∈ ov by rw [← e]; exact hq) hm)
        have hplace : ∀ b, isPlace env b → b ≠ a := fun b hb e => by
          obtain ⟨vm, S⟩ := S
          exact (S.ovIn _ hm).2 (e ▸ hb)
        have S1 : Sim w G hb κ env own1 ov1 (upd ρ x (.frz d)) s.heap := by
          obtain ⟨vm, S⟩ := S
          refine ⟨vm, S.eo.keep (fun b hb hp => (m1 b).mpr ⟨hb, hplace b hp⟩) (fun _ _ _ e => e), S.kap, S.bas, S.ext, fun b hb => S.high b (hfew b hb), fun b hb => S.lt b (hfew b hb), fun y b hy => ?_, fun q hq => ?_, ?_⟩
          · unfold upd at hy
            split at hy
            · rename_i ey
              subst ey
              cases hy
              obtain ⟨k, v, h1, a2, o2, rfl, h2, h3, h4⟩ := S.vars y _ (ownOf_some hd)
              rw [ha] at h2
              cases h2
              exact ⟨k, .ref a, h1, Rep.of_obj (Fz.of (fun hq => ((m1 a).mp hq).2 rfl) h3) (h4.mono (Fz.fewer hfew))⟩
            · rename_i ey
              obtain ⟨k, v, h1, h2⟩ := S.vars y b hy
              refine ⟨k, v, h1, ?_⟩
              cases b with
              | frz d2 => exact Rep.mono (Fz.fewer hfew) d2 h2
              | own d2 => obtain ⟨a2, o2, q1, q2, q3, q4⟩ := h2; exact ⟨a2, o2, q1, (look ov y ey).trans q2, q3, q4.mono (Fz.fewer hfew)⟩
          · obtain ⟨h1, h2⟩ := (mo q).mp hq
            exact ⟨(m1 _).mpr ⟨(S.ovIn q h1).1, hapart q h1 h2⟩, (S.ovIn q h1).2⟩
          · exact List.Nodup.sublist (List.Sublist.map _ (List.filter_sublist)) S.ovInj
        have W1 : Wr env own1 wr1 sto := ⟨fun b hb => (m1 b).mpr ⟨W.sub b ((mw b).mp hb).1, ((mw b).mp hb).2⟩, (mw _).mpr ⟨W.loc, hplace _ (.inl rfl)⟩, fun y c hy hc => (mw c).mpr ⟨W.cel y c hy hc, hplace c (.inr ⟨y, hc⟩)⟩⟩
        have st1 : Step own wr s.heap own1 wr1 s.heap := ⟨fun _ _ _ e => e, fun _ e => e, fun b hb => .inl (hfew b hb), fun b hb => .inl ((mw b).mp hb).1, fun b hb => by
          by_cases q : b = a
          · exact .inr (q ▸ O _ hm)
          · exact .inl ((m1 b).mpr ⟨hb, q⟩)⟩
        have pn1 : Pin sto ov ov1 := fun y hy => look ov y (fun e => by rw [e, hsx] at hy; cases hy)
        exact h A env own1 wr1 ov1 _ s E fl ρ' R S1 W1 (fun q hq => (mw _).mpr ⟨O q ((mo q).mp hq).1, hapart q ((mo q).mp hq).1 ((mo q).mp hq).2⟩) e Q fun r h' tk own' wr' ov' st S' W' O' F => hQ r h' tk own' wr' ov' (st1.trans S.ltAll st) S' W' O' (F.pin pn1)
      · exact h A env own wr ov ρ s E fl ρ' R S W O e Q hQ
    · cases e
end
end Mine
end
section
open PySem PySem.W PyProof.Rows PySem.Spec PySem.SeqAt
set_option maxRecDepth 100000
namespace Mine

section
variable {prog : Program} {w : World} {G : Str → Option Value} {hb : Heap} {n : Nat} {κ : Str → Option NameKind} {sto : Str → Bool}

/-! ## a, b = v -/
noncomputable def dUnpack (κ : Str → Option NameKind) (sto : Str → Bool) (t : Expr) (fv : Den) : DenS := fun ρ =>
  (dFrz fv ρ).bind fun v => (dTarget κ sto t v ρ).map fun ρ' => (.next, ρ')
theorem ex_unpack {es : List Expr} {k : Nat} {tp pos : Pos} {value : Expr} {fv : Den} (hsw : ∀ env, swapsWithSole [.Tuple es k tp] value pos.line env = pure false) (hss : ∀ env, swappedStores [.Tuple es k tp] value env = pure none)
    (hv : Ev prog w G hb n κ value fv) : Ex prog w G hb n κ sto (.Assign [.Tuple es k tp] value pos) (dUnpack κ sto (.Tuple es k tp) fv) :=
  fun A env own wr ov ρ s E fl ρ' R S W O e Q hQ => by
    obtain ⟨v, e1, e⟩ := Option.bind_eq_some_iff.mp e
    obtain ⟨ρ1, e2, e⟩ := Option.map_eq_some_iff.mp e
    cases e
    obtain ⟨f1, e1, hl⟩ := dFrz_some e1
    refine Assign_Tuple (anyE (hv A env own ov ρ s f1 v R S e1 _ fun u h1 tk1 x1 r1 => ?_)) (hsw env) (hss env)
    exact asn_target (s := { s with heap := h1, toks := tk1 }) R (S.ext x1) W (r1.frz hl S.ltAll) e2 fun h2 tk2 st2 S2 => hQ .next h2 tk2 own wr ov ((Step.of_ext x1).trans S.ltAll st2) S2 W O ⟨rfl, Pin.refl _ _⟩

/-! ## a, b = (v, u) -/
abbrev Held := Bool × D × Value
noncomputable def HeldOk (w : World) (own : List Addr) (h : Heap) : Held → Prop
  | (true, d, v) => ∃ a o, v = .ref a ∧ h.get? a = some o ∧ ORep w (Fz own h) a o d
  | (false, d, v) => Rep w (Fz own h) d v
noncomputable def addrOf : Held → Option Addr
  | (true, _, .ref a) => some a
  | _ => none
noncomputable def addrsOf (l : List Held) : List Addr := l.filterMap addrOf
structure Hold (w : World) (env : Env) (own wr : List Addr) (ov : List (Str × Addr)) (h : Heap) (items : List Held) : Prop where
  ok : ∀ it ∈ items, HeldOk w own h it
  nd : (addrsOf items).Nodup
  ap : ∀ a ∈ addrsOf items, a ∈ wr ∧ ¬ isPlace env a ∧ ∀ p ∈ ov, p.2 ≠ a

theorem HeldOk.mono {own own' : List Addr} {h h' : Heap} {it : Held} (x : HeldOk w own h it) (le : Le (Fz own h) (Fz own' h')) (hk : ∀ a ∈ addrOf it, h'.get? a = h.get? a) : HeldOk w own' h' it := by
  obtain ⟨b, d, v⟩ := it
  cases b with
  | false => exact Rep.mono le d x
  | true =>
    obtain ⟨a, o, rfl, q, r⟩ := x
    exact ⟨a, o, rfl, (hk a rfl).trans q, r.mono le⟩
theorem addrsOf_mem {l : List Held} {it : Held} {a : Addr} (hm : it ∈ l) (ha : a ∈ addrOf it) : a ∈ addrsOf l := List.mem_filterMap.mpr ⟨it, hm, ha⟩

noncomputable def heldD : Fl → Bool → Option Bool
  | .fresh, b => some b
  | .frozen, _ => some false
  | .loose, _ => none
noncomputable def dHold (FE : Expr → Den) : List (Expr × Bool) → Rho → Option (List (Bool × D))
  | [], _ => some []
  | x :: es, ρ => if isStarred x.1 = false then (FE x.1 ρ).bind fun y => (heldD y.1 x.2).bind fun c => (dHold FE es ρ).map fun xs => (c, y.2) :: xs else none

theorem hold_go {FE : Expr → Den} (hE : ∀ c, Ev prog w G hb n κ c (FE c)) {A : Around} {env : Env} {ov : List (Str × Addr)} {ρ : Rho} {pos : Pos} (R : Room A n) :
    ∀ (es : List (Expr × Bool)) (own wr : List Addr) (s : Shared) (xs : List (Bool × D)) (Q : List Value → Shared → Prop), Sim w G hb κ env own ov ρ s.heap → Wr env own wr sto → (∀ p ∈ ov, p.2 ∈ wr) → dHold FE es ρ = some xs →
      (∀ items h' tk own' wr', Ext s.heap h' → Step own wr s.heap own' wr' h' → Sim w G hb κ env own' ov ρ h' → Wr env own' wr' sto → (∀ p ∈ ov, p.2 ∈ wr') → Hold w env own' wr' ov h' items → items.length = es.length ∧ items.map (fun i => (i.1, i.2.1)) = xs → (∀ a ∈ addrsOf items, s.heap.get? a = none) → (∀ a ∈ own, a ∈ own') → (∀ a ∈ wr, a ∈ wr') →
        Q (items.map (·.2.2)) { s with heap := h', toks := tk }) →
      wpAny (model prog w) A (spliced (backTo pos (starEach (es.map (·.1)) env))) Q NoE s
  | [], own, wr, s, xs, Q, S, W, O, e, hQ => by
    cases e
    exact wpAny_pure (hQ [] s.heap s.toks own wr (Ext.refl _) (Step.refl _ _ _) S W O ⟨fun _ h => (nomatch h), List.nodup_nil, fun _ h => (nomatch h)⟩ ⟨rfl, rfl⟩ (fun _ h => (nomatch h)) (fun _ h => h) (fun _ h => h))
  | (e0, b) :: es, own, wr, s, xs, Q, S, W, O, e, hQ => by
      obtain ⟨hst, e⟩ := if_of e
      obtain ⟨⟨f1, d1⟩, e1, e⟩ := Option.bind_eq_some_iff.mp e
      obtain ⟨c1, e3, e⟩ := Option.bind_eq_some_iff.mp e
      obtain ⟨ys, e2, e⟩ := Option.map_eq_some_iff.mp e
      cases e
      have hse : starEach (((e0, b) :: es).map (·.1)) env = (false, eval e0 env) :: starEach (es.map (·.1)) env := starEach_plain hst _ env
      have hbt : ∀ (x : Sem Value) (l : List (Bool × Sem Value)), backTo pos ((false, x) :: l) = (false, x) :: backTo pos l := fun _ _ => rfl
      rw [hse, hbt]
      refine Calls.spliced_cons (hE e0 A env own ov ρ s f1 d1 R S e1 (fun v s₁ => wpAny (model prog w) A (spliced (backTo pos (starEach (es.map (·.1)) env))) (fun vs => Q (v :: vs)) NoE s₁) fun v h1 tk1 x1 r1 => ?_)
      have S1 := S.ext x1
      cases c1 with
      | false =>
        have hl : f1 ≠ .loose := fun q => by rw [q] at e3; cases e3
        refine hold_go hE R es own wr _ ys _ S1 W O e2 fun items h2 tk2 own2 wr2 x2 st2 S2 W2 O2 H2 hm hn ho hw => ?_
        have le2 := st2.le W.sub
        refine hQ ((false, d1, v) :: items) h2 tk2 own2 wr2 (x1.trans x2) ((Step.of_ext x1).trans S.ltAll st2) S2 W2 O2 ⟨fun it hi => ?_, H2.nd, H2.ap⟩ ⟨congrArg Nat.succ hm.1, congrArg (List.cons _) hm.2⟩ (fun a ha => x1.none (hn a ha)) ho hw
        rcases List.mem_cons.mp hi with rfl | hi
        · exact Rep.mono le2 _ (r1.frz hl S.ltAll)
        · exact H2.ok it hi
      | true =>
          obtain rfl : f1 = .fresh := by cases f1 <;> first | rfl | cases e3
          obtain ⟨a, o, rfl, h2, h3, h4⟩ := r1
          have hao : a ∉ own := fun q => isSome_none (S.ltAll a q) h2
          have S1' : Sim w G hb κ env ([a] ++ own) ov ρ h1 := S.more x1 fun c hc => by rw [List.mem_singleton.mp hc]; exact ⟨h2, by rw [h3]; rfl⟩
          have W1 : Wr env ([a] ++ own) (a :: wr) sto := ⟨fun c hc => (List.mem_cons.mp hc).elim (fun q => q ▸ List.mem_cons_self) fun q => List.mem_append_right _ (W.sub c q), List.mem_cons_of_mem _ W.loc, fun y c hy q => List.mem_cons_of_mem _ (W.cel y c hy q)⟩
          refine hold_go hE R es ([a] ++ own) (a :: wr) _ ys _ S1' W1 (fun p hp => List.mem_cons_of_mem _ (O p hp)) e2 fun items k2 tk2 own2 wr2 x2 st2 S2 W2 O2 H2 hm hn ho hw => ?_
          have st1 : Step own wr s.heap ([a] ++ own) (a :: wr) h1 := ⟨fun c o' _ q => x1 c o' q, fun c q => x1.some q, fun c hc => (List.mem_append.mp hc).elim (fun q => .inr (by rw [List.mem_singleton.mp q]; exact h2)) .inl, fun c hc => (List.mem_cons.mp hc).elim (fun q => .inr (q ▸ h2)) .inl, fun c hc => .inl (List.mem_append_right _ hc)⟩
          have le2 : Le (Fz ([a] ++ own) h1) (Fz own2 k2) := st2.le W1.sub
          have hapl : ¬ isPlace env a := fun q => hao (let ⟨vm, S⟩ := S; S.place q)
          refine hQ ((true, d1, .ref a) :: items) k2 tk2 own2 wr2 (x1.trans x2) (st1.trans S.ltAll st2) S2 W2 O2 ⟨fun it hi => ?_, ?_, fun c hc => ?_⟩ ⟨congrArg Nat.succ hm.1, congrArg (List.cons _) hm.2⟩ (fun c hc => ?_) (fun c hc => ho c (List.mem_append_right _ hc)) fun c hc => hw c (List.mem_cons_of_mem _ hc)
          · rcases List.mem_cons.mp hi with rfl | hi
            · exact ⟨a, o, rfl, x2 _ _ h3, h4.mono le2⟩
            · exact H2.ok it hi
          · show (a :: addrsOf items).Nodup
            refine List.nodup_cons.mpr ⟨fun q => ?_, H2.nd⟩
            have := hn a q
            rw [h3] at this; cases this
          · rcases List.mem_cons.mp (show c ∈ a :: addrsOf items from hc) with rfl | hc
            · exact ⟨hw _ List.mem_cons_self, hapl, fun p hp q => hao (q ▸ (let ⟨vm, S⟩ := S; (S.ovIn p hp).1))⟩
            · exact H2.ap c hc
          · rcases List.mem_cons.mp (show c ∈ a :: addrsOf items from hc) with rfl | hc
            · exact h2
            · exact x1.none (hn c hc)

/-- a store of a held value -/
noncomputable def StoreOk (prog : Program) (w : World) (G : Str → Option Value) (hb : Heap) (n : Nat) (κ : Str → Option NameKind) (sto : Str → Bool) (A : Around) (env : Env) (t : Value → Sem Unit) (g : Bool × D → Rho → Option Rho) : Prop :=
  ∀ (own wr : List Addr) (ov : List (Str × Addr)) (ρ ρ' : Rho) (s : Shared) (it : Held) (E : Value → Shared → Prop) (Q : Unit → Shared → Prop), Sim w G hb κ env own ov ρ s.heap → Wr env own wr sto → (∀ p ∈ ov, p.2 ∈ wr) → Hold w env own wr ov s.heap [it] → g (it.1, it.2.1) ρ = some ρ' →
    (∀ h' tk ov', Step own wr s.heap own wr h' → Sim w G hb κ env own ov' ρ' h' → (∀ p ∈ ov', p.2 ∈ wr) → Pin sto ov ov' → (∀ a, ¬ isPlace env a → (∀ p ∈ ov, p.2 ≠ a) → (s.heap.get? a).isSome = true → h'.get? a = s.heap.get? a) → (∀ p ∈ ov', p ∈ ov ∨ p.2 ∈ addrsOf [it]) → Q () { s with heap := h', toks := tk }) →
    wpAny (model prog w) A (t it.2.2) Q E s

noncomputable def dName1 (κ : Str → Option NameKind) (sto : Str → Bool) (x : Str) (y : Bool × D) (ρ : Rho) : Option Rho := if okT κ sto x then some (upd ρ x (if y.1 then .own y.2 else .frz y.2)) else none
theorem store_name {A : Around} {env : Env} {x : Str} {t : Value → Sem Unit} (ht : ∀ (v : Value) (E : Value → Shared → Prop) (s : Shared) (Q : Unit → Shared → Prop), wpAny (model prog w) A (storeName env x v) Q E s → wpAny (model prog w) A (t v) Q E s) : StoreOk prog w G hb n κ sto A env t (dName1 κ sto x) :=
  fun own wr ov ρ ρ' s it E Q S W O H e hQ => by
    unfold dName1 at e
    split at e
    · rename_i hx
      cases e
      have hk := okT_kinds hx
      have hov := (let ⟨vm, S⟩ := S; S.ovIn : ∀ p ∈ ov, p.2 ∈ own ∧ ¬ isPlace env p.2)
      have hinj := (let ⟨vm, S⟩ := S; S.ovInj : (ov.map (·.2)).Nodup)
      obtain ⟨b, d, v⟩ := it
      have hit := H.ok _ List.mem_cons_self
      cases b with
      | false =>
        refine ht v E s Q (S.bind (ov' := ov) (b := .frz d) hk.1 hov hinj (fun _ _ => rfl) hit fun h' tk p hp hpo sb lv S2 => ?_)
        have hpp : isPlace env p := hp.elim .inl fun q => .inr ⟨x, q⟩
        exact hQ h' tk ov (W.step hk.2 hp sb lv) S2 O (Pin.refl _ _) (fun a ha _ _ => sb.2 a (fun q => ha (q ▸ hpp))) fun p hp => .inl hp
      | true =>
        obtain ⟨a, o, rfl, q, r⟩ := hit
        obtain ⟨h1, h2, h3⟩ := H.ap a (show a ∈ addrsOf [(true, d, .ref a)] from List.mem_cons_self)
        refine ht _ E s Q (S.bind (ov' := (x, a) :: ov) (b := .own d) hk.1 (fun p hp => ?_) ?_ (fun y hy => ?_) ⟨a, o, rfl, by simp, q, r⟩ fun h' tk p hp hpo sb lv S2 => ?_)
        · rcases List.mem_cons.mp hp with rfl | hp
          · exact ⟨W.sub _ h1, h2⟩
          · exact hov p hp
        · rw [List.map_cons, List.nodup_cons]
          refine ⟨fun hm => ?_, hinj⟩
          obtain ⟨p, hp, e⟩ := List.mem_map.mp hm
          exact h3 p hp e
        · have : (y == x) = false := by simpa using hy
          rw [List.lookup_cons, this]
        · have hpp : isPlace env p := hp.elim .inl fun q => .inr ⟨x, q⟩
          refine hQ h' tk ((x, a) :: ov) (W.step hk.2 hp sb lv) S2 (fun p hp => (List.mem_cons.mp hp).elim (fun e => e ▸ h1) (O p)) (Pin.cons hk.2) (fun a ha _ _ => sb.2 a (fun q => ha (q ▸ hpp))) fun p hp => ?_
          exact (List.mem_cons.mp hp).elim (fun e => .inr (by rw [e]; exact List.mem_cons_self)) .inl
    · cases e

noncomputable def dSub1 (κ : Str → Option NameKind) (x : Str) (fi : Den) (y : Bool × D) (ρ : Rho) : Option Rho := if y.1 then none else dStore κ x fi y.2 ρ
theorem store_sub {A : Around} {env : Env} {x : Str} {p p2 : Pos} {i : Expr} {fi : Den} (R : Room A n) (hi : Ev prog w G hb n κ i fi) : StoreOk prog w G hb n κ sto A env (assign (.Subscript (.Name x p) i p2) env) (dSub1 κ x fi) :=
  fun own wr ov ρ ρ' s it E Q S W O H e hQ => by
    unfold dSub1 at e
    split at e
    · cases e
    · rename_i hb'
      obtain ⟨b, d, v⟩ := it
      cases b with
      | true => exact absurd rfl hb'
      | false =>
        exact asn_store R hi S W O (H.ok _ List.mem_cons_self) e fun h' tk st S2 hk => hQ h' tk ov st S2 O (Pin.refl _ _) (fun a _ ha hl => hk a ha hl) fun p hp => .inl hp

noncomputable def storesD : List (Bool × D → Rho → Option Rho) → List (Bool × D) → Rho → Option Rho
  | [], ys, ρ => match ys with
    | [] => some ρ
    | _ :: _ => none
  | g :: gs, ys, ρ => match ys with
    | [] => none
    | y :: ys => (g y ρ).bind fun ρ1 => storesD gs ys ρ1

theorem stores_go {A : Around} {env : Env} : ∀ (ts : List (Value → Sem Unit)) (gs : List (Bool × D → Rho → Option Rho)) (items : List Held) (own wr : List Addr) (ov : List (Str × Addr)) (ρ ρ' : Rho) (s : Shared) (E : Value → Shared → Prop) (Q : Unit → Shared → Prop),
    ts.length = gs.length → (∀ (i : Nat) t g, ts[i]? = some t → gs[i]? = some g → StoreOk prog w G hb n κ sto A env t g) → Sim w G hb κ env own ov ρ s.heap → Wr env own wr sto → (∀ p ∈ ov, p.2 ∈ wr) → Hold w env own wr ov s.heap items →
    storesD gs (items.map fun i => (i.1, i.2.1)) ρ = some ρ' → (∀ h' tk ov', Step own wr s.heap own wr h' → Sim w G hb κ env own ov' ρ' h' → (∀ p ∈ ov', p.2 ∈ wr) → Pin sto ov ov' → Q () { s with heap := h', toks := tk }) →
    wpAny (model prog w) A (assignInOrder ts (items.map (·.2.2))) Q E s
  | [], [], items, own, wr, ov, ρ, ρ', s, E, Q, _, _, S, W, O, H, e, hQ => by
    cases items with
    | nil => cases e; exact wpAny_pure (hQ s.heap s.toks ov (Step.refl _ _ _) S O (Pin.refl _ _))
    | cons it items => cases e
  | t :: ts, g :: gs, [], own, wr, ov, ρ, ρ', s, E, Q, _, _, _, _, _, _, e, _ => by cases e
  | t :: ts, g :: gs, it :: items, own, wr, ov, ρ, ρ', s, E, Q, hl, hall, S, W, O, H, e, hQ => by
    obtain ⟨ρ1, e1, e⟩ := Option.bind_eq_some_iff.mp e
    show wpAny _ _ (do holding (items.map (·.2.2)) (t it.2.2); assignInOrder ts (items.map (·.2.2))) _ _ _
    have hsplit : addrsOf (it :: items) = addrsOf [it] ++ addrsOf items := by
      simp only [addrsOf, List.filterMap_cons, List.filterMap_nil]
      cases addrOf it <;> rfl
    have hnd := H.nd
    rw [hsplit] at hnd
    have hnd' := List.nodup_append.mp hnd
    have H1 : Hold w env own wr ov s.heap [it] := ⟨fun x hx => by rw [List.mem_singleton.mp hx]; exact H.ok it List.mem_cons_self, hnd'.1, fun a ha => H.ap a (by rw [hsplit]; exact List.mem_append_left _ ha)⟩
    refine wpAny_bind (wpAny_holding (hall 0 t g rfl rfl own wr ov ρ ρ1 s it E _ S W O H1 e1 fun h1 tk1 ov1 st1 S1 O1 P1 hk1 ho1 => ?_))
    have hlive : ∀ a ∈ addrsOf items, (s.heap.get? a).isSome = true := fun a ha => S.ltAll a (W.sub a (H.ap a (by rw [hsplit]; exact List.mem_append_right _ ha)).1)
    have H2 : Hold w env own wr ov1 h1 items := by
      refine ⟨fun x hx => (H.ok x (List.mem_cons_of_mem _ hx)).mono (st1.le W.sub) fun a ha => ?_, hnd'.2.1, fun a ha => ?_⟩
      · have hm := addrsOf_mem hx ha
        have ap := H.ap a (by rw [hsplit]; exact List.mem_append_right _ hm)
        exact hk1 a ap.2.1 ap.2.2 (hlive a hm)
      · have ap := H.ap a (by rw [hsplit]; exact List.mem_append_right _ ha)
        refine ⟨ap.1, ap.2.1, fun p hp q => ?_⟩
        rcases ho1 p hp with h | h
        · exact ap.2.2 p h q
        · exact hnd'.2.2 p.2 h a ha q
    exact stores_go ts gs items own wr ov1 ρ1 ρ' _ E Q (by simpa using hl) (fun i t' g' ht hg => hall (i + 1) t' g' (by simpa using ht) (by simpa using hg)) S1 W O1 H2 e fun h2 tk2 ov2 st2 S2 O2 P2 => hQ h2 tk2 ov2 (st1.trans S.ltAll st2) S2 O2 (P1.trans P2)
  | [], _ :: _, _, _, _, _, _, _, _, _, _, hl, _, _, _, _, _, _, _ => by simp at hl
  | _ :: _, [], _, _, _, _, _, _, _, _, _, hl, _, _, _, _, _, _, _ => by simp at hl
end
end Mine
end
section
open PySem PySem.W PyProof.Rows PySem.Spec PySem.SeqAt
set_option maxRecDepth 100000
namespace Mine

section
variable {prog : Program} {w : World} {G : Str → Option Value} {hb : Heap} {n : Nat} {κ : Str → Option NameKind} {sto : Str → Bool}

theorem ite_same {α : Type} {c : Prop} {_ : Decidable c} {x y : α} (h : y = x) : (if c then x else y) = x := by
  by_cases q : c
  · exact if_pos q
  · exact (if_neg q).trans h
/-- the stores are not turned round: not every target is a plain local name -/
noncomputable def noSwap (κ : Str → Option NameKind) (ts : List Expr) : Bool := (ts.filterMap fun
      | .Name id pos => if κ id == some .local && pos.line == (ts.head?.map (·.pos.line)).getD 0 then some id else none
      | _ => none).length != ts.length
theorem noSwap_eq {ts vs : List Expr} {k k2 : Nat} {tp vp : Pos} {env : Env} (h : noSwap env.kindOf ts = true) : swappedStores [.Tuple ts k tp] (.Tuple vs k2 vp) env = pure none := by
  refine ite_same (ite_same (if_pos ?_))
  exact (congrArg (· || _) h).trans (Bool.true_or _)
theorem assignEach_plain : ∀ {ts : List Expr} (env : Env), (ts.all fun t => !isStarred t) = true → assignEach ts env = ts.map fun t => (false, assign t env)
  | [], _, _ => rfl
  | t :: ts, env, h => by
    simp only [List.all_cons, Bool.and_eq_true, Bool.not_eq_true'] at h
    have ih := assignEach_plain (ts := ts) env (by simpa using h.2)
    rw [List.map_cons, ← ih]
    cases t <;> first | rfl | cases h.1

noncomputable def wantD (mu : Str → Bool) : Expr → Bool
  | .Name x _ => mu x
  | _ => false
noncomputable def tgtB (κ : Str → Option NameKind) (sto : Str → Bool) (FE : Expr → Den) : (t : Expr) → { f : Bool × D → Rho → Option Rho // ∀ (prog : Program) (w : World) (G : Str → Option Value) (hb : Heap) (n : Nat) (A : Around) (env : Env), (∀ c, Ev prog w G hb n κ c (FE c)) → Room A n → StoreOk prog w G hb n κ sto A env (assign t env) f }
  | .Name x p => ⟨dName1 κ sto x, fun _ _ _ _ _ _ _ _ _ => store_name fun v E s Q h => wpAny_assign_Name h⟩
  | .Subscript (.Name x p) i p2 => ⟨dSub1 κ x (FE i), fun _ _ _ _ _ _ _ hE R => store_sub R (hE i)⟩
  | _ => ⟨fun _ _ => none, fun _ _ _ _ _ _ _ _ _ own wr ov ρ ρ' s it E Q _ _ _ _ e => (nomatch e)⟩
noncomputable def tgtD (κ : Str → Option NameKind) (sto : Str → Bool) (FE : Expr → Den) (t : Expr) : Bool × D → Rho → Option Rho := (tgtB κ sto FE t).1
theorem tgtD_name (κ : Str → Option NameKind) (sto : Str → Bool) (FE : Expr → Den) (x : Str) (p : Pos) : tgtD κ sto FE (.Name x p) = dName1 κ sto x := rfl
theorem tgtD_sub (κ : Str → Option NameKind) (sto : Str → Bool) (FE : Expr → Den) (x : Str) (p p2 : Pos) (i : Expr) : tgtD κ sto FE (.Subscript (.Name x p) i p2) = dSub1 κ x (FE i) := rfl
theorem tgt_ok {FE : Expr → Den} (hE : ∀ c, Ev prog w G hb n κ c (FE c)) {A : Around} {env : Env} (R : Room A n) (t : Expr) : StoreOk prog w G hb n κ sto A env (assign t env) (tgtD κ sto FE t) := (tgtB κ sto FE t).2 prog w G hb n A env hE R

noncomputable def dTupAssign (κ : Str → Option NameKind) (sto mu : Str → Bool) (FE : Expr → Den) (ts vs : List Expr) : DenS := fun ρ =>
  if ts.length = vs.length ∧ (ts.all fun t => !isStarred t) = true ∧ noSwap κ ts = true ∧ vs.length ≤ 100 then
    (dHold FE (vs.zip (ts.map (wantD mu))) ρ).bind fun xs => (storesD (ts.map (tgtD κ sto FE)) xs ρ).map fun ρ' => (.next, ρ')
  else none
theorem Hold.push {env : Env} {own wr : List Addr} {ov : List (Str × Addr)} {h h' : Heap} {items : List Held} (H : Hold w env own wr ov h items) (x : Ext h h') : Hold w env own wr ov h' items :=
  ⟨fun it hi => by
    have hok := H.ok it hi
    obtain ⟨b, d, v⟩ := it
    cases b with
    | false => exact Rep.mono x.fz d hok
    | true => obtain ⟨a, o, e, q, r⟩ := hok; exact ⟨a, o, e, x _ _ q, r.mono x.fz⟩, H.nd, H.ap⟩
/-- the value: a tuple of what is held -/
theorem tup_val {FE : Expr → Den} {mu : Str → Bool} (hE : ∀ c, Ev prog w G hb n κ c (FE c)) {ts vs : List Expr} {k2 : Nat} {vp : Pos} {A : Around} {env : Env} {own wr : List Addr} {ov : List (Str × Addr)} {ρ : Rho} {s : Shared} {E : Value → Shared → Prop} {xs : List (Bool × D)} (R : Room A n) (S : Sim w G hb κ env own ov ρ s.heap) (W : Wr env own wr sto) (O : ∀ p ∈ ov, p.2 ∈ wr)
    (hlen : ts.length = vs.length) (hcap : vs.length ≤ 100) (e1 : dHold FE (vs.zip (ts.map (wantD mu))) ρ = some xs) {P : Value → Shared → Prop}
    (hP : ∀ t items m h' tk own' wr', Ext s.heap h' → Step own wr s.heap own' wr' h' → Sim w G hb κ env own' ov ρ h' → Wr env own' wr' sto → (∀ p ∈ ov, p.2 ∈ wr') → Hold w env own' wr' ov h' items → items.length = ts.length ∧ items.map (fun i => (i.1, i.2.1)) = xs →
          h'.get? t = some { cls := .type "tuple", data := .seq (items.map (·.2.2)).toArray m } → P (.ref t) { s with heap := h', toks := tk }) : wpAny (model prog w) A (eval (.Tuple vs k2 vp) env) P E s := by
  have hzl : (vs.zip (ts.map (wantD mu))).map (·.1) = vs := List.map_fst_zip (by rw [List.length_map, hlen]; exact Nat.le_refl _)
  have hz2 : (vs.zip (ts.map (wantD mu))).length = ts.length := by rw [List.length_zip, List.length_map, hlen, Nat.min_self]
  refine Tuple_ ?_
  have hg := hold_go (sto := sto) hE (pos := vp) R (vs.zip (ts.map (wantD mu))) own wr s xs (fun us s₁ => wpAny (model prog w) A (newTuple us) P E s₁) S W O e1 fun items h1 tk1 own1 wr1 x1 st1 S1 W1 O1 H1 hm _ _ _ => by
    refine wpAny_newTuple (hP _ items 0 _ tk1 own1 wr1 (x1.trans (Ext.push _ _)) (st1.trans S.ltAll (Step.of_ext (Ext.push _ _))) (S1.ext (Ext.push _ _)) W1 O1 (H1.push (Ext.push _ _)) ⟨hm.1.trans hz2, hm.2⟩ (Heap.get?_push_size _ rfl)) (by simp only [sizeOk, List.size_toArray, List.length_map, hm.1, hz2, hlen]; have := cap_lt; have : cap = 200 := rfl; omega)
  rw [hzl] at hg
  exact anyE hg
theorem ex_tupAssign {FE : Expr → Den} {mu : Str → Bool} (hE : ∀ c, Ev prog w G hb n κ c (FE c)) {ts vs : List Expr} {k k2 : Nat} {tp vp pos : Pos} : Ex prog w G hb n κ sto (.Assign [.Tuple ts k tp] (.Tuple vs k2 vp) pos) (dTupAssign κ sto mu FE ts vs) :=
  fun A env own wr ov ρ s E fl ρ' R S W O e Q hQ => by
    obtain ⟨⟨hlen, hst, hns, hcap⟩, e⟩ := if_of e
    obtain ⟨xs, e1, e⟩ := Option.bind_eq_some_iff.mp e
    obtain ⟨ρ1, e2, e⟩ := Option.map_eq_some_iff.mp e
    cases e
    have hsn : swappedStores [.Tuple ts k tp] (.Tuple vs k2 vp) env = pure none := by
      obtain ⟨vm, S⟩ := S
      refine noSwap_eq ?_
      rw [show env.kindOf = κ from funext S.kap]; exact hns
    refine Assign_Tuple (tup_val hE R S W O hlen hcap e1 fun t items m h1 tk1 own1 wr1 x1 st1 S1 W1 O1 H1 hm ht => ?_) rfl hsn
    have hae := assignEach_plain (ts := ts) env hst
    refine wpAny_assign_Tuple (s := { s with heap := h1, toks := tk1 }) R.hd ⟨_, ht, rfl, m, rfl⟩ (by rw [hae, List.size_toArray, List.length_map, List.length_map, hm.1]) (by rw [hae]; simp) fun h2 x2 => ?_
    have x2 : Ext h1 h2 := fun b o' hb' => x2 b o' (Nat.ne_of_lt (Heap.lt_size hb')) hb'
    rw [hae, List.map_map]
    refine stores_go (n := n) (s := { s with heap := h2, toks := tk1 }) (ts.map fun t => assign t env) (ts.map (tgtD κ sto FE)) items own1 wr1 ov ρ _ E _ (by rw [List.length_map, List.length_map]) (fun i t' g ht' hg' => ?_) (S1.ext x2) W1 O1 (H1.push x2) (by rw [hm.2]; exact e2) fun h3 tk3 ov3 st3 S3 O3 P3 => ?_
    · rw [List.getElem?_map] at ht' hg'
      obtain ⟨t0, h5, rfl⟩ := Option.map_eq_some_iff.mp ht'
      rw [h5] at hg'
      cases hg'
      exact tgt_ok hE R t0
    · exact hQ .next h3 tk3 own1 wr1 ov3 ((st1.trans S.ltAll (Step.of_ext x2)).trans S.ltAll st3) S3 W1 O3 ⟨rfl, P3⟩
/-- two names -/
--[01
noncomputable def swapN (κ : Str → Option NameKind) (ts vs : List Expr) : Option (List Str) :=
  if !(ts.length == 2 || ts.length == 3) || vs.length != ts.length then none
  else if vs.any (fun | .Starred .. => true | _ => false) then none
  else
    let line := (ts.head?.map (·.pos.line)).getD 0
    let names := ts.filterMap fun
      | .Name id pos => if κ id == some .local && pos.line == line then some id else none
      | _ => none
    if names.length != ts.length || names.eraseDups.length != names.length then none
    else if vs.all (foldedForSure 8) then none
    else some names
theorem swapN_eq {ts vs : List Expr} {k k2 : Nat} {tp vp : Pos} {env : Env} (hf : env.scope.kind = .function) (hk : ∀ x, env.kindOf x = κ x) (hc : vs.all (constantsAlone 8) = false) :
    swappedStores [.Tuple ts k tp] (.Tuple vs k2 vp) env = pure (swapN κ ts vs) := by
  have hbk : (env.blockKind != ScopeKind.function) = false := by
    unfold Env.blockKind
    rw [hf]; rfl
  unfold swappedStores swapN
  simp only [hbk, hk, hc, Bool.or_false, Bool.false_eq_true, if_false]
  split
  · rfl
  · split
    · rename_i h; exact congrArg pure (if_pos h).symm
    · rename_i h
      refine Eq.trans ?_ (congrArg pure (if_neg h).symm)
      split
      · rename_i h; exact congrArg pure (if_pos h).symm
      · rename_i h
        refine Eq.trans ?_ (congrArg pure (if_neg h).symm)
        first
          | rfl
          | (split
             · first
                 | rfl
                 | (rename_i h; exact congrArg pure (if_pos h).symm)
             · first
                 | rfl
                 | (rename_i h; exact congrArg pure (if_neg h).symm))

theorem swapN_length {ts vs : List Expr} {names : List Str} (e : swapN κ ts vs = some names) : names.length = ts.length := by
  unfold swapN at e
  split at e
  · cases e
  · split at e
    · cases e
    · simp only at e
      split at e
      · cases e
      · rename_i h
        split at e
        · cases e
        · cases e
          simp only [Bool.or_eq_true, bne_iff_ne, ne_eq, not_or, Classical.not_not] at h
          exact h.1

theorem Hold.rev {env : Env} {own wr : List Addr} {ov : List (Str × Addr)} {h : Heap} {items : List Held} (H : Hold w env own wr ov h items) : Hold w env own wr ov h items.reverse :=
  ⟨fun it hi => H.ok it (List.mem_reverse.mp hi), by rw [addrsOf, List.filterMap_reverse]; exact (List.reverse_perm _).nodup_iff.mpr H.nd, fun a ha => H.ap a (by rw [addrsOf, List.filterMap_reverse] at ha; exact List.mem_reverse.mp ha)⟩

noncomputable def dTupSwap (κ : Str → Option NameKind) (sto mu : Str → Bool) (FE : Expr → Den) (ts vs : List Expr) : DenS := fun ρ =>
  if ts.length = vs.length ∧ (ts.all fun t => !isStarred t) = true ∧ vs.all (constantsAlone 8) = false ∧ vs.length ≤ 100 then
    (dHold FE (vs.zip (ts.map (wantD mu))) ρ).bind fun xs => (swapN κ ts vs).bind fun names => (storesD (names.reverse.map (dName1 κ sto)) xs.reverse ρ).map fun ρ' => (.next, ρ')
  else none
theorem ex_tupSwap {FE : Expr → Den} {mu : Str → Bool} (hE : ∀ c, Ev prog w G hb n κ c (FE c)) {ts vs : List Expr} {k k2 : Nat} {tp vp pos : Pos} : Ex prog w G hb n κ sto (.Assign [.Tuple ts k tp] (.Tuple vs k2 vp) pos) (dTupSwap κ sto mu FE ts vs) :=
  fun A env own wr ov ρ s E fl ρ' R S W O e Q hQ => by
    obtain ⟨⟨hlen, hst, hns, hcap⟩, e⟩ := if_of e
    obtain ⟨xs, e1, e⟩ := Option.bind_eq_some_iff.mp e
    obtain ⟨names, hsw, e⟩ := Option.bind_eq_some_iff.mp e
    obtain ⟨ρ1, e2, e⟩ := Option.map_eq_some_iff.mp e
    cases e
    have hsn : swappedStores [.Tuple ts k tp] (.Tuple vs k2 vp) env = pure (some names) := by
      rw [← hsw]
      obtain ⟨vm, S⟩ := S
      exact swapN_eq S.eo.fn S.kap hns
    have hnl := swapN_length hsw
    refine Assign_Tuple_swapped (tup_val hE R S W O hlen hcap e1 fun t items m h1 tk1 own1 wr1 x1 st1 S1 W1 O1 H1 hm ht => ?_) rfl hsn
    have hsz : names.length = (items.map (·.2.2)).toArray.size := by rw [List.size_toArray, List.length_map, hm.1, hnl]
    rw [hsz]
    refine wpAny_unpackItems_tuple (s := { s with heap := h1, toks := tk1 }) R.hd ⟨_, ht, rfl, m, rfl⟩ fun h2 x2 => ?_
    have x2 : Ext h1 h2 := fun b o' hb' => x2 b o' (Nat.ne_of_lt (Heap.lt_size hb')) hb'
    have hrev : (items.map (·.2.2)).toArray.toList.reverse = items.reverse.map (·.2.2) := by simp
    rw [hrev]
    refine stores_go (n := n) (s := { s with heap := h2, toks := tk1 }) (names.reverse.map fun x => bindName env x) (names.reverse.map (dName1 κ sto)) items.reverse own1 wr1 ov ρ _ E _ (by simp) (fun i t' g ht' hg' => ?_) (S1.ext x2) W1 O1 (H1.push x2).rev (by rw [show items.reverse.map (fun i : Held => (i.1, i.2.1)) = xs.reverse by rw [List.map_reverse, hm.2]]; exact e2) fun h3 tk3 ov3 st3 S3 O3 P3 => ?_
    · rw [List.getElem?_map] at ht' hg'
      obtain ⟨x0, h5, rfl⟩ := Option.map_eq_some_iff.mp ht'
      rw [h5] at hg'
      cases hg'
      exact store_name fun v E s Q h => wpAny_bindName h
    · exact hQ .next h3 tk3 own1 wr1 ov3 ((st1.trans S.ltAll (Step.of_ext x2)).trans S.ltAll st3) S3 W1 O3 ⟨rfl, P3⟩
--]
end
end Mine
end
section
open PySem PySem.W PyProof.Rows PySem.Spec PySem.SeqAt
set_option maxRecDepth 100000
namespace Mine

section
variable {prog : Program} {w : World} {G : Str → Option Value} {hb : Heap} {n : Nat} {κ : Str → Option NameKind} {sto : Str → Bool}

theorem Sim.newNe {env : Env} {own : List Addr} {ov : List (Str × Addr)} {ρ : Rho} {h : Heap} (S : Sim w G hb κ env own ov ρ h) {h' : Heap} (x : Ext h h') : h'.objs.size ≠ sysModules := by
  obtain ⟨vm, S⟩ := S
  have h1 : h'.Ns mainGlobals G := (S.bas.g.keeps S.ext).keeps x
  have h2 := h1.lt
  have h3 : sysModules < mainGlobals := by decide
  exact Nat.ne_of_gt (Nat.lt_trans h3 h2)

/-! ## Dict displays -/
theorem ev_dict0 {pos : Pos} : Ev prog w G hb n κ (.Dict [] [] pos) (fun _ => some (.fresh, .idict [] [])) :=
  fun A env own ov ρ s fl d R S e Q hQ => by
    cases e
    refine wpAny_Dict_empty (hQ _ _ _ (Ext.push _ _) (vrep_new (Ext.refl _) rfl ?_))
    simp only [ORep]
    exact ⟨⟨S.newNe (Ext.refl _), rfl, rfl, rfl⟩, #[], 0, rfl, ⟨Nat.zero_le _, List.nodup_nil⟩, by simp [IKeys], by simp [Reps]⟩

theorem op_dictSet {A : Around} {s : Shared} {g : Part} {a : Addr} {o : Obj} {e f d' : D} {u v : Value} {Q : Unit → Shared → Prop} (r : Room A n) (hg : Le g s.heap.get?) (ho : s.heap.get? a = some o) (x : ORep w g a o (.idict [] [])) (y : Rep w g e u) (z : Rep w g f v)
    (hf : putD (fitD (.idict [] []) e) e f = some d')
    (h : ∀ h' o' tk, Heap.SameBut a s.heap h' → h'.get? a = some o' → ORep w g a o' d' → Q () { s with heap := h', toks := tk }) : wpAny (model prog w) A (dictSet a u v) Q NoE s := by
  have hne : a ≠ sysModules := by simp only [ORep] at x; exact x.1.1
  cases e with
  | int k =>
    rw [fitD_int, putD_idict] at hf
    have hk := (if_of hf).1
    have hf := (if_of hf).2
    · cases hf
      simp only [Rep] at y
      obtain ⟨t, rfl⟩ := y
      obtain ⟨vs, hm, rr, hl, hs, hcap, _⟩ := idict_of (prog := prog) ho x
      refine wpAny_dictSet_pairs (knd := intKind prog w) (k := k) (by simp [intKind, Value.isInt]) hm (fun h' hm' sb => ?_) (by rw [List.length_zip]; simp)
      rw [stored_putK [] vs k v hl] at hm'
      have hput : (putK ([] : List Int) vs k v).1 = (putK ([] : List Int) ([] : List D) k f).1 := by simp [putK]
      have rr' : Reps w g (putK ([] : List Int) ([] : List D) k f).2 (putK ([] : List Int) vs k v).2 := by
        unfold putK
        rw [if_neg (by simp), if_neg (by simp)]
        exact rr.append (Reps.single z)
      obtain ⟨o', q, ro⟩ := idict_back (prog := prog) (w := w) hm' (putK_length hl) rr' (by rw [hput]; exact hk) hne
      rw [hput] at ro
      exact h h' o' _ sb q ro
  | tup es =>
    have x2 : ORep w g a o (.tdict [] []) := x.fit (e := .tup es)
    rw [fitD_nil, putD_tdict] at hf
    obtain ⟨k, hk, hf⟩ := Option.bind_eq_some_iff.mp hf
    have hc := (if_of hf).1
    have hf := (if_of hf).2
    · cases hf
      have ky := y.key hk
      obtain ⟨c, rfl, hi⟩ := KeyAt.is (prog := prog) (w := w) hg ky
      obtain ⟨xs, hm, hx0, rr, hke, hs, hcap⟩ := tdict_of (prog := prog) hg ho x2
      have hx0 : xs = [] := by simpa using hx0
      subst hx0
      refine wpAny_dictSet_heap (show (tk prog w).room A by have := r.un; show A.units < cLine; exact om_5 this) hi hm (fun h' hm' sb => ?_) (by simp)
      obtain ⟨e1, e2⟩ := storedH_putK [] k c v
      have rr' : Reps w g (putK ([] : List (List Scal)) ([] : List D) k f).2 ((storedH [] k c v).map (·.2.2)) := by
        rw [e2]
        simp only [putK, List.map_nil, List.not_mem_nil, if_false, List.nil_append]
        exact Reps.single z
      obtain ⟨o', q, ro⟩ := tdict_back (prog := prog) (w := w) hm' rr' (storedH_keyAt (fun _ hx => (nomatch hx)) ky) (by simp [storedH, atKey]; decide) hne
      rw [e1] at ro
      exact h h' o' _ sb q ro
  | none => cases hf
  | bool _ => cases hf
  | str _ => cases hf
  | lst _ => cases hf
  | idict _ _ => cases hf
  | tdict _ _ => cases hf

noncomputable def dDict1 (fk fv : Den) : Den := fun ρ => (dFrz fk ρ).bind fun k => (dFrz fv ρ).bind fun v => (putD (fitD (.idict [] []) k) k v).map fun d => (.fresh, d)
theorem ev_dict1 {k v : Expr} {pos : Pos} {fk fv : Den} (hk : Ev prog w G hb n κ k fk) (hv : Ev prog w G hb n κ v fv) : Ev prog w G hb n κ (.Dict [some k] [v] pos) (dDict1 fk fv) :=
  fun A env own ov ρ s fl d R S e Q hQ => by
    obtain ⟨kd, e1, e⟩ := Option.bind_eq_some_iff.mp e
    obtain ⟨vd, e2, e⟩ := Option.bind_eq_some_iff.mp e
    obtain ⟨d', e3, e⟩ := Option.map_eq_some_iff.mp e
    cases e
    obtain ⟨f1, e1, hl1⟩ := dFrz_some e1
    obtain ⟨f2, e2, hl2⟩ := dFrz_some e2
    refine wpAny_Dict_any rfl rfl (by simp) (by simp) ?_
    generalize hD : s.heap.objs.size = D0
    generalize hh1 : s.heap.push { cls := .type "dict", data := .dict #[] } = h1
    have x1 : Ext s.heap h1 := by rw [← hh1]; exact Ext.push _ _
    have hDn : s.heap.get? D0 = none := by rw [← hD]; exact get_size _
    have hDo : h1.get? D0 = some { cls := .type "dict", data := .dict #[] } := by rw [← hh1, ← hD]; exact Heap.get?_push_size _ rfl
    have hDs : D0 ≠ sysModules := by rw [← hD]; exact S.newNe (Ext.refl _)
    have S1 : Sim w G hb κ env ([D0] ++ own) ov ρ h1 := S.more x1 fun a ha => by rw [List.mem_singleton.mp ha]; exact ⟨hDn, by rw [hDo]; rfl⟩
    refine evalPairs_cons (hk A env ([D0] ++ own) ov ρ _ f1 kd R S1 e1 _ fun u h2 tk2 x2 r2 => ?_)
    show wpAny _ _ (do let x ← eval v env; standAt pos; pure x) _ _ _
    refine wpAny_bind (hv A env ([D0] ++ own) ov ρ _ f2 vd R (S1.ext x2) e2 _ fun u2 h3 tk3 x3 r3 => wpAny_bind (wpAny_standAt (wpAny_pure ?_)))
    refine evalPairs_nil ?_
    unfold storeAll
    rw [List.forIn_cons]
    have hDo3 := x3 _ _ (x2 _ _ hDo)
    refine wpAny_bind (wpAny_bind (op_dictSet (s := { s with heap := h3, toks := tk3 }) (g := Fz ([D0] ++ own) h3) R (Fz.le _ _) hDo3 ?_ (Rep.mono x3.fz _ (r2.frz hl1 S1.ltAll)) (r3.frz hl2 (S1.ext x2).ltAll) e3 fun h4 o4 tk4 sb q ro => ?_))
    · simp only [ORep]
      exact ⟨⟨hDs, rfl, rfl, rfl⟩, #[], 0, rfl, ⟨Nat.zero_le _, List.nodup_nil⟩, by simp [IKeys], by simp [Reps]⟩
    · refine wpAny_pure ?_
      simp only [List.forIn_nil]
      refine wpAny_pure ?_
      have x4 : Ext s.heap h4 := fun a o e => (sb.2 a (fun z => by rw [z, hDn] at e; cases e)).trans (x3 a o (x2 a o (x1 a o e)))
      refine hQ _ h4 tk4 x4 ⟨D0, o4, rfl, hDn, q, ro.mono fun a o e => ?_⟩
      have e2 := Fz.get e
      exact Fz.of e2.1 ((sb.2 a (fun z => e2.1 (by rw [z]; exact List.mem_append_left _ (List.mem_singleton.mpr rfl)))).trans e2.2)

/-! ## list(..) -/
end
end Mine
end
section
open PySem PySem.W PyProof.Rows PySem.Spec PySem.SeqAt
set_option maxRecDepth 100000
namespace Mine

/-! ## Calls of the text's own functions -/
structure FnAt (hb : Heap) (a : Addr) (fd : FuncData) (body : List Stmt) : Prop where
  obj : ∃ o, hb.get? a = some o ∧ o.data = .func fd
  body : fd.body = .stmts body
  code : hb.CodeRec fd.code fd.qualname
  gl : fd.globals = mainGlobals
  bl : fd.builtins = builtinsNs
  clo : fd.closure = []
  co : fd.scope.isCoroutine = false
  gen : fd.scope.isGenerator = false
  kind : fd.scope.kind = .function

noncomputable def kapF (scope : Scope) : Str → Option NameKind := fun x => scope.names.lookup x
noncomputable def stoF (scope : Scope) : Str → Bool := fun x => scope.names.lookup x == some .local || scope.names.lookup x == some .cell
/-- what is asked of a function's scope: ps its parameters -/
noncomputable def fscopeOk (scope : Scope) (ps : List Str) : Bool :=
  decide ((scope.names.map (·.1)).Nodup) && decide (ps.Nodup) && (scope.names.all fun p => !(p.2 == .free)) && ps.all fun p => scope.names.lookup p == some .local || scope.names.lookup p == some .cell

noncomputable def rho0 (ps : List Str) (bs : List Bd) : Rho := fun x => (ps.zip bs).lookup x

section
variable {prog : Program} {w : World} {G : Str → Option Value} {hb : Heap} {n : Nat}

theorem bindL_at (k : Str → Option NameKind) : ∀ (binds : List (Str × Value)) (m : Str → Option Value) (x : Str), (binds.map (·.1)).Nodup → bindL k binds m x = if k x = some .local then (binds.lookup x).or (m x) else m x
  | [], m, x, _ => by simp [bindL]
  | (y, v) :: r, m, x, hn => by
    rw [List.map_cons, List.nodup_cons] at hn
    unfold bindL
    rw [bindL_at k r _ x hn.2, List.lookup_cons]
    have hno : x = y → r.lookup x = none := fun e => by
      cases q : r.lookup x with
      | none => rfl
      | some u => exact absurd (List.mem_map.mpr ⟨(x, u), mem_of_lookup q, e⟩) hn.1
    by_cases hxy : x = y
    · subst hxy
      rw [hno rfl]
      by_cases hk : k x = some .local <;> simp [hk]
    · have hb' : (x == y) = false := by simpa using hxy
      rw [hb']
      by_cases hk : k x = some .local
      · simp only [hk, if_true]
        by_cases hy : k y = some .local
        · simp [hy, hxy]
        · simp [hy]
      · simp only [hk, if_false]
        by_cases hy : k y = some .local
        · simp [hy, hxy]
        · simp [hy]
theorem bindC_at (k : Str → Option NameKind) : ∀ (binds : List (Str × Value)) (m : Str → Option Value) (x : Str), (binds.map (·.1)).Nodup → bindC k binds m x = if k x = some .local then m x else (binds.lookup x).or (m x)
  | [], m, x, _ => by simp [bindC]
  | (y, v) :: r, m, x, hn => by
    rw [List.map_cons, List.nodup_cons] at hn
    unfold bindC
    rw [bindC_at k r _ x hn.2, List.lookup_cons]
    have hno : x = y → r.lookup x = none := fun e => by
      cases q : r.lookup x with
      | none => rfl
      | some u => exact absurd (List.mem_map.mpr ⟨(x, u), mem_of_lookup q, e⟩) hn.1
    by_cases hxy : x = y
    · subst hxy
      rw [hno rfl]
      by_cases hk : k x = some .local <;> simp [hk]
    · have hb' : (x == y) = false := by simpa using hxy
      rw [hb']
      by_cases hk : k x = some .local
      · simp only [hk, if_true]
        by_cases hy : k y = some .local
        · simp [hy]
        · simp [hy, hxy]
      · simp only [hk, if_false]
        by_cases hy : k y = some .local
        · simp [hy]
        · simp [hy, hxy]

/-- a call's frame -/
theorem frame_sim {s s₁ : Shared} {fd : FuncData} {a : Addr} {ps : List Str} {vs : List Value} {bs : List Bd} {own wro : List Addr} {ov : List (Str × Addr)} (hB : Base G hb) (hx : Ext hb s.heap) (hh : ∀ a ∈ own, hb.get? a = none) (hlt : ∀ a ∈ own, (s.heap.get? a).isSome = true)
    (hs : fscopeOk fd.scope ps = true) (hk : fd.scope.kind = .function) (hgl : fd.globals = mainGlobals) (hbl : fd.builtins = builtinsNs) (hl : ps.length = vs.length)
    (hwo : ∀ b ∈ wro, b ∈ own) (hovw : ∀ p ∈ ov, p.2 ∈ wro) (hovn : (ov.map (·.2)).Nodup)
    (hbs : ∀ (i : Nat) v b x, vs[i]? = some v → bs[i]? = some b → ps[i]? = some x → BdOk w own ov s.heap x v b)
    (x : InCallC s (callEnvC fd s.heap.objs.size a).locals (bindL (callEnvC fd s.heap.objs.size a).kindOf (ps.zip vs) fun _ => none) (callEnvC fd s.heap.objs.size a).cells (bindC (callEnvC fd s.heap.objs.size a).kindOf (ps.zip vs) fun _ => none) s₁) :
    ∃ new, (∀ b ∈ new, s.heap.get? b = none ∧ (s₁.heap.get? b).isSome = true) ∧ Sim w G hb (kapF fd.scope) (callEnvC fd s.heap.objs.size a) (new ++ own) ov (rho0 ps bs) s₁.heap ∧ Wr (callEnvC fd s.heap.objs.size a) (new ++ own) (new ++ wro) (stoF fd.scope) ∧ (∀ p ∈ ov, p.2 ∈ new ++ wro) ∧ Ext s.heap s₁.heap := by
  simp only [fscopeOk, Bool.and_eq_true, decide_eq_true_eq, List.all_eq_true, Bool.not_eq_true', beq_eq_false_iff_ne, ne_eq, Bool.or_eq_true, beq_iff_eq] at hs
  obtain ⟨⟨⟨hn, hpn⟩, hfree⟩, hpk⟩ := hs
  generalize hL : s.heap.objs.size = L at x ⊢
  have x1 : Ext s.heap s₁.heap := x.toInCall.keep
  have notIn : ∀ {b : Addr}, L ≤ b → s.heap.get? b = none := fun {b} hb => by
    cases q : s.heap.get? b with
    | none => rfl
    | some o => exact absurd (Heap.lt_size q) (by rw [hL]; exact Nat.not_lt.mpr hb)
  let cs := cellsFrom (L + 1) fd.scope.names []
  have hcells : (callEnvC fd L a).cells = cs := rfl
  have hkind : ∀ y, (callEnvC fd L a).kindOf y = kapF fd.scope y := fun _ => rfl
  have hloc : (callEnvC fd L a).locals = L := rfl
  have csMem : ∀ y c, cs.lookup y = some c → (y, c) ∈ cs ∧ fd.scope.names.lookup y = some .cell := fun y c q => ⟨mem_of_lookup q, lookup_nodup hn (cellsFrom_mem _ _ _ _ (mem_of_lookup q))⟩
  let new := L :: cs.map (·.2)
  have hcl : ∀ p ∈ cs, L < p.2 := fun p hp => x.above p.1 p.2 hp
  have hcm : ∀ p ∈ cs, (s₁.heap.get? p.2).isSome = true := fun p hp => by
    obtain ⟨c', q⟩ := lookup_isSome_of_mem (c := p.2) (y := p.1) hp
    have : c' = p.2 := by
      -- the same name holds one cell
      have nd : (cs.map (·.1)).Nodup := cells_nodup fd.scope.names (L + 1) hn
      rw [lookup_nodup nd hp] at q
      exact (Option.some.inj q).symm
    obtain ⟨o, q2, _⟩ := x.cell p.1 c' q
    rw [← this, q2]; rfl
  have hnew : ∀ b ∈ new, s.heap.get? b = none ∧ (s₁.heap.get? b).isSome = true := fun b hb' => by
    rcases List.mem_cons.mp hb' with rfl | hb'
    · obtain ⟨o, es, ep, q, _⟩ := x.toInCall.ns
      exact ⟨notIn (Nat.le_refl _), by rw [hloc] at q; rw [q]; rfl⟩
    · obtain ⟨p, hp, rfl⟩ := List.mem_map.mp hb'
      exact ⟨notIn (Nat.le_of_lt (hcl p hp)), hcm p hp⟩
  have hbn : ((ps.zip vs).map (·.1)).Nodup := by rw [List.map_fst_zip (by exact om_11 hl)]; exact hpn
  let vm : Str → Option Value := fun y => if kapF fd.scope y = some .local then bindL (callEnvC fd L a).kindOf (ps.zip vs) (fun _ => none) y else bindC (callEnvC fd L a).kindOf (ps.zip vs) (fun _ => none) y
  refine ⟨new, hnew, ⟨vm, ⟨hk, hgl, hbl, List.mem_append_left _ (by rw [hloc]; exact List.mem_cons_self), ⟨_, x.toInCall.ns, fun y hy => ?_⟩, fun y hy => ?_, fun y z c hy hz => ?_, fun y c hy => ?_, fun y c hy => .inl (csMem y c hy).2⟩, hkind, hB, hx.trans x1, fun b hb' => ?_, fun b hb' => ?_, fun y b hy => ?_, fun p hp => ?_, hovn⟩, ⟨fun b hb' => ?_, ?_, fun y c _ hy => ?_⟩, fun p hp => List.mem_append_right _ (hovw p hp), x1⟩
  · show _ = vm y
    rw [hkind] at hy
    simp only [vm, hy, if_true]
  · have hc' : fd.scope.names.lookup y = some .cell := by
      rw [hkind] at hy
      rcases hy with hy | hy
      · exact hy
      · exact absurd rfl (hfree _ (mem_of_lookup hy))
    obtain ⟨c0, hc0⟩ := cellsFrom_has fd.scope.names (L + 1) y (mem_of_lookup hc')
    obtain ⟨c, hc⟩ := lookup_isSome_of_mem hc0
    refine ⟨c, hc, List.mem_append_left _ (List.mem_cons_of_mem _ (List.mem_map.mpr ⟨_, mem_of_lookup hc, rfl⟩)), fun q => ?_, ?_⟩
    · have := hcl _ (mem_of_lookup hc)
      rw [hloc] at q
      rw [q] at this; exact Nat.lt_irrefl _ this
    · have hnl : ¬ kapF fd.scope y = some .local := by show ¬ fd.scope.names.lookup y = _; rw [hc']; simp
      have e : vm y = bindC (callEnvC fd L a).kindOf (ps.zip vs) (fun _ => none) y := by simp only [vm, hnl, if_false]
      rw [e]; exact x.cell y c hc
  · exact name_of_addr x.apart (mem_of_lookup hy) (mem_of_lookup hz)
  · exact List.mem_append_left _ (List.mem_cons_of_mem _ (List.mem_map.mpr ⟨_, mem_of_lookup hy, rfl⟩))
  · rcases List.mem_append.mp hb' with q | q
    · exact hx.none (hnew b q).1
    · exact hh b q
  · rcases List.mem_append.mp hb' with q | q
    · exact (hnew b q).2
    · exact x1.some (hlt b q)
  · have hyl : (ps.zip bs).lookup y = some b := hy
    have hyp : y ∈ ps := (List.of_mem_zip (mem_of_lookup hyl)).1
    have hyk := hpk y hyp
    obtain ⟨v, hv, hP⟩ := look3 (vs := vs) hyl hl
    have hbd : BdOk w own ov s.heap y v b := by
      obtain ⟨i, h1, h2, h3⟩ := hP
      exact hbs i v b y h2 h3 h1
    refine ⟨by show isV (fd.scope.names.lookup y) = true; rcases hyk with q | q <;> simp [isV, q], v, ?_, hbd.more x1 fun c hc => (List.mem_append.mp hc).elim (fun q => .inr (hnew c q).1) .inl⟩
    show (if kapF fd.scope y = some .local then _ else _) = _
    split
    · rename_i q
      rw [bindL_at _ _ _ _ hbn, if_pos (by rw [hkind]; exact q), hv]; rfl
    · rename_i q
      rw [bindC_at _ _ _ _ hbn, if_neg (by rw [hkind]; exact q), hv]; rfl
  · refine ⟨List.mem_append_right _ (hwo _ (hovw p hp)), fun q => ?_⟩
    have hpl := hlt _ (hwo _ (hovw p hp))
    rcases q with q | ⟨y, q⟩
    · exact isSome_none hpl (notIn (by rw [q, hloc]; exact Nat.le_refl _))
    · exact isSome_none hpl (notIn (Nat.le_of_lt (hcl (y, p.2) (csMem y p.2 q).1)))
  · rcases List.mem_append.mp hb' with q | q
    · exact List.mem_append_left _ q
    · exact List.mem_append_right _ (hwo b q)
  · exact List.mem_append_left _ (by rw [hloc]; exact List.mem_cons_self)
  · exact List.mem_append_left _ (List.mem_cons_of_mem _ (List.mem_map.mpr ⟨_, (csMem y c hy).1, rfl⟩))
where
  cells_nodup : ∀ (names : List (Str × NameKind)) (k : Nat), (names.map (·.1)).Nodup → ((cellsFrom k names []).map (·.1)).Nodup
    | [], _, _ => by simp [cellsFrom]
    | (y, kd) :: r, k, hn => by
      rw [List.map_cons, List.nodup_cons] at hn
      unfold cellsFrom
      split
      · rw [cellsFrom_acc, List.map_append]
        refine List.nodup_append.mpr ⟨cells_nodup r _ hn.2, by simp, fun z hz u hu => ?_⟩
        simp at hu
        subst hu
        rintro rfl
        obtain ⟨p, hp, q⟩ := List.mem_map.mp hz
        have := cellsFrom_mem r _ p.1 p.2 hp
        exact hn.1 (List.mem_map.mpr ⟨_, this, q⟩)
      · exact cells_nodup r _ hn.2
  look3 {ps : List Str} {vs : List Value} : ∀ {bs : List Bd} {x : Str} {b : Bd}, (ps.zip bs).lookup x = some b → ps.length = vs.length → ∃ v, (ps.zip vs).lookup x = some v ∧ ∃ i : Nat, ps[i]? = some x ∧ vs[i]? = some v ∧ bs[i]? = some b := by
    induction ps generalizing vs with
    | nil => intro bs x b h; simp at h
    | cons p ps ih =>
      intro bs x b h hl
      cases bs with
      | nil => simp at h
      | cons b0 bs =>
        cases vs with
        | nil => simp at hl
        | cons v0 vs =>
          rw [List.zip_cons_cons, List.lookup_cons] at h
          rw [List.zip_cons_cons, List.lookup_cons]
          cases hx : x == p with
          | true =>
            rw [hx] at h; cases h
            have : x = p := by simpa using hx
            exact ⟨v0, rfl, 0, by simp [this], rfl, rfl⟩
          | false =>
            rw [hx] at h
            obtain ⟨v, h1, i, h2, h3, h4⟩ := ih h (by simpa using hl)
            exact ⟨v, h1, i + 1, by simpa using h2, by simpa using h3, by simpa using h4⟩

/-- what a function answers -/
noncomputable def CallOk (prog : Program) (w : World) (G : Str → Option Value) (hb : Heap) (n : Nat) (a : Addr) (F : List D → Option D) : Prop :=
  ∀ (A : Around) (own : List Addr) (s : Shared) (ds : List D) (vs : List Value) (d : D), Room A n → Base G hb → Ext hb s.heap → (∀ a ∈ own, hb.get? a = none) → (∀ a ∈ own, (s.heap.get? a).isSome = true) → Reps w (Fz own s.heap) ds vs → F ds = some d →
    ∀ (E : Value → Shared → Prop) (Q : Value → Shared → Prop), (∀ v h' tk, Ext s.heap h' → Rep w (Fz own h') d v → Q v { s with heap := h', toks := tk }) → wpAny (model prog w) A (call (.ref a) vs) Q E s

/-- the answer of a body -/
noncomputable def fnD (body : DenS) (ps : List Str) (extra : List D) (k : Nat) (ds : List D) : Option D :=
  if ds.length = k then (body (rho0 ps ((ds ++ extra).map .frz))).bind fun x => match x.1 with
    | .ret d => some d
    | .next => some .none
    | _ => none
  else none

/-- arguments bound to their names, what is left out from the defaults -/
noncomputable def Binds (hb : Heap) (fd : FuncData) (ps : List Str) (k : Nat) (xs : List Value) : Prop :=
  ∀ (vs : List Value) (s : Shared), vs.length = k → Ext hb s.heap → BindsTo s fd ⟨vs, []⟩ (ps.zip (vs ++ xs))

theorem reps_any {g : Part} : ∀ {ds : List D} {vs : List Value} {i : Nat} {v : Value} {b : Bd}, Reps w g ds vs → vs[i]? = some v → (ds.map Bd.frz)[i]? = some b → ∃ d, b = .frz d ∧ Rep w g d v
  | [], _, i, _, _, r, h1, _ => by simp only [Reps] at r; subst r; simp at h1
  | d :: ds, _, 0, v, b, r, h1, h2 => by
    simp only [Reps] at r
    obtain ⟨u, us, rfl, q, _⟩ := r
    simp at h1 h2
    subst h1
    exact ⟨d, h2.symm, q⟩
  | d :: ds, _, i + 1, v, b, r, h1, h2 => by
    simp only [Reps] at r
    obtain ⟨u, us, rfl, _, r⟩ := r
    exact reps_any r (by simpa using h1) (by simpa using h2)

theorem call_ok {a : Addr} {fd : FuncData} {body : List Stmt} {ps : List Str} {k : Nat} {extra : List D} {xs : List Value} {bd : DenS} (hf : FnAt hb a fd body) (hs : fscopeOk fd.scope ps = true) (hbi : Binds hb fd ps k xs) (hxs : ∀ g : Part, Reps w g extra xs) (hlen : ps.length = k + xs.length)
    (hbd : Exs prog w G hb n (kapF fd.scope) (stoF fd.scope) body bd) : CallOk prog w G hb (n + 1) a (fnD bd ps extra k) :=
  fun A own s ds vs d R hB hx hh hlt r e E Q hQ => by
    unfold fnD at e
    split at e
    · rename_i hk
      obtain ⟨⟨fl, ρ'⟩, e1, e⟩ := Option.bind_eq_some_iff.mp e
      have hvl : vs.length = k := by rw [r.length, hk]
      obtain ⟨o, ho, hd⟩ := hf.obj
      refine wpAny_call ?_
      refine codeAny_call_function R.depth (hx _ _ ho) hd hf.co hf.gen hf.body (hf.code.keeps hx) (hbi vs s hvl hx _ _ _ _ ?_)
      rw [hf.clo]
      have hpl : ps.length = (vs ++ xs).length := by rw [List.length_append, hvl, hlen]
      have hs' := hs
      simp only [fscopeOk, Bool.and_eq_true, decide_eq_true_eq, List.all_eq_true, Bool.not_eq_true', beq_eq_false_iff_ne, ne_eq, Bool.or_eq_true, beq_iff_eq] at hs'
      refine wpAny_newFunctionEnv_cells hf.kind (fun p hp => ?_) fun env he s₁ x => ?_
      · have hm := (List.of_mem_zip (show (p.1, p.2) ∈ ps.zip (vs ++ xs) from hp)).1
        rcases hs'.2 p.1 hm with q | q
        · exact .inl q
        · refine .inr ⟨q, ?_⟩
          obtain ⟨c, hc⟩ := cellsFrom_has fd.scope.names (s.heap.objs.size + 1) p.1 (mem_of_lookup q)
          obtain ⟨c', hc'⟩ := lookup_isSome_of_mem hc
          rw [hc']; rfl
      · have he' : env = callEnvC fd s.heap.objs.size a := he
        subst he'
        obtain ⟨new, hnew, S, W, O, x1⟩ := frame_sim (a := a) (bs := (ds ++ extra).map .frz) (own := own) (wro := []) (ov := []) hB hx hh hlt hs hf.kind hf.gl hf.bl hpl (fun _ h => (nomatch h)) (fun _ h => (nomatch h)) List.nodup_nil
          (fun i v b y h1 h2 _ => by
            obtain ⟨d', rfl, q⟩ := reps_any (r.append (hxs _)) h1 h2
            exact q) x
        rw [List.append_nil] at W O
        refine ⟨hB.nolimit.keeps (hx.trans x1), codeAny_func ?_⟩
        refine hbd (A.deeper _) _ (new ++ own) new [] _ s₁ _ fl ρ' (R.deeper _) S W O e1 _ fun rr h' tk own' wr' ov' st S' _ _ F => ?_
        have hfin : Ext s.heap h' := fun b o' q => st.keep b o' (fun hm => by have := (hnew b hm).1; rw [this] at q; cases q) (x1 b o' q)
        have hso : ∀ b ∈ own, b ∈ own' := fun b hb' => (st.stay b (List.mem_append_right _ hb')).elim id fun q => (isSome_none (hlt b hb') (hnew b q).1).elim
        obtain ⟨h1, tk1, hs1⟩ := x.toInCall.same
        subst hs1
        cases fl with
        | ret d' =>
          cases e
          obtain ⟨v, rfl, q⟩ := F
          exact hQ v h' tk hfin (Rep.mono (Fz.fewer hso) _ q)
        | next =>
          cases e
          obtain ⟨rfl, _⟩ := F
          exact hQ .none h' tk hfin (by simp only [Rep])
        | cont => cases e
        | brk => cases e
    · cases e

/-! ## f(..) -/
theorem Sim.global {A : Around} {E : Value → Shared → Prop} {s : Shared} {env : Env} {κ : Str → Option NameKind} {own : List Addr} {ov : List (Str × Addr)} {ρ : Rho} {x : Str} {p : Pos} {v : Value} {Q : Value → Shared → Prop}
    (S : Sim w G hb κ env own ov ρ s.heap) (hx : κ x = some .globalImplicit) (hn : okName x = true) (hv : G x = some v) (h : Q v s) : wpAny (model prog w) A (eval (.Name x p) env) Q E s := by
  obtain ⟨vm, S⟩ := S
  refine Calls.Name_function_global S.eo.fn ((S.kap x).trans hx) (Calls.loadGlobal_global (by rw [S.eo.gl]; exact S.bas.g.keeps S.ext) hv h) ?_
  simp only [okName, Bool.and_eq_true, Bool.not_eq_true'] at hn; exact hn.1

noncomputable def isG (κ : Str → Option NameKind) (x : Str) : Bool := κ x == some .globalImplicit && okName x
noncomputable def dCall (κ : Str → Option NameKind) (f : Str) (es : List Expr) (F : List D → Option D) (fs : DenL) : Den := fun ρ =>
  if isG κ f && plainL es then (fs ρ).bind fun xs => (F (xs.map (·.2))).bind fun d => if (xs.all fun x => x.1 != .loose) || !d.comp then some (.frozen, d) else none else none

theorem call_args {A : Around} {s : Shared} {env : Env} {κ : Str → Option NameKind} {own : List Addr} {ov : List (Str × Addr)} {ρ : Rho} {f : Str} {a : Addr} {fd : FuncData} {e : Expr} {es : List Expr} {p pos : Pos} {fs : DenL} {xs : List (Fl × D)} {Q : Value → Shared → Prop}
    (R : Room A n) (S : Sim w G hb κ env own ov ρ s.heap) (hf : isG κ f = true) (hg : G f = some (.ref a)) (ho : ∃ o, hb.get? a = some o ∧ o.data = .func fd) (hp : plainL (e :: es) = true) (hs : EvL prog w G hb n κ (e :: es) fs) (he : fs ρ = some xs)
    (h : ∀ vs h' tk, Ext s.heap h' → VReps w own s.heap h' xs vs → wpAny (model prog w) A (call (.ref a) vs) Q NoE { s with heap := h', toks := tk }) : wpAny (model prog w) A (eval (.Call (.Name f p) (e :: es) [] pos) env) Q NoE s := by
  simp only [isG, Bool.and_eq_true, beq_iff_eq] at hf
  obtain ⟨o, ho1, ho2⟩ := ho
  refine wpAny_Call_NameR (S.global hf.1 hf.2 hg ?_)
  have hp' := hp
  simp only [plainL, List.all_cons, Bool.and_eq_true, Bool.not_eq_true'] at hp'
  have hxx : Ext hb s.heap := let ⟨vm, S⟩ := S; S.ext
  have hsp := hs A env own ov ρ s pos xs R S he (fun vs s₁ => (s₁.heap.get? a = some o ∧ o.data = .func fd) ∧ wpAny (model prog w) A (call (.ref a) vs) Q NoE s₁) fun vs h' tk x r => ⟨⟨x _ _ (hxx _ _ ho1), ho2⟩, h vs h' tk x r⟩
  refine Calls.callWith_function (o := o) (fd := fd) ?_
  rw [starEach_plain hp'.1] at hsp ⊢
  exact Calls.evalArgs_plain hsp

theorem ev_call {κ : Str → Option NameKind} {f : Str} {a : Addr} {fd : FuncData} {F : List D → Option D} {e : Expr} {es : List Expr} {p pos : Pos} {fs : DenL} (hg : G f = some (.ref a)) (ho : ∃ o, hb.get? a = some o ∧ o.data = .func fd) (hF : CallOk prog w G hb n a F)
    (hs : EvL prog w G hb n κ (e :: es) fs) : Ev prog w G hb n κ (.Call (.Name f p) (e :: es) [] pos) (dCall κ f (e :: es) F fs) :=
  fun A env own ov ρ s fl d R S q Q hQ => by
    unfold dCall at q
    split at q
    · rename_i hc
      simp only [Bool.and_eq_true] at hc
      obtain ⟨xs, e1, q⟩ := Option.bind_eq_some_iff.mp q
      obtain ⟨d', e2, q⟩ := Option.bind_eq_some_iff.mp q
      split at q
      · rename_i hfl
        cases q
        have hB : Base G hb ∧ Ext hb s.heap ∧ ∀ a ∈ own, hb.get? a = none := let ⟨vm, S⟩ := S; ⟨S.bas, S.ext, S.high⟩
        refine call_args R S hc.1 hg ho hc.2 hs e1 fun vs h1 tk1 x1 r1 => ?_
        simp only [Bool.or_eq_true, Bool.not_eq_true'] at hfl
        by_cases hall : (xs.all fun x => x.1 != .loose) = true
        · exact hF A own { s with heap := h1, toks := tk1 } _ vs d R hB.1 (hB.2.1.trans x1) hB.2.2 (fun b hb' => x1.some (S.ltAll b hb')) (r1.reps S.ltAll hall) e2 NoE Q fun v h2 tk2 x2 r2 => hQ v h2 tk2 (x1.trans x2) r2
        · have hd : d.comp = false := hfl.elim (fun q => absurd q hall) id
          have hfz : Fz [] h1 = h1.get? := by funext b; unfold Fz; simp
          refine hF A [] { s with heap := h1, toks := tk1 } _ vs d R hB.1 (hB.2.1.trans x1) (fun b hb' => (nomatch hb')) (fun b hb' => (nomatch hb')) (by rw [hfz]; exact r1.any) e2 NoE Q fun v h2 tk2 x2 r2 => hQ v h2 tk2 (x1.trans x2) ?_
          exact VRep.flat (own := []) (h₀ := h1) (h := h2) (fl := .frozen) hd r2
      · cases q
    · cases q
end
end Mine
end
section
open PySem PySem.W PyProof.Rows PySem.Spec PySem.SeqAt
set_option maxRecDepth 100000
namespace Mine

section
variable {prog : Program} {w : World} {G : Str → Option Value} {hb : Heap} {n : Nat} {κ : Str → Option NameKind} {sto : Str → Bool}

theorem Sim.mutateK {env : Env} {own wr : List Addr} {ov : List (Str × Addr)} {ρ : Rho} {x : Str} {a : Addr} {o' : Obj} {d' : D} {h h' : Heap} (S : Sim w G hb κ env own ov ρ h) (O : ∀ p ∈ ov, p.2 ∈ wr) (ha : ov.lookup x = some a) (hv : ∃ d, ρ x = some (.own d))
    (kp : Kept [a] h h') (live : ∀ b, (h.get? b).isSome = true → (h'.get? b).isSome = true) (q : h'.get? a = some o') (r : ORep w (Fz own h') a o' d') : Sim w G hb κ env own ov (upd ρ x (.own d')) h' ∧ Step own wr h own wr h' := by
  obtain ⟨vm, S⟩ := S
  have hm := mem_of_lookup ha
  have hin := (S.ovIn _ hm).1
  have hpl := (S.ovIn _ hm).2
  have kp' : ∀ b o, b ≠ a → h.get? b = some o → h'.get? b = some o := fun b o hb e => kp b o (by simpa using hb) e
  have lef : Le (Fz own h) (Fz own h') := fun b o e => Fz.of (Fz.get e).1 (kp' b o (fun z => (Fz.get e).1 (z ▸ hin)) (Fz.get e).2)
  refine ⟨⟨vm, S.eo.keep (fun _ z _ => z) (fun b hb o e => kp' b o (fun z => hpl (z ▸ hb)) e), S.kap, S.bas, fun b o e => ?_, S.high, fun b hb => live b (S.lt b hb), fun y b hy => ?_, S.ovIn, S.ovInj⟩,
    fun b o hb e => kp' b o (fun z => hb (z ▸ O _ hm)) e, live, fun _ z => .inl z, fun _ z => .inl z, fun _ z => .inl z⟩
  · exact kp' b o (fun z => by have := S.high a hin; rw [z, this] at e; cases e) (S.ext b o e)
  · unfold upd at hy
    split at hy
    · rename_i e
      subst e
      cases hy
      obtain ⟨d, hd⟩ := hv
      obtain ⟨k, v, h1, a2, o2, rfl, h2, _, _⟩ := S.vars y _ hd
      rw [ha] at h2
      cases h2
      exact ⟨k, .ref a, h1, a, o', rfl, ha, q, r⟩
    · rename_i hne
      obtain ⟨k, v, h1, h2⟩ := S.vars y b hy
      refine ⟨k, v, h1, ?_⟩
      cases b with
      | frz d => exact Rep.mono lef d h2
      | own d =>
        obtain ⟨a2, o2, q1, q2, q3, q4⟩ := h2
        refine ⟨a2, o2, q1, q2, kp' a2 o2 (fun z => ?_) q3, q4.mono lef⟩
        subst z
        exact hne (Sim.mutate.map_inj_of_nodup S.ovInj (mem_of_lookup q2) hm)

/-- a function that changes its first argument -/
noncomputable def MutOk (prog : Program) (w : World) (G : Str → Option Value) (hb : Heap) (n : Nat) (a : Addr) (F : D → List D → Option D) : Prop :=
  ∀ (A : Around) (own : List Addr) (s : Shared) (b : Addr) (o : Obj) (d : D) (ds : List D) (vs : List Value) (d' : D), Room A n → Base G hb → Ext hb s.heap → (∀ a ∈ own, hb.get? a = none) → (∀ a ∈ own, (s.heap.get? a).isSome = true) → b ∈ own → s.heap.get? b = some o → ORep w (Fz own s.heap) b o d →
    Reps w (Fz own s.heap) ds vs → F d ds = some d' → ∀ (E : Value → Shared → Prop) (Q : Value → Shared → Prop),
    (∀ h' tk o', Kept [b] s.heap h' → (∀ c, (s.heap.get? c).isSome = true → (h'.get? c).isSome = true) → h'.get? b = some o' → ORep w (Fz own h') b o' d' → Q .none { s with heap := h', toks := tk }) → wpAny (model prog w) A (call (.ref a) (.ref b :: vs)) Q E s

noncomputable def fnMut (body : DenS) (p0 : Str) (ps : List Str) (extra : List D) (k : Nat) (d : D) (ds : List D) : Option D :=
  if ds.length = k then (body (rho0 (p0 :: ps) (.own d :: (ds ++ extra).map .frz))).bind fun x => match x.1 with
    | .next => ownOf x.2 p0
    | _ => none
  else none

theorem mut_ok {a : Addr} {fd : FuncData} {body : List Stmt} {p0 : Str} {ps : List Str} {k : Nat} {extra : List D} {xs : List Value} {bd : DenS} (hf : FnAt hb a fd body) (hs : fscopeOk fd.scope (p0 :: ps) = true) (hbi : Binds hb fd (p0 :: ps) (k + 1) xs) (hxs : ∀ g : Part, Reps w g extra xs) (hlen : ps.length = k + xs.length)
    (hbd : Exs prog w G hb n (kapF fd.scope) (stoBut (stoF fd.scope) p0) body bd) : MutOk prog w G hb (n + 1) a (fnMut bd p0 ps extra k) :=
  fun A own s b o d ds vs d' R hB hx hh hlt hbo hbg hbr r e E Q hQ => by
    unfold fnMut at e
    split at e
    · rename_i hk
      obtain ⟨⟨fl, ρ'⟩, e1, e⟩ := Option.bind_eq_some_iff.mp e
      have hvl : vs.length = k := by rw [r.length, hk]
      obtain ⟨of, ho, hd⟩ := hf.obj
      refine wpAny_call ?_
      refine codeAny_call_function R.depth (hx _ _ ho) hd hf.co hf.gen hf.body (hf.code.keeps hx) (hbi (.ref b :: vs) s (by simp [hvl]) hx _ _ _ _ ?_)
      rw [hf.clo]
      have hpl : (p0 :: ps).length = (Value.ref b :: vs ++ xs).length := by simp [hvl, hlen]
      have hs' := hs
      simp only [fscopeOk, Bool.and_eq_true, decide_eq_true_eq, List.all_eq_true, Bool.not_eq_true', beq_eq_false_iff_ne, ne_eq, Bool.or_eq_true, beq_iff_eq] at hs'
      refine wpAny_newFunctionEnv_cells hf.kind (fun p hp => ?_) fun env he s₁ x => ?_
      · have hm := (List.of_mem_zip (show (p.1, p.2) ∈ (p0 :: ps).zip (Value.ref b :: vs ++ xs) from hp)).1
        rcases hs'.2 p.1 hm with q | q
        · exact .inl q
        · refine .inr ⟨q, ?_⟩
          obtain ⟨c, hc⟩ := cellsFrom_has fd.scope.names (s.heap.objs.size + 1) p.1 (mem_of_lookup q)
          obtain ⟨c', hc'⟩ := lookup_isSome_of_mem hc
          rw [hc']; rfl
      · have he' : env = callEnvC fd s.heap.objs.size a := he
        subst he'
        obtain ⟨new, hnew, S, W, O, x1⟩ := frame_sim (a := a) (bs := .own d :: (ds ++ extra).map .frz) (own := own) (wro := [b]) (ov := [(p0, b)]) hB hx hh hlt hs hf.kind hf.gl hf.bl hpl (fun c hc => by rw [List.mem_singleton.mp hc]; exact hbo) (fun p hp => by rw [List.mem_singleton.mp hp]; exact List.mem_singleton.mpr rfl) (by simp)
          (fun i v bd' y h1 h2 h3 => by
            cases i with
            | zero =>
              simp at h1 h2 h3
              subst h1 h2 h3
              exact ⟨b, o, rfl, by simp, hbg, hbr⟩
            | succ i =>
              obtain ⟨d2, rfl, q⟩ := reps_any (r.append (hxs _)) (by simpa using h1) (by simpa using h2)
              exact q) x
        refine ⟨hB.nolimit.keeps (hx.trans x1), codeAny_func ?_⟩
        refine hbd (A.deeper _) _ (new ++ own) (new ++ [b]) [(p0, b)] _ s₁ _ fl ρ' (R.deeper _) S (wr_stoBut W) O e1 _ fun rr h' tk own' wr' ov' st S' _ _ F => ?_
        have hlb : (s.heap.get? b).isSome = true := by rw [hbg]; rfl
        have hkp : Kept [b] s.heap h' := fun c o' hc q => st.keep c o' (fun hm => by
          rcases List.mem_append.mp hm with hm | hm
          · have := (hnew c hm).1; rw [this] at q; cases q
          · exact hc hm) (x1 c o' q)
        obtain ⟨h1, tk1, hs1⟩ := x.toInCall.same
        subst hs1
        cases fl with
        | next =>
          obtain ⟨rfl, pn⟩ := F
          have hown := ownOf_some e
          obtain ⟨a2, o2, ha2, hg2, hr2, hin2, _⟩ := S'.ownAt (prog := prog) hown
          have : a2 = b := by
            have q := pn p0 (by simp [stoBut])
            rw [ha2] at q
            simp at q
            exact q
          subst this
          have hso : ∀ c ∈ own, c ∈ own' := fun c hc => (st.stay c (List.mem_append_right _ hc)).elim id fun q => by
            rcases List.mem_append.mp q with q | q
            · exact (isSome_none (hlt c hc) (hnew c q).1).elim
            · rw [List.mem_singleton.mp q]; exact hin2
          exact hQ h' tk o2 hkp (fun c hc => st.live c (x1.some hc)) hg2 (hr2.mono (Fz.fewer hso))
        | ret d2 => cases e
        | cont => cases e
        | brk => cases e
    · cases e

noncomputable def dMut (κ : Str → Option NameKind) (f x : Str) (e : Expr) (F : D → List D → Option D) (fe : Den) : DenS := fun ρ =>
  if isG κ f && isV (κ x) && okName x && !isStarred e then (dFrz fe ρ).bind fun v => (ownOf ρ x).bind fun d => (F d [v]).map fun d' => (.next, upd ρ x (.own d')) else none
theorem ex_mut {f x : Str} {a : Addr} {fd : FuncData} {F : D → List D → Option D} {e : Expr} {p p1 pos spos : Pos} {fe : Den} (hg : G f = some (.ref a)) (ho : ∃ o, hb.get? a = some o ∧ o.data = .func fd) (hF : MutOk prog w G hb n a F) (he : Ev prog w G hb n κ e fe) :
    Ex prog w G hb n κ sto (.Expr (.Call (.Name f p) [.Name x p1, e] [] pos) spos) (dMut κ f x e F fe) :=
  fun A env own wr ov ρ s E fl ρ' R S W O q Q hQ => by
    unfold dMut at q
    split at q
    · rename_i hc
      simp only [Bool.and_eq_true, Bool.not_eq_true'] at hc
      obtain ⟨v, e1, q⟩ := Option.bind_eq_some_iff.mp q
      obtain ⟨d0, e2, q⟩ := Option.bind_eq_some_iff.mp q
      obtain ⟨d', e3, q⟩ := Option.map_eq_some_iff.mp q
      cases q
      obtain ⟨f1, e1, hl⟩ := dFrz_some e1
      have hown := ownOf_some e2
      obtain ⟨b, o, ha, hao, hr, hin, rd⟩ := S.ownAt (prog := prog) hown
      have hg' := hc.1.1.1
      simp only [isG, Bool.and_eq_true, beq_iff_eq] at hg'
      obtain ⟨of, ho1, ho2⟩ := ho
      have hB : Base G hb ∧ Ext hb s.heap ∧ ∀ a ∈ own, hb.get? a = none := let ⟨vm, S⟩ := S; ⟨S.bas, S.ext, S.high⟩
      refine wpAny_Expr (anyE (wpAny_Call_NameR (S.global hg'.1 hg'.2 hg ?_))) S.noninteractive (swaps_none rfl)
      refine Calls.callWith_function (o := of) (fd := fd) ?_
      have hse : backTo pos (starEach [.Name x p1, e] env) = [(false, eval (.Name x p1) env), (false, eval e env)] := by
        rw [starEach_plain rfl, starEach_plain hc.2]; rfl
      rw [hse]
      refine Calls.evalArgs_plain (Calls.spliced_cons (rd _ _ _ _ _ rfl hc.1.2 (Calls.spliced_cons (he A env own ov ρ s f1 v R S e1 _ fun u h1 tk1 x1 r1 => Calls.spliced_nil ?_))))
      refine ⟨⟨x1 _ _ (hB.2.1 _ _ ho1), ho2⟩, ?_⟩
      have S1 := S.ext x1
      refine hF A own { s with heap := h1, toks := tk1 } b o d0 [v] [u] d' R hB.1 (hB.2.1.trans x1) hB.2.2 S1.ltAll hin (x1 _ _ hao) (hr.mono x1.fz) (Reps.single (r1.frz hl S.ltAll)) e3 NoE _ fun h2 tk2 o2 kp lv q2 r2 => ?_
      obtain ⟨S2, st2⟩ := S1.mutateK O ha ⟨_, hown⟩ kp lv q2 r2
      exact hQ .next h2 tk2 own wr ov ((Step.of_ext x1).trans S.ltAll st2) S2 W O ⟨rfl, Pin.refl _ _⟩
    · cases q
end
end Mine
end
section
open PySem PySem.W PyProof.Rows PySem.Spec PySem.SeqAt
set_option maxRecDepth 100000
namespace Mine

/-! ## The plain evaluator -/
abbrev Kap := Str → Option NameKind
structure Sem5 where
  E : Kap → Expr → Den
  B : Kap → Expr → DenB
  I : Kap → Bool → Bool → Expr → Expr → Rho → Option (List D)
  S : Kap → (Str → Bool) → Stmt → DenS
  Ss : Kap → (Str → Bool) → List Stmt → DenS

/-- what a function's evaluator knows: the globals, the functions' answers, those that change their argument, the names whose objects are changed, where a name's object is laid down, a bound on turns -/
structure Know where
  T : Str → Option (List D → Option D)
  M : Str → Option (D → List D → Option D)
  mu : Str → Bool
  lay : Stmt → Option Str
  K : Nat

noncomputable def dNo {α : Type} : Rho → Option α := fun _ => none

noncomputable def lstE (r : Sem5) (κ : Kap) : List Expr → DenL
  | [] => dNil
  | e :: es => dCons e (r.E κ e) (lstE r κ es)

noncomputable def seqS (r : Sem5) (κ : Kap) (sto : Str → Bool) : List Stmt → DenS
  | [] => fun ρ => some (.next, ρ)
  | st :: rest => dSeq (r.S κ sto st) (seqS r κ sto rest)

section
variable {prog : Program} {w : World} {G : Str → Option Value} {hb : Heap} {n : Nat}

structure KnowOk (prog : Program) (w : World) (G : Str → Option Value) (hb : Heap) (n : Nat) (k : Know) : Prop where
  T : ∀ f F, k.T f = some F → ∃ a fd, G f = some (.ref a) ∧ (∃ o, hb.get? a = some o ∧ o.data = .func fd) ∧ CallOk prog w G hb n a F
  M : ∀ f F, k.M f = some F → ∃ a fd, G f = some (.ref a) ∧ (∃ o, hb.get? a = some o ∧ o.data = .func fd) ∧ MutOk prog w G hb n a F

structure Sound (prog : Program) (w : World) (G : Str → Option Value) (hb : Heap) (n : Nat) (k : Know) (r : Sem5) : Prop where
  E : ∀ κ e, Ev prog w G hb n κ e (r.E κ e)
  B : ∀ κ e, EvB prog w G hb n κ e (r.B κ e)
  I : ∀ κ fc lo t e, noSet e = true → EvIt prog w G hb n κ t e fc lo (r.I κ fc lo t e)
  S : ∀ κ sto st, Ex prog w G hb n κ sto st (r.S κ sto st)
  Ss : ∀ κ sto sts, Exs prog w G hb n κ sto sts (r.Ss κ sto sts)


theorem ev_no {κ : Kap} {e : Expr} : Ev prog w G hb n κ e dNo := fun _ _ _ _ _ _ _ _ _ _ e => (nomatch e)
theorem evb_no {κ : Kap} {e : Expr} : EvB prog w G hb n κ e dNo := fun _ _ _ _ _ _ _ _ _ e => (nomatch e)
theorem evit_no {κ : Kap} {t e : Expr} {fc lo : Bool} : EvIt prog w G hb n κ t e fc lo dNo := fun _ _ _ _ _ _ _ _ _ e => (nomatch e)
theorem ex_no {κ : Kap} {sto : Str → Bool} {st : Stmt} : Ex prog w G hb n κ sto st dNo := fun _ _ _ _ _ _ _ _ _ _ _ _ _ _ e => (nomatch e)
theorem exs_no {κ : Kap} {sto : Str → Bool} {st : List Stmt} : Exs prog w G hb n κ sto st dNo := fun _ _ _ _ _ _ _ _ _ _ _ _ _ _ e => (nomatch e)

theorem lst_sound {k : Know} {r : Sem5} (h : Sound prog w G hb n k r) (κ : Kap) : ∀ es, EvL prog w G hb n κ es (lstE r κ es)
  | [] => evl_nil
  | e :: es => evl_cons (h.E κ e) (lst_sound h κ es)
theorem seq_sound {k : Know} {r : Sem5} (h : Sound prog w G hb n k r) (κ : Kap) (sto : Str → Bool) : ∀ sts, Exs prog w G hb n κ sto sts (seqS r κ sto sts)
  | [] => exs_nil
  | st :: sts => exs_cons (h.S κ sto st) (seq_sound h κ sto sts)
end

/-! each construct's word, its soundness beside it -/
abbrev BE (k : Know) (r : Sem5) (κ : Kap) (e : Expr) := { f : Den // ∀ prog w G hb n, KnowOk prog w G hb n k → Sound prog w G hb n k r → Ev prog w G hb n κ e f }
abbrev BB (k : Know) (r : Sem5) (κ : Kap) (e : Expr) := { f : DenB // ∀ prog w G hb n, Sound prog w G hb n k r → EvB prog w G hb n κ e f }
abbrev BI (k : Know) (r : Sem5) (κ : Kap) (fc lo : Bool) (t e : Expr) := { f : Rho → Option (List D) // ∀ prog w G hb n, Sound prog w G hb n k r → EvIt prog w G hb n κ t e fc lo f }
abbrev BS (k : Know) (r : Sem5) (κ : Kap) (sto : Str → Bool) (st : Stmt) := { f : DenS // ∀ prog w G hb n, KnowOk prog w G hb n k → Sound prog w G hb n k r → Ex prog w G hb n κ sto st f }

noncomputable def bIsi (k : Know) (r : Sem5) (κ : Kap) (e : Expr) : (e2 : Expr) → { f : Den // ∀ p pos prog w G hb n, Sound prog w G hb n k r → Ev prog w G hb n κ (.Call (.Name "isinstance" p) [e, e2] [] pos) f }
  | .Name y p2 => ⟨dIsTup κ y e (r.E κ e), fun _ _ _ _ _ _ _ h => ev_isTup (h.E κ _)⟩
  | _ => ⟨dNo, fun _ _ _ _ _ _ _ _ => ev_no⟩
noncomputable def callN (k : Know) (r : Sem5) (κ : Kap) (f : Str) (e : Expr) : List Expr → Den
--[01
  | [] => dBfn κ f [e] (lstE r κ [e])
--]
  | [e2] => if f = "isinstance" then (bIsi k r κ e e2).1 else dBfn κ f [e, e2] (lstE r κ [e, e2])
  | e2 :: e3 :: es => dBfn κ f (e :: e2 :: e3 :: es) (lstE r κ (e :: e2 :: e3 :: es))
noncomputable def callE (k : Know) (r : Sem5) (κ : Kap) (f : Str) (e : Expr) (es : List Expr) : Den :=
  match k.T f with
  | some F => dCall κ f (e :: es) F (lstE r κ (e :: es))
  | none => callN k r κ f e es
theorem callE_some {k : Know} {r : Sem5} {κ : Kap} {f : Str} {e : Expr} {es : List Expr} {F : List D → Option D} (h : k.T f = some F) : callE k r κ f e es = dCall κ f (e :: es) F (lstE r κ (e :: es)) := by unfold callE; rw [h]
theorem callE_none {k : Know} {r : Sem5} {κ : Kap} {f : Str} {e : Expr} {es : List Expr} (h : k.T f = none) : callE k r κ f e es = callN k r κ f e es := by unfold callE; rw [h]
theorem callN_sound {prog : Program} {w : World} {G : Str → Option Value} {hb : Heap} {n : Nat} {k : Know} {r : Sem5} (h : Sound prog w G hb n k r) (κ : Kap) (f : Str) (p pos : Pos) (e : Expr) : ∀ es : List Expr, Ev prog w G hb n κ (.Call (.Name f p) (e :: es) [] pos) (callN k r κ f e es)
--[01
  | [] => ev_bfn (lst_sound h κ _)
--]
  | [e2] => by
    show Ev _ _ _ _ _ _ _ (if f = "isinstance" then (bIsi k r κ e e2).1 else dBfn κ f [e, e2] (lstE r κ [e, e2]))
    split
    · rename_i hf; subst hf; exact (bIsi k r κ e e2).2 _ _ _ _ _ _ _ h
    · exact ev_bfn (lst_sound h κ _)
  | e2 :: e3 :: es => ev_bfn (lst_sound h κ _)
theorem call_sound {prog : Program} {w : World} {G : Str → Option Value} {hb : Heap} {n : Nat} {k : Know} {r : Sem5} (ko : KnowOk prog w G hb n k) (h : Sound prog w G hb n k r) (κ : Kap) (f : Str) (p pos : Pos) (e : Expr) (es : List Expr) : Ev prog w G hb n κ (.Call (.Name f p) (e :: es) [] pos) (callE k r κ f e es) := by
  cases hF : k.T f with
  | some F =>
    rw [callE_some hF]
    obtain ⟨a, fd, h1, h2, h3⟩ := ko.T f F hF
    exact ev_call h1 h2 h3 (lst_sound h κ _)
  | none => rw [callE_none hF]; exact callN_sound h κ f p pos e es

noncomputable def bSub (k : Know) (r : Sem5) (κ : Kap) (pos : Pos) (o : Expr) : (i : Expr) → BE k r κ (.Subscript o i pos)
  | .Slice none (some (.Constant (.int i) c p1)) none p2 => (match o with
    | .Name x p => ⟨dUpto (r.E κ (.Name x p)) i, fun _ _ _ _ _ _ h => ev_upto (h.E κ _)⟩
    | _ => ⟨dNo, fun _ _ _ _ _ _ _ => ev_no⟩)
  | .Name x p => ⟨dSub (r.E κ o) (r.E κ (.Name x p)), fun _ _ _ _ _ _ h => ev_sub (fun _ _ => ⟨_, rfl⟩) (h.E κ _) (h.E κ _)⟩
  | .Constant c k0 p => ⟨dSub (r.E κ o) (r.E κ (.Constant c k0 p)), fun _ _ _ _ _ _ h => ev_sub (fun _ _ => ⟨_, rfl⟩) (h.E κ _) (h.E κ _)⟩
  | .BinOp a op b p => ⟨dSub (r.E κ o) (r.E κ (.BinOp a op b p)), fun _ _ _ _ _ _ h => ev_sub (fun _ _ => ⟨_, rfl⟩) (h.E κ _) (h.E κ _)⟩
  | .Call f es kw p => ⟨dSub (r.E κ o) (r.E κ (.Call f es kw p)), fun _ _ _ _ _ _ h => ev_sub (fun _ _ => ⟨_, rfl⟩) (h.E κ _) (h.E κ _)⟩
  | .Subscript a b p => ⟨dSub (r.E κ o) (r.E κ (.Subscript a b p)), fun _ _ _ _ _ _ h => ev_sub (fun _ _ => ⟨_, rfl⟩) (h.E κ _) (h.E κ _)⟩
  | _ => ⟨dNo, fun _ _ _ _ _ _ _ => ev_no⟩
noncomputable def bE (k : Know) (r : Sem5) (κ : Kap) : (e : Expr) → BE k r κ e
  | .Constant (.int i) _ _ => ⟨fun _ => some (.frozen, .int i), fun _ _ _ _ _ _ _ => ev_int _ _ _⟩
  | .Constant (.str x) _ _ => ⟨fun _ => some (.frozen, .str x), fun _ _ _ _ _ _ _ => ev_str _ _ _⟩
  | .Constant (.bool b) _ _ => ⟨fun _ => some (.frozen, .bool b), fun _ _ _ _ _ _ _ => ev_bool _ _ _⟩
  | .Constant .none _ _ => ⟨fun _ => some (.frozen, .none), fun _ _ _ _ _ _ _ => ev_none _ _⟩
  | .Name x _ => ⟨dName κ x, fun _ _ _ _ _ _ _ => ev_name _ _⟩
  | .BinOp l op r' _ => ⟨dBin op (r.E κ l) (r.E κ r'), fun _ _ _ _ _ _ h => ev_bin (h.E κ _) (h.E κ _)⟩
  | .Compare l [op] [r'] _ => ⟨dVal (dCmp op r' (r.E κ l) (r.E κ r')), fun _ _ _ _ _ _ h => ev_cmp (h.E κ _) (h.E κ _)⟩
  | .BoolOp .And [l, r'] _ => ⟨dAndV (r.E κ l) (r.E κ r'), fun _ _ _ _ _ _ h => ev_andV (h.E κ _) (h.E κ _)⟩
--[01
  | .IfExp t b o _ => ⟨dIf (r.B κ t) (r.E κ b) (r.E κ o), fun _ _ _ _ _ _ h => ev_ifexp (h.B κ _) (h.E κ _) (h.E κ _)⟩
--]
  | .Tuple es _ _ => ⟨dTup (lstE r κ es), fun _ _ _ _ _ _ h => ev_tup (lst_sound h κ _)⟩
  | .List es _ => ⟨dLst (lstE r κ es), fun _ _ _ _ _ _ h => ev_lst (lst_sound h κ _)⟩
  | .Subscript o i pos => bSub k r κ pos o i
  | .Dict [] [] _ => ⟨fun _ => some (.fresh, .idict [] []), fun _ _ _ _ _ _ _ => ev_dict0⟩
  | .Dict [some a] [b] _ => ⟨dDict1 (r.E κ a) (r.E κ b), fun _ _ _ _ _ _ h => ev_dict1 (h.E κ _) (h.E κ _)⟩
  | .ListComp elt gens scope _ => ⟨fun ρ => (dComp κ (r.I κ true true) (r.E (kapC scope κ)) (r.B (kapC scope κ)) (r.I (kapC scope κ) true false) elt gens scope ρ).map fun out => (.fresh, .lst out),
      fun _ _ _ _ _ _ h => ev_comp (fun t c hc => h.I κ true true t c hc) (fun c => h.E _ c) (fun c => h.B _ c) (fun t c hc => h.I _ true false t c hc)⟩
  | .Call (.Name f p) (e :: es) [] pos => ⟨callE k r κ f e es, fun _ _ _ _ _ ko h => call_sound ko h κ f p pos e es⟩
  | .Call (.Attribute o name apos) (e :: es) [] pos => ⟨dMeth o name (e :: es) apos pos (r.E κ o) (lstE r κ (e :: es)), fun _ _ _ _ _ _ h => ev_meth (h.E κ _) (lst_sound h κ _)⟩
  | _ => ⟨dNo, fun _ _ _ _ _ _ _ => ev_no⟩
noncomputable def stepE (k : Know) (r : Sem5) (κ : Kap) (e : Expr) : Den := (bE k r κ e).1

noncomputable def bB (k : Know) (r : Sem5) (κ : Kap) : (e : Expr) → BB k r κ e
  | .BoolOp .And [] _ => ⟨fun _ => some true, fun _ _ _ _ _ _ => evb_and_nil⟩
  | .BoolOp .And (x :: rest) pos => ⟨dAnd (r.B κ x) (r.B κ (.BoolOp .And rest pos)), fun _ _ _ _ _ h => evb_and (h.B κ _) (h.B κ _)⟩
  | .BoolOp .Or [] _ => ⟨fun _ => some false, fun _ _ _ _ _ _ => evb_or_nil⟩
  | .BoolOp .Or (x :: rest) pos => ⟨dOr (r.B κ x) (r.B κ (.BoolOp .Or rest pos)), fun _ _ _ _ _ h => evb_or (h.B κ _) (h.B κ _)⟩
  | .Compare l [op] [r'] _ => ⟨dCmp op r' (r.E κ l) (r.E κ r'), fun _ _ _ _ _ h => evb_cmp (h.E κ _) (h.E κ _)⟩
  | .Call f es kw pos => ⟨dTruth (r.E κ (.Call f es kw pos)), fun _ _ _ _ _ h => evb_plain (h.E κ _) (fun _ _ => rfl)⟩
  | _ => ⟨dNo, fun _ _ _ _ _ _ => evb_no⟩
noncomputable def stepB (k : Know) (r : Sem5) (κ : Kap) (e : Expr) : DenB := (bB k r κ e).1

noncomputable def bItems (k : Know) (r : Sem5) (κ : Kap) (apos pos : Pos) (o : Expr) : (t : Expr) → { f : Rho → Option (List D) // ∀ prog w G hb n, Sound prog w G hb n k r → EvIt prog w G hb n κ t (.Call (.Attribute o "items" apos) [] [] pos) false false f }
  | .Tuple es c tp => ⟨dItItems o apos pos (r.E κ o), fun _ _ _ _ _ h => evit_items (h.E κ _) rfl⟩
  | _ => ⟨dNo, fun _ _ _ _ _ _ => evit_no⟩
noncomputable def bI (k : Know) (r : Sem5) (κ : Kap) (fc lo : Bool) (t : Expr) : (e : Expr) → BI k r κ fc lo t e
--[01
  | .Call (.Name f p) [e] [] pos => ⟨if f = "range" then dItRange κ e (r.E κ e) else dItList lo (r.E κ (.Call (.Name f p) [e] [] pos)), fun _ _ _ _ _ h => by
      split
      · rename_i hf; exact evit_range (h.E κ _) hf
      · exact evit_list (h.E κ _)⟩
--]
  | .Call (.Attribute o a apos) [] [] pos => (match fc, lo with
    | false, false => ⟨if a = "items" then (bItems k r κ apos pos o t).1 else if a = "values" then dItVals o apos pos (r.E κ o) else dNo, fun _ _ _ _ _ h => by
        split
        · rename_i ha; subst ha; exact (bItems k r κ apos pos o t).2 _ _ _ _ _ h
        · split
          · rename_i ha; exact evit_vals (h.E κ _) ha
          · exact evit_no⟩
    | _, _ => ⟨dNo, fun _ _ _ _ _ _ => evit_no⟩)
  | e => ⟨dItList lo (r.E κ e), fun _ _ _ _ _ h => evit_list (h.E κ _)⟩
noncomputable def stepI (k : Know) (r : Sem5) (κ : Kap) (fc lo : Bool) (t e : Expr) : Rho → Option (List D) := (bI k r κ fc lo t e).1

noncomputable def bAssign (k : Know) (r : Sem5) (κ : Kap) (sto : Str → Bool) (x : Str) (p pos : Pos) : (value : Expr) → BS k r κ sto (.Assign [.Name x p] value pos)
  | .ListComp elt gens scope vp => ⟨dAssignC κ sto k.mu x p scope vp (dComp κ (r.I κ true true) (r.E (kapC scope κ)) (r.B (kapC scope κ)) (r.I (kapC scope κ) true false) elt gens scope),
      fun _ _ _ _ _ _ h => ex_assignC (fun t c hc => h.I κ true true t c hc) (fun c => h.E _ c) (fun c => h.B _ c) (fun t c hc => h.I _ true false t c hc)⟩
  | value => ⟨dAssign κ sto k.mu x value (r.E κ value), fun _ _ _ _ _ _ h => ex_assign (h.E κ _)⟩
noncomputable def bTuple (k : Know) (r : Sem5) (κ : Kap) (sto : Str → Bool) (ts : List Expr) (c : Nat) (tp pos : Pos) : (value : Expr) → BS k r κ sto (.Assign [.Tuple ts c tp] value pos)
--[01
  | .Tuple vs _ _ => ⟨fun ρ => if noSwap κ ts then dTupAssign κ sto k.mu (r.E κ) ts vs ρ else dTupSwap κ sto k.mu (r.E κ) ts vs ρ, fun _ _ _ _ _ _ h A env own wr ov ρ s E fl ρ' R S W O e Q hQ => by
      split at e
      · exact ex_tupAssign (fun c => h.E κ c) A env own wr ov ρ s E fl ρ' R S W O e Q hQ
      · exact ex_tupSwap (fun c => h.E κ c) A env own wr ov ρ s E fl ρ' R S W O e Q hQ⟩
--]
  | .Call f es kw p => ⟨dUnpack κ sto (.Tuple ts c tp) (r.E κ (.Call f es kw p)), fun _ _ _ _ _ _ h => ex_unpack (fun _ => rfl) (fun _ => rfl) (h.E κ _)⟩
  | _ => ⟨dNo, fun _ _ _ _ _ _ _ => ex_no⟩
noncomputable def bFor (k : Know) (r : Sem5) (κ : Kap) (sto : Str → Bool) (target : Expr) (body : List Stmt) (pos : Pos) : (iter : Expr) → BS k r κ sto (.For target iter body [] pos)
  | .Name x p => ⟨fun ρ => if (ownOf ρ x).isSome then dGrow κ sto k.K x target (r.Ss κ (stoBut sto x) body) ρ else dFor (r.I κ false false target (.Name x p)) (dTarget κ sto target) (r.Ss κ sto body) ρ,
      fun _ _ _ _ _ _ h => ex_either (ex_grow _ (h.Ss κ _ _)) (ex_for rfl (h.I κ false false _ _ rfl) (h.Ss κ sto _))⟩
  | iter => ⟨if noSet iter = true then dFor (r.I κ false false target iter) (dTarget κ sto target) (r.Ss κ sto body) else dNo, fun _ _ _ _ _ _ h => by
      split
      · rename_i hn; exact ex_for hn (h.I κ false false _ _ hn) (h.Ss κ sto _)
      · exact ex_no⟩
noncomputable def bMut (k : Know) (f : Str) (κ : Kap) (r : Sem5) (x : Str) (e : Expr) : DenS := match k.M f with
  | some F => dMut κ f x e F (r.E κ e)
  | none => dNo
theorem bMut_some {k : Know} {r : Sem5} {κ : Kap} {f x : Str} {e : Expr} {F : D → List D → Option D} (h : k.M f = some F) : bMut k f κ r x e = dMut κ f x e F (r.E κ e) := by unfold bMut; rw [h]
theorem mut_sound {prog : Program} {w : World} {G : Str → Option Value} {hb : Heap} {n : Nat} {k : Know} {r : Sem5} (ko : KnowOk prog w G hb n k) (h : Sound prog w G hb n k r) (κ : Kap) (sto : Str → Bool) (f x : Str) (p p1 pos spos : Pos) (e : Expr) : Ex prog w G hb n κ sto (.Expr (.Call (.Name f p) [.Name x p1, e] [] pos) spos) (bMut k f κ r x e) := by
  cases hF : k.M f with
  | some F =>
    rw [bMut_some hF]
    obtain ⟨a, fd, h1, h2, h3⟩ := ko.M f F hF
    exact ex_mut h1 h2 h3 (h.E κ _)
  | none => unfold bMut; rw [hF]; exact ex_no
noncomputable def bS (k : Know) (r : Sem5) (κ : Kap) (sto : Str → Bool) : (st : Stmt) → BS k r κ sto st
  | .Assign [.Name x p] value pos => bAssign k r κ sto x p pos value
  | .Assign [.Tuple ts c tp] value pos => bTuple k r κ sto ts c tp pos value
  | .Assign [.Subscript (.Name x _) i _] value _ => ⟨dSetSub κ x (r.E κ i) (r.E κ value), fun _ _ _ _ _ _ h => ex_setSub (h.E κ _) (h.E κ _)⟩
  | .AugAssign (.Subscript (.Name x _) i _) .Add value _ => ⟨dAugSub κ x i (r.E κ i) (r.E κ value), fun _ _ _ _ _ _ h => ex_augSub (h.E κ _) (h.E κ _)⟩
  | .AugAssign (.Name x _) .Add value _ => ⟨dAugName κ sto x (r.E κ value), fun _ _ _ _ _ _ h => ex_augName (h.E κ _)⟩
  | .If t b o _ => ⟨dIfS (r.B κ t) (r.Ss κ sto b) (r.Ss κ sto o), fun _ _ _ _ _ _ h => ex_if (h.B κ _) (h.Ss κ sto _) (h.Ss κ sto _)⟩
  | .While t b [] _ => ⟨whileD (r.B κ t) (r.Ss κ sto b) k.K, fun _ _ _ _ _ _ h => ex_while _ (h.B κ _) (h.Ss κ sto _)⟩
  | .For target iter body [] pos => bFor k r κ sto target body pos iter
  | .Return (some e) _ => ⟨dLay (dRet (r.E κ e)), fun _ _ _ _ _ _ h => ex_ret (h.E κ _)⟩
  | .Return none _ => ⟨fun ρ => some (.ret .none, ρ), fun _ _ _ _ _ _ _ => ex_retNone⟩
  | .Expr (.Call (.Attribute (.Name x _) name apos) [e] [] pos) _ => ⟨if name = "append" then dAppend κ x e apos pos (r.E κ e) else dNo, fun _ _ _ _ _ _ h => by
      split
      · rename_i hn; exact ex_append hn (h.E κ _)
      · exact ex_no⟩
  | .Expr (.Call (.Attribute (.Name x _) name apos) [i, e] [] pos) _ => ⟨if name = "insert" then dInsert κ x i e apos pos (r.E κ i) (r.E κ e) else dNo, fun _ _ _ _ _ _ h => by
      split
      · rename_i hn; exact ex_insert hn (h.E κ _) (h.E κ _)
      · exact ex_no⟩
  | .Expr (.Call (.Name f p) [.Name x p1, e] [] pos) spos => ⟨bMut k f κ r x e, fun _ _ _ _ _ ko h => mut_sound ko h κ sto f x p p1 pos spos e⟩
  | _ => ⟨dNo, fun _ _ _ _ _ _ _ => ex_no⟩
noncomputable def stepS0 (k : Know) (r : Sem5) (κ : Kap) (sto : Str → Bool) (st : Stmt) : DenS := (bS k r κ sto st).1
noncomputable def stepS (k : Know) (r : Sem5) (κ : Kap) (sto : Str → Bool) (st : Stmt) : DenS :=
  match k.lay st with
  | some x => dLayOne sto x (stepS0 k r κ sto st)
  | none => stepS0 k r κ sto st

noncomputable def step5 (k : Know) (r : Sem5) : Sem5 := ⟨stepE k r, stepB k r, stepI k r, stepS k r, seqS r⟩
noncomputable def den (k : Know) : Nat → Sem5
  | 0 => ⟨fun _ _ => dNo, fun _ _ => dNo, fun _ _ _ _ _ => dNo, fun _ _ _ => dNo, fun _ _ _ => dNo⟩
  | n + 1 => step5 k (den k n)

theorem s_sound {prog : Program} {w : World} {G : Str → Option Value} {hb : Heap} {n : Nat} {k : Know} {r : Sem5} (ko : KnowOk prog w G hb n k) (h : Sound prog w G hb n k r) (κ : Kap) (sto : Str → Bool) (st : Stmt) : Ex prog w G hb n κ sto st (stepS k r κ sto st) := by
  unfold stepS
  split
  · exact ex_layOne _ ((bS k r κ sto st).2 _ _ _ _ _ ko h)
  · exact (bS k r κ sto st).2 _ _ _ _ _ ko h
theorem den_sound {prog : Program} {w : World} {G : Str → Option Value} {hb : Heap} {n : Nat} {k : Know} (ko : KnowOk prog w G hb n k) : ∀ m, Sound prog w G hb n k (den k m)
  | 0 => ⟨fun _ _ => ev_no, fun _ _ => evb_no, fun _ _ _ _ _ _ => evit_no, fun _ _ _ => ex_no, fun _ _ _ => exs_no⟩
  | m + 1 => have h := den_sound ko m; ⟨fun κ e => (bE k (den k m) κ e).2 _ _ _ _ _ ko h, fun κ e => (bB k (den k m) κ e).2 _ _ _ _ _ h, fun κ fc lo t e _ => (bI k (den k m) κ fc lo t e).2 _ _ _ _ _ h, s_sound ko h, seq_sound h⟩

/-! the words as equations -/
theorem E_int (k : Know) (r : Sem5) (κ : Kap) (i : Int) (c : Nat) (p : Pos) : stepE k r κ (.Constant (.int i) c p) = fun _ => some (.frozen, .int i) := rfl
theorem E_str (k : Know) (r : Sem5) (κ : Kap) (i : Str) (c : Nat) (p : Pos) : stepE k r κ (.Constant (.str i) c p) = fun _ => some (.frozen, .str i) := rfl
theorem E_bool (k : Know) (r : Sem5) (κ : Kap) (i : Bool) (c : Nat) (p : Pos) : stepE k r κ (.Constant (.bool i) c p) = fun _ => some (.frozen, .bool i) := rfl
theorem E_none (k : Know) (r : Sem5) (κ : Kap) (c : Nat) (p : Pos) : stepE k r κ (.Constant .none c p) = fun _ => some (.frozen, .none) := rfl
theorem E_name (k : Know) (r : Sem5) (κ : Kap) (x : Str) (p : Pos) : stepE k r κ (.Name x p) = dName κ x := rfl
theorem E_bin (k : Know) (r : Sem5) (κ : Kap) (a b : Expr) (op : Operator) (p : Pos) : stepE k r κ (.BinOp a op b p) = dBin op (r.E κ a) (r.E κ b) := rfl
theorem E_cmp (k : Know) (r : Sem5) (κ : Kap) (a b : Expr) (op : CmpOp) (p : Pos) : stepE k r κ (.Compare a [op] [b] p) = dVal (dCmp op b (r.E κ a) (r.E κ b)) := rfl
theorem E_andV (k : Know) (r : Sem5) (κ : Kap) (a b : Expr) (p : Pos) : stepE k r κ (.BoolOp .And [a, b] p) = dAndV (r.E κ a) (r.E κ b) := rfl
--[01
theorem E_ifexp (k : Know) (r : Sem5) (κ : Kap) (a b c : Expr) (p : Pos) : stepE k r κ (.IfExp a b c p) = dIf (r.B κ a) (r.E κ b) (r.E κ c) := rfl
--]
theorem E_tup (k : Know) (r : Sem5) (κ : Kap) (es : List Expr) (c : Nat) (p : Pos) : stepE k r κ (.Tuple es c p) = dTup (lstE r κ es) := rfl
theorem E_lst (k : Know) (r : Sem5) (κ : Kap) (es : List Expr) (p : Pos) : stepE k r κ (.List es p) = dLst (lstE r κ es) := rfl
theorem E_upto (k : Know) (r : Sem5) (κ : Kap) (x : Str) (p p1 p2 p3 : Pos) (i : Int) (c : Nat) : stepE k r κ (.Subscript (.Name x p) (.Slice none (some (.Constant (.int i) c p1)) none p2) p3) = dUpto (r.E κ (.Name x p)) i := rfl
theorem E_sub_name (k : Know) (r : Sem5) (κ : Kap) (o : Expr) (p : Pos) (x : Str) (p0 : Pos) : stepE k r κ (.Subscript o (.Name x p0) p) = dSub (r.E κ o) (r.E κ (.Name x p0)) := rfl
theorem E_sub_con (k : Know) (r : Sem5) (κ : Kap) (o : Expr) (p : Pos) (x : Const) (c0 : Nat) (p0 : Pos) : stepE k r κ (.Subscript o (.Constant x c0 p0) p) = dSub (r.E κ o) (r.E κ (.Constant x c0 p0)) := rfl
theorem E_sub_bin (k : Know) (r : Sem5) (κ : Kap) (o : Expr) (p : Pos) (a0 b0 : Expr) (op0 : Operator) (p0 : Pos) : stepE k r κ (.Subscript o (.BinOp a0 op0 b0 p0) p) = dSub (r.E κ o) (r.E κ (.BinOp a0 op0 b0 p0)) := rfl
theorem E_sub_sub (k : Know) (r : Sem5) (κ : Kap) (o : Expr) (p : Pos) (a0 b0 : Expr) (p0 : Pos) : stepE k r κ (.Subscript o (.Subscript a0 b0 p0) p) = dSub (r.E κ o) (r.E κ (.Subscript a0 b0 p0)) := rfl
theorem E_sub_call (k : Know) (r : Sem5) (κ : Kap) (o : Expr) (p : Pos) (f0 : Expr) (es0 : List Expr) (kw0 : List Keyword) (p0 : Pos) : stepE k r κ (.Subscript o (.Call f0 es0 kw0 p0) p) = dSub (r.E κ o) (r.E κ (.Call f0 es0 kw0 p0)) := rfl
theorem E_dict0 (k : Know) (r : Sem5) (κ : Kap) (p : Pos) : stepE k r κ (.Dict [] [] p) = fun _ => some (.fresh, .idict [] []) := rfl
theorem E_dict1 (k : Know) (r : Sem5) (κ : Kap) (a b : Expr) (p : Pos) : stepE k r κ (.Dict [some a] [b] p) = dDict1 (r.E κ a) (r.E κ b) := rfl
theorem E_comp (k : Know) (r : Sem5) (κ : Kap) (elt : Expr) (gens : List Comprehension) (scope : Scope) (p : Pos) : stepE k r κ (.ListComp elt gens scope p) = fun ρ => (dComp κ (r.I κ true true) (r.E (kapC scope κ)) (r.B (kapC scope κ)) (r.I (kapC scope κ) true false) elt gens scope ρ).map fun out => (.fresh, .lst out) := rfl
theorem E_call (k : Know) (r : Sem5) (κ : Kap) (f : Str) (p pos : Pos) (e : Expr) (es : List Expr) : stepE k r κ (.Call (.Name f p) (e :: es) [] pos) = callE k r κ f e es := rfl
theorem E_meth (k : Know) (r : Sem5) (κ : Kap) (o : Expr) (name : Str) (apos pos : Pos) (e : Expr) (es : List Expr) : stepE k r κ (.Call (.Attribute o name apos) (e :: es) [] pos) = dMeth o name (e :: es) apos pos (r.E κ o) (lstE r κ (e :: es)) := rfl
theorem N_isi (k : Know) (r : Sem5) (κ : Kap) (e : Expr) (y : Str) (p : Pos) : (bIsi k r κ e (.Name y p)).1 = dIsTup κ y e (r.E κ e) := rfl
theorem B_and0 (k : Know) (r : Sem5) (κ : Kap) (p : Pos) : stepB k r κ (.BoolOp .And [] p) = fun _ => some true := rfl
theorem B_and (k : Know) (r : Sem5) (κ : Kap) (x : Expr) (xs : List Expr) (p : Pos) : stepB k r κ (.BoolOp .And (x :: xs) p) = dAnd (r.B κ x) (r.B κ (.BoolOp .And xs p)) := rfl
theorem B_or0 (k : Know) (r : Sem5) (κ : Kap) (p : Pos) : stepB k r κ (.BoolOp .Or [] p) = fun _ => some false := rfl
theorem B_or (k : Know) (r : Sem5) (κ : Kap) (x : Expr) (xs : List Expr) (p : Pos) : stepB k r κ (.BoolOp .Or (x :: xs) p) = dOr (r.B κ x) (r.B κ (.BoolOp .Or xs p)) := rfl
theorem B_cmp (k : Know) (r : Sem5) (κ : Kap) (a b : Expr) (op : CmpOp) (p : Pos) : stepB k r κ (.Compare a [op] [b] p) = dCmp op b (r.E κ a) (r.E κ b) := rfl
theorem B_call (k : Know) (r : Sem5) (κ : Kap) (f : Expr) (es : List Expr) (kw : List Keyword) (p : Pos) : stepB k r κ (.Call f es kw p) = dTruth (r.E κ (.Call f es kw p)) := rfl
theorem I_call2 (k : Know) (r : Sem5) (κ : Kap) (fc lo : Bool) (t : Expr) (f : Str) (p pos : Pos) (e e2 : Expr) (es : List Expr) : stepI k r κ fc lo t (.Call (.Name f p) (e :: e2 :: es) [] pos) = dItList lo (r.E κ (.Call (.Name f p) (e :: e2 :: es) [] pos)) := rfl
theorem I_name (k : Know) (r : Sem5) (κ : Kap) (fc lo : Bool) (t : Expr) (x : Str) (p0 : Pos) : stepI k r κ fc lo t (.Name x p0) = dItList lo (r.E κ (.Name x p0)) := rfl
theorem I_lst (k : Know) (r : Sem5) (κ : Kap) (fc lo : Bool) (t : Expr) (es0 : List Expr) (p0 : Pos) : stepI k r κ fc lo t (.List es0 p0) = dItList lo (r.E κ (.List es0 p0)) := rfl
theorem I_tup (k : Know) (r : Sem5) (κ : Kap) (fc lo : Bool) (t : Expr) (es0 : List Expr) (c0 : Nat) (p0 : Pos) : stepI k r κ fc lo t (.Tuple es0 c0 p0) = dItList lo (r.E κ (.Tuple es0 c0 p0)) := rfl
theorem I_sub (k : Know) (r : Sem5) (κ : Kap) (fc lo : Bool) (t : Expr) (a0 b0 : Expr) (p0 : Pos) : stepI k r κ fc lo t (.Subscript a0 b0 p0) = dItList lo (r.E κ (.Subscript a0 b0 p0)) := rfl
theorem I_bin (k : Know) (r : Sem5) (κ : Kap) (fc lo : Bool) (t : Expr) (a0 b0 : Expr) (op0 : Operator) (p0 : Pos) : stepI k r κ fc lo t (.BinOp a0 op0 b0 p0) = dItList lo (r.E κ (.BinOp a0 op0 b0 p0)) := rfl
theorem I_items (k : Know) (r : Sem5) (κ : Kap) (apos pos : Pos) (o : Expr) (es : List Expr) (c : Nat) (tp : Pos) : (bItems k r κ apos pos o (.Tuple es c tp)).1 = dItItems o apos pos (r.E κ o) := rfl
theorem S_assignC (k : Know) (r : Sem5) (κ : Kap) (sto : Str → Bool) (x : Str) (p pos vp : Pos) (elt : Expr) (gens : List Comprehension) (scope : Scope) : stepS0 k r κ sto (.Assign [.Name x p] (.ListComp elt gens scope vp) pos) = dAssignC κ sto k.mu x p scope vp (dComp κ (r.I κ true true) (r.E (kapC scope κ)) (r.B (kapC scope κ)) (r.I (kapC scope κ) true false) elt gens scope) := rfl
theorem S_assign_name (k : Know) (r : Sem5) (κ : Kap) (sto : Str → Bool) (x : Str) (p pos : Pos) (y : Str) (p0 : Pos) : stepS0 k r κ sto (.Assign [.Name x p] (.Name y p0) pos) = dAssign κ sto k.mu x (.Name y p0) (r.E κ (.Name y p0)) := rfl
theorem S_assign_con (k : Know) (r : Sem5) (κ : Kap) (sto : Str → Bool) (x : Str) (p pos : Pos) (y : Const) (c0 : Nat) (p0 : Pos) : stepS0 k r κ sto (.Assign [.Name x p] (.Constant y c0 p0) pos) = dAssign κ sto k.mu x (.Constant y c0 p0) (r.E κ (.Constant y c0 p0)) := rfl
theorem S_assign_bin (k : Know) (r : Sem5) (κ : Kap) (sto : Str → Bool) (x : Str) (p pos : Pos) (a0 b0 : Expr) (op0 : Operator) (p0 : Pos) : stepS0 k r κ sto (.Assign [.Name x p] (.BinOp a0 op0 b0 p0) pos) = dAssign κ sto k.mu x (.BinOp a0 op0 b0 p0) (r.E κ (.BinOp a0 op0 b0 p0)) := rfl
theorem S_assign_call (k : Know) (r : Sem5) (κ : Kap) (sto : Str → Bool) (x : Str) (p pos : Pos) (f0 : Expr) (es0 : List Expr) (kw0 : List Keyword) (p0 : Pos) : stepS0 k r κ sto (.Assign [.Name x p] (.Call f0 es0 kw0 p0) pos) = dAssign κ sto k.mu x (.Call f0 es0 kw0 p0) (r.E κ (.Call f0 es0 kw0 p0)) := rfl
theorem S_assign_sub (k : Know) (r : Sem5) (κ : Kap) (sto : Str → Bool) (x : Str) (p pos : Pos) (a0 b0 : Expr) (p0 : Pos) : stepS0 k r κ sto (.Assign [.Name x p] (.Subscript a0 b0 p0) pos) = dAssign κ sto k.mu x (.Subscript a0 b0 p0) (r.E κ (.Subscript a0 b0 p0)) := rfl
theorem S_assign_cmp (k : Know) (r : Sem5) (κ : Kap) (sto : Str → Bool) (x : Str) (p pos : Pos) (a0 : Expr) (ops0 : List CmpOp) (es0 : List Expr) (p0 : Pos) : stepS0 k r κ sto (.Assign [.Name x p] (.Compare a0 ops0 es0 p0) pos) = dAssign κ sto k.mu x (.Compare a0 ops0 es0 p0) (r.E κ (.Compare a0 ops0 es0 p0)) := rfl
theorem S_assign_ifx (k : Know) (r : Sem5) (κ : Kap) (sto : Str → Bool) (x : Str) (p pos : Pos) (a0 b0 c0 : Expr) (p0 : Pos) : stepS0 k r κ sto (.Assign [.Name x p] (.IfExp a0 b0 c0 p0) pos) = dAssign κ sto k.mu x (.IfExp a0 b0 c0 p0) (r.E κ (.IfExp a0 b0 c0 p0)) := rfl
theorem S_assign_lst (k : Know) (r : Sem5) (κ : Kap) (sto : Str → Bool) (x : Str) (p pos : Pos) (es0 : List Expr) (p0 : Pos) : stepS0 k r κ sto (.Assign [.Name x p] (.List es0 p0) pos) = dAssign κ sto k.mu x (.List es0 p0) (r.E κ (.List es0 p0)) := rfl
theorem S_assign_tup (k : Know) (r : Sem5) (κ : Kap) (sto : Str → Bool) (x : Str) (p pos : Pos) (es0 : List Expr) (c0 : Nat) (p0 : Pos) : stepS0 k r κ sto (.Assign [.Name x p] (.Tuple es0 c0 p0) pos) = dAssign κ sto k.mu x (.Tuple es0 c0 p0) (r.E κ (.Tuple es0 c0 p0)) := rfl
theorem S_assign_dict (k : Know) (r : Sem5) (κ : Kap) (sto : Str → Bool) (x : Str) (p pos : Pos) (ks0 : List (Option Expr)) (es0 : List Expr) (p0 : Pos) : stepS0 k r κ sto (.Assign [.Name x p] (.Dict ks0 es0 p0) pos) = dAssign κ sto k.mu x (.Dict ks0 es0 p0) (r.E κ (.Dict ks0 es0 p0)) := rfl
theorem S_assign_boo (k : Know) (r : Sem5) (κ : Kap) (sto : Str → Bool) (x : Str) (p pos : Pos) (o0 : BoolOp) (es0 : List Expr) (p0 : Pos) : stepS0 k r κ sto (.Assign [.Name x p] (.BoolOp o0 es0 p0) pos) = dAssign κ sto k.mu x (.BoolOp o0 es0 p0) (r.E κ (.BoolOp o0 es0 p0)) := rfl
--[01
theorem S_tup (k : Know) (r : Sem5) (κ : Kap) (sto : Str → Bool) (ts vs : List Expr) (c c2 : Nat) (tp vp pos : Pos) : stepS0 k r κ sto (.Assign [.Tuple ts c tp] (.Tuple vs c2 vp) pos) = fun ρ => if noSwap κ ts then dTupAssign κ sto k.mu (r.E κ) ts vs ρ else dTupSwap κ sto k.mu (r.E κ) ts vs ρ := rfl
--]
theorem S_unpack_call (k : Know) (r : Sem5) (κ : Kap) (sto : Str → Bool) (ts : List Expr) (c : Nat) (tp pos : Pos) (f0 : Expr) (es0 : List Expr) (kw0 : List Keyword) (p0 : Pos) : stepS0 k r κ sto (.Assign [.Tuple ts c tp] (.Call f0 es0 kw0 p0) pos) = dUnpack κ sto (.Tuple ts c tp) (r.E κ (.Call f0 es0 kw0 p0)) := rfl
theorem S_setSub (k : Know) (r : Sem5) (κ : Kap) (sto : Str → Bool) (x : Str) (p p2 pos : Pos) (i v : Expr) : stepS0 k r κ sto (.Assign [.Subscript (.Name x p) i p2] v pos) = dSetSub κ x (r.E κ i) (r.E κ v) := rfl
theorem S_augSub (k : Know) (r : Sem5) (κ : Kap) (sto : Str → Bool) (x : Str) (p p2 pos : Pos) (i v : Expr) : stepS0 k r κ sto (.AugAssign (.Subscript (.Name x p) i p2) .Add v pos) = dAugSub κ x i (r.E κ i) (r.E κ v) := rfl
theorem S_augName (k : Know) (r : Sem5) (κ : Kap) (sto : Str → Bool) (x : Str) (p pos : Pos) (v : Expr) : stepS0 k r κ sto (.AugAssign (.Name x p) .Add v pos) = dAugName κ sto x (r.E κ v) := rfl
theorem S_if (k : Know) (r : Sem5) (κ : Kap) (sto : Str → Bool) (t : Expr) (b o : List Stmt) (pos : Pos) : stepS0 k r κ sto (.If t b o pos) = dIfS (r.B κ t) (r.Ss κ sto b) (r.Ss κ sto o) := rfl
theorem S_while (k : Know) (r : Sem5) (κ : Kap) (sto : Str → Bool) (t : Expr) (b : List Stmt) (pos : Pos) : stepS0 k r κ sto (.While t b [] pos) = whileD (r.B κ t) (r.Ss κ sto b) k.K := rfl
theorem S_for_name (k : Know) (r : Sem5) (κ : Kap) (sto : Str → Bool) (t : Expr) (b : List Stmt) (pos p : Pos) (x : Str) : stepS0 k r κ sto (.For t (.Name x p) b [] pos) = fun ρ => if (ownOf ρ x).isSome then dGrow κ sto k.K x t (r.Ss κ (stoBut sto x) b) ρ else dFor (r.I κ false false t (.Name x p)) (dTarget κ sto t) (r.Ss κ sto b) ρ := rfl
theorem S_for_call (k : Know) (r : Sem5) (κ : Kap) (sto : Str → Bool) (t : Expr) (b : List Stmt) (pos : Pos) (f0 : Expr) (es0 : List Expr) (kw0 : List Keyword) (p0 : Pos) : stepS0 k r κ sto (.For t (.Call f0 es0 kw0 p0) b [] pos) = dFor (r.I κ false false t (.Call f0 es0 kw0 p0)) (dTarget κ sto t) (r.Ss κ sto b) := rfl
theorem S_for_lst (k : Know) (r : Sem5) (κ : Kap) (sto : Str → Bool) (t : Expr) (b : List Stmt) (pos : Pos) (es0 : List Expr) (p0 : Pos) : stepS0 k r κ sto (.For t (.List es0 p0) b [] pos) = dFor (r.I κ false false t (.List es0 p0)) (dTarget κ sto t) (r.Ss κ sto b) := rfl
theorem S_for_tup (k : Know) (r : Sem5) (κ : Kap) (sto : Str → Bool) (t : Expr) (b : List Stmt) (pos : Pos) (es0 : List Expr) (c0 : Nat) (p0 : Pos) : stepS0 k r κ sto (.For t (.Tuple es0 c0 p0) b [] pos) = dFor (r.I κ false false t (.Tuple es0 c0 p0)) (dTarget κ sto t) (r.Ss κ sto b) := rfl
theorem S_for_sub (k : Know) (r : Sem5) (κ : Kap) (sto : Str → Bool) (t : Expr) (b : List Stmt) (pos : Pos) (a0 b0 : Expr) (p0 : Pos) : stepS0 k r κ sto (.For t (.Subscript a0 b0 p0) b [] pos) = dFor (r.I κ false false t (.Subscript a0 b0 p0)) (dTarget κ sto t) (r.Ss κ sto b) := rfl
theorem S_ret (k : Know) (r : Sem5) (κ : Kap) (sto : Str → Bool) (e : Expr) (pos : Pos) : stepS0 k r κ sto (.Return (some e) pos) = dLay (dRet (r.E κ e)) := rfl
theorem S_retNone (k : Know) (r : Sem5) (κ : Kap) (sto : Str → Bool) (pos : Pos) : stepS0 k r κ sto (.Return none pos) = fun ρ => some (.ret .none, ρ) := rfl
theorem S_mut (k : Know) (r : Sem5) (κ : Kap) (sto : Str → Bool) (f x : Str) (p p1 pos spos : Pos) (e : Expr) : stepS0 k r κ sto (.Expr (.Call (.Name f p) [.Name x p1, e] [] pos) spos) = bMut k f κ r x e := rfl
theorem Ss_nil (r : Sem5) (κ : Kap) (sto : Str → Bool) : seqS r κ sto [] = fun ρ => some (.next, ρ) := rfl
theorem Ss_cons (r : Sem5) (κ : Kap) (sto : Str → Bool) (st : Stmt) (sts : List Stmt) : seqS r κ sto (st :: sts) = dSeq (r.S κ sto st) (seqS r κ sto sts) := rfl
theorem L_nil (r : Sem5) (κ : Kap) : lstE r κ [] = dNil := rfl
theorem L_cons (r : Sem5) (κ : Kap) (e : Expr) (es : List Expr) : lstE r κ (e :: es) = dCons e (r.E κ e) (lstE r κ es) := rfl
theorem S_lay (T : Str → Option (List D → Option D)) (M : Str → Option (D → List D → Option D)) (mu : Str → Bool) (K : Nat) (r : Sem5) (κ : Kap) (sto : Str → Bool) (st : Stmt) : stepS ⟨T, M, mu, fun _ => none, K⟩ r κ sto st = stepS0 ⟨T, M, mu, fun _ => none, K⟩ r κ sto st := rfl
theorem dTests_nil (FB : Expr → DenB) (ρ : Rho) : dTests FB [] ρ = some true := rfl
theorem dTests_cons (FB : Expr → DenB) (c : Expr) (cs : List Expr) (ρ : Rho) : dTests FB (c :: cs) ρ = (FB c ρ).bind fun b => if b then dTests FB cs ρ else some false := rfl
end Mine
end
section
open PySem PySem.W PyProof.Rows PySem.Spec PySem.SeqAt
set_option maxRecDepth 100000
namespace Mine

/-! ## Running the evaluator's words -/
theorem den_E (k : Know) (n : Nat) : (den k (n + 1)).E = stepE k (den k n) := rfl
theorem den_B (k : Know) (n : Nat) : (den k (n + 1)).B = stepB k (den k n) := rfl
theorem den_I (k : Know) (n : Nat) : (den k (n + 1)).I = stepI k (den k n) := rfl
theorem den_S (k : Know) (n : Nat) : (den k (n + 1)).S = stepS k (den k n) := rfl
theorem den_Ss (k : Know) (n : Nat) : (den k (n + 1)).Ss = seqS (den k n) := rfl
noncomputable def bodyAt (b : List Stmt) (i : Nat) : List Stmt := match b[i]? with
  | some (.FunctionDef (body := body) ..) => body
  | _ => []
noncomputable def scopeAt (b : List Stmt) (i : Nat) : Scope := match b[i]? with
  | some (.FunctionDef (scope := s) ..) => s
  | _ => { kind := .function, names := [], isGenerator := false, isCoroutine := false, more := [] }
theorem opt_bind_some {α β : Type} (a : α) (f : α → Option β) : (some a).bind f = f a := rfl
theorem opt_map_some {α β : Type} (a : α) (f : α → β) : (some a).map f = some (f a) := rfl
theorem rho0_nil (x : Str) : rho0 [] [] x = none := rfl
theorem rho0_cons (p : Str) (ps : List Str) (b : Bd) (bs : List Bd) : rho0 (p :: ps) (b :: bs) = upd (rho0 ps bs) p b := by
  funext x
  unfold rho0 upd
  rw [List.zip_cons_cons, List.lookup_cons]
  by_cases q : x = p
  · simp [q]
  · have : (x == p) = false := by simpa using q
    rw [this]; simp [q]
theorem upd_at (ρ : Rho) (x : Str) (b : Bd) (y : Str) : upd ρ x b y = if y = x then some b else ρ y := rfl

noncomputable def Run (f : DenS) (ρ : Rho) (Q : Flo → Rho → Prop) : Prop := ∃ fl ρ', f ρ = some (fl, ρ') ∧ Q fl ρ'
theorem Run.mono {f : DenS} {ρ : Rho} {Q Q' : Flo → Rho → Prop} (x : Run f ρ Q) (h : ∀ fl ρ', Q fl ρ' → Q' fl ρ') : Run f ρ Q' := let ⟨fl, ρ', e, q⟩ := x; ⟨fl, ρ', e, h _ _ q⟩
/-- what holds behind the first of two; behind a turn of a for; of a while; of a for over a list that grows -/
abbrev SeqQ (g : DenS) (Q : Flo → Rho → Prop) : Flo → Rho → Prop := fun fl ρ1 => match fl with | .next => Run g ρ1 Q | fl => Q fl ρ1
abbrev ForQ (P : Rho → Prop) (Q : Flo → Rho → Prop) : Flo → Rho → Prop := fun fl ρ2 => match fl with | .next => P ρ2 | .cont => P ρ2 | .brk => Q .next ρ2 | .ret v => Q (.ret v) ρ2
theorem run_seq {f g : DenS} {ρ : Rho} {Q : Flo → Rho → Prop} (h : Run f ρ (SeqQ g Q)) : Run (dSeq f g) ρ Q := by
  obtain ⟨fl, ρ1, e, h⟩ := h
  cases fl with
  | next => obtain ⟨fl2, ρ2, e2, q⟩ := h; exact ⟨fl2, ρ2, by simp [dSeq, e, e2], q⟩
  | cont => exact ⟨_, ρ1, by simp [dSeq, e], h⟩
  | brk => exact ⟨_, ρ1, by simp [dSeq, e], h⟩
  | ret d => exact ⟨_, ρ1, by simp [dSeq, e], h⟩
theorem run_nil {ρ : Rho} {Q : Flo → Rho → Prop} (h : Q .next ρ) : Run (fun ρ => some (Flo.next, ρ)) ρ Q := ⟨_, _, rfl, h⟩
theorem run_assign {κ : Kap} {sto mu : Str → Bool} {x : Str} {value : Expr} {f : Den} {ρ : Rho} {Q : Flo → Rho → Prop} (y : Fl × D) (ρ' : Rho) (e : f ρ = some y) (p : dPut κ sto mu x y ρ = some ρ') (hn : notComp value = true) (h : Q .next ρ') :
    Run (dAssign κ sto mu x value f) ρ Q := ⟨_, ρ', by simp [dAssign, hn, e, p], h⟩
theorem run_if {ft : DenB} {fb fo : DenS} {ρ : Rho} {Q : Flo → Rho → Prop} (b : Bool) (e : ft ρ = some b) (h : if b then Run fb ρ Q else Run fo ρ Q) : Run (dIfS ft fb fo) ρ Q := by
  cases b with
  | true => obtain ⟨fl, ρ', e2, q⟩ := h; exact ⟨fl, ρ', by simp [dIfS, e, e2], q⟩
  | false => obtain ⟨fl, ρ', e2, q⟩ := h; exact ⟨fl, ρ', by simp [dIfS, e, e2], q⟩
theorem run_for {it : Rho → Option (List D)} {bind : D → Rho → Option Rho} {body : DenS} {ρ : Rho} {Q : Flo → Rho → Prop} (ds : List D) (e : it ρ = some ds) (P : List D → Rho → Prop) (h0 : P ds ρ)
    (step : ∀ d ds ρ, P (d :: ds) ρ → ∃ ρ1, bind d ρ = some ρ1 ∧ Run body ρ1 (ForQ (P ds) Q))
    (fin : ∀ ρ, P [] ρ → Q .next ρ) : Run (dFor it bind body) ρ Q := by
  have key : ∀ ds ρ, P ds ρ → ∃ fl ρ', loopD bind body ds ρ = some (fl, ρ') ∧ Q fl ρ' := by
    intro ds
    induction ds with
    | nil => intro ρ h; exact ⟨_, ρ, rfl, fin ρ h⟩
    | cons d ds ih =>
      intro ρ h
      obtain ⟨ρ1, e1, fl, ρ2, e2, q⟩ := step d ds ρ h
      unfold loopD
      rw [e1, opt_bind_some, e2, opt_bind_some]
      cases fl with
      | next => exact ih ρ2 q
      | cont => exact ih ρ2 q
      | brk => exact ⟨_, _, rfl, q⟩
      | ret d => exact ⟨_, _, rfl, q⟩
  obtain ⟨fl, ρ', e1, q⟩ := key ds ρ h0
  exact ⟨fl, ρ', by simp [dFor, e, e1], q⟩
theorem run_while {ft : DenB} {fb : DenS} {K : Nat} {ρ : Rho} {Q : Flo → Rho → Prop} (P : Nat → Rho → Prop) (h0 : ∃ k, k < K ∧ P k ρ)
    (step : ∀ k ρ, P k ρ → ∃ b, ft ρ = some b ∧ if b then Run fb ρ (ForQ (fun ρ2 => ∃ j, j < k ∧ P j ρ2) Q) else Q .next ρ) : Run (whileD ft fb K) ρ Q := by
  have key : ∀ K k ρ, k < K → P k ρ → ∃ fl ρ', whileD ft fb K ρ = some (fl, ρ') ∧ Q fl ρ' := by
    intro K
    induction K with
    | zero => intro k ρ h; exact absurd h (Nat.not_lt_zero _)
    | succ K ih =>
      intro k ρ hk h
      obtain ⟨b, e1, hb⟩ := step k ρ h
      unfold whileD
      rw [e1, opt_bind_some]
      cases b with
      | false => exact ⟨_, _, rfl, hb⟩
      | true =>
        obtain ⟨fl, ρ2, e2, q⟩ := hb
        simp only [if_true]
        rw [e2, opt_bind_some]
        cases fl with
        | next => obtain ⟨j, hj, q⟩ := q; exact ih j ρ2 (by exact om_65 hk hj) q
        | cont => obtain ⟨j, hj, q⟩ := q; exact ih j ρ2 (by exact om_65 hk hj) q
        | brk => exact ⟨_, _, rfl, q⟩
        | ret d => exact ⟨_, _, rfl, q⟩
  obtain ⟨k, hk, h⟩ := h0
  exact key K k ρ hk h
theorem run_grow {κ : Kap} {sto : Str → Bool} {K : Nat} {x : Str} {target : Expr} {bd : DenS} {ρ : Rho} {Q : Flo → Rho → Prop} (hs : κ x = some .local ∧ okName x = true) (P : Nat → Nat → List D → Rho → Prop) (h0 : ∃ k ds, k < K ∧ P k 0 ds ρ)
    (own : ∀ k i ds ρ, P k i ds ρ → ρ x = some (.own (.lst ds)))
    (step : ∀ k i ds ρ d, P k i ds ρ → ds[i]? = some d → ∃ ρ1, dTarget κ (stoBut sto x) target d ρ = some ρ1 ∧ Run bd ρ1 (ForQ (fun ρ2 => ∃ j ds', j < k ∧ P j (i + 1) ds' ρ2) Q))
    (fin : ∀ k i ds ρ, P k i ds ρ → ds[i]? = none → Q .next ρ) : Run (dGrow κ sto K x target bd) ρ Q := by
  have key : ∀ K k i ds ρ, k < K → P k i ds ρ → ∃ fl ρ', growD (dTarget κ (stoBut sto x) target) bd x K i ρ = some (fl, ρ') ∧ Q fl ρ' := by
    intro K
    induction K with
    | zero => intro k i ds ρ h; exact absurd h (Nat.not_lt_zero _)
    | succ K ih =>
      intro k i ds ρ hk h
      have ho : ownOf ρ x = some (.lst ds) := own_at (own k i ds ρ h)
      unfold growD
      rw [ho, opt_bind_some, show lsOf (.lst ds) = some ds from rfl, opt_bind_some]
      cases hd : ds[i]? with
      | none => exact ⟨_, _, rfl, fin k i ds ρ h hd⟩
      | some d =>
        obtain ⟨ρ1, e1, fl, ρ2, e2, q⟩ := step k i ds ρ d h hd
        simp only [e1, opt_bind_some, e2]
        cases fl with
        | next => obtain ⟨j, ds', hj, q⟩ := q; exact ih j (i + 1) ds' ρ2 (by exact om_65 hk hj) q
        | cont => obtain ⟨j, ds', hj, q⟩ := q; exact ih j (i + 1) ds' ρ2 (by exact om_65 hk hj) q
        | brk => exact ⟨_, _, rfl, q⟩
        | ret d => exact ⟨_, _, rfl, q⟩
  obtain ⟨k, ds, hk, h⟩ := h0
  obtain ⟨fl, ρ', e, q⟩ := key K k 0 ds ρ hk h
  exact ⟨fl, ρ', by simp [dGrow, hs, e], q⟩
theorem run_ret {f : Den} {ρ : Rho} {Q : Flo → Rho → Prop} (y : Fl × D) (e : f (lay ρ) = some y) (hl : y.1 ≠ .loose) (h : Q (.ret y.2) (lay ρ)) : Run (dLay (dRet f)) ρ Q := ⟨_, _, by
  unfold dLay dRet; rw [e, opt_bind_some, if_neg hl]; rfl, h⟩
theorem run_eq {f : DenS} {ρ : Rho} {Q : Flo → Rho → Prop} (fl : Flo) (ρ' : Rho) (e : f ρ = some (fl, ρ')) (h : Q fl ρ') : Run f ρ Q := ⟨fl, ρ', e, h⟩
abbrev RetQ (d : D) : Flo → Rho → Prop := fun fl _ => match fl with | .ret d' => d' = d | .next => D.none = d | _ => False
abbrev RetD (d : D) : Flo → Rho → Prop := fun fl _ => match fl with | .ret d' => d' = d | _ => False
/-- a def's answer -/
theorem fn_run {bd : DenS} {ps : List Str} {extra : List D} {k : Nat} {ds : List D} {d : D} (hl : ds.length = k) (h : Run bd (rho0 ps ((ds ++ extra).map .frz)) (RetQ d)) : fnD bd ps extra k ds = some d := by
  obtain ⟨fl, ρ', e, q⟩ := h
  unfold fnD
  rw [if_pos hl, e, opt_bind_some]
  cases fl with
  | ret d' => simp only at q ⊢; rw [q]
  | next => simp only at q ⊢; rw [q]
  | cont => exact q.elim
  | brk => exact q.elim
theorem mut_run {bd : DenS} {p0 : Str} {ps : List Str} {extra : List D} {k : Nat} {d : D} {ds : List D} {d' : D} (hl : ds.length = k) (h : Run bd (rho0 (p0 :: ps) (.own d :: (ds ++ extra).map .frz)) fun fl ρ => fl = .next ∧ ρ p0 = some (.own d')) : fnMut bd p0 ps extra k d ds = some d' := by
  obtain ⟨fl, ρ', e, rfl, q⟩ := h
  unfold fnMut
  rw [if_pos hl, e, opt_bind_some]
  exact own_at q
theorem run_own {f g : DenS} {x : Str} {ρ : Rho} {Q : Flo → Rho → Prop} (h : (ownOf ρ x).isSome = true) (r : Run f ρ Q) : Run (fun ρ => if (ownOf ρ x).isSome then f ρ else g ρ) ρ Q := by
  obtain ⟨fl, ρ', e, q⟩ := r
  exact ⟨fl, ρ', by show (if (ownOf ρ x).isSome then f ρ else g ρ) = _; rw [if_pos h]; exact e, q⟩
theorem run_notown {f g : DenS} {x : Str} {ρ : Rho} {Q : Flo → Rho → Prop} (h : ownOf ρ x = none) (r : Run g ρ Q) : Run (fun ρ => if (ownOf ρ x).isSome then f ρ else g ρ) ρ Q := by
  obtain ⟨fl, ρ', e, q⟩ := r
  exact ⟨fl, ρ', by show (if (ownOf ρ x).isSome then f ρ else g ρ) = _; rw [if_neg (by rw [h]; simp)]; exact e, q⟩
/-- a name's value -/
theorem nmF {ρ : Rho} {x : Str} {d : D} (h : ρ x = some (.frz d)) (κ : Kap) (hk : (isV (κ x) && okName x) = true) : dName κ x ρ = some (.frozen, d) := by unfold dName; rw [if_pos hk, h]
theorem nmO {ρ : Rho} {x : Str} {d : D} (h : ρ x = some (.own d)) (κ : Kap) (hk : (isV (κ x) && okName x) = true) : dName κ x ρ = some (.loose, d) := by unfold dName; rw [if_pos hk, h]
/-! the value of an expression, rule by rule -/
theorem frz_nl : Fl.frozen ≠ Fl.loose := by decide
theorem fre_nl : Fl.fresh ≠ Fl.loose := by decide
theorem q_bin {op : Operator} {f g : Den} {ρ : Rho} {fx fy : Fl} {x y : D} {r : Option (Fl × D)} (ha : f ρ = some (fx, x)) (hb : g ρ = some (fy, y)) (h : binD op x y = r) : dBin op f g ρ = r := by
  unfold dBin; rw [ha, opt_bind_some, hb]; exact h
theorem q_cmp {op : CmpOp} {e : Expr} {f g : Den} {ρ : Rho} {fx fy : Fl} {x y : D} {r : Option Bool} (hi : behindInMarks op e = false) (ha : f ρ = some (fx, x)) (hb : g ρ = some (fy, y)) (h : cmpD op x y = r) : dCmp op e f g ρ = r := by
  unfold dCmp; rw [hi, ha, opt_bind_some, hb]; exact h
theorem q_val {f : DenB} {ρ : Rho} {b : Bool} (h : f ρ = some b) : dVal f ρ = some (.frozen, .bool b) := by
  unfold dVal; rw [h]; rfl
theorem q_andV {f g : Den} {ρ : Rho} {fl : Fl} {r : Option (Fl × D)} (ha : f ρ = some (fl, .bool true)) (hb : g ρ = r) : dAndV f g ρ = r := by
  unfold dAndV; rw [ha]; exact hb
theorem q_sub {f g : Den} {ρ : Rho} {fx fy : Fl} {x y d : D} (ha : f ρ = some (fx, x)) (hb : g ρ = some (fy, y)) (hc : x.comp = true) (h : itemD x y = some d) : dSub f g ρ = some (.frozen, d) := by
  unfold dSub; rw [ha, opt_bind_some, hb, opt_bind_some, if_pos hc, h]; rfl
theorem q_nil {ρ : Rho} : dNil ρ = some [] := rfl
theorem q_cons {e : Expr} {f : Den} {fs : DenL} {ρ : Rho} {x : Fl × D} {xs : List (Fl × D)} (hs : isStarred e = false) (ha : f ρ = some x) (hb : fs ρ = some xs) : dCons e f fs ρ = some (x :: xs) := by
  unfold dCons; rw [hs, ha, opt_bind_some, hb]; rfl
theorem q_lst {fs : DenL} {ρ : Rho} {xs : List (Fl × D)} (h : fs ρ = some xs) (hl : (xs.all fun x => x.1 != .loose) = true ∧ xs.length ≤ cap) : dLst fs ρ = some (.fresh, .lst (xs.map (·.2))) := by
  unfold dLst; rw [h, opt_bind_some, if_pos hl]
theorem q_tup {fs : DenL} {ρ : Rho} {xs : List (Fl × D)} (h : fs ρ = some xs) (hl : (xs.all fun x => x.1 != .loose) = true ∧ xs.length ≤ cap) : dTup fs ρ = some (.fresh, .tup (xs.map (·.2))) := by
  unfold dTup; rw [h, opt_bind_some, if_pos hl]
theorem q_bfn {κ : Kap} {x : Str} {es : List Expr} {fs : DenL} {ρ : Rho} {xs : List (Fl × D)} {r : Option (Fl × D)} (hc : (isB κ x && plainL es) = true) (h : fs ρ = some xs) (hr : bfnD x xs = r) : dBfn κ x es fs ρ = r := by
  unfold dBfn; rw [if_pos hc, h]; exact hr
theorem q_call {κ : Kap} {f : Str} {es : List Expr} {F : List D → Option D} {fs : DenL} {ρ : Rho} {xs : List (Fl × D)} {d : D} (hc : (isG κ f && plainL es) = true) (h : fs ρ = some xs) (hr : F (xs.map (·.2)) = some d) (hl : ((xs.all fun x => x.1 != .loose) || !d.comp) = true) : dCall κ f es F fs ρ = some (.frozen, d) := by
  unfold dCall; rw [if_pos hc, h, opt_bind_some, hr, opt_bind_some]; exact if_pos hl
theorem q_meth {o : Expr} {name : Str} {es : List Expr} {apos pos : Pos} {fo : Den} {fs : DenL} {ρ : Rho} {fx : Fl} {x : D} {xs : List (Fl × D)} {r : Option (Fl × D)} (hc : (plainBase o && plainL es && decide (es.length < 29) && (apos.endLine == pos.line)) = true) (ho : fo ρ = some (fx, x)) (h : fs ρ = some xs) (hr : methD name x xs = r) : dMeth o name es apos pos fo fs ρ = r := by
  unfold dMeth; rw [if_pos hc, ho, opt_bind_some, h]; exact hr
theorem q_or {f g : DenB} {ρ : Rho} {r : Option Bool} (ha : f ρ = some false) (hb : g ρ = r) : dOr f g ρ = r := by
  unfold dOr; rw [ha]; exact hb
theorem q_and {f g : DenB} {ρ : Rho} {r : Option Bool} (ha : f ρ = some true) (hb : g ρ = r) : dAnd f g ρ = r := by
  unfold dAnd; rw [ha]; exact hb
theorem q_andF {f g : DenB} {ρ : Rho} (ha : f ρ = some false) : dAnd f g ρ = some false := by
  unfold dAnd; rw [ha]; rfl
theorem q_list {lo : Bool} {f : Den} {ρ : Rho} {fx : Fl} {x : D} {ds : List D} (h : f ρ = some (fx, x)) (hl : lsOf x = some ds) (hx : lo = true ∨ fx ≠ .loose) : dItList lo f ρ = some ds := by
  unfold dItList; rw [h, opt_bind_some, hl, opt_bind_some, if_pos hx]
theorem q_range {κ : Kap} {e : Expr} {f : Den} {ρ : Rho} {fl : Fl} {k : Int} (hc : (isB κ "range" && !isStarred e) = true) (h : f ρ = some (fl, .int k)) (hk : 0 ≤ k ∧ k ≤ 200) : dItRange κ e f ρ = some (rangeD k) := by
  unfold dItRange; rw [if_pos hc, h]; exact if_pos hk
theorem q_comp {o : Option (List D)} {out : List D} (h : o = some out) : o.map (fun out => (Fl.fresh, D.lst out)) = some (.fresh, .lst out) := by
  rw [h]; rfl
theorem q_one {o : Option Bool} {b : Bool} (h : o = some b) : (o.bind fun b => if b = true then some true else some false) = some b := by
  rw [h]; cases b <;> rfl
theorem q_vals {o : Expr} {apos pos : Pos} {f : Den} {ρ : Rho} {fx : Fl} {x : D} {ds : List D} (hc : (plainBase o && (apos.endLine == pos.line)) = true) (h : f ρ = some (fx, x)) (hv : valsD x = some ds) (hl : fx ≠ .loose) : dItVals o apos pos f ρ = some ds := by
  unfold dItVals; rw [if_pos hc, h, opt_bind_some, hv]; exact if_pos hl
theorem q_items {o : Expr} {apos pos : Pos} {f : Den} {ρ : Rho} {fx : Fl} {x : D} {ds : List D} (hc : (plainBase o && (apos.endLine == pos.line)) = true) (h : f ρ = some (fx, x)) (hv : valsD x = some ds) (hl : fx ≠ .loose) : dItItems o apos pos f ρ = some (zipD (keysD x) ds) := by
  unfold dItItems; rw [if_pos hc, h, opt_bind_some, hv]; exact if_pos hl
theorem q_frz {f : Den} {ρ : Rho} {fx : Fl} {d : D} (h : f ρ = some (fx, d)) (hl : fx ≠ .loose) : dFrz f ρ = some d := by
  unfold dFrz; rw [h]; exact if_neg hl
theorem q_own {ρ : Rho} {x : Str} {d : D} (h : ρ x = some (.own d)) : ownOf ρ x = some d := by
  exact own_at h
theorem q_store {κ : Kap} {x : Str} {fi : Den} {v k d d' : D} {ρ : Rho} (hc : (isV (κ x) && okName x) = true) (hi : dFrz fi ρ = some k) (ho : ρ x = some (.own d)) (hp : putD (fitD d k) k v = some d') : dStore κ x fi v ρ = some (upd ρ x (.own d')) := by
  unfold dStore; rw [if_pos hc, hi, opt_bind_some, q_own ho, opt_bind_some, hp]; rfl
theorem q_setSub {κ : Kap} {x : Str} {fi fv : Den} {v k d d' : D} {ρ : Rho} (hv : dFrz fv ρ = some v) (hc : (isV (κ x) && okName x) = true) (hi : dFrz fi ρ = some k) (ho : ρ x = some (.own d)) (hp : putD (fitD d k) k v = some d') : dSetSub κ x fi fv ρ = some (.next, upd ρ x (.own d')) := by
  unfold dSetSub; rw [hv, opt_bind_some, q_store hc hi ho hp]; rfl
theorem q_aug {κ : Kap} {sto : Str → Bool} {x : Str} {fv : Den} {a b : Int} {ρ : Rho} {fl : Fl} (hc : (okT κ sto x && okName x) = true) (hx : ρ x = some (.frz (.int a))) (hv : fv ρ = some (fl, .int b)) : dAugName κ sto x fv ρ = some (.next, upd ρ x (.frz (.int (a + b)))) := by
  unfold dAugName; rw [if_pos hc, hx]
  show (fv ρ).bind _ = _
  rw [hv]; rfl
theorem q_insert {κ : Kap} {x : Str} {e0 e : Expr} {apos pos : Pos} {fi fv : Den} {k : Int} {v d d' : D} {ρ : Rho} {f0 f1 : Fl} (hc : (isV (κ x) && okName x && !isStarred e0 && !isStarred e && (apos.endLine == pos.line)) = true) (hi : fi ρ = some (f0, .int k)) (hv : fv ρ = some (f1, v)) (hl : f1 ≠ .loose) (ho : ρ x = some (.own d)) (h : insD d k v = some d') : dInsert κ x e0 e apos pos fi fv ρ = some (.next, upd ρ x (.own d')) := by
  unfold dInsert; rw [if_pos hc, hi, opt_bind_some, hv, opt_bind_some, own_at ho, opt_bind_some, itOf_int, opt_bind_some, if_neg hl, h]; rfl
theorem q_append {κ : Kap} {x : Str} {e : Expr} {apos pos : Pos} {fv : Den} {v d d' : D} {ρ : Rho} (hc : (isV (κ x) && okName x && !isStarred e && (apos.endLine == pos.line)) = true) (hv : dFrz fv ρ = some v) (ho : ρ x = some (.own d)) (h : appD d v = some d') : dAppend κ x e apos pos fv ρ = some (.next, upd ρ x (.own d')) := by
  unfold dAppend; rw [if_pos hc, hv, opt_bind_some, own_at ho, opt_bind_some, h]; rfl
theorem q_mut {κ : Kap} {f x : Str} {e : Expr} {F : D → List D → Option D} {fe : Den} {v d d' : D} {ρ : Rho} (hc : (isG κ f && isV (κ x) && okName x && !isStarred e) = true) (hv : dFrz fe ρ = some v) (ho : ρ x = some (.own d)) (h : F d [v] = some d') : dMut κ f x e F fe ρ = some (.next, upd ρ x (.own d')) := by
  unfold dMut; rw [if_pos hc, hv, opt_bind_some, own_at ho, opt_bind_some, h]; rfl
theorem q_isTup {κ : Kap} {y : Str} {e : Expr} {f : Den} {ρ : Rho} {fx : Fl} {i : Int} (hc : (isB κ "isinstance" && isB κ y && decide (y = "tuple") && !isStarred e) = true) (h : f ρ = some (fx, .int i)) : dTruth (dIsTup κ y e f) ρ = some false := by
  unfold dTruth dIsTup; rw [if_pos hc, h]; rfl
theorem q_augSub {κ : Kap} {x : Str} {i : Expr} {fi fv : Den} {k d d' : D} {a b : Int} {ρ : Rho} (hc : (isV (κ x) && okName x && noSlice i) = true) (hi : dFrz fi ρ = some k) (ho : ρ x = some (.own d)) (ha : itemD (fitD d k) k = some (.int a)) (hv : dFrz fv ρ = some (.int b)) (h : putD (fitD d k) k (.int (a + b)) = some d') : dAugSub κ x i fi fv ρ = some (.next, upd ρ x (.own d')) := by
  unfold dAugSub; rw [if_pos hc, hi, opt_bind_some, own_at ho, opt_bind_some, ha, opt_bind_some, hv, opt_bind_some, itOf_int, opt_bind_some, itOf_int, opt_bind_some, h]; rfl
theorem q_dict1 {fk fv : Den} {k v d : D} {ρ : Rho} (hk : dFrz fk ρ = some k) (hv : dFrz fv ρ = some v) (h : putD (fitD (.idict [] []) k) k v = some d) : dDict1 fk fv ρ = some (.fresh, d) := by
  unfold dDict1; rw [hk, opt_bind_some, hv, opt_bind_some, h]; rfl
--]
--]
end Mine
end
section
open PySem PySem.W PyProof.Rows PySem.Spec PySem.SeqAt
set_option maxRecDepth 100000
namespace Mine
noncomputable def nm_ValueError : Str := ⟨#[86, 97, 108, 117, 101, 69, 114, 114, 111, 114]⟩
noncomputable def nm_UUclassdictUU : Str := ⟨#[95, 95, 99, 108, 97, 115, 115, 100, 105, 99, 116, 95, 95]⟩
noncomputable def nm_UUdebugUU : Str := ⟨#[95, 95, 100, 101, 98, 117, 103, 95, 95]⟩
noncomputable def nm_UUnameUU : Str := ⟨#[95, 95, 110, 97, 109, 101, 95, 95]⟩
noncomputable def nm_Llaw_near : Str := ⟨#[95, 108, 97, 119, 95, 110, 101, 97, 114]⟩
noncomputable def nm_Llaw_sides : Str := ⟨#[95, 108, 97, 119, 95, 115, 105, 100, 101, 115]⟩
noncomputable def nm_Llaw_walks : Str := ⟨#[95, 108, 97, 119, 95, 119, 97, 108, 107, 115]⟩
noncomputable def nm_a : Str := ⟨#[97]⟩
noncomputable def nm_add_callers : Str := ⟨#[97, 100, 100, 95, 99, 97, 108, 108, 101, 114, 115]⟩
noncomputable def nm_after : Str := ⟨#[97, 102, 116, 101, 114]⟩
noncomputable def nm_append : Str := ⟨#[97, 112, 112, 101, 110, 100]⟩
noncomputable def nm_b : Str := ⟨#[98]⟩
noncomputable def nm_bad : Str := ⟨#[98, 97, 100]⟩
noncomputable def nm_bisect_left : Str := ⟨#[98, 105, 115, 101, 99, 116, 95, 108, 101, 102, 116]⟩
noncomputable def nm_caller : Str := ⟨#[99, 97, 108, 108, 101, 114]⟩
noncomputable def nm_callers : Str := ⟨#[99, 97, 108, 108, 101, 114, 115]⟩
noncomputable def nm_calls : Str := ⟨#[99, 97, 108, 108, 115]⟩
noncomputable def nm_count_calls : Str := ⟨#[99, 111, 117, 110, 116, 95, 99, 97, 108, 108, 115]⟩
noncomputable def nm_far : Str := ⟨#[102, 97, 114]⟩
noncomputable def nm_first : Str := ⟨#[102, 105, 114, 115, 116]⟩
noncomputable def nm_func : Str := ⟨#[102, 117, 110, 99]⟩
noncomputable def nm_get : Str := ⟨#[103, 101, 116]⟩
noncomputable def nm_here : Str := ⟨#[104, 101, 114, 101]⟩
noncomputable def nm_hi : Str := ⟨#[104, 105]⟩
noncomputable def nm_i : Str := ⟨#[105]⟩
noncomputable def nm_insert : Str := ⟨#[105, 110, 115, 101, 114, 116]⟩
noncomputable def nm_insort_left : Str := ⟨#[105, 110, 115, 111, 114, 116, 95, 108, 101, 102, 116]⟩
noncomputable def nm_isinstance : Str := ⟨#[105, 115, 105, 110, 115, 116, 97, 110, 99, 101]⟩
noncomputable def nm_items : Str := ⟨#[105, 116, 101, 109, 115]⟩
noncomputable def nm_j : Str := ⟨#[106]⟩
noncomputable def nm_key : Str := ⟨#[107, 101, 121]⟩
noncomputable def nm_law : Str := ⟨#[108, 97, 119]⟩
noncomputable def nm_len : Str := ⟨#[108, 101, 110]⟩
noncomputable def nm_lo : Str := ⟨#[108, 111]⟩
noncomputable def nm_max : Str := ⟨#[109, 97, 120]⟩
noncomputable def nm_mid : Str := ⟨#[109, 105, 100]⟩
noncomputable def nm_min : Str := ⟨#[109, 105, 110]⟩
noncomputable def nm_more : Str := ⟨#[109, 111, 114, 101]⟩
noncomputable def nm_nc : Str := ⟨#[110, 99]⟩
noncomputable def nm_new_callers : Str := ⟨#[110, 101, 119, 95, 99, 97, 108, 108, 101, 114, 115]⟩
noncomputable def nm_number : Str := ⟨#[110, 117, 109, 98, 101, 114]⟩
noncomputable def nm_odd : Str := ⟨#[111, 100, 100]⟩
noncomputable def nm_often : Str := ⟨#[111, 102, 116, 101, 110]⟩
noncomputable def nm_one : Str := ⟨#[111, 110, 101]⟩
noncomputable def nm_other : Str := ⟨#[111, 116, 104, 101, 114]⟩
noncomputable def nm_pairs : Str := ⟨#[112, 97, 105, 114, 115]⟩
noncomputable def nm_piece : Str := ⟨#[112, 105, 101, 99, 101]⟩
noncomputable def nm_place : Str := ⟨#[112, 108, 97, 99, 101]⟩
noncomputable def nm_range : Str := ⟨#[114, 97, 110, 103, 101]⟩
noncomputable def nm_script : Str := ⟨#[115, 99, 114, 105, 112, 116]⟩
noncomputable def nm_sorted : Str := ⟨#[115, 111, 114, 116, 101, 100]⟩
noncomputable def nm_source : Str := ⟨#[115, 111, 117, 114, 99, 101]⟩
noncomputable def nm_steps : Str := ⟨#[115, 116, 101, 112, 115]⟩
noncomputable def nm_sum : Str := ⟨#[115, 117, 109]⟩
noncomputable def nm_table : Str := ⟨#[116, 97, 98, 108, 101]⟩
noncomputable def nm_target : Str := ⟨#[116, 97, 114, 103, 101, 116]⟩
noncomputable def nm_there : Str := ⟨#[116, 104, 101, 114, 101]⟩
noncomputable def nm_tie : Str := ⟨#[116, 105, 101]⟩
noncomputable def nm_ties : Str := ⟨#[116, 105, 101, 115]⟩
noncomputable def nm_tuple : Str := ⟨#[116, 117, 112, 108, 101]⟩
noncomputable def nm_turn : Str := ⟨#[116, 117, 114, 110]⟩
noncomputable def nm_values : Str := ⟨#[118, 97, 108, 117, 101, 115]⟩
noncomputable def nm_waiting : Str := ⟨#[119, 97, 105, 116, 105, 110, 103]⟩
noncomputable def nm_ways : Str := ⟨#[119, 97, 121, 115]⟩
noncomputable def nm_word : Str := ⟨#[119, 111, 114, 100]⟩
noncomputable def nm_x : Str := ⟨#[120]⟩
noncomputable def nm_zip : Str := ⟨#[122, 105, 112]⟩
theorem ofs_ValueError : Str.ofString "ValueError" = nm_ValueError := rfl
theorem ofs_UUclassdictUU : Str.ofString "__classdict__" = nm_UUclassdictUU := rfl
theorem ofs_UUdebugUU : Str.ofString "__debug__" = nm_UUdebugUU := rfl
theorem ofs_UUnameUU : Str.ofString "__name__" = nm_UUnameUU := rfl
theorem ofs_Llaw_near : Str.ofString "_law_near" = nm_Llaw_near := rfl
theorem ofs_Llaw_sides : Str.ofString "_law_sides" = nm_Llaw_sides := rfl
theorem ofs_Llaw_walks : Str.ofString "_law_walks" = nm_Llaw_walks := rfl
theorem ofs_a : Str.ofString "a" = nm_a := rfl
theorem ofs_add_callers : Str.ofString "add_callers" = nm_add_callers := rfl
theorem ofs_after : Str.ofString "after" = nm_after := rfl
theorem ofs_append : Str.ofString "append" = nm_append := rfl
theorem ofs_b : Str.ofString "b" = nm_b := rfl
theorem ofs_bad : Str.ofString "bad" = nm_bad := rfl
theorem ofs_bisect_left : Str.ofString "bisect_left" = nm_bisect_left := rfl
theorem ofs_caller : Str.ofString "caller" = nm_caller := rfl
theorem ofs_callers : Str.ofString "callers" = nm_callers := rfl
theorem ofs_calls : Str.ofString "calls" = nm_calls := rfl
theorem ofs_count_calls : Str.ofString "count_calls" = nm_count_calls := rfl
theorem ofs_far : Str.ofString "far" = nm_far := rfl
theorem ofs_first : Str.ofString "first" = nm_first := rfl
theorem ofs_func : Str.ofString "func" = nm_func := rfl
theorem ofs_get : Str.ofString "get" = nm_get := rfl
theorem ofs_here : Str.ofString "here" = nm_here := rfl
theorem ofs_hi : Str.ofString "hi" = nm_hi := rfl
theorem ofs_i : Str.ofString "i" = nm_i := rfl
theorem ofs_insert : Str.ofString "insert" = nm_insert := rfl
theorem ofs_insort_left : Str.ofString "insort_left" = nm_insort_left := rfl
theorem ofs_isinstance : Str.ofString "isinstance" = nm_isinstance := rfl
theorem ofs_items : Str.ofString "items" = nm_items := rfl
theorem ofs_j : Str.ofString "j" = nm_j := rfl
theorem ofs_key : Str.ofString "key" = nm_key := rfl
theorem ofs_law : Str.ofString "law" = nm_law := rfl
theorem ofs_len : Str.ofString "len" = nm_len := rfl
theorem ofs_lo : Str.ofString "lo" = nm_lo := rfl
theorem ofs_max : Str.ofString "max" = nm_max := rfl
theorem ofs_mid : Str.ofString "mid" = nm_mid := rfl
theorem ofs_min : Str.ofString "min" = nm_min := rfl
theorem ofs_more : Str.ofString "more" = nm_more := rfl
theorem ofs_nc : Str.ofString "nc" = nm_nc := rfl
theorem ofs_new_callers : Str.ofString "new_callers" = nm_new_callers := rfl
theorem ofs_number : Str.ofString "number" = nm_number := rfl
theorem ofs_odd : Str.ofString "odd" = nm_odd := rfl
theorem ofs_often : Str.ofString "often" = nm_often := rfl
theorem ofs_one : Str.ofString "one" = nm_one := rfl
theorem ofs_other : Str.ofString "other" = nm_other := rfl
theorem ofs_pairs : Str.ofString "pairs" = nm_pairs := rfl
theorem ofs_piece : Str.ofString "piece" = nm_piece := rfl
theorem ofs_place : Str.ofString "place" = nm_place := rfl
theorem ofs_range : Str.ofString "range" = nm_range := rfl
theorem ofs_script : Str.ofString "script" = nm_script := rfl
theorem ofs_sorted : Str.ofString "sorted" = nm_sorted := rfl
theorem ofs_source : Str.ofString "source" = nm_source := rfl
theorem ofs_steps : Str.ofString "steps" = nm_steps := rfl
theorem ofs_sum : Str.ofString "sum" = nm_sum := rfl
theorem ofs_table : Str.ofString "table" = nm_table := rfl
theorem ofs_target : Str.ofString "target" = nm_target := rfl
theorem ofs_there : Str.ofString "there" = nm_there := rfl
theorem ofs_tie : Str.ofString "tie" = nm_tie := rfl
theorem ofs_ties : Str.ofString "ties" = nm_ties := rfl
theorem ofs_tuple : Str.ofString "tuple" = nm_tuple := rfl
theorem ofs_turn : Str.ofString "turn" = nm_turn := rfl
theorem ofs_values : Str.ofString "values" = nm_values := rfl
theorem ofs_waiting : Str.ofString "waiting" = nm_waiting := rfl
theorem ofs_ways : Str.ofString "ways" = nm_ways := rfl
theorem ofs_word : Str.ofString "word" = nm_word := rfl
theorem ofs_x : Str.ofString "x" = nm_x := rfl
theorem ofs_zip : Str.ofString "zip" = nm_zip := rfl
noncomputable abbrev topB : List Stmt := PySem.Challenge.pw_gj0003_01.main.body
noncomputable def kn_1 : List (Str × NameKind) := [(nm_a, .local), (nm_x, .local), (nm_lo, .local), (nm_hi, .local), (nm_key, .local), (nm_bisect_left, .globalImplicit)]
theorem kn_1_eq : (scopeAt topB 1).names = kn_1 := by decide +kernel
noncomputable def kf_1 : Kap := fun x => kn_1.lookup x
noncomputable def sf_1 : Str → Bool := fun x => kn_1.lookup x == some .local || kn_1.lookup x == some .cell
theorem kf_1_eq : kapF (scopeAt topB 1) = kf_1 := by funext x; unfold kapF kf_1; rw [kn_1_eq]
theorem sf_1_eq : stoF (scopeAt topB 1) = sf_1 := by funext x; unfold stoF sf_1; rw [kn_1_eq]
noncomputable def kn_2 : List (Str × NameKind) := [(nm_a, .local), (nm_x, .local), (nm_lo, .local), (nm_hi, .local), (nm_key, .local), (nm_mid, .local), (nm_ValueError, .globalImplicit), (nm_len, .globalImplicit)]
theorem kn_2_eq : (scopeAt topB 2).names = kn_2 := by decide +kernel
noncomputable def kf_2 : Kap := fun x => kn_2.lookup x
noncomputable def sf_2 : Str → Bool := fun x => kn_2.lookup x == some .local || kn_2.lookup x == some .cell
theorem kf_2_eq : kapF (scopeAt topB 2) = kf_2 := by funext x; unfold kapF kf_2; rw [kn_2_eq]
theorem sf_2_eq : stoF (scopeAt topB 2) = sf_2 := by funext x; unfold stoF sf_2; rw [kn_2_eq]
noncomputable def kn_4 : List (Str × NameKind) := [(nm_target, .local), (nm_source, .local), (nm_new_callers, .local), (nm_func, .local), (nm_caller, .local), (nm_isinstance, .globalImplicit), (nm_tuple, .globalImplicit), (nm_zip, .globalImplicit)]
theorem kn_4_eq : (scopeAt topB 4).names = kn_4 := by decide +kernel
noncomputable def kf_4 : Kap := fun x => kn_4.lookup x
noncomputable def sf_4 : Str → Bool := fun x => kn_4.lookup x == some .local || kn_4.lookup x == some .cell
theorem kf_4_eq : kapF (scopeAt topB 4) = kf_4 := by funext x; unfold kapF kf_4; rw [kn_4_eq]
theorem sf_4_eq : stoF (scopeAt topB 4) = sf_4 := by funext x; unfold stoF sf_4; rw [kn_4_eq]
noncomputable def kn_5 : List (Str × NameKind) := [(nm_callers, .local), (nm_nc, .local), (nm_calls, .local)]
theorem kn_5_eq : (scopeAt topB 5).names = kn_5 := by decide +kernel
noncomputable def kf_5 : Kap := fun x => kn_5.lookup x
noncomputable def sf_5 : Str → Bool := fun x => kn_5.lookup x == some .local || kn_5.lookup x == some .cell
theorem kf_5_eq : kapF (scopeAt topB 5) = kf_5 := by funext x; unfold kapF kf_5; rw [kn_5_eq]
theorem sf_5_eq : stoF (scopeAt topB 5) = sf_5 := by funext x; unfold stoF sf_5; rw [kn_5_eq]
noncomputable def kn_7 : List (Str × NameKind) := [(nm_ties, .cell), (nm_place, .cell), (nm_range, .globalImplicit)]
theorem kn_7_eq : (scopeAt topB 7).names = kn_7 := by decide +kernel
noncomputable def kf_7 : Kap := fun x => kn_7.lookup x
noncomputable def sf_7 : Str → Bool := fun x => kn_7.lookup x == some .local || kn_7.lookup x == some .cell
theorem kf_7_eq : kapF (scopeAt topB 7) = kf_7 := by funext x; unfold kapF kf_7; rw [kn_7_eq]
theorem sf_7_eq : stoF (scopeAt topB 7) = sf_7 := by funext x; unfold stoF sf_7; rw [kn_7_eq]
noncomputable def kn_8 : List (Str × NameKind) := [(nm_ties, .local), (nm_piece, .local), (nm_far, .local), (nm_first, .local), (nm_waiting, .local), (nm_here, .local), (nm_there, .local), (nm_range, .globalImplicit), (nm_Llaw_near, .globalImplicit)]
theorem kn_8_eq : (scopeAt topB 8).names = kn_8 := by decide +kernel
noncomputable def kf_8 : Kap := fun x => kn_8.lookup x
noncomputable def sf_8 : Str → Bool := fun x => kn_8.lookup x == some .local || kn_8.lookup x == some .cell
theorem kf_8_eq : kapF (scopeAt topB 8) = kf_8 := by funext x; unfold kapF kf_8; rw [kn_8_eq]
theorem sf_8_eq : stoF (scopeAt topB 8) = sf_8 := by funext x; unfold stoF sf_8; rw [kn_8_eq]
noncomputable def kn_9 : List (Str × NameKind) := [(nm_ties, .local), (nm_place, .local), (nm_steps, .local), (nm_table, .local), (nm_turn, .local), (nm_after, .local), (nm_word, .local), (nm_often, .local), (nm_there, .local), (nm_range, .globalImplicit), (nm_Llaw_near, .globalImplicit), (nm_add_callers, .globalImplicit)]
theorem kn_9_eq : (scopeAt topB 9).names = kn_9 := by decide +kernel
noncomputable def kf_9 : Kap := fun x => kn_9.lookup x
noncomputable def sf_9 : Str → Bool := fun x => kn_9.lookup x == some .local || kn_9.lookup x == some .cell
theorem kf_9_eq : kapF (scopeAt topB 9) = kf_9 := by funext x; unfold kapF kf_9; rw [kn_9_eq]
theorem sf_9_eq : stoF (scopeAt topB 9) = sf_9 := by funext x; unfold stoF sf_9; rw [kn_9_eq]
noncomputable def kn_10 : List (Str × NameKind) := [(nm_script, .local), (nm_b, .local), (nm_a, .local), (nm_pairs, .local), (nm_ties, .cell), (nm_number, .local), (nm_piece, .cell), (nm_far, .cell), (nm_bad, .local), (nm_odd, .local), (nm_ways, .local), (nm_more, .cell), (nm_range, .globalImplicit), (nm_insort_left, .globalImplicit), (nm_sorted, .globalImplicit), (nm_Llaw_sides, .globalImplicit), (nm_count_calls, .globalImplicit), (nm_Llaw_walks, .globalImplicit), (nm_sum, .globalImplicit), (nm_Llaw_near, .globalImplicit), (nm_len, .globalImplicit)]
theorem kn_10_eq : (scopeAt topB 10).names = kn_10 := by decide +kernel
noncomputable def kf_10 : Kap := fun x => kn_10.lookup x
noncomputable def sf_10 : Str → Bool := fun x => kn_10.lookup x == some .local || kn_10.lookup x == some .cell
theorem kf_10_eq : kapF (scopeAt topB 10) = kf_10 := by funext x; unfold kapF kf_10; rw [kn_10_eq]
theorem sf_10_eq : stoF (scopeAt topB 10) = sf_10 := by funext x; unfold stoF sf_10; rw [kn_10_eq]
end Mine
end
section
open PySem PySem.W PyProof.Rows PySem.Spec PySem.SeqAt
set_option maxRecDepth 100000
namespace Mine
theorem N1_len (k : Know) (r : Sem5) (κ : Kap) (e : Expr) : callN k r κ nm_len e [] = dBfn κ nm_len [e] (lstE r κ [e]) := rfl
theorem N1_sum (k : Know) (r : Sem5) (κ : Kap) (e : Expr) : callN k r κ nm_sum e [] = dBfn κ nm_sum [e] (lstE r κ [e]) := rfl
theorem N1_sorted (k : Know) (r : Sem5) (κ : Kap) (e : Expr) : callN k r κ nm_sorted e [] = dBfn κ nm_sorted [e] (lstE r κ [e]) := rfl
theorem N1_max (k : Know) (r : Sem5) (κ : Kap) (e : Expr) : callN k r κ nm_max e [] = dBfn κ nm_max [e] (lstE r κ [e]) := rfl
theorem N1_min (k : Know) (r : Sem5) (κ : Kap) (e : Expr) : callN k r κ nm_min e [] = dBfn κ nm_min [e] (lstE r κ [e]) := rfl
theorem N2_max (k : Know) (r : Sem5) (κ : Kap) (e e2 : Expr) : callN k r κ nm_max e [e2] = dBfn κ nm_max [e, e2] (lstE r κ [e, e2]) := rfl
theorem N2_min (k : Know) (r : Sem5) (κ : Kap) (e e2 : Expr) : callN k r κ nm_min e [e2] = dBfn κ nm_min [e, e2] (lstE r κ [e, e2]) := rfl
theorem N2_isi (k : Know) (r : Sem5) (κ : Kap) (e e2 : Expr) : callN k r κ nm_isinstance e [e2] = (bIsi k r κ e e2).1 := rfl
theorem I_range (k : Know) (r : Sem5) (κ : Kap) (fc lo : Bool) (t : Expr) (p pos : Pos) (e : Expr) : stepI k r κ fc lo t (.Call (.Name nm_range p) [e] [] pos) = dItRange κ e (r.E κ e) := rfl
theorem I_items0 (k : Know) (r : Sem5) (κ : Kap) (t o : Expr) (apos pos : Pos) : stepI k r κ false false t (.Call (.Attribute o nm_items apos) [] [] pos) = (bItems k r κ apos pos o t).1 := rfl
theorem I_values (k : Know) (r : Sem5) (κ : Kap) (t o : Expr) (apos pos : Pos) : stepI k r κ false false t (.Call (.Attribute o nm_values apos) [] [] pos) = dItVals o apos pos (r.E κ o) := rfl
theorem S_appendN (k : Know) (r : Sem5) (κ : Kap) (sto : Str → Bool) (x : Str) (p apos pos spos : Pos) (e : Expr) : stepS0 k r κ sto (.Expr (.Call (.Attribute (.Name x p) nm_append apos) [e] [] pos) spos) = dAppend κ x e apos pos (r.E κ e) := rfl
theorem S_insertN (k : Know) (r : Sem5) (κ : Kap) (sto : Str → Bool) (x : Str) (p apos pos spos : Pos) (i e : Expr) : stepS0 k r κ sto (.Expr (.Call (.Attribute (.Name x p) nm_insert apos) [i, e] [] pos) spos) = dInsert κ x i e apos pos (r.E κ i) (r.E κ e) := rfl
noncomputable def k0 (mu : Str → Bool) (T : Str → Option (List D → Option D)) (M : Str → Option (D → List D → Option D)) : Know := ⟨T, M, mu, fun _ => none, 40⟩
theorem k0_T (mu : Str → Bool) (T : Str → Option (List D → Option D)) (M : Str → Option (D → List D → Option D))  : (k0 mu T M).T = T := rfl
theorem k0_M (mu : Str → Bool) (T : Str → Option (List D → Option D)) (M : Str → Option (D → List D → Option D))  : (k0 mu T M).M = M := rfl
theorem k0_mu (mu : Str → Bool) (T : Str → Option (List D → Option D)) (M : Str → Option (D → List D → Option D))  : (k0 mu T M).mu = mu := rfl
theorem k0_K (mu : Str → Bool) (T : Str → Option (List D → Option D)) (M : Str → Option (D → List D → Option D))  : (k0 mu T M).K = 40 := rfl
theorem S_k0 (mu : Str → Bool) (T : Str → Option (List D → Option D)) (M : Str → Option (D → List D → Option D)) (r : Sem5) (κ : Kap) (sto : Str → Bool) (st : Stmt) : stepS (k0 mu T M) r κ sto st = stepS0 (k0 mu T M) r κ sto st := rfl
end Mine
end
section
open PySem PySem.W PyProof.Rows PySem.Spec PySem.SeqAt
set_option maxRecDepth 100000
set_option linter.all false
namespace Mine
noncomputable def kB : Know := k0 (fun _ => false) (fun _ => none) (fun _ => none)
noncomputable def fuel : Nat := 30

abbrev CntI (vs : List Int) : List D → Rho → Prop := fun ds ρ => ∃ (c : Int) (us : List Int), ρ nm_nc = some (.frz (.int c)) ∧ ds = us.map .int ∧ c + us.sum = vs.sum
theorem count_ok (d : D) (vs : List Int) (hv : valsD d = some (vs.map .int)) : fnD ((den kB 30).Ss kf_5 sf_5 (bodyAt topB 5)) [nm_callers] [] 1 [d] = some (.int vs.sum) := by
  refine fn_run rfl ?_
  have h : bodyAt topB 5 = bodyAt topB 5 := rfl
  conv at h => rhs; whnf
  rw [h]
  clear h
  dsimp only [ofs_ValueError, ofs_UUclassdictUU, ofs_UUdebugUU, ofs_UUnameUU, ofs_Llaw_near, ofs_Llaw_sides, ofs_Llaw_walks, ofs_a, ofs_add_callers, ofs_after, ofs_append, ofs_b, ofs_bad, ofs_bisect_left, ofs_caller, ofs_callers, ofs_calls, ofs_count_calls, ofs_far, ofs_first, ofs_func, ofs_get, ofs_here, ofs_hi, ofs_i, ofs_insert, ofs_insort_left, ofs_isinstance, ofs_items, ofs_j, ofs_key, ofs_law, ofs_len, ofs_lo, ofs_max, ofs_mid, ofs_min, ofs_more, ofs_nc, ofs_new_callers, ofs_number, ofs_odd, ofs_often, ofs_one, ofs_other, ofs_pairs, ofs_piece, ofs_place, ofs_range, ofs_script, ofs_sorted, ofs_source, ofs_steps, ofs_sum, ofs_table, ofs_target, ofs_there, ofs_tie, ofs_ties, ofs_tuple, ofs_turn, ofs_values, ofs_waiting, ofs_ways, ofs_word, ofs_x, ofs_zip, den_Ss, den_S, den_E, den_I, den_B, E_int, E_str, E_bool, E_none, E_name, E_bin, E_cmp, E_andV, E_ifexp, E_tup, E_lst, E_upto, E_sub_name, E_sub_con, E_sub_bin, E_sub_sub, E_sub_call, E_dict0, E_dict1, E_comp, E_call, E_meth, N_isi, B_and0, B_and, B_or0, B_or, B_cmp, B_call, I_call2, I_name, I_lst, I_tup, I_sub, I_bin, I_items, S_assignC, S_assign_name, S_assign_con, S_assign_bin, S_assign_call, S_assign_sub, S_assign_cmp, S_assign_ifx, S_assign_lst, S_assign_tup, S_assign_dict, S_assign_boo, S_tup, S_unpack_call, S_setSub, S_augSub, S_augName, S_if, S_while, S_for_name, S_for_call, S_for_lst, S_for_tup, S_for_sub, S_ret, S_retNone, S_mut, Ss_nil, Ss_cons, L_nil, L_cons, dTests_nil, dTests_cons, N1_len, N1_sum, N1_sorted, N1_max, N1_min, N2_max, N2_min, N2_isi, I_range, I_items0, I_values, S_appendN, S_insertN, k0_T, k0_M, k0_mu, k0_K, S_k0, callE, bMut, kB]
  simp only [List.map_cons, List.map_nil, List.cons_append, List.nil_append, rho0_cons]
  refine run_seq (run_assign (.frozen, .int 0) _ rfl rfl rfl ?_)
  refine run_seq (run_for (vs.map .int) ?_ (CntI vs) ⟨0, vs, rfl, rfl, by exact om_66⟩ ?_ ?_)
  · exact q_vals (by decide +kernel) (nmF (d := d) rfl _ (by decide +kernel)) hv frz_nl
  · rintro d ds ρ ⟨c, us, h1, h2, h3⟩
    cases us with
    | nil => cases h2
    | cons u us =>
      cases h2
      exact ⟨_, rfl, run_seq (run_eq .next (upd (upd ρ nm_calls (.frz (.int u))) nm_nc (.frz (.int (c + u)))) (q_aug (by decide +kernel) h1 (nmF rfl _ (by decide +kernel))) (run_nil ⟨c + u, us, rfl, rfl, by rw [← h3, List.sum_cons, Int.add_assoc]⟩))⟩
  · rintro ρ ⟨c, us, h1, h2, h3⟩
    cases us with
    | cons u us => cases h2
    | nil =>
      refine run_seq (run_ret (.frozen, .int c) (nmF (lay_frz h1) _ (by decide +kernel)) frz_nl ?_)
      rw [← h3, List.sum_nil, Int.add_zero]

abbrev BisI (ds : List D) (x : D) (k : Nat) : Nat → Rho → Prop := fun m ρ => ∃ l h : Nat, ρ nm_a = some (.frz (.lst ds)) ∧ ρ nm_x = some (.frz x) ∧ ρ nm_lo = some (.frz (.int (l : Int))) ∧ ρ nm_hi = some (.frz (.int (h : Int))) ∧ l ≤ k ∧ k ≤ h ∧ h ≤ ds.length ∧ m = h - l
theorem bis_run (ds : List D) (x : D) (k : Nat) (hk : k ≤ ds.length) (hl : ds.length < 40) (hc : ∀ (i : Nat) d, ds[i]? = some d → cmpD .Lt d x = some (decide (i < k))) :
    Run ((den kB 30).Ss kf_2 sf_2 (bodyAt topB 2)) (rho0 [nm_a, nm_x, nm_lo, nm_hi, nm_key] [.frz (.lst ds), .frz x, .frz (.int 0), .frz .none, .frz .none]) (RetQ (.int k)) := by
  have h : bodyAt topB 2 = bodyAt topB 2 := rfl
  conv at h => rhs; whnf
  rw [h]
  clear h
  dsimp only [ofs_ValueError, ofs_UUclassdictUU, ofs_UUdebugUU, ofs_UUnameUU, ofs_Llaw_near, ofs_Llaw_sides, ofs_Llaw_walks, ofs_a, ofs_add_callers, ofs_after, ofs_append, ofs_b, ofs_bad, ofs_bisect_left, ofs_caller, ofs_callers, ofs_calls, ofs_count_calls, ofs_far, ofs_first, ofs_func, ofs_get, ofs_here, ofs_hi, ofs_i, ofs_insert, ofs_insort_left, ofs_isinstance, ofs_items, ofs_j, ofs_key, ofs_law, ofs_len, ofs_lo, ofs_max, ofs_mid, ofs_min, ofs_more, ofs_nc, ofs_new_callers, ofs_number, ofs_odd, ofs_often, ofs_one, ofs_other, ofs_pairs, ofs_piece, ofs_place, ofs_range, ofs_script, ofs_sorted, ofs_source, ofs_steps, ofs_sum, ofs_table, ofs_target, ofs_there, ofs_tie, ofs_ties, ofs_tuple, ofs_turn, ofs_values, ofs_waiting, ofs_ways, ofs_word, ofs_x, ofs_zip, den_Ss, den_S, den_E, den_I, den_B, E_int, E_str, E_bool, E_none, E_name, E_bin, E_cmp, E_andV, E_ifexp, E_tup, E_lst, E_upto, E_sub_name, E_sub_con, E_sub_bin, E_sub_sub, E_sub_call, E_dict0, E_dict1, E_comp, E_call, E_meth, N_isi, B_and0, B_and, B_or0, B_or, B_cmp, B_call, I_call2, I_name, I_lst, I_tup, I_sub, I_bin, I_items, S_assignC, S_assign_name, S_assign_con, S_assign_bin, S_assign_call, S_assign_sub, S_assign_cmp, S_assign_ifx, S_assign_lst, S_assign_tup, S_assign_dict, S_assign_boo, S_tup, S_unpack_call, S_setSub, S_augSub, S_augName, S_if, S_while, S_for_name, S_for_call, S_for_lst, S_for_tup, S_for_sub, S_ret, S_retNone, S_mut, Ss_nil, Ss_cons, L_nil, L_cons, dTests_nil, dTests_cons, N1_len, N1_sum, N1_sorted, N1_max, N1_min, N2_max, N2_min, N2_isi, I_range, I_items0, I_values, S_appendN, S_insertN, k0_T, k0_M, k0_mu, k0_K, S_k0, callE, bMut, kB]
  simp only [List.map_cons, List.map_nil, List.cons_append, List.nil_append, rho0_cons]
  have i0 : ∀ (y : D), cmpD .Is y .none = some y.isNone := cmpD_is
  have l0 : cmpD .Lt (.int 0) (.int 0) = some false := rfl
  refine run_seq (run_if false (q_cmp rfl (nmF (d := .int 0) rfl _ (by decide +kernel)) rfl l0) (run_nil ?_))
  refine run_seq (run_if true (q_cmp rfl (nmF (d := .none) rfl _ (by decide +kernel)) rfl (i0 .none)) (run_seq (run_assign (.frozen, .int ds.length) _ (q_bfn (by decide +kernel) (q_cons rfl (nmF (d := .lst ds) rfl _ (by decide +kernel)) q_nil) rfl) rfl rfl (run_nil ?_))))
  refine run_seq (run_if true (q_cmp rfl (nmF (d := .none) rfl _ (by decide +kernel)) rfl (i0 .none)) ?_)
  refine run_seq (run_while (BisI ds x k) ⟨ds.length, hl, 0, ds.length, rfl, rfl, rfl, rfl, by exact om_67, hk, by exact om_68, by exact om_69⟩ ?_)
  rintro m ρ ⟨l, hh, h1, h2, h3, h4, h5, h6, h7, rfl⟩
  refine ⟨decide (l < hh), q_cmp rfl (nmF h3 _ (by decide +kernel)) (nmF h4 _ (by decide +kernel)) ((cmpD_lt _ _).trans (congrArg some (decide_eq_decide.mpr Int.ofNat_lt))), ?_⟩
  by_cases hlt : l < hh
  · simp only [hlt, decide_true, if_true]
    have hmid : ((l : Int) + (hh : Int)).fdiv 2 = (((l + hh) / 2 : Nat) : Int) := by
      rw [Int.fdiv_eq_ediv_of_nonneg _ (by exact om_70)]; exact om_71
    have hdv : binD .FloorDiv (.int ((l : Int) + hh)) (.int 2) = some (.frozen, .int (((l + hh) / 2 : Nat) : Int)) := by rw [← hmid]; rfl
    refine run_seq (run_assign (.frozen, .int (((l + hh) / 2 : Nat) : Int)) _ (q_bin (q_bin (nmF h3 _ (by decide +kernel)) (nmF h4 _ (by decide +kernel)) (binD_add _ _)) rfl hdv) rfl rfl ?_)
    generalize hmd : (l + hh) / 2 = md
    have hm : md < ds.length := by exact om_72 h7 hlt hmd
    have hget : ds[md]? = some ds[md] := List.getElem?_eq_getElem hm
    have hcm := hc _ _ hget
    refine run_seq (run_if (decide (md < k)) ?_ ?_)
    · have e1 : itemD (.lst ds) (.int (md : Int)) = some ds[md] := by
        simp only [itemD_lst, itemD_tup, itemD_idict, itemD_tdict]
        rw [if_pos (by exact om_73 hl hm)]; simp [hget]
      exact q_cmp rfl (q_sub (nmF h1 _ (by decide +kernel)) (nmF rfl _ (by decide +kernel)) rfl e1) (nmF h2 _ (by decide +kernel)) hcm
    · by_cases hmk : md < k
      · simp only [hmk, decide_true, if_true]
        refine run_seq (run_assign (.frozen, .int (((md + 1 : Nat)) : Int)) _ (q_bin (nmF (d := .int (md : Int)) rfl _ (by decide +kernel)) rfl rfl) rfl rfl (run_nil (run_nil ⟨hh - (md + 1), by exact om_74 hlt hmd, md + 1, hh, h1, h2, rfl, h4, ?_⟩)))
        exact om_75 h6 h7 hmk
      · simp only [hmk, decide_false, Bool.false_eq_true, if_false]
        refine run_seq (run_assign (.frozen, .int (md : Int)) _ (nmF rfl _ (by decide +kernel)) rfl rfl (run_nil (run_nil ⟨md - l, by exact om_76 hlt hmd, l, md, h1, h2, h3, rfl, ?_⟩)))
        exact om_77 h5 hm hmk
  · simp only [hlt, decide_false, Bool.false_eq_true, if_false]
    have : l = k := by exact om_78 h5 h6 hlt
    subst this
    exact run_nil (run_seq (run_ret (.frozen, .int (l : Int)) (nmF (lay_frz h3) _ (by decide +kernel)) frz_nl rfl))
end Mine
end
section
open PySem PySem.W PyProof.Rows PySem.Spec PySem.SeqAt
set_option maxRecDepth 100000
set_option linter.all false
namespace Mine
noncomputable abbrev psBis : List Str := [nm_a, nm_x, nm_lo, nm_hi, nm_key]
noncomputable def bdBis : DenS := (den kB 30).Ss kf_2 sf_2 (bodyAt topB 2)
noncomputable def fBis (ds : List D) : Option D := if ds.length = 2 then fnD bdBis psBis [.int 0, .none, .none] 2 ds else fnD bdBis psBis [.none] 4 ds
theorem bis_two (ds : List D) (x : D) (k : Nat) (hk : k ≤ ds.length) (hl : ds.length < 40) (hc : ∀ (i : Nat) d, ds[i]? = some d → cmpD .Lt d x = some (decide (i < k))) : fBis [.lst ds, x] = some (.int k) := by
  exact (if_pos rfl).trans <| fn_run rfl (bis_run ds x k hk hl hc)
theorem bis_four (ds : List D) (x : D) (k : Nat) (hk : k ≤ ds.length) (hl : ds.length < 40) (hc : ∀ (i : Nat) d, ds[i]? = some d → cmpD .Lt d x = some (decide (i < k))) : fBis [.lst ds, x, .int 0, .none] = some (.int k) := by
  exact (if_neg (by simp)).trans <| fn_run rfl (bis_run ds x k hk hl hc)

noncomputable def tIns (f : Str) : Option (List D → Option D) := if f = nm_bisect_left then some fBis else none
theorem T_tIns_len : tIns nm_len = none := rfl
theorem T_tIns_sum : tIns nm_sum = none := rfl
theorem T_tIns_sorted : tIns nm_sorted = none := rfl
theorem T_tIns_max : tIns nm_max = none := rfl
theorem T_tIns_min : tIns nm_min = none := rfl
theorem T_tIns_range : tIns nm_range = none := rfl
theorem T_tIns_isinstance : tIns nm_isinstance = none := rfl
theorem T_tIns_bisect_left : tIns nm_bisect_left = some fBis := rfl
noncomputable def kIns : Know := k0 (fun _ => false) tIns (fun _ => none)
noncomputable def bdIns : DenS := (den kIns 30).Ss kf_1 (stoBut sf_1 nm_a) (bodyAt topB 1)
noncomputable def fIns : D → List D → Option D := fnMut bdIns nm_a [nm_x, nm_lo, nm_hi, nm_key] [.int 0, .none, .none] 1
theorem ins_ok (ds : List D) (x : D) (k : Nat) (hk : k ≤ ds.length) (hl : ds.length < 40) (hc : ∀ (i : Nat) d, ds[i]? = some d → cmpD .Lt d x = some (decide (i < k))) :
    fIns (.lst ds) [x] = some (.lst (ds.take k ++ x :: ds.drop k)) := by
  refine mut_run rfl ?_
  show Run bdIns (rho0 [nm_a, nm_x, nm_lo, nm_hi, nm_key] [.own (.lst ds), .frz x, .frz (.int 0), .frz .none, .frz .none]) (fun fl ρ => fl = .next ∧ ρ nm_a = some (.own (.lst (ds.take k ++ x :: ds.drop k))))
  unfold bdIns
  have h : bodyAt topB 1 = bodyAt topB 1 := rfl
  conv at h => rhs; whnf
  rw [h]
  clear h
  dsimp only [ofs_ValueError, ofs_UUclassdictUU, ofs_UUdebugUU, ofs_UUnameUU, ofs_Llaw_near, ofs_Llaw_sides, ofs_Llaw_walks, ofs_a, ofs_add_callers, ofs_after, ofs_append, ofs_b, ofs_bad, ofs_bisect_left, ofs_caller, ofs_callers, ofs_calls, ofs_count_calls, ofs_far, ofs_first, ofs_func, ofs_get, ofs_here, ofs_hi, ofs_i, ofs_insert, ofs_insort_left, ofs_isinstance, ofs_items, ofs_j, ofs_key, ofs_law, ofs_len, ofs_lo, ofs_max, ofs_mid, ofs_min, ofs_more, ofs_nc, ofs_new_callers, ofs_number, ofs_odd, ofs_often, ofs_one, ofs_other, ofs_pairs, ofs_piece, ofs_place, ofs_range, ofs_script, ofs_sorted, ofs_source, ofs_steps, ofs_sum, ofs_table, ofs_target, ofs_there, ofs_tie, ofs_ties, ofs_tuple, ofs_turn, ofs_values, ofs_waiting, ofs_ways, ofs_word, ofs_x, ofs_zip, den_Ss, den_S, den_E, den_I, den_B, E_int, E_str, E_bool, E_none, E_name, E_bin, E_cmp, E_andV, E_ifexp, E_tup, E_lst, E_upto, E_sub_name, E_sub_con, E_sub_bin, E_sub_sub, E_sub_call, E_dict0, E_dict1, E_comp, E_call, E_meth, N_isi, B_and0, B_and, B_or0, B_or, B_cmp, B_call, I_call2, I_name, I_lst, I_tup, I_sub, I_bin, I_items, S_assignC, S_assign_name, S_assign_con, S_assign_bin, S_assign_call, S_assign_sub, S_assign_cmp, S_assign_ifx, S_assign_lst, S_assign_tup, S_assign_dict, S_assign_boo, S_tup, S_unpack_call, S_setSub, S_augSub, S_augName, S_if, S_while, S_for_name, S_for_call, S_for_lst, S_for_tup, S_for_sub, S_ret, S_retNone, S_mut, Ss_nil, Ss_cons, L_nil, L_cons, dTests_nil, dTests_cons, N1_len, N1_sum, N1_sorted, N1_max, N1_min, N2_max, N2_min, N2_isi, I_range, I_items0, I_values, S_appendN, S_insertN, k0_T, k0_M, k0_mu, k0_K, S_k0, callE, bMut, T_tIns_len, T_tIns_sum, T_tIns_sorted, T_tIns_max, T_tIns_min, T_tIns_range, T_tIns_isinstance, T_tIns_bisect_left, kIns]
  simp only [List.map_cons, List.map_nil, List.cons_append, List.nil_append, rho0_cons]
  have hb := bis_four ds x k hk hl hc
  refine run_seq (run_if true ?_ (run_seq (run_assign (.frozen, .int k) _ ?_ rfl rfl (run_nil ?_))))
  · exact q_cmp rfl (nmF (d := .none) rfl _ (by decide +kernel)) rfl (cmpD_is .none)
  · refine q_call (xs := [(.loose, .lst ds), (.frozen, x), (.frozen, .int 0), (.frozen, .none)]) (by decide +kernel) (q_cons rfl (nmO rfl _ (by decide +kernel)) (q_cons rfl (nmF rfl _ (by decide +kernel)) (q_cons rfl (nmF rfl _ (by decide +kernel)) (q_cons rfl (nmF rfl _ (by decide +kernel)) q_nil)))) hb rfl
  refine run_seq (run_eq .next (upd (upd (upd (upd (upd (upd (upd (rho0 [] []) nm_key (.frz .none)) nm_hi (.frz .none)) nm_lo (.frz (.int 0))) nm_x (.frz x)) nm_a (.own (.lst ds))) nm_lo (.frz (.int k))) nm_a (.own (.lst (ds.take k ++ x :: ds.drop k)))) ?_ (run_nil ⟨rfl, rfl⟩))
  have hi : insD (.lst ds) (k : Int) x = some (.lst (ds.take k ++ x :: ds.drop k)) := by
    exact (if_pos ⟨by exact om_79, by exact om_80 hk hl, by have : cap = 200 := rfl; exact om_81 hl this⟩).trans (by rw [Int.toNat_natCast])
  exact q_insert (by decide +kernel) (nmF (d := .int (k : Int)) rfl _ (by decide +kernel)) (nmF (d := x) rfl _ (by decide +kernel)) frz_nl rfl hi

/-! ## add_callers -/
abbrev Row := List (List Scal × Int)
noncomputable def rowD (l : Row) : D := if l = [] then .idict [] [] else .tdict (l.map (·.1)) (l.map fun p => .int p.2)
noncomputable def bump (l : Row) (k : List Scal) (v : Int) : Row := if k ∈ l.map (·.1) then l.map (fun p => if p.1 = k then (p.1, p.2 + v) else p) else l ++ [(k, v)]
theorem scalsOf_d : ∀ ks : List Scal, scalsOf (ks.map Scal.d) = some ks
  | [] => rfl
  | k :: ks => by
    have h : scalOf k.d = some k := by cases k <;> rfl
    show Option.bind (scalOf k.d) _ = _
    rw [h]
    exact congrArg (Option.map fun ks => k :: ks) (scalsOf_d ks)
theorem keyOf_keyD (k : List Scal) : keyOf (keyD k) = some k := scalsOf_d k
theorem rowD_vals (l : Row) : valsD (rowD l) = some (l.map fun p => .int p.2) := by
  unfold rowD; split
  · rename_i h; subst h; rfl
  · rfl
theorem rowD_keys (l : Row) : keysD (rowD l) = l.map fun p => keyD p.1 := by
  unfold rowD; split
  · rename_i h; subst h; rfl
  · simp [keysD]
theorem rowD_put (l : Row) (k : List Scal) (v : Int) (hk : k ∉ l.map (·.1)) (hl : l.length + 1 ≤ cap) : putD (fitD (rowD l) (keyD k)) (keyD k) (.int v) = some (rowD (l ++ [(k, v)])) := by
  have hne : l ++ [(k, v)] ≠ [] := by simp
  cases l with
  | nil =>
    simp only [rowD, if_true, fitD_nil, fitD_int, fitD_lst, fitD_tdict, keyD, putD_lst, putD_idict, putD_tdict]
    rw [show keyOf (.tup (k.map Scal.d)) = some k from keyOf_keyD k]
    simp [putK, cap]
  | cons p l =>
    have h1 : rowD (p :: l) = .tdict ((p :: l).map (·.1)) ((p :: l).map fun p => .int p.2) := by unfold rowD; rw [if_neg (by simp)]
    rw [h1]
    have h2 : rowD (p :: l ++ [(k, v)]) = .tdict ((p :: l ++ [(k, v)]).map (·.1)) ((p :: l ++ [(k, v)]).map fun p => .int p.2) := by unfold rowD; rw [if_neg hne]
    rw [h2]
    simp only [fitD_nil, fitD_int, fitD_lst, fitD_tdict, putD_lst, putD_idict, putD_tdict, keyOf_keyD, opt_bind_some]
    have h3 : putK ((p :: l).map (·.1)) ((p :: l).map fun p => D.int p.2) k (.int v) = ((p :: l).map (·.1) ++ [k], ((p :: l).map fun p => D.int p.2) ++ [.int v]) := by unfold putK; rw [if_neg hk]
    rw [h3]
    simp only [List.length_append, List.length_map, List.length_singleton]
    rw [if_pos hl]
    simp
theorem rowD_in (l : Row) (k : List Scal) : inD (fitD (rowD l) (keyD k)) (keyD k) = some (decide (k ∈ l.map (·.1))) := by
  cases l with
  | nil =>
    simp only [rowD, if_true, fitD_nil, fitD_int, fitD_lst, fitD_tdict, keyD, inD_lst, inD_idict, inD_tdict]
    rw [show keyOf (.tup (k.map Scal.d)) = some k from keyOf_keyD k]
    simp
  | cons p l =>
    have h1 : rowD (p :: l) = .tdict ((p :: l).map (·.1)) ((p :: l).map fun p => .int p.2) := by unfold rowD; rw [if_neg (by simp)]
    rw [h1]
    simp only [fitD_nil, fitD_int, fitD_lst, fitD_tdict, inD_lst, inD_idict, inD_tdict, keyOf_keyD, opt_map_some]
theorem rowD_comp (l : Row) : (rowD l).comp = true := by unfold rowD; split <;> rfl
theorem row_get : ∀ (l : Row) (k : List Scal), k ∈ l.map (·.1) → ∃ a, getK (l.map (·.1)) (l.map fun p => D.int p.2) k = some (.int a) ∧
    ((l.map (·.1)).Nodup → ∀ v, setK (l.map (·.1)) (l.map fun p => D.int p.2) k (.int (a + v)) = (l.map (fun p => if p.1 = k then (p.1, p.2 + v) else p)).map fun p => D.int p.2)
  | [], k, h => by simp at h
  | (q, b) :: l, k, h => by
    by_cases hq : q = k
    · subst hq
      refine ⟨b, by simp [Mine.getK_cons, Mine.getK_nl, Mine.getK_ln], fun hn v => ?_⟩
      have hno : q ∉ l.map (·.1) := by simp at hn; simpa using hn.1
      simp only [List.map_cons, Mine.setK_cons, Mine.setK_nl, Mine.setK_ln, if_true]
      congr 1
      rw [setK_not hno]
      simp only [List.map_map]
      apply List.map_congr_left
      intro p hp
      have : p.1 ≠ q := fun e => hno (List.mem_map.mpr ⟨p, hp, e⟩)
      simp [this]
    · have hk : k ∈ l.map (·.1) := by simp at h; rcases h with h | h; exact absurd h.symm hq; simpa using h
      obtain ⟨a, h1, h2⟩ := row_get l k hk
      refine ⟨a, by simp [Mine.getK_cons, Mine.getK_nl, Mine.getK_ln, hq]; simpa using h1, fun hn v => ?_⟩
      have hn' : (l.map (·.1)).Nodup := by simp at hn ⊢; exact hn.2
      have := h2 hn' v
      simp only [List.map_cons, Mine.setK_cons, Mine.setK_nl, Mine.setK_ln, hq, if_false]
      rw [this]
theorem rowD_bump (l : Row) (k : List Scal) (v : Int) (hk : k ∈ l.map (·.1)) (hn : (l.map (·.1)).Nodup) (hl : l.length ≤ cap) :
    ∃ a, itemD (fitD (rowD l) (keyD k)) (keyD k) = some (.int a) ∧ putD (fitD (rowD l) (keyD k)) (keyD k) (.int (a + v)) = some (rowD (bump l k v)) := by
  obtain ⟨a, h1, h2⟩ := row_get l k hk
  have hne : l ≠ [] := by rintro rfl; simp at hk
  have e1 : rowD l = .tdict (l.map (·.1)) (l.map fun p => .int p.2) := by unfold rowD; rw [if_neg hne]
  have e2 : fitD (rowD l) (keyD k) = .tdict (l.map (·.1)) (l.map fun p => .int p.2) := by
    rw [e1]; rfl
  refine ⟨a, by rw [e2]; simp only [itemD_lst, itemD_tup, itemD_idict, itemD_tdict, keyOf_keyD, opt_bind_some, h1], ?_⟩
  rw [e2]
  simp only [putD_lst, putD_idict, putD_tdict, keyOf_keyD, opt_bind_some]
  have h3 : putK (l.map (·.1)) (l.map fun p => D.int p.2) k (.int (a + v)) = (l.map (·.1), setK (l.map (·.1)) (l.map fun p => D.int p.2) k (.int (a + v))) := by unfold putK; rw [if_pos hk]
  rw [h3]
  simp only [List.length_map]
  rw [if_pos hl, h2 hn v]
  unfold rowD bump
  rw [if_pos hk, if_neg (by simpa using hne)]
  congr 2
  simp only [List.map_map]
  apply List.map_congr_left
  intro p _
  show p.1 = (if p.1 = k then (p.1, p.2 + v) else p).1
  split <;> rfl
end Mine
end
section
open PySem PySem.W PyProof.Rows PySem.Spec PySem.SeqAt
set_option maxRecDepth 100000
set_option linter.all false
namespace Mine
noncomputable def kAdd : Know := k0 (fun x => x = nm_new_callers) (fun _ => none) (fun _ => none)
noncomputable def bdAdd : DenS := (den kAdd 30).Ss kf_4 sf_4 (bodyAt topB 4)
noncomputable def fAdd : List D → Option D := fnD bdAdd [nm_target, nm_source] [] 2
noncomputable def pairD (p : List Scal × Int) : D := .tup [keyD p.1, .int p.2]
theorem zipD_row : ∀ l : Row, zipD (l.map fun p => keyD p.1) (l.map fun p => D.int p.2) = l.map pairD
  | [] => rfl
  | p :: l => by simp [zipD, pairD, zipD_row l]
theorem nodup_mid {l1 l2 : Row} {p : List Scal × Int} (h : ((l1 ++ p :: l2).map (·.1)).Nodup) : p.1 ∉ l1.map (·.1) := by
  rw [List.map_append, List.map_cons] at h
  have := (List.nodup_append.mp h).2.2
  intro hm
  exact this _ hm p.1 List.mem_cons_self rfl

theorem row_hit (l : Row) (k : List Scal) (b : Bool) (h : decide (k ∈ l.map (·.1)) = b) : cmpD .In (keyD k) (rowD l) = some b := by
  rw [cmpD_in, if_pos (rowD_comp l), rowD_in, h]
abbrev AddI (l : Row) (k : List Scal) (v : Int) : List D → Rho → Prop := fun ds ρ => ∃ l1 l2, l = l1 ++ l2 ∧ ds = l2.map pairD ∧ ρ nm_new_callers = some (.own (rowD l1)) ∧ ρ nm_source = some (.frz (rowD [(k, v)]))
abbrev AddJ (l : Row) (k : List Scal) (v : Int) : List D → Rho → Prop := fun ds ρ => (ds = [pairD (k, v)] ∧ ρ nm_new_callers = some (.own (rowD l))) ∨ (ds = [] ∧ ρ nm_new_callers = some (.own (rowD (bump l k v))))
theorem add_ok (l : Row) (k : List Scal) (v : Int) (hn : (l.map (·.1)).Nodup) (hl : l.length + 1 ≤ cap) : fAdd [rowD l, rowD [(k, v)]] = some (rowD (bump l k v)) := by
  refine fn_run rfl ?_
  unfold bdAdd
  have h : bodyAt topB 4 = bodyAt topB 4 := rfl
  conv at h => rhs; whnf
  rw [h]
  clear h
  dsimp only [ofs_ValueError, ofs_UUclassdictUU, ofs_UUdebugUU, ofs_UUnameUU, ofs_Llaw_near, ofs_Llaw_sides, ofs_Llaw_walks, ofs_a, ofs_add_callers, ofs_after, ofs_append, ofs_b, ofs_bad, ofs_bisect_left, ofs_caller, ofs_callers, ofs_calls, ofs_count_calls, ofs_far, ofs_first, ofs_func, ofs_get, ofs_here, ofs_hi, ofs_i, ofs_insert, ofs_insort_left, ofs_isinstance, ofs_items, ofs_j, ofs_key, ofs_law, ofs_len, ofs_lo, ofs_max, ofs_mid, ofs_min, ofs_more, ofs_nc, ofs_new_callers, ofs_number, ofs_odd, ofs_often, ofs_one, ofs_other, ofs_pairs, ofs_piece, ofs_place, ofs_range, ofs_script, ofs_sorted, ofs_source, ofs_steps, ofs_sum, ofs_table, ofs_target, ofs_there, ofs_tie, ofs_ties, ofs_tuple, ofs_turn, ofs_values, ofs_waiting, ofs_ways, ofs_word, ofs_x, ofs_zip, den_Ss, den_S, den_E, den_I, den_B, E_int, E_str, E_bool, E_none, E_name, E_bin, E_cmp, E_andV, E_ifexp, E_tup, E_lst, E_upto, E_sub_name, E_sub_con, E_sub_bin, E_sub_sub, E_sub_call, E_dict0, E_dict1, E_comp, E_call, E_meth, N_isi, B_and0, B_and, B_or0, B_or, B_cmp, B_call, I_call2, I_name, I_lst, I_tup, I_sub, I_bin, I_items, S_assignC, S_assign_name, S_assign_con, S_assign_bin, S_assign_call, S_assign_sub, S_assign_cmp, S_assign_ifx, S_assign_lst, S_assign_tup, S_assign_dict, S_assign_boo, S_tup, S_unpack_call, S_setSub, S_augSub, S_augName, S_if, S_while, S_for_name, S_for_call, S_for_lst, S_for_tup, S_for_sub, S_ret, S_retNone, S_mut, Ss_nil, Ss_cons, L_nil, L_cons, dTests_nil, dTests_cons, N1_len, N1_sum, N1_sorted, N1_max, N1_min, N2_max, N2_min, N2_isi, I_range, I_items0, I_values, S_appendN, S_insertN, k0_T, k0_M, k0_mu, k0_K, S_k0, callE, bMut, kAdd]
  simp only [List.map_cons, List.map_nil, List.cons_append, List.nil_append, rho0_cons]
  refine run_seq (run_assign (.fresh, .idict [] []) (upd (upd (upd (rho0 [] []) nm_source (.frz (rowD [(k, v)]))) nm_target (.frz (rowD l))) nm_new_callers (.own (.idict [] []))) rfl ?_ rfl ?_)
  · simp (decide := true) only [dPut, if_true]
  refine run_seq (run_for (l.map pairD) ?_ (AddI l k v) ⟨[], l, rfl, rfl, rfl, rfl⟩ ?_ ?_)
  · rw [q_items (by decide +kernel) (nmF (d := rowD l) rfl _ (by decide +kernel)) (rowD_vals l) frz_nl, rowD_keys, zipD_row]
  · rintro d ds ρ ⟨l1, l2, h1, h2, h3, h4⟩
    cases l2 with
    | nil => cases h2
    | cons p l2 =>
      cases h2
      have hp := rowD_put l1 p.1 p.2 (nodup_mid (h1 ▸ hn)) (by rw [h1] at hl; simp at hl; exact om_82 hl)
      refine ⟨upd (upd ρ nm_func (.frz (keyD p.1))) nm_caller (.frz (.int p.2)), rfl, run_seq (run_eq .next (upd (upd (upd ρ nm_func (.frz (keyD p.1))) nm_caller (.frz (.int p.2))) nm_new_callers (.own (rowD (l1 ++ [p])))) ?_ (run_nil ⟨l1 ++ [p], l2, by simp [h1], rfl, rfl, h4⟩))⟩
      exact q_setSub (q_frz (nmF (d := .int p.2) rfl _ (by decide +kernel)) frz_nl) (by decide +kernel) (q_frz (nmF (d := keyD p.1) rfl _ (by decide +kernel)) frz_nl) h3 hp
  · rintro ρ ⟨l1, l2, h1, h2, h3, h4⟩
    cases l2 with
    | cons p l2 => cases h2
    | nil =>
      rw [List.append_nil] at h1
      subst h1
      refine run_seq (run_for [pairD (k, v)] ?_ (AddJ l k v) (.inl ⟨rfl, h3⟩) ?_ ?_)
      · rw [q_items (by decide +kernel) (nmF h4 _ (by decide +kernel)) (rowD_vals _) frz_nl, rowD_keys, zipD_row]
        rfl
      · rintro d ds ρ (⟨e1, h5⟩ | ⟨e1, h5⟩)
        · cases e1
          refine ⟨upd (upd ρ nm_func (.frz (keyD k))) nm_caller (.frz (.int v)), rfl, ?_⟩
          by_cases hk : k ∈ l.map (·.1)
          · obtain ⟨a, hi, hp⟩ := rowD_bump l k v hk hn (by exact om_29 hl)
            refine run_seq (run_if true ?_ (run_seq (run_if false ?_ (run_seq (run_eq .next (upd (upd (upd ρ nm_func (.frz (keyD k))) nm_caller (.frz (.int v))) nm_new_callers (.own (rowD (bump l k v)))) ?_ (run_nil (run_nil (run_nil (.inr ⟨rfl, rfl⟩)))))))))
            · exact q_cmp rfl (nmF (d := keyD k) rfl _ (by decide +kernel)) (nmO h5 _ (by decide +kernel)) (row_hit l k true (decide_eq_true hk))
            · exact q_isTup (by decide +kernel) (nmF (d := .int v) rfl _ (by decide +kernel))
            · exact q_augSub (by decide +kernel) (q_frz (nmF (d := keyD k) rfl _ (by decide +kernel)) frz_nl) h5 hi (q_frz (nmF (d := .int v) rfl _ (by decide +kernel)) frz_nl) hp
          · have hp := rowD_put l k v hk hl
            refine run_seq (run_if false ?_ (run_seq (run_eq .next (upd (upd (upd ρ nm_func (.frz (keyD k))) nm_caller (.frz (.int v))) nm_new_callers (.own (rowD (bump l k v)))) ?_ (run_nil (run_nil (.inr ⟨rfl, rfl⟩))))))
            · exact q_cmp rfl (nmF (d := keyD k) rfl _ (by decide +kernel)) (nmO h5 _ (by decide +kernel)) (row_hit l k false (decide_eq_false hk))
            · have hb : bump l k v = l ++ [(k, v)] := if_neg hk
              rw [hb]
              exact q_setSub (q_frz (nmF (d := .int v) rfl _ (by decide +kernel)) frz_nl) (by decide +kernel) (q_frz (nmF (d := keyD k) rfl _ (by decide +kernel)) frz_nl) h5 hp
        · cases e1
      · rintro ρ (⟨e1, h5⟩ | ⟨e1, h5⟩)
        · cases e1
        · exact run_seq (run_ret (.frozen, rowD (bump l k v)) (nmF (lay_own h5) _ (by decide +kernel)) frz_nl rfl)
end Mine
end
section
open PySem PySem.W PyProof.Rows PySem.Spec PySem.SeqAt
set_option maxRecDepth 100000
set_option linter.all false
namespace Mine
theorem dTurns_flat {f : D → Option (List D)} {g : D → List D} : ∀ {ds : List D}, (∀ d ∈ ds, f d = some (g d)) → dTurns f ds = some (ds.flatMap g)
  | [], _ => rfl
  | d :: ds, h => by
    unfold dTurns
    rw [h d List.mem_cons_self, opt_bind_some, dTurns_flat fun e he => h e (List.mem_cons_of_mem _ he), opt_map_some]
    simp
theorem comp_flat {κ : Kap} {FI0 FI : Expr → Expr → Rho → Option (List D)} {FE : Expr → Den} {FB : Expr → DenB} {elt t it : Expr} {ifs : List Expr} {gs : List Comprehension} {scope : Scope} {ρ : Rho} {ds : List D} (g : D → List D)
    (hs : scopeOk scope κ = true ∧ ((⟨t, it, ifs, 0⟩ :: gs : List Comprehension).all fun g => decide (g.is_async = 0)) = true ∧ noSet it = true ∧ ((targetNames t).all fun x => (rhoC scope ρ x).isNone) = true) (hi : FI0 t it ρ = some ds)
    (ht : ∀ d ∈ ds, dTurn (kapC scope κ) (stoC scope) FE FB FI elt ⟨t, it, ifs, 0⟩ gs (rhoC scope ρ) d = some (g d)) (hc : (ds.flatMap g).length ≤ cap) : dComp κ FI0 FE FB FI elt (⟨t, it, ifs, 0⟩ :: gs) scope ρ = some (ds.flatMap g) := by
  unfold dComp
  simp only
  rw [if_pos hs, hi, opt_bind_some, dTurns_flat ht, opt_bind_some, if_pos hc]
theorem lst_comp (ds : List D) : (D.lst ds).comp = true := rfl
theorem int_comp (i : Int) : (D.int i).comp = false := rfl
theorem comp_filter {κ : Kap} {FI0 FI : Expr → Expr → Rho → Option (List D)} {FE : Expr → Den} {FB : Expr → DenB} {elt t it : Expr} {ifs : List Expr} {gs : List Comprehension} {scope : Scope} {ρ : Rho} {ds : List D} (p : D → Bool) (f : D → D)
    (hs : scopeOk scope κ = true ∧ ((⟨t, it, ifs, 0⟩ :: gs : List Comprehension).all fun g => decide (g.is_async = 0)) = true ∧ noSet it = true ∧ ((targetNames t).all fun x => (rhoC scope ρ x).isNone) = true) (hi : FI0 t it ρ = some ds)
    (ht : ∀ d ∈ ds, dTurn (kapC scope κ) (stoC scope) FE FB FI elt ⟨t, it, ifs, 0⟩ gs (rhoC scope ρ) d = some (if p d then [f d] else [])) (hc : ds.length ≤ cap) : dComp κ FI0 FE FB FI elt (⟨t, it, ifs, 0⟩ :: gs) scope ρ = some ((ds.filter p).map f) := by
  have e : ds.flatMap (fun d => if p d then [f d] else []) = (ds.filter p).map f := by
    clear ht hi hc
    induction ds with
    | nil => rfl
    | cons d ds ih => rw [List.flatMap_cons, ih]; cases hp : p d <;> simp [hp]
  rw [← e]
  exact comp_flat _ hs hi ht (by rw [e, List.length_map]; exact Nat.le_trans (List.length_filter_le _ _) hc)
theorem opt_map_of {α β : Type} {x : Option α} {f : α → β} {a : α} {b : β} (h : x = some a) (e : f a = b) : x.map f = some b := by rw [h, ← e]; rfl
theorem turn1 {κ : Kap} {sto : Str → Bool} {FI : Expr → Expr → Rho → Option (List D)} {FE : Expr → Den} {FB : Expr → DenB} {elt t it : Expr} {ifs : List Expr} {ρ0 ρ' : Rho} {d : D} (h1 : dTarget κ sto t d ρ0 = some ρ') (b : Bool) (h2 : dTests FB ifs ρ' = some b) (y : Fl × D)
    (h3 : b = true → FE elt ρ' = some y ∧ y.1 ≠ .loose) : dTurn κ sto FE FB FI elt ⟨t, it, ifs, 0⟩ [] ρ0 d = some (if b then [y.2] else []) := by
  unfold dTurn
  rw [h1, opt_bind_some, h2, opt_bind_some]
  cases b with
  | false => rfl
  | true =>
    obtain ⟨e, hl⟩ := h3 rfl
    simp only [if_true]
    unfold dGens
    rw [e, opt_bind_some, if_neg hl]
theorem turn0 {κ : Kap} {sto : Str → Bool} {FI : Expr → Expr → Rho → Option (List D)} {FE : Expr → Den} {FB : Expr → DenB} {elt t it : Expr} {ρ0 ρ' : Rho} {d : D} (h1 : dTarget κ sto t d ρ0 = some ρ') (y : Fl × D)
    (h3 : FE elt ρ' = some y) (hl : y.1 ≠ .loose) : dTurn κ sto FE FB FI elt ⟨t, it, [], 0⟩ [] ρ0 d = some [y.2] := turn1 h1 true rfl y fun _ => ⟨h3, hl⟩
theorem run_assignC {κ : Kap} {sto mu : Str → Bool} {x : Str} {p : Pos} {scope : Scope} {vp : Pos} {f : Rho → Option (List D)} {ρ : Rho} {Q : Flo → Rho → Prop} (out : List D) (ρ' : Rho) (e : f ρ = some out) (h1 : dPut κ sto mu x (.fresh, .lst out) ρ = some ρ') (h : Q .next ρ') :
    Run (dAssignC κ sto mu x p scope vp f) ρ Q := ⟨_, ρ', by simp [dAssignC, e, h1], h⟩

/-! ## _law_counts -/
abbrev Tie := Nat × Nat
noncomputable def tieD (t : Tie) : D := .tup [.int (t.1 : Int), .int (t.2 : Int)]
/-- how many ends of ties lie at v -/
noncomputable def rowSum (l : Row) : Int := (l.map (·.2)).sum
noncomputable def fCount : List D → Option D := fnD ((den kB 30).Ss kf_5 sf_5 (bodyAt topB 5)) [nm_callers] [] 1
noncomputable def natsD (W : List Nat) : D := .lst (W.map fun v : Nat => .int (v : Int))
theorem nodup_lt : ∀ (m : Nat) (W : List Nat), W.Nodup → (∀ v ∈ W, v < m) → W.length ≤ m
  | 0, W, _, h => by
    cases W with
    | nil => simp
    | cons v W => exact absurd (h v List.mem_cons_self) (Nat.not_lt_zero _)
  | m + 1, W, hn, h => by
    have h1 := nodup_lt m (W.filter (fun v => !(v == m))) (hn.sublist List.filter_sublist) fun v hv => by
      have := List.mem_filter.mp hv
      have h2 := h v this.1
      have h3 : v ≠ m := by simpa using this.2
      exact om_83 h2 h3
    have h4 : W.length ≤ (W.filter (fun v => !(v == m))).length + 1 := by
      clear h h1
      induction W with
      | nil => simp
      | cons v W ih =>
        rw [List.nodup_cons] at hn
        have ih := ih hn.2
        by_cases hv : v = m
        · subst hv
          have : W.filter (fun u => !(u == v)) = W := List.filter_eq_self.mpr fun u hu => by
            have : u ≠ v := fun e => hn.1 (e ▸ hu)
            simpa using this
          rw [List.filter_cons_of_neg (by simp), this]; simp
        · rw [List.filter_cons_of_pos (by simpa using hv)]; simp; exact om_84 ih
    exact om_85 h1 h4
theorem okPys_ints : ∀ (L : List Nat) (k : Nat), okPys k (L.map fun v : Nat => D.int (v : Int)) = true
  | [], k => by simp [okPys]
  | v :: L, k => by simp [okPys, okPy, okPys_ints L k]
theorem cmp_nil_nats (L : List Nat) : cmpD .Eq (natsD L) (.lst []) = some (decide (L = [])) := by
  have h1 := okPys_ints L 7
  have h2 : okPy 8 (natsD L) = true := by unfold natsD okPy; exact h1
  have h3 : okPy 8 (.lst []) = true := by simp [okPy, okPys]
  simp only [cmpD_eq, cmpD_ne, cmpD_lt, cmpD_gt, cmpD_in, cmpD_notIn, cmpD_is, h2, h3, Bool.and_self, if_true]
  congr 1
  cases L with
  | nil => simp only [natsD, List.map_nil, eqD_lst, eqDs_nil]; rfl
  | cons u L => simp only [natsD, List.map_cons, eqD_lst, eqDs_cn]; rfl
noncomputable def qNat (q : Nat → Bool) : D → Bool
  | .int i => q i.toNat
  | _ => false
theorem filt_nats (q : Nat → Bool) : ∀ L : List Nat, (((L.map fun v : Nat => D.int (v : Int)).filter (qNat q)).map id) = (L.filter q).map fun v : Nat => D.int (v : Int)
  | [] => rfl
  | v :: L => by
    have ih := filt_nats q L
    have e : qNat q (.int (v : Int)) = q v := rfl
    rw [List.map_cons, List.filter_cons, List.filter_cons, e]
    cases q v
    · simpa using ih
    · simpa using ih
theorem bfn_sum (fl : Fl) (L : List Int) (h : ∀ x ∈ L, -300 ≤ x ∧ x ≤ 300) : bfnD nm_sum [(fl, .lst (L.map .int))] = some (.frozen, .int L.sum) := by
  have ha : (L.all fun x => decide (-300 ≤ x ∧ x ≤ 300)) = true := by simpa using h
  show bfnL nm_sum _ = _
  unfold bfnL
  rw [if_neg (by decide), intsOf_map]
  exact if_pos ha
theorem bfn_len (fl : Fl) (ds : List D) : bfnD nm_len [(fl, .lst ds)] = some (.frozen, .int ds.length) := rfl
theorem bfn_min2 (f g : Fl) (a b : Int) : bfnD nm_min [(f, .int a), (g, .int b)] = some (.frozen, .int (if b < a then b else a)) := rfl
theorem cmp_eq_int (x y : Int) : cmpD .Eq (.int x) (.int y) = some (decide (x = y)) := by
  have h : okPy 8 (.int x) = true ∧ okPy 8 (.int y) = true := by simp [okPy]
  simp only [cmpD_eq, cmpD_ne, cmpD_lt, cmpD_gt, cmpD_in, cmpD_notIn, cmpD_is, eqD_int, h.1, h.2, Bool.and_self, if_true]
theorem cmp_ne_int (x y : Int) : cmpD .NotEq (.int x) (.int y) = some (!decide (x = y)) := by
  have h : okPy 8 (.int x) = true ∧ okPy 8 (.int y) = true := by simp [okPy]
  simp only [cmpD_eq, cmpD_ne, cmpD_lt, cmpD_gt, cmpD_in, cmpD_notIn, cmpD_is, eqD_int, h.1, h.2, Bool.and_self, if_true]
theorem cmp_eqN (a b : Nat) : cmpD .Eq (.int (a : Int)) (.int (b : Int)) = some (decide (a = b)) :=
  (cmp_eq_int a b).trans (congrArg some (decide_eq_decide.mpr Int.ofNat_inj))
theorem cmp_neN (a b : Nat) : cmpD .NotEq (.int (a : Int)) (.int (b : Int)) = some (!decide (a = b)) :=
  (cmp_ne_int a b).trans (congrArg (fun c => some (!c)) (decide_eq_decide.mpr Int.ofNat_inj))
theorem cmp_neF {x y : Int} (h : x = y) : cmpD .NotEq (.int x) (.int y) = some false :=
  (cmp_ne_int x y).trans (congrArg (fun c => some (!c)) (decide_eq_true h))
theorem okPys_int : ∀ (L : List Int) (k : Nat), okPys k (L.map .int) = true
  | [], k => by simp [okPys]
  | v :: L, k => by simp [okPys, okPy, okPys_int L k]
theorem eqDs_int : ∀ (L L' : List Int), eqDs (L.map .int) (L'.map .int) = decide (L = L')
  | [], [] => eqDs_nil
  | [], _ :: _ => by rw [List.map_nil, List.map_cons, eqDs_nc]; rfl
  | _ :: _, [] => by rw [List.map_nil, List.map_cons, eqDs_cn]; rfl
  | x :: L, y :: L' => by simp only [List.map_cons, eqDs_cons, eqD_int, eqDs_int L L', List.cons.injEq, Bool.decide_and]
theorem cmp_eq_ints (L L' : List Int) : cmpD .Eq (.lst (L.map .int)) (.lst (L'.map .int)) = some (decide (L = L')) := by
  have h1 : okPy 8 (.lst (L.map .int)) = true := by unfold okPy; exact okPys_int L 7
  have h2 : okPy 8 (.lst (L'.map .int)) = true := by unfold okPy; exact okPys_int L' 7
  simp only [cmpD_eq, cmpD_ne, cmpD_lt, cmpD_gt, cmpD_in, cmpD_notIn, cmpD_is, h1, h2, Bool.and_self, if_true, eqD_lst, eqDs_int]
end Mine
end
section
open PySem PySem.W PyProof.Rows PySem.Spec PySem.SeqAt
set_option maxRecDepth 100000
set_option linter.all false
namespace Mine
/-! ## _law_near -/
theorem okPy_tie (t : Tie) (k : Nat) : okPy (k + 2) (tieD t) = true := by simp [tieD, okPy, okPys]
theorem okPys_ties : ∀ (T : List Tie) (k : Nat), okPys (k + 2) (T.map tieD) = true
  | [], k => by simp [okPys]
  | t :: T, k => by rw [List.map_cons, okPys, okPy_tie, okPys_ties T k]; rfl
theorem eqD_tie (t u : Tie) : eqD (tieD t) (tieD u) = decide (t = u) := by
  obtain ⟨a, b⟩ := t
  obtain ⟨c, d⟩ := u
  simp only [tieD, eqD_tup, eqDs_cons, eqDs_nil, eqD_int, Bool.and_true, Prod.mk.injEq, Int.ofNat_inj, Bool.decide_and]
theorem any_ties (t : Tie) : ∀ T : List Tie, ((T.map tieD).any fun y => eqD y (tieD t)) = decide (t ∈ T)
  | [] => by simp
  | u :: T => by
    rw [List.map_cons, List.any_cons, any_ties t T, eqD_tie]
    by_cases h : u = t
    · simp [h]
    · simp [h, Ne.symm h]
theorem in_ties (T : List Tie) (t : Tie) : inD (fitD (.lst (T.map tieD)) (tieD t)) (tieD t) = some (decide (t ∈ T)) := by
  rw [fitD_lst, inD_lst, okPys_ties T 6, okPy_tie t 6, any_ties]; rfl
theorem cmp_in_ties (T : List Tie) (t : Tie) : cmpD .In (tieD t) (.lst (T.map tieD)) = some (decide (t ∈ T)) := by
  rw [cmpD_in, if_pos (lst_comp _), in_ties]
theorem cmp_notin_ties (T : List Tie) (t : Tie) : cmpD .NotIn (tieD t) (.lst (T.map tieD)) = some (decide (t ∉ T)) := by
  rw [cmpD_notIn, if_pos (lst_comp _), in_ties]
  by_cases h : t ∈ T <;> simp [h]
theorem min_nat (f g : Fl) (a b : Nat) : bfnD nm_min [(f, .int (a : Int)), (g, .int (b : Int))] = some (.frozen, .int ((min a b : Nat) : Int)) := by
  rw [bfn_min2]
  congr 3
  split <;> omega
theorem max_nat (f g : Fl) (a b : Nat) : bfnD nm_max [(f, .int (a : Int)), (g, .int (b : Int))] = some (.frozen, .int ((max a b : Nat) : Int)) := by
  show some (Fl.frozen, D.int (if (a : Int) < b then (b : Int) else a)) = _
  congr 3
  split <;> omega
noncomputable def near (T : List Tie) (p : Nat) : List Nat := (List.range 6).filter fun o => decide ((min p o, max p o) ∈ T)
theorem range6 : rangeD 6 = (List.range 6).map fun v : Nat => .int (v : Int) := rfl
noncomputable def kNear : Know := k0 (fun _ => false) (fun _ => none) (fun _ => none)
noncomputable def bdNear : DenS := (den kNear 30).Ss kf_7 sf_7 (bodyAt topB 7)
noncomputable def fNear : List D → Option D := fnD bdNear [nm_ties, nm_place] [] 2
theorem near_ok (T : List Tie) (p : Nat) : fNear [.lst (T.map tieD), .int (p : Int)] = some (natsD (near T p)) := by
  refine fn_run rfl ?_
  unfold bdNear
  have h : bodyAt topB 7 = bodyAt topB 7 := rfl
  conv at h => rhs; whnf
  rw [h]
  clear h
  dsimp only [ofs_ValueError, ofs_UUclassdictUU, ofs_UUdebugUU, ofs_UUnameUU, ofs_Llaw_near, ofs_Llaw_sides, ofs_Llaw_walks, ofs_a, ofs_add_callers, ofs_after, ofs_append, ofs_b, ofs_bad, ofs_bisect_left, ofs_caller, ofs_callers, ofs_calls, ofs_count_calls, ofs_far, ofs_first, ofs_func, ofs_get, ofs_here, ofs_hi, ofs_i, ofs_insert, ofs_insort_left, ofs_isinstance, ofs_items, ofs_j, ofs_key, ofs_law, ofs_len, ofs_lo, ofs_max, ofs_mid, ofs_min, ofs_more, ofs_nc, ofs_new_callers, ofs_number, ofs_odd, ofs_often, ofs_one, ofs_other, ofs_pairs, ofs_piece, ofs_place, ofs_range, ofs_script, ofs_sorted, ofs_source, ofs_steps, ofs_sum, ofs_table, ofs_target, ofs_there, ofs_tie, ofs_ties, ofs_tuple, ofs_turn, ofs_values, ofs_waiting, ofs_ways, ofs_word, ofs_x, ofs_zip, den_Ss, den_S, den_E, den_I, den_B, E_int, E_str, E_bool, E_none, E_name, E_bin, E_cmp, E_andV, E_ifexp, E_tup, E_lst, E_upto, E_sub_name, E_sub_con, E_sub_bin, E_sub_sub, E_sub_call, E_dict0, E_dict1, E_comp, E_call, E_meth, N_isi, B_and0, B_and, B_or0, B_or, B_cmp, B_call, I_call2, I_name, I_lst, I_tup, I_sub, I_bin, I_items, S_assignC, S_assign_name, S_assign_con, S_assign_bin, S_assign_call, S_assign_sub, S_assign_cmp, S_assign_ifx, S_assign_lst, S_assign_tup, S_assign_dict, S_assign_boo, S_tup, S_unpack_call, S_setSub, S_augSub, S_augName, S_if, S_while, S_for_name, S_for_call, S_for_lst, S_for_tup, S_for_sub, S_ret, S_retNone, S_mut, Ss_nil, Ss_cons, L_nil, L_cons, dTests_nil, dTests_cons, N1_len, N1_sum, N1_sorted, N1_max, N1_min, N2_max, N2_min, N2_isi, I_range, I_items0, I_values, S_appendN, S_insertN, k0_T, k0_M, k0_mu, k0_K, S_k0, callE, bMut, kNear]
  simp only [List.map_cons, List.map_nil, List.cons_append, List.nil_append, rho0_cons]
  refine run_seq (run_ret (.fresh, natsD (near T p)) ?_ fre_nl rfl)
  unfold natsD near
  rw [← filt_nats]
  refine opt_map_of (comp_filter (qNat _) id ⟨by decide +kernel, rfl, rfl, rfl⟩ (ds := (List.range 6).map fun v : Nat => .int (v : Int)) ?_ (fun d hd => ?_) (by decide)) rfl
  · dsimp only [ofs_ValueError, ofs_UUclassdictUU, ofs_UUdebugUU, ofs_UUnameUU, ofs_Llaw_near, ofs_Llaw_sides, ofs_Llaw_walks, ofs_a, ofs_add_callers, ofs_after, ofs_append, ofs_b, ofs_bad, ofs_bisect_left, ofs_caller, ofs_callers, ofs_calls, ofs_count_calls, ofs_far, ofs_first, ofs_func, ofs_get, ofs_here, ofs_hi, ofs_i, ofs_insert, ofs_insort_left, ofs_isinstance, ofs_items, ofs_j, ofs_key, ofs_law, ofs_len, ofs_lo, ofs_max, ofs_mid, ofs_min, ofs_more, ofs_nc, ofs_new_callers, ofs_number, ofs_odd, ofs_often, ofs_one, ofs_other, ofs_pairs, ofs_piece, ofs_place, ofs_range, ofs_script, ofs_sorted, ofs_source, ofs_steps, ofs_sum, ofs_table, ofs_target, ofs_there, ofs_tie, ofs_ties, ofs_tuple, ofs_turn, ofs_values, ofs_waiting, ofs_ways, ofs_word, ofs_x, ofs_zip, den_Ss, den_S, den_E, den_I, den_B, E_int, E_str, E_bool, E_none, E_name, E_bin, E_cmp, E_andV, E_ifexp, E_tup, E_lst, E_upto, E_sub_name, E_sub_con, E_sub_bin, E_sub_sub, E_sub_call, E_dict0, E_dict1, E_comp, E_call, E_meth, N_isi, B_and0, B_and, B_or0, B_or, B_cmp, B_call, I_call2, I_name, I_lst, I_tup, I_sub, I_bin, I_items, S_assignC, S_assign_name, S_assign_con, S_assign_bin, S_assign_call, S_assign_sub, S_assign_cmp, S_assign_ifx, S_assign_lst, S_assign_tup, S_assign_dict, S_assign_boo, S_tup, S_unpack_call, S_setSub, S_augSub, S_augName, S_if, S_while, S_for_name, S_for_call, S_for_lst, S_for_tup, S_for_sub, S_ret, S_retNone, S_mut, Ss_nil, Ss_cons, L_nil, L_cons, dTests_nil, dTests_cons, N1_len, N1_sum, N1_sorted, N1_max, N1_min, N2_max, N2_min, N2_isi, I_range, I_items0, I_values, S_appendN, S_insertN, k0_T, k0_M, k0_mu, k0_K, S_k0, callE, bMut]
    exact (q_range (k := 6) (fl := .frozen) (by decide +kernel) rfl (by decide)).trans (congrArg some range6)
  · obtain ⟨o, ho, rfl⟩ := List.mem_map.mp hd
    have eq : qNat (fun o => decide ((min p o, max p o) ∈ T)) (.int (o : Int)) = decide ((min p o, max p o) ∈ T) := rfl
    rw [eq]
    refine turn1 rfl (decide ((min p o, max p o) ∈ T)) ?_ (.frozen, .int (o : Int)) fun _ => ⟨?_, frz_nl⟩
    · generalize hρ2 : upd (rhoC _ _) nm_other _ = ρ2
      have b1 : ρ2 nm_ties = some (.frz (.lst (T.map tieD))) := by rw [← hρ2]; rfl
      have b2 : ρ2 nm_place = some (.frz (.int (p : Int))) := by rw [← hρ2]; rfl
      have b3 : ρ2 nm_other = some (.frz (.int (o : Int))) := by rw [← hρ2]; rfl
      have h1 := min_nat .frozen .frozen p o
      have h2 := max_nat .frozen .frozen p o
      dsimp only [ofs_ValueError, ofs_UUclassdictUU, ofs_UUdebugUU, ofs_UUnameUU, ofs_Llaw_near, ofs_Llaw_sides, ofs_Llaw_walks, ofs_a, ofs_add_callers, ofs_after, ofs_append, ofs_b, ofs_bad, ofs_bisect_left, ofs_caller, ofs_callers, ofs_calls, ofs_count_calls, ofs_far, ofs_first, ofs_func, ofs_get, ofs_here, ofs_hi, ofs_i, ofs_insert, ofs_insort_left, ofs_isinstance, ofs_items, ofs_j, ofs_key, ofs_law, ofs_len, ofs_lo, ofs_max, ofs_mid, ofs_min, ofs_more, ofs_nc, ofs_new_callers, ofs_number, ofs_odd, ofs_often, ofs_one, ofs_other, ofs_pairs, ofs_piece, ofs_place, ofs_range, ofs_script, ofs_sorted, ofs_source, ofs_steps, ofs_sum, ofs_table, ofs_target, ofs_there, ofs_tie, ofs_ties, ofs_tuple, ofs_turn, ofs_values, ofs_waiting, ofs_ways, ofs_word, ofs_x, ofs_zip, den_Ss, den_S, den_E, den_I, den_B, E_int, E_str, E_bool, E_none, E_name, E_bin, E_cmp, E_andV, E_ifexp, E_tup, E_lst, E_upto, E_sub_name, E_sub_con, E_sub_bin, E_sub_sub, E_sub_call, E_dict0, E_dict1, E_comp, E_call, E_meth, N_isi, B_and0, B_and, B_or0, B_or, B_cmp, B_call, I_call2, I_name, I_lst, I_tup, I_sub, I_bin, I_items, S_assignC, S_assign_name, S_assign_con, S_assign_bin, S_assign_call, S_assign_sub, S_assign_cmp, S_assign_ifx, S_assign_lst, S_assign_tup, S_assign_dict, S_assign_boo, S_tup, S_unpack_call, S_setSub, S_augSub, S_augName, S_if, S_while, S_for_name, S_for_call, S_for_lst, S_for_tup, S_for_sub, S_ret, S_retNone, S_mut, Ss_nil, Ss_cons, L_nil, L_cons, dTests_nil, dTests_cons, N1_len, N1_sum, N1_sorted, N1_max, N1_min, N2_max, N2_min, N2_isi, I_range, I_items0, I_values, S_appendN, S_insertN, k0_T, k0_M, k0_mu, k0_K, S_k0, callE, bMut]
      refine q_one (q_cmp (fx := .fresh) (fy := .frozen) rfl ?_ (nmF b1 _ (by decide +kernel)) (cmp_in_ties T _))
      exact q_tup (xs := [(.frozen, .int ((min p o : Nat) : Int)), (.frozen, .int ((max p o : Nat) : Int))]) (q_cons rfl (q_bfn (by decide +kernel) (q_cons rfl (nmF b2 _ (by decide +kernel)) (q_cons rfl (nmF b3 _ (by decide +kernel)) q_nil)) h1) (q_cons rfl (q_bfn (by decide +kernel) (q_cons rfl (nmF b2 _ (by decide +kernel)) (q_cons rfl (nmF b3 _ (by decide +kernel)) q_nil)) h2) q_nil)) ⟨rfl, Nat.le_of_ble_eq_true rfl⟩
    · dsimp only [ofs_ValueError, ofs_UUclassdictUU, ofs_UUdebugUU, ofs_UUnameUU, ofs_Llaw_near, ofs_Llaw_sides, ofs_Llaw_walks, ofs_a, ofs_add_callers, ofs_after, ofs_append, ofs_b, ofs_bad, ofs_bisect_left, ofs_caller, ofs_callers, ofs_calls, ofs_count_calls, ofs_far, ofs_first, ofs_func, ofs_get, ofs_here, ofs_hi, ofs_i, ofs_insert, ofs_insort_left, ofs_isinstance, ofs_items, ofs_j, ofs_key, ofs_law, ofs_len, ofs_lo, ofs_max, ofs_mid, ofs_min, ofs_more, ofs_nc, ofs_new_callers, ofs_number, ofs_odd, ofs_often, ofs_one, ofs_other, ofs_pairs, ofs_piece, ofs_place, ofs_range, ofs_script, ofs_sorted, ofs_source, ofs_steps, ofs_sum, ofs_table, ofs_target, ofs_there, ofs_tie, ofs_ties, ofs_tuple, ofs_turn, ofs_values, ofs_waiting, ofs_ways, ofs_word, ofs_x, ofs_zip, den_Ss, den_S, den_E, den_I, den_B, E_int, E_str, E_bool, E_none, E_name, E_bin, E_cmp, E_andV, E_ifexp, E_tup, E_lst, E_upto, E_sub_name, E_sub_con, E_sub_bin, E_sub_sub, E_sub_call, E_dict0, E_dict1, E_comp, E_call, E_meth, N_isi, B_and0, B_and, B_or0, B_or, B_cmp, B_call, I_call2, I_name, I_lst, I_tup, I_sub, I_bin, I_items, S_assignC, S_assign_name, S_assign_con, S_assign_bin, S_assign_call, S_assign_sub, S_assign_cmp, S_assign_ifx, S_assign_lst, S_assign_tup, S_assign_dict, S_assign_boo, S_tup, S_unpack_call, S_setSub, S_augSub, S_augName, S_if, S_while, S_for_name, S_for_call, S_for_lst, S_for_tup, S_for_sub, S_ret, S_retNone, S_mut, Ss_nil, Ss_cons, L_nil, L_cons, dTests_nil, dTests_cons, N1_len, N1_sum, N1_sorted, N1_max, N1_min, N2_max, N2_min, N2_isi, I_range, I_items0, I_values, S_appendN, S_insertN, k0_T, k0_M, k0_mu, k0_K, S_k0, callE, bMut]
      exact nmF rfl _ (by decide +kernel)
end Mine
end
section
open PySem PySem.W PyProof.Rows PySem.Spec PySem.SeqAt
set_option maxRecDepth 100000
set_option linter.all false
namespace Mine
/-! ## tuple assigns, rule by rule -/
theorem q_hold {FE : Expr → Den} {e : Expr} {b c : Bool} {es : List (Expr × Bool)} {ρ : Rho} {f : Fl} {d : D} {xs : List (Bool × D)} (hs : isStarred e = false) (h : FE e ρ = some (f, d)) (hh : heldD f b = some c) (ht : dHold FE es ρ = some xs) : dHold FE ((e, b) :: es) ρ = some ((c, d) :: xs) := by
  refine (if_pos hs).trans ?_
  rw [h]
  show Option.bind (heldD f b) _ = _
  rw [hh]
  show Option.map _ (dHold FE es ρ) = _
  rw [ht]; rfl
theorem q_stores {g : Bool × D → Rho → Option Rho} {gs : List (Bool × D → Rho → Option Rho)} {y : Bool × D} {ys : List (Bool × D)} {ρ ρ1 ρ2 : Rho} (h : g y ρ = some ρ1) (ht : storesD gs ys ρ1 = some ρ2) : storesD (g :: gs) (y :: ys) ρ = some ρ2 := by
  show Option.bind (g y ρ) _ = _
  rw [h]; exact ht
theorem q_tupA {κ : Kap} {sto mu : Str → Bool} {FE : Expr → Den} {ts vs : List Expr} {ρ ρ' : Rho} {xs : List (Bool × D)} (hc : ts.length = vs.length ∧ (ts.all fun t => !isStarred t) = true ∧ noSwap κ ts = true ∧ vs.length ≤ 100) (h : dHold FE (vs.zip (ts.map (wantD mu))) ρ = some xs) (hs : storesD (ts.map (tgtD κ sto FE)) xs ρ = some ρ') :
    (if noSwap κ ts then dTupAssign κ sto mu FE ts vs ρ else dTupSwap κ sto mu FE ts vs ρ) = some (.next, ρ') := by
  refine (if_pos hc.2.2.1).trans ((if_pos hc).trans ?_)
  rw [h]
  show Option.map _ (storesD _ _ _) = _
  rw [hs]; rfl
theorem q_sub1 {κ : Kap} {x : Str} {fi : Den} {d : D} {ρ ρ' : Rho} (h : dStore κ x fi d ρ = some ρ') : dSub1 κ x fi (false, d) ρ = some ρ' := h
theorem q_name1 {κ : Kap} {sto : Str → Bool} {x : Str} {b : Bool} {d : D} {ρ : Rho} (h : okT κ sto x = true) : dName1 κ sto x (b, d) ρ = some (upd ρ x (if b then .own d else .frz d)) := if_pos h

theorem q_stS {κ : Kap} {sto : Str → Bool} {FE : Expr → Den} {x : Str} {p p2 : Pos} {i : Expr} {d : D} {ρ ρ' : Rho} (h : dStore κ x (FE i) d ρ = some ρ') : tgtD κ sto FE (.Subscript (.Name x p) i p2) (false, d) ρ = some ρ' := h
theorem q_stN {κ : Kap} {sto : Str → Bool} {FE : Expr → Den} {x : Str} {p : Pos} {b : Bool} {d : D} {ρ : Rho} (h : okT κ sto x = true) : tgtD κ sto FE (.Name x p) (b, d) ρ = some (upd ρ x (if b then .own d else .frz d)) := if_pos h

/-! ## _law_sides: records (place, piece, far) -/
abbrev Rec := Nat × Nat × Nat
abbrev keysR (R : List Rec) : List Nat := R.map (·.1)
noncomputable def pieceR (R : List Rec) : D := .idict (R.map fun r : Rec => (r.1 : Int)) (R.map fun r : Rec => .int (r.2.1 : Int))
noncomputable def farR (R : List Rec) : D := .idict (R.map fun r : Rec => (r.1 : Int)) (R.map fun r : Rec => .int (r.2.2 : Int))
theorem rec_get (f : Rec → D) : ∀ (R : List Rec) (r : Rec), r ∈ R → (R.map (·.1)).Nodup → getK (R.map fun r : Rec => (r.1 : Int)) (R.map f) (r.1 : Int) = some (f r)
  | [], _, h, _ => (nomatch h)
  | s :: R, r, h, nd => by
    rw [List.map_cons, List.nodup_cons] at nd
    rw [List.map_cons, List.map_cons, getK_cons]
    rcases List.mem_cons.mp h with rfl | h
    · exact if_pos rfl
    · have hne : (s.1 : Int) ≠ (r.1 : Int) := fun e => nd.1 (List.mem_map.mpr ⟨r, h, (Int.ofNat_inj.mp e).symm⟩)
      rw [if_neg (by first | exact hne | exact hne.symm)]
      exact rec_get f R r h nd.2
theorem rec_key (R : List Rec) (v : Nat) : ((v : Int) ∈ R.map fun r : Rec => (r.1 : Int)) ↔ v ∈ R.map (·.1) := by
  simp only [List.mem_map]
  exact ⟨fun ⟨r, h, e⟩ => ⟨r, h, Int.ofNat_inj.mp e⟩, fun ⟨r, h, e⟩ => ⟨r, h, by rw [e]⟩⟩
theorem rec_put (f : Rec → D) (R : List Rec) (r : Rec) (h : r.1 ∉ R.map (·.1)) (hl : R.length + 1 ≤ cap) : putD (fitD (.idict (R.map fun r : Rec => (r.1 : Int)) (R.map f)) (.int (r.1 : Int))) (.int (r.1 : Int)) (f r) = some (.idict ((R ++ [r]).map fun r : Rec => (r.1 : Int)) ((R ++ [r]).map f)) := by
  rw [fitD_int]
  have h2 : ¬ ((r.1 : Int) ∈ R.map fun r : Rec => (r.1 : Int)) := fun q => h ((rec_key R r.1).mp q)
  rw [putD_idict]
  have h3 : putK (R.map fun r : Rec => (r.1 : Int)) (R.map f) (r.1 : Int) (f r) = ((R ++ [r]).map fun r : Rec => (r.1 : Int), (R ++ [r]).map f) := by unfold putK; rw [if_neg h2, List.map_append, List.map_append]; rfl
  rw [h3]
  exact if_pos (by simpa using hl)
theorem rec_notin (f : Rec → D) (R : List Rec) (v : Nat) : cmpD .NotIn (.int (v : Int)) (.idict (R.map fun r : Rec => (r.1 : Int)) (R.map f)) = some (decide (v ∉ R.map (·.1))) := by
  rw [cmpD_notIn, if_pos (show (D.idict _ _).comp = true from rfl), fitD_int, inD_idict]
  show some (!decide _) = _
  by_cases h : v ∈ R.map (·.1)
  · rw [decide_eq_true ((rec_key R v).mpr h), decide_eq_false (fun q => q h)]; rfl
  · rw [decide_eq_false (fun q => h ((rec_key R v).mp q)), decide_eq_true h]; rfl
end Mine
end
section
open PySem PySem.W PyProof.Rows PySem.Spec PySem.SeqAt
set_option maxRecDepth 100000
set_option linter.all false
namespace Mine
theorem near_iff {T : List Tie} {u v : Nat} : v ∈ near T u ↔ v < 6 ∧ (min u v, max u v) ∈ T := by
  unfold near
  rw [List.mem_filter, List.mem_range, decide_eq_true_iff]
theorem near_symm {T : List Tie} {u v : Nat} (hu : u < 6) (h : v ∈ near T u) : u ∈ near T v := by
  rw [near_iff] at h ⊢
  exact ⟨hu, by rw [Nat.min_comm, Nat.max_comm]; exact h.2⟩
structure Done (T : List Tie) (R : List Rec) : Prop where
  nd : (R.map (·.1)).Nodup
  lt : ∀ r ∈ R, r.1 < 6
  clo : ∀ r ∈ R, ∀ v ∈ near T r.1, ∃ s ∈ R, s.1 = v ∧ s.2.1 = r.2.1 ∧ s.2.2 ≤ r.2.2 + 1
  pl : ∀ r ∈ R, r.2.1 ≤ r.1
  par : ∀ r ∈ R, (r.2.2 = 0 ∧ r.2.1 = r.1) ∨ ∃ s ∈ R, r.1 ∈ near T s.1 ∧ r.2.2 = s.2.2 + 1 ∧ s.2.1 = r.2.1
structure Bfs (T : List Tie) (n : Nat) (R Q : List Rec) (i : Nat) : Prop where
  nd : ((R ++ Q).map (·.1)).Nodup
  lt : ∀ r ∈ Q, r.1 < 6
  root : n ∈ Q.map (·.1)
  pc : ∀ r ∈ Q, r.2.1 = n ∧ n ≤ r.1
  par : ∀ r ∈ Q, (r.2.2 = 0 ∧ r.1 = n) ∨ ∃ s ∈ Q, r.1 ∈ near T s.1 ∧ r.2.2 = s.2.2 + 1
  mono : Q.Pairwise fun r s => r.2.2 ≤ s.2.2
  bound : ∀ h, Q[i]? = some h → ∀ r ∈ Q, r.2.2 ≤ h.2.2 + 1
  proc : ∀ (j : Nat) r, j < i → Q[j]? = some r → ∀ v ∈ near T r.1, ∃ s ∈ Q, s.1 = v ∧ s.2.2 ≤ r.2.2 + 1
theorem Bfs.start {T : List Tie} {n : Nat} {R : List Rec} (hn : n < 6) (nd : (R.map (·.1)).Nodup) (h : n ∉ R.map (·.1)) : Bfs T n R [(n, n, 0)] 0 where
  nd := by
    rw [List.map_append]
    exact List.nodup_append.mpr ⟨nd, by simp, fun a ha b hb e => h ((e.trans (show b = n from List.mem_singleton.mp hb)) ▸ ha)⟩
  lt := fun r hr => by rw [List.mem_singleton.mp hr]; exact hn
  root := List.mem_cons_self
  pc := fun r hr => by rw [List.mem_singleton.mp hr]; exact ⟨rfl, Nat.le_refl _⟩
  par := fun r hr => by rw [List.mem_singleton.mp hr]; exact .inl ⟨rfl, rfl⟩
  mono := List.pairwise_singleton _ _
  bound := fun s hs r hr => by rw [List.mem_singleton.mp hr]; exact Nat.zero_le _
  proc := fun j r hj => absurd hj (Nat.not_lt_zero _)
theorem Bfs.hit {T : List Tie} {n : Nat} {R Q : List Rec} {i v : Nat} {h : Rec} (B : Bfs T n R Q i) (D : Done T R) (hh : Q[i]? = some h) (hv : v ∈ near T h.1) (hk : v ∈ (R ++ Q).map (·.1)) : ∃ s ∈ Q, s.1 = v ∧ s.2.2 ≤ h.2.2 + 1 := by
  have hQ := List.mem_of_getElem? hh
  obtain ⟨s, hs, rfl⟩ := List.mem_map.mp hk
  rcases List.mem_append.mp hs with q | q
  · obtain ⟨u, hu, e, _⟩ := D.clo s q h.1 (near_symm (B.lt h hQ) hv)
    have nd := B.nd
    rw [List.map_append] at nd
    exact absurd rfl ((List.nodup_append.mp nd).2.2 h.1 (List.mem_map.mpr ⟨u, hu, e⟩) h.1 (List.mem_map.mpr ⟨h, hQ, rfl⟩))
  · exact ⟨s, q, rfl, B.bound h hh s q⟩
theorem Bfs.add {T : List Tie} {n : Nat} {R Q : List Rec} {i v : Nat} {h : Rec} (B : Bfs T n R Q i) (hh : Q[i]? = some h) (hv : v ∈ near T h.1) (hk : v ∉ (R ++ Q).map (·.1)) (hb : ∀ u, u < n → u ∈ R.map (·.1)) : Bfs T n R (Q ++ [(v, n, h.2.2 + 1)]) i where
  nd := by
    rw [← List.append_assoc, List.map_append]
    exact List.nodup_append.mpr ⟨B.nd, by simp, fun a ha b hb e => hk ((e.trans (show b = v from List.mem_singleton.mp hb)) ▸ ha)⟩
  lt := fun r hr => by
    rcases List.mem_append.mp hr with q | q
    · exact B.lt r q
    · rw [List.mem_singleton.mp q]; exact (near_iff.mp hv).1
  root := by rw [List.map_append]; exact List.mem_append_left _ B.root
  pc := fun r hr => by
    rcases List.mem_append.mp hr with q | q
    · exact B.pc r q
    · rw [List.mem_singleton.mp q]
      refine ⟨rfl, Nat.le_of_not_lt fun hlt => hk ?_⟩
      rw [List.map_append]
      exact List.mem_append_left _ (hb v hlt)
  par := fun r hr => by
    rcases List.mem_append.mp hr with q | q
    · rcases B.par r q with h1 | ⟨s, hs, h1⟩
      · exact .inl h1
      · exact .inr ⟨s, List.mem_append_left _ hs, h1⟩
    · rw [List.mem_singleton.mp q]
      exact .inr ⟨h, List.mem_append_left _ (List.mem_of_getElem? hh), hv, rfl⟩
  mono := List.pairwise_append.mpr ⟨B.mono, List.pairwise_singleton _ _, fun r hr s hs => by rw [List.mem_singleton.mp hs]; exact B.bound h hh r hr⟩
  bound := fun k hk r hr => by
    rw [List.getElem?_append_left (List.getElem?_eq_some_iff.mp hh).1, hh] at hk
    cases hk
    rcases List.mem_append.mp hr with q | q
    · exact B.bound _ hh r q
    · rw [List.mem_singleton.mp q]; exact Nat.le_refl _
  proc := fun j r hj hr u hu => by
    rw [List.getElem?_append_left (Nat.lt_trans hj (List.getElem?_eq_some_iff.mp hh).1)] at hr
    obtain ⟨s, hs, h1⟩ := B.proc j r hj hr u hu
    exact ⟨s, List.mem_append_left _ hs, h1⟩
theorem Bfs.next {T : List Tie} {n : Nat} {R Q : List Rec} {i : Nat} {h : Rec} (B : Bfs T n R Q i) (hh : Q[i]? = some h) (hp : ∀ v ∈ near T h.1, ∃ s ∈ Q, s.1 = v ∧ s.2.2 ≤ h.2.2 + 1) : Bfs T n R Q (i + 1) where
  nd := B.nd
  lt := B.lt
  root := B.root
  pc := B.pc
  par := B.par
  mono := B.mono
  bound := fun k hk r hr => by
    obtain ⟨h1, e1⟩ := List.getElem?_eq_some_iff.mp hh
    obtain ⟨h2, e2⟩ := List.getElem?_eq_some_iff.mp hk
    have := List.pairwise_iff_getElem.mp B.mono i (i + 1) h1 h2 (Nat.lt_succ_self i)
    rw [e1, e2] at this
    exact Nat.le_trans (B.bound h hh r hr) (Nat.succ_le_succ this)
  proc := fun j r hj hr => by
    by_cases q : j < i
    · exact B.proc j r q hr
    · have : j = i := by exact om_86 hj q
      subst this
      rw [hh] at hr
      cases hr
      exact hp
theorem Bfs.done {T : List Tie} {n : Nat} {R Q : List Rec} {i : Nat} (B : Bfs T n R Q i) (D : Done T R) (hi : Q.length ≤ i) : Done T (R ++ Q) where
  nd := B.nd
  lt := fun r hr => (List.mem_append.mp hr).elim (D.lt r) (B.lt r)
  clo := fun r hr v hv => by
    rcases List.mem_append.mp hr with q | q
    · obtain ⟨s, hs, h1⟩ := D.clo r q v hv
      exact ⟨s, List.mem_append_left _ hs, h1⟩
    · obtain ⟨j, hj, e⟩ := List.mem_iff_getElem.mp q
      obtain ⟨s, hs, h1, h2⟩ := B.proc j r (by exact om_87 hi hj) (by rw [List.getElem?_eq_getElem hj, e]) v hv
      exact ⟨s, List.mem_append_right _ hs, h1, by rw [(B.pc s hs).1, (B.pc r q).1], h2⟩
  pl := fun r hr => by
    rcases List.mem_append.mp hr with q | q
    · exact D.pl r q
    · rw [(B.pc r q).1]; exact (B.pc r q).2
  par := fun r hr => by
    rcases List.mem_append.mp hr with q | q
    · rcases D.par r q with h1 | ⟨s, hs, h1⟩
      · exact .inl h1
      · exact .inr ⟨s, List.mem_append_left _ hs, h1⟩
    · rcases B.par r q with ⟨h1, h2⟩ | ⟨s, hs, h1, h2⟩
      · exact .inl ⟨h1, by rw [(B.pc r q).1, h2]⟩
      · exact .inr ⟨s, List.mem_append_right _ hs, h1, h2, by rw [(B.pc s hs).1, (B.pc r q).1]⟩
theorem Done.len {T : List Tie} {R : List Rec} (D : Done T R) : R.length ≤ 6 := by
  have := nodup_lt 6 _ D.nd fun v hv => by obtain ⟨r, hr, rfl⟩ := List.mem_map.mp hv; exact D.lt r hr
  rwa [List.length_map] at this
theorem Bfs.len {T : List Tie} {n : Nat} {R Q : List Rec} {i : Nat} (B : Bfs T n R Q i) (D : Done T R) : (R ++ Q).length ≤ 6 := by
  have := nodup_lt 6 _ B.nd fun v hv => by
    obtain ⟨r, hr, rfl⟩ := List.mem_map.mp hv
    exact (List.mem_append.mp hr).elim (D.lt r) (B.lt r)
  rwa [List.length_map] at this
end Mine
end
section
open PySem PySem.W PyProof.Rows PySem.Spec PySem.SeqAt
set_option maxRecDepth 100000
set_option linter.all false
namespace Mine
theorem q_swap {κ : Kap} {sto mu : Str → Bool} {FE : Expr → Den} {ts vs : List Expr} {ρ ρ' : Rho} {xs : List (Bool × D)} {names : List Str} (hn : noSwap κ ts = false) (hc : ts.length = vs.length ∧ (ts.all fun t => !isStarred t) = true ∧ vs.all (constantsAlone 8) = false ∧ vs.length ≤ 100) (hw : swapN κ ts vs = some names)
    (h : dHold FE (vs.zip (ts.map (wantD mu))) ρ = some xs) (hs : storesD (names.reverse.map (dName1 κ sto)) xs.reverse ρ = some ρ') : (if noSwap κ ts then dTupAssign κ sto mu FE ts vs ρ else dTupSwap κ sto mu FE ts vs ρ) = some (.next, ρ') := by
  rw [hn]
  refine (if_pos hc).trans ?_
  rw [h, hw]
  show Option.map _ (storesD _ _ _) = _
  rw [hs]; rfl
noncomputable def tSid (f : Str) : Option (List D → Option D) := if f = nm_Llaw_near then some fNear else none
theorem T_tSid_len : tSid nm_len = none := rfl
theorem T_tSid_sum : tSid nm_sum = none := rfl
theorem T_tSid_sorted : tSid nm_sorted = none := rfl
theorem T_tSid_max : tSid nm_max = none := rfl
theorem T_tSid_min : tSid nm_min = none := rfl
theorem T_tSid_range : tSid nm_range = none := rfl
theorem T_tSid_isinstance : tSid nm_isinstance = none := rfl
theorem T_tSid_Llaw_near : tSid nm_Llaw_near = some fNear := rfl
noncomputable def kSid : Know := k0 (fun x => x = nm_piece || x = nm_far || x = nm_waiting) tSid (fun _ => none)
noncomputable def bdSid : DenS := (den kSid 30).Ss kf_8 sf_8 (bodyAt topB 8)
noncomputable def fSid : List D → Option D := fnD bdSid [nm_ties] [] 1
structure SidSt (T : List Tie) (R : List Rec) (ρ : Rho) : Prop where
  piece : ρ nm_piece = some (.own (pieceR R))
  far : ρ nm_far = some (.own (farR R))
  ties : ρ nm_ties = some (.frz (.lst (T.map tieD)))
theorem SidSt.upd {T : List Tie} {R : List Rec} {ρ : Rho} (S : SidSt T R ρ) (x : Str) (b : Bd) (hx : x ≠ nm_piece ∧ x ≠ nm_far ∧ x ≠ nm_ties) : SidSt T R (Mine.upd ρ x b) :=
  ⟨by rw [upd_at, if_neg (Ne.symm hx.1)]; exact S.piece, by rw [upd_at, if_neg (Ne.symm hx.2.1)]; exact S.far, by rw [upd_at, if_neg (Ne.symm hx.2.2)]; exact S.ties⟩
noncomputable def keyL (Q : List Rec) : D := .lst (Q.map fun r : Rec => .int (r.1 : Int))
abbrev SidA (T : List Tie) : List D → Rho → Prop := fun ds ρ => ∃ n k R, n + k = 6 ∧ ds = (List.range' n k).map (fun v : Nat => D.int (v : Int)) ∧ Done T R ∧ (∀ u, u < n → u ∈ keysR R) ∧ SidSt T R ρ
abbrev SidB (T : List Tie) (n : Nat) (R : List Rec) : Nat → Nat → List D → Rho → Prop := fun k i ds ρ => ∃ Q, ds = Q.map (fun r : Rec => D.int (r.1 : Int)) ∧ i ≤ Q.length ∧ k = 6 - i ∧ Bfs T n R Q i ∧ SidSt T (R ++ Q) ρ ∧ ρ nm_first = some (.frz (.int (n : Int))) ∧ ρ nm_waiting = some (.own (keyL Q))
abbrev SidC (T : List Tie) (n : Nat) (R : List Rec) (i : Nat) (h : Rec) : List D → Rho → Prop := fun ds ρ => ∃ Q t1 t2, near T h.1 = t1 ++ t2 ∧ ds = t2.map (fun v : Nat => D.int (v : Int)) ∧ Q[i]? = some h ∧ Bfs T n R Q i ∧ (∀ v ∈ t1, ∃ s ∈ Q, s.1 = v ∧ s.2.2 ≤ h.2.2 + 1) ∧ SidSt T (R ++ Q) ρ ∧ ρ nm_first = some (.frz (.int (n : Int))) ∧ ρ nm_waiting = some (.own (keyL Q)) ∧ ρ nm_here = some (.frz (.int (h.1 : Int)))
theorem sid_run (T : List Tie) : Run bdSid (rho0 [nm_ties] [.frz (.lst (T.map tieD))]) (fun fl _ => ∃ R, Done T R ∧ (∀ v, v < 6 → v ∈ keysR R) ∧ fl = .ret (.tup [pieceR R, farR R])) := by
  unfold bdSid
  have h : bodyAt topB 8 = bodyAt topB 8 := rfl
  conv at h => rhs; whnf
  rw [h]
  clear h
  dsimp only [ofs_ValueError, ofs_UUclassdictUU, ofs_UUdebugUU, ofs_UUnameUU, ofs_Llaw_near, ofs_Llaw_sides, ofs_Llaw_walks, ofs_a, ofs_add_callers, ofs_after, ofs_append, ofs_b, ofs_bad, ofs_bisect_left, ofs_caller, ofs_callers, ofs_calls, ofs_count_calls, ofs_far, ofs_first, ofs_func, ofs_get, ofs_here, ofs_hi, ofs_i, ofs_insert, ofs_insort_left, ofs_isinstance, ofs_items, ofs_j, ofs_key, ofs_law, ofs_len, ofs_lo, ofs_max, ofs_mid, ofs_min, ofs_more, ofs_nc, ofs_new_callers, ofs_number, ofs_odd, ofs_often, ofs_one, ofs_other, ofs_pairs, ofs_piece, ofs_place, ofs_range, ofs_script, ofs_sorted, ofs_source, ofs_steps, ofs_sum, ofs_table, ofs_target, ofs_there, ofs_tie, ofs_ties, ofs_tuple, ofs_turn, ofs_values, ofs_waiting, ofs_ways, ofs_word, ofs_x, ofs_zip, den_Ss, den_S, den_E, den_I, den_B, E_int, E_str, E_bool, E_none, E_name, E_bin, E_cmp, E_andV, E_ifexp, E_tup, E_lst, E_upto, E_sub_name, E_sub_con, E_sub_bin, E_sub_sub, E_sub_call, E_dict0, E_dict1, E_comp, E_call, E_meth, N_isi, B_and0, B_and, B_or0, B_or, B_cmp, B_call, I_call2, I_name, I_lst, I_tup, I_sub, I_bin, I_items, S_assignC, S_assign_name, S_assign_con, S_assign_bin, S_assign_call, S_assign_sub, S_assign_cmp, S_assign_ifx, S_assign_lst, S_assign_tup, S_assign_dict, S_assign_boo, S_tup, S_unpack_call, S_setSub, S_augSub, S_augName, S_if, S_while, S_for_name, S_for_call, S_for_lst, S_for_tup, S_for_sub, S_ret, S_retNone, S_mut, Ss_nil, Ss_cons, L_nil, L_cons, dTests_nil, dTests_cons, N1_len, N1_sum, N1_sorted, N1_max, N1_min, N2_max, N2_min, N2_isi, I_range, I_items0, I_values, S_appendN, S_insertN, k0_T, k0_M, k0_mu, k0_K, S_k0, callE, bMut, T_tSid_len, T_tSid_sum, T_tSid_sorted, T_tSid_max, T_tSid_min, T_tSid_range, T_tSid_isinstance, T_tSid_Llaw_near, kSid]
  simp only [List.map_cons, List.map_nil, List.cons_append, List.nil_append, rho0_cons]
  have capE : cap = 200 := rfl
  refine run_seq (run_eq .next (upd (upd (upd (rho0 [] []) nm_ties (.frz (.lst (T.map tieD)))) nm_far (.own (.idict [] []))) nm_piece (.own (.idict [] []))) ?_ ?_)
  · exact q_swap (names := [nm_piece, nm_far]) (xs := [(true, .idict [] []), (true, .idict [] [])]) (by decide +kernel) ⟨rfl, rfl, by decide +kernel, by decide⟩ (by decide +kernel) (q_hold rfl rfl rfl (q_hold rfl rfl rfl rfl)) (q_stores (q_name1 (by decide +kernel)) (q_stores (q_name1 (by decide +kernel)) rfl))
  refine run_seq (run_for ((List.range 6).map fun v : Nat => .int (v : Int)) ((q_range (k := 6) (fl := .frozen) (by decide +kernel) rfl (by decide)).trans (congrArg some range6)) (SidA T) ⟨0, 6, [], rfl, rfl, ⟨List.nodup_nil, fun _ h => (nomatch h), fun _ h => (nomatch h), fun _ h => (nomatch h), fun _ h => (nomatch h)⟩, fun u hu => absurd hu (Nat.not_lt_zero u), ⟨rfl, rfl, rfl⟩⟩ ?_ ?_)
  · rintro d ds ρ ⟨n, k, R, hnk, hds, D, hb, S⟩
    cases k with
    | zero => cases hds
    | succ k =>
    rw [List.range'_succ] at hds
    cases hds
    have hn : n < 6 := by exact om_88 hnk
    refine ⟨upd ρ nm_first (.frz (.int (n : Int))), rfl, ?_⟩
    have S1 := S.upd nm_first (.frz (.int (n : Int))) (by decide)
    have f1 : upd ρ nm_first (.frz (.int (n : Int))) nm_first = some (.frz (.int (n : Int))) := rfl
    generalize upd ρ nm_first (.frz (.int (n : Int))) = ρ at S1 f1
    have hc : cmpD .NotIn (.int (n : Int)) (farR R) = some (decide (n ∉ keysR R)) := rec_notin (fun r : Rec => .int (r.2.2 : Int)) R n
    refine run_seq (run_if (decide (n ∉ keysR R)) (q_cmp rfl (nmF f1 _ (by decide +kernel)) (nmO S1.far _ (by decide +kernel)) hc) ?_)
    by_cases hk : n ∈ keysR R
    · rw [decide_eq_false (fun q => q hk)]
      refine run_nil (run_nil ⟨n + 1, k, R, by exact om_89 hnk, rfl, D, fun u hu => ?_, S1⟩)
      by_cases q : u < n
      · exact hb u q
      · have : u = n := by exact om_86 hu q
        exact this ▸ hk
    · rw [decide_eq_true hk]
      have p1 : putD (fitD (pieceR R) (.int (n : Int))) (.int (n : Int)) (.int (n : Int)) = some (pieceR (R ++ [(n, n, 0)])) := rec_put (fun r : Rec => .int (r.2.1 : Int)) R (n, n, 0) hk (by have := D.len; exact om_90 capE this)
      have p2 : putD (fitD (farR R) (.int (n : Int))) (.int (n : Int)) (.int 0) = some (farR (R ++ [(n, n, 0)])) := rec_put (fun r : Rec => .int (r.2.2 : Int)) R (n, n, 0) hk (by have := D.len; exact om_90 capE this)
      refine run_seq (run_eq .next (upd (upd (upd ρ nm_piece (.own (pieceR (R ++ [(n, n, 0)])))) nm_far (.own (farR (R ++ [(n, n, 0)])))) nm_waiting (.own (keyL [(n, n, 0)]))) ?_ ?_)
      · refine q_tupA (xs := [(false, .int (n : Int)), (false, .int 0), (true, keyL [(n, n, 0)])]) ⟨rfl, rfl, by decide +kernel, by decide⟩ (q_hold (f := .frozen) rfl ?_ rfl (q_hold (f := .frozen) rfl rfl rfl (q_hold (f := .fresh) rfl ?_ rfl rfl))) (q_stores (q_stS (q_store (by decide +kernel) (q_frz ?_ frz_nl) S1.piece p1)) (q_stores (q_stS (q_store (by decide +kernel) (q_frz ?_ frz_nl) S1.far p2)) (q_stores (q_stN (by decide +kernel)) rfl)))
        · dsimp only [ofs_ValueError, ofs_UUclassdictUU, ofs_UUdebugUU, ofs_UUnameUU, ofs_Llaw_near, ofs_Llaw_sides, ofs_Llaw_walks, ofs_a, ofs_add_callers, ofs_after, ofs_append, ofs_b, ofs_bad, ofs_bisect_left, ofs_caller, ofs_callers, ofs_calls, ofs_count_calls, ofs_far, ofs_first, ofs_func, ofs_get, ofs_here, ofs_hi, ofs_i, ofs_insert, ofs_insort_left, ofs_isinstance, ofs_items, ofs_j, ofs_key, ofs_law, ofs_len, ofs_lo, ofs_max, ofs_mid, ofs_min, ofs_more, ofs_nc, ofs_new_callers, ofs_number, ofs_odd, ofs_often, ofs_one, ofs_other, ofs_pairs, ofs_piece, ofs_place, ofs_range, ofs_script, ofs_sorted, ofs_source, ofs_steps, ofs_sum, ofs_table, ofs_target, ofs_there, ofs_tie, ofs_ties, ofs_tuple, ofs_turn, ofs_values, ofs_waiting, ofs_ways, ofs_word, ofs_x, ofs_zip, den_Ss, den_S, den_E, den_I, den_B, E_int, E_str, E_bool, E_none, E_name, E_bin, E_cmp, E_andV, E_ifexp, E_tup, E_lst, E_upto, E_sub_name, E_sub_con, E_sub_bin, E_sub_sub, E_sub_call, E_dict0, E_dict1, E_comp, E_call, E_meth, N_isi, B_and0, B_and, B_or0, B_or, B_cmp, B_call, I_call2, I_name, I_lst, I_tup, I_sub, I_bin, I_items, S_assignC, S_assign_name, S_assign_con, S_assign_bin, S_assign_call, S_assign_sub, S_assign_cmp, S_assign_ifx, S_assign_lst, S_assign_tup, S_assign_dict, S_assign_boo, S_tup, S_unpack_call, S_setSub, S_augSub, S_augName, S_if, S_while, S_for_name, S_for_call, S_for_lst, S_for_tup, S_for_sub, S_ret, S_retNone, S_mut, Ss_nil, Ss_cons, L_nil, L_cons, dTests_nil, dTests_cons, N1_len, N1_sum, N1_sorted, N1_max, N1_min, N2_max, N2_min, N2_isi, I_range, I_items0, I_values, S_appendN, S_insertN, k0_T, k0_M, k0_mu, k0_K, S_k0, callE, bMut, T_tSid_len, T_tSid_sum, T_tSid_sorted, T_tSid_max, T_tSid_min, T_tSid_range, T_tSid_isinstance, T_tSid_Llaw_near]
          exact nmF f1 _ (by decide +kernel)
        · dsimp only [ofs_ValueError, ofs_UUclassdictUU, ofs_UUdebugUU, ofs_UUnameUU, ofs_Llaw_near, ofs_Llaw_sides, ofs_Llaw_walks, ofs_a, ofs_add_callers, ofs_after, ofs_append, ofs_b, ofs_bad, ofs_bisect_left, ofs_caller, ofs_callers, ofs_calls, ofs_count_calls, ofs_far, ofs_first, ofs_func, ofs_get, ofs_here, ofs_hi, ofs_i, ofs_insert, ofs_insort_left, ofs_isinstance, ofs_items, ofs_j, ofs_key, ofs_law, ofs_len, ofs_lo, ofs_max, ofs_mid, ofs_min, ofs_more, ofs_nc, ofs_new_callers, ofs_number, ofs_odd, ofs_often, ofs_one, ofs_other, ofs_pairs, ofs_piece, ofs_place, ofs_range, ofs_script, ofs_sorted, ofs_source, ofs_steps, ofs_sum, ofs_table, ofs_target, ofs_there, ofs_tie, ofs_ties, ofs_tuple, ofs_turn, ofs_values, ofs_waiting, ofs_ways, ofs_word, ofs_x, ofs_zip, den_Ss, den_S, den_E, den_I, den_B, E_int, E_str, E_bool, E_none, E_name, E_bin, E_cmp, E_andV, E_ifexp, E_tup, E_lst, E_upto, E_sub_name, E_sub_con, E_sub_bin, E_sub_sub, E_sub_call, E_dict0, E_dict1, E_comp, E_call, E_meth, N_isi, B_and0, B_and, B_or0, B_or, B_cmp, B_call, I_call2, I_name, I_lst, I_tup, I_sub, I_bin, I_items, S_assignC, S_assign_name, S_assign_con, S_assign_bin, S_assign_call, S_assign_sub, S_assign_cmp, S_assign_ifx, S_assign_lst, S_assign_tup, S_assign_dict, S_assign_boo, S_tup, S_unpack_call, S_setSub, S_augSub, S_augName, S_if, S_while, S_for_name, S_for_call, S_for_lst, S_for_tup, S_for_sub, S_ret, S_retNone, S_mut, Ss_nil, Ss_cons, L_nil, L_cons, dTests_nil, dTests_cons, N1_len, N1_sum, N1_sorted, N1_max, N1_min, N2_max, N2_min, N2_isi, I_range, I_items0, I_values, S_appendN, S_insertN, k0_T, k0_M, k0_mu, k0_K, S_k0, callE, bMut, T_tSid_len, T_tSid_sum, T_tSid_sorted, T_tSid_max, T_tSid_min, T_tSid_range, T_tSid_isinstance, T_tSid_Llaw_near]
          exact q_lst (xs := [(.frozen, .int (n : Int))]) (q_cons rfl (nmF f1 _ (by decide +kernel)) q_nil) ⟨rfl, Nat.le_of_ble_eq_true rfl⟩
        · dsimp only [ofs_ValueError, ofs_UUclassdictUU, ofs_UUdebugUU, ofs_UUnameUU, ofs_Llaw_near, ofs_Llaw_sides, ofs_Llaw_walks, ofs_a, ofs_add_callers, ofs_after, ofs_append, ofs_b, ofs_bad, ofs_bisect_left, ofs_caller, ofs_callers, ofs_calls, ofs_count_calls, ofs_far, ofs_first, ofs_func, ofs_get, ofs_here, ofs_hi, ofs_i, ofs_insert, ofs_insort_left, ofs_isinstance, ofs_items, ofs_j, ofs_key, ofs_law, ofs_len, ofs_lo, ofs_max, ofs_mid, ofs_min, ofs_more, ofs_nc, ofs_new_callers, ofs_number, ofs_odd, ofs_often, ofs_one, ofs_other, ofs_pairs, ofs_piece, ofs_place, ofs_range, ofs_script, ofs_sorted, ofs_source, ofs_steps, ofs_sum, ofs_table, ofs_target, ofs_there, ofs_tie, ofs_ties, ofs_tuple, ofs_turn, ofs_values, ofs_waiting, ofs_ways, ofs_word, ofs_x, ofs_zip, den_Ss, den_S, den_E, den_I, den_B, E_int, E_str, E_bool, E_none, E_name, E_bin, E_cmp, E_andV, E_ifexp, E_tup, E_lst, E_upto, E_sub_name, E_sub_con, E_sub_bin, E_sub_sub, E_sub_call, E_dict0, E_dict1, E_comp, E_call, E_meth, N_isi, B_and0, B_and, B_or0, B_or, B_cmp, B_call, I_call2, I_name, I_lst, I_tup, I_sub, I_bin, I_items, S_assignC, S_assign_name, S_assign_con, S_assign_bin, S_assign_call, S_assign_sub, S_assign_cmp, S_assign_ifx, S_assign_lst, S_assign_tup, S_assign_dict, S_assign_boo, S_tup, S_unpack_call, S_setSub, S_augSub, S_augName, S_if, S_while, S_for_name, S_for_call, S_for_lst, S_for_tup, S_for_sub, S_ret, S_retNone, S_mut, Ss_nil, Ss_cons, L_nil, L_cons, dTests_nil, dTests_cons, N1_len, N1_sum, N1_sorted, N1_max, N1_min, N2_max, N2_min, N2_isi, I_range, I_items0, I_values, S_appendN, S_insertN, k0_T, k0_M, k0_mu, k0_K, S_k0, callE, bMut, T_tSid_len, T_tSid_sum, T_tSid_sorted, T_tSid_max, T_tSid_min, T_tSid_range, T_tSid_isinstance, T_tSid_Llaw_near]
          exact nmF f1 _ (by decide +kernel)
        · dsimp only [ofs_ValueError, ofs_UUclassdictUU, ofs_UUdebugUU, ofs_UUnameUU, ofs_Llaw_near, ofs_Llaw_sides, ofs_Llaw_walks, ofs_a, ofs_add_callers, ofs_after, ofs_append, ofs_b, ofs_bad, ofs_bisect_left, ofs_caller, ofs_callers, ofs_calls, ofs_count_calls, ofs_far, ofs_first, ofs_func, ofs_get, ofs_here, ofs_hi, ofs_i, ofs_insert, ofs_insort_left, ofs_isinstance, ofs_items, ofs_j, ofs_key, ofs_law, ofs_len, ofs_lo, ofs_max, ofs_mid, ofs_min, ofs_more, ofs_nc, ofs_new_callers, ofs_number, ofs_odd, ofs_often, ofs_one, ofs_other, ofs_pairs, ofs_piece, ofs_place, ofs_range, ofs_script, ofs_sorted, ofs_source, ofs_steps, ofs_sum, ofs_table, ofs_target, ofs_there, ofs_tie, ofs_ties, ofs_tuple, ofs_turn, ofs_values, ofs_waiting, ofs_ways, ofs_word, ofs_x, ofs_zip, den_Ss, den_S, den_E, den_I, den_B, E_int, E_str, E_bool, E_none, E_name, E_bin, E_cmp, E_andV, E_ifexp, E_tup, E_lst, E_upto, E_sub_name, E_sub_con, E_sub_bin, E_sub_sub, E_sub_call, E_dict0, E_dict1, E_comp, E_call, E_meth, N_isi, B_and0, B_and, B_or0, B_or, B_cmp, B_call, I_call2, I_name, I_lst, I_tup, I_sub, I_bin, I_items, S_assignC, S_assign_name, S_assign_con, S_assign_bin, S_assign_call, S_assign_sub, S_assign_cmp, S_assign_ifx, S_assign_lst, S_assign_tup, S_assign_dict, S_assign_boo, S_tup, S_unpack_call, S_setSub, S_augSub, S_augName, S_if, S_while, S_for_name, S_for_call, S_for_lst, S_for_tup, S_for_sub, S_ret, S_retNone, S_mut, Ss_nil, Ss_cons, L_nil, L_cons, dTests_nil, dTests_cons, N1_len, N1_sum, N1_sorted, N1_max, N1_min, N2_max, N2_min, N2_isi, I_range, I_items0, I_values, S_appendN, S_insertN, k0_T, k0_M, k0_mu, k0_K, S_k0, callE, bMut, T_tSid_len, T_tSid_sum, T_tSid_sorted, T_tSid_max, T_tSid_min, T_tSid_range, T_tSid_isinstance, T_tSid_Llaw_near]
          exact nmF f1 _ (by decide +kernel)
      have S2 : SidSt T (R ++ [(n, n, 0)]) (upd (upd (upd ρ nm_piece (.own (pieceR (R ++ [(n, n, 0)])))) nm_far (.own (farR (R ++ [(n, n, 0)])))) nm_waiting (.own (keyL [(n, n, 0)]))) := ⟨rfl, rfl, S1.ties⟩
      refine run_seq (run_own rfl (run_grow ⟨rfl, rfl⟩ (SidB T n R) ⟨6, [.int (n : Int)], by decide, [(n, n, 0)], rfl, Nat.zero_le _, rfl, Bfs.start hn D.nd hk, S2, f1, rfl⟩ ?_ ?_ ?_))
      · rintro k i ds ρ ⟨Q, rfl, _, _, _, _, _, w⟩
        exact w
      · rintro k2 i ds ρ d ⟨Q, rfl, hi, hk2, B, S3, f3, w3⟩ hd
        rw [List.getElem?_map] at hd
        obtain ⟨h, hQ, rfl⟩ := Option.map_eq_some_iff.mp hd
        refine ⟨upd ρ nm_here (.frz (.int (h.1 : Int))), rfl, ?_⟩
        have S4 := S3.upd nm_here (.frz (.int (h.1 : Int))) (by decide)
        have h4 : upd ρ nm_here (.frz (.int (h.1 : Int))) nm_here = some (.frz (.int (h.1 : Int))) := rfl
        refine run_seq (run_for ((near T h.1).map fun v : Nat => .int (v : Int)) (q_list (q_call (by decide +kernel) (q_cons rfl (nmF S4.ties _ (by decide +kernel)) (q_cons rfl (nmF h4 _ (by decide +kernel)) q_nil)) (near_ok T h.1) rfl) rfl (by decide)) (SidC T n R i h) ⟨Q, [], near T h.1, rfl, rfl, hQ, B, fun _ h => (nomatch h), S4, f3, w3, h4⟩ ?_ ?_)
        · rintro d ds ρ ⟨Q, t1, t2, e1, e2, hQ, B, hp, S5, f5, w5, h5⟩
          cases t2 with
          | nil => cases e2
          | cons v t2 =>
          cases e2
          refine ⟨upd ρ nm_there (.frz (.int (v : Int))), rfl, ?_⟩
          have S6 := S5.upd nm_there (.frz (.int (v : Int))) (by decide)
          have t6 : upd ρ nm_there (.frz (.int (v : Int))) nm_there = some (.frz (.int (v : Int))) := rfl
          have f6 : upd ρ nm_there (.frz (.int (v : Int))) nm_first = some (.frz (.int (n : Int))) := f5
          have w6 : upd ρ nm_there (.frz (.int (v : Int))) nm_waiting = some (.own (keyL Q)) := w5
          have h6 : upd ρ nm_there (.frz (.int (v : Int))) nm_here = some (.frz (.int (h.1 : Int))) := h5
          generalize upd ρ nm_there (.frz (.int (v : Int))) = ρ at S6 t6 f6 w6 h6
          have hv : v ∈ near T h.1 := by rw [e1]; simp
          have hc : cmpD .NotIn (.int (v : Int)) (farR (R ++ Q)) = some (decide (v ∉ keysR (R ++ Q))) := rec_notin (fun r : Rec => .int (r.2.2 : Int)) (R ++ Q) v
          refine run_seq (run_if (decide (v ∉ keysR (R ++ Q))) (q_cmp rfl (nmF t6 _ (by decide +kernel)) (nmO S6.far _ (by decide +kernel)) hc) ?_)
          by_cases hk : v ∈ keysR (R ++ Q)
          · rw [decide_eq_false (fun q => q hk)]
            refine run_nil (run_nil ⟨Q, t1 ++ [v], t2, by rw [e1]; simp, rfl, hQ, B, fun u hu => ?_, S6, f6, w6, h6⟩)
            rcases List.mem_append.mp hu with q | q
            · exact hp u q
            · rw [List.mem_singleton.mp q]; exact B.hit D hQ hv hk
          · rw [decide_eq_true hk]
            have hl := B.len D
            have hm : h ∈ R ++ Q := List.mem_append_right _ (List.mem_of_getElem? hQ)
            have g1 : itemD (farR (R ++ Q)) (.int (h.1 : Int)) = some (.int (h.2.2 : Int)) := rec_get _ (R ++ Q) h hm B.nd
            have p1 : putD (fitD (pieceR (R ++ Q)) (.int (v : Int))) (.int (v : Int)) (.int (n : Int)) = some (pieceR ((R ++ Q) ++ [(v, n, h.2.2 + 1)])) := rec_put (fun r : Rec => .int (r.2.1 : Int)) (R ++ Q) (v, n, h.2.2 + 1) hk (by exact om_90 capE hl)
            have p2 : putD (fitD (farR (R ++ Q)) (.int (v : Int))) (.int (v : Int)) (.int ((h.2.2 + 1 : Nat) : Int)) = some (farR ((R ++ Q) ++ [(v, n, h.2.2 + 1)])) := rec_put (fun r : Rec => .int (r.2.2 : Int)) (R ++ Q) (v, n, h.2.2 + 1) hk (by exact om_90 capE hl)
            rw [List.append_assoc] at p1 p2
            refine run_seq (run_eq .next (upd (upd ρ nm_piece (.own (pieceR (R ++ (Q ++ [(v, n, h.2.2 + 1)]))))) nm_far (.own (farR (R ++ (Q ++ [(v, n, h.2.2 + 1)]))))) ?_ ?_)
            · refine q_tupA (xs := [(false, .int (n : Int)), (false, .int (((h.2.2 + 1 : Nat)) : Int))]) ⟨rfl, rfl, by decide +kernel, by decide⟩ (q_hold (f := .frozen) rfl ?_ rfl (q_hold (f := .frozen) rfl ?_ rfl rfl)) (q_stores (q_stS (q_store (by decide +kernel) (q_frz ?_ frz_nl) S6.piece p1)) (q_stores (q_stS (q_store (by decide +kernel) (q_frz ?_ frz_nl) S6.far p2)) rfl))
              · dsimp only [ofs_ValueError, ofs_UUclassdictUU, ofs_UUdebugUU, ofs_UUnameUU, ofs_Llaw_near, ofs_Llaw_sides, ofs_Llaw_walks, ofs_a, ofs_add_callers, ofs_after, ofs_append, ofs_b, ofs_bad, ofs_bisect_left, ofs_caller, ofs_callers, ofs_calls, ofs_count_calls, ofs_far, ofs_first, ofs_func, ofs_get, ofs_here, ofs_hi, ofs_i, ofs_insert, ofs_insort_left, ofs_isinstance, ofs_items, ofs_j, ofs_key, ofs_law, ofs_len, ofs_lo, ofs_max, ofs_mid, ofs_min, ofs_more, ofs_nc, ofs_new_callers, ofs_number, ofs_odd, ofs_often, ofs_one, ofs_other, ofs_pairs, ofs_piece, ofs_place, ofs_range, ofs_script, ofs_sorted, ofs_source, ofs_steps, ofs_sum, ofs_table, ofs_target, ofs_there, ofs_tie, ofs_ties, ofs_tuple, ofs_turn, ofs_values, ofs_waiting, ofs_ways, ofs_word, ofs_x, ofs_zip, den_Ss, den_S, den_E, den_I, den_B, E_int, E_str, E_bool, E_none, E_name, E_bin, E_cmp, E_andV, E_ifexp, E_tup, E_lst, E_upto, E_sub_name, E_sub_con, E_sub_bin, E_sub_sub, E_sub_call, E_dict0, E_dict1, E_comp, E_call, E_meth, N_isi, B_and0, B_and, B_or0, B_or, B_cmp, B_call, I_call2, I_name, I_lst, I_tup, I_sub, I_bin, I_items, S_assignC, S_assign_name, S_assign_con, S_assign_bin, S_assign_call, S_assign_sub, S_assign_cmp, S_assign_ifx, S_assign_lst, S_assign_tup, S_assign_dict, S_assign_boo, S_tup, S_unpack_call, S_setSub, S_augSub, S_augName, S_if, S_while, S_for_name, S_for_call, S_for_lst, S_for_tup, S_for_sub, S_ret, S_retNone, S_mut, Ss_nil, Ss_cons, L_nil, L_cons, dTests_nil, dTests_cons, N1_len, N1_sum, N1_sorted, N1_max, N1_min, N2_max, N2_min, N2_isi, I_range, I_items0, I_values, S_appendN, S_insertN, k0_T, k0_M, k0_mu, k0_K, S_k0, callE, bMut, T_tSid_len, T_tSid_sum, T_tSid_sorted, T_tSid_max, T_tSid_min, T_tSid_range, T_tSid_isinstance, T_tSid_Llaw_near]
                exact nmF f6 _ (by decide +kernel)
              · dsimp only [ofs_ValueError, ofs_UUclassdictUU, ofs_UUdebugUU, ofs_UUnameUU, ofs_Llaw_near, ofs_Llaw_sides, ofs_Llaw_walks, ofs_a, ofs_add_callers, ofs_after, ofs_append, ofs_b, ofs_bad, ofs_bisect_left, ofs_caller, ofs_callers, ofs_calls, ofs_count_calls, ofs_far, ofs_first, ofs_func, ofs_get, ofs_here, ofs_hi, ofs_i, ofs_insert, ofs_insort_left, ofs_isinstance, ofs_items, ofs_j, ofs_key, ofs_law, ofs_len, ofs_lo, ofs_max, ofs_mid, ofs_min, ofs_more, ofs_nc, ofs_new_callers, ofs_number, ofs_odd, ofs_often, ofs_one, ofs_other, ofs_pairs, ofs_piece, ofs_place, ofs_range, ofs_script, ofs_sorted, ofs_source, ofs_steps, ofs_sum, ofs_table, ofs_target, ofs_there, ofs_tie, ofs_ties, ofs_tuple, ofs_turn, ofs_values, ofs_waiting, ofs_ways, ofs_word, ofs_x, ofs_zip, den_Ss, den_S, den_E, den_I, den_B, E_int, E_str, E_bool, E_none, E_name, E_bin, E_cmp, E_andV, E_ifexp, E_tup, E_lst, E_upto, E_sub_name, E_sub_con, E_sub_bin, E_sub_sub, E_sub_call, E_dict0, E_dict1, E_comp, E_call, E_meth, N_isi, B_and0, B_and, B_or0, B_or, B_cmp, B_call, I_call2, I_name, I_lst, I_tup, I_sub, I_bin, I_items, S_assignC, S_assign_name, S_assign_con, S_assign_bin, S_assign_call, S_assign_sub, S_assign_cmp, S_assign_ifx, S_assign_lst, S_assign_tup, S_assign_dict, S_assign_boo, S_tup, S_unpack_call, S_setSub, S_augSub, S_augName, S_if, S_while, S_for_name, S_for_call, S_for_lst, S_for_tup, S_for_sub, S_ret, S_retNone, S_mut, Ss_nil, Ss_cons, L_nil, L_cons, dTests_nil, dTests_cons, N1_len, N1_sum, N1_sorted, N1_max, N1_min, N2_max, N2_min, N2_isi, I_range, I_items0, I_values, S_appendN, S_insertN, k0_T, k0_M, k0_mu, k0_K, S_k0, callE, bMut, T_tSid_len, T_tSid_sum, T_tSid_sorted, T_tSid_max, T_tSid_min, T_tSid_range, T_tSid_isinstance, T_tSid_Llaw_near]
                exact q_bin (q_sub (nmO S6.far _ (by decide +kernel)) (nmF h6 _ (by decide +kernel)) rfl g1) rfl (binD_add _ _)
              · dsimp only [ofs_ValueError, ofs_UUclassdictUU, ofs_UUdebugUU, ofs_UUnameUU, ofs_Llaw_near, ofs_Llaw_sides, ofs_Llaw_walks, ofs_a, ofs_add_callers, ofs_after, ofs_append, ofs_b, ofs_bad, ofs_bisect_left, ofs_caller, ofs_callers, ofs_calls, ofs_count_calls, ofs_far, ofs_first, ofs_func, ofs_get, ofs_here, ofs_hi, ofs_i, ofs_insert, ofs_insort_left, ofs_isinstance, ofs_items, ofs_j, ofs_key, ofs_law, ofs_len, ofs_lo, ofs_max, ofs_mid, ofs_min, ofs_more, ofs_nc, ofs_new_callers, ofs_number, ofs_odd, ofs_often, ofs_one, ofs_other, ofs_pairs, ofs_piece, ofs_place, ofs_range, ofs_script, ofs_sorted, ofs_source, ofs_steps, ofs_sum, ofs_table, ofs_target, ofs_there, ofs_tie, ofs_ties, ofs_tuple, ofs_turn, ofs_values, ofs_waiting, ofs_ways, ofs_word, ofs_x, ofs_zip, den_Ss, den_S, den_E, den_I, den_B, E_int, E_str, E_bool, E_none, E_name, E_bin, E_cmp, E_andV, E_ifexp, E_tup, E_lst, E_upto, E_sub_name, E_sub_con, E_sub_bin, E_sub_sub, E_sub_call, E_dict0, E_dict1, E_comp, E_call, E_meth, N_isi, B_and0, B_and, B_or0, B_or, B_cmp, B_call, I_call2, I_name, I_lst, I_tup, I_sub, I_bin, I_items, S_assignC, S_assign_name, S_assign_con, S_assign_bin, S_assign_call, S_assign_sub, S_assign_cmp, S_assign_ifx, S_assign_lst, S_assign_tup, S_assign_dict, S_assign_boo, S_tup, S_unpack_call, S_setSub, S_augSub, S_augName, S_if, S_while, S_for_name, S_for_call, S_for_lst, S_for_tup, S_for_sub, S_ret, S_retNone, S_mut, Ss_nil, Ss_cons, L_nil, L_cons, dTests_nil, dTests_cons, N1_len, N1_sum, N1_sorted, N1_max, N1_min, N2_max, N2_min, N2_isi, I_range, I_items0, I_values, S_appendN, S_insertN, k0_T, k0_M, k0_mu, k0_K, S_k0, callE, bMut, T_tSid_len, T_tSid_sum, T_tSid_sorted, T_tSid_max, T_tSid_min, T_tSid_range, T_tSid_isinstance, T_tSid_Llaw_near]
                exact nmF t6 _ (by decide +kernel)
              · dsimp only [ofs_ValueError, ofs_UUclassdictUU, ofs_UUdebugUU, ofs_UUnameUU, ofs_Llaw_near, ofs_Llaw_sides, ofs_Llaw_walks, ofs_a, ofs_add_callers, ofs_after, ofs_append, ofs_b, ofs_bad, ofs_bisect_left, ofs_caller, ofs_callers, ofs_calls, ofs_count_calls, ofs_far, ofs_first, ofs_func, ofs_get, ofs_here, ofs_hi, ofs_i, ofs_insert, ofs_insort_left, ofs_isinstance, ofs_items, ofs_j, ofs_key, ofs_law, ofs_len, ofs_lo, ofs_max, ofs_mid, ofs_min, ofs_more, ofs_nc, ofs_new_callers, ofs_number, ofs_odd, ofs_often, ofs_one, ofs_other, ofs_pairs, ofs_piece, ofs_place, ofs_range, ofs_script, ofs_sorted, ofs_source, ofs_steps, ofs_sum, ofs_table, ofs_target, ofs_there, ofs_tie, ofs_ties, ofs_tuple, ofs_turn, ofs_values, ofs_waiting, ofs_ways, ofs_word, ofs_x, ofs_zip, den_Ss, den_S, den_E, den_I, den_B, E_int, E_str, E_bool, E_none, E_name, E_bin, E_cmp, E_andV, E_ifexp, E_tup, E_lst, E_upto, E_sub_name, E_sub_con, E_sub_bin, E_sub_sub, E_sub_call, E_dict0, E_dict1, E_comp, E_call, E_meth, N_isi, B_and0, B_and, B_or0, B_or, B_cmp, B_call, I_call2, I_name, I_lst, I_tup, I_sub, I_bin, I_items, S_assignC, S_assign_name, S_assign_con, S_assign_bin, S_assign_call, S_assign_sub, S_assign_cmp, S_assign_ifx, S_assign_lst, S_assign_tup, S_assign_dict, S_assign_boo, S_tup, S_unpack_call, S_setSub, S_augSub, S_augName, S_if, S_while, S_for_name, S_for_call, S_for_lst, S_for_tup, S_for_sub, S_ret, S_retNone, S_mut, Ss_nil, Ss_cons, L_nil, L_cons, dTests_nil, dTests_cons, N1_len, N1_sum, N1_sorted, N1_max, N1_min, N2_max, N2_min, N2_isi, I_range, I_items0, I_values, S_appendN, S_insertN, k0_T, k0_M, k0_mu, k0_K, S_k0, callE, bMut, T_tSid_len, T_tSid_sum, T_tSid_sorted, T_tSid_max, T_tSid_min, T_tSid_range, T_tSid_isinstance, T_tSid_Llaw_near]
                exact nmF t6 _ (by decide +kernel)
            have a1 : appD (keyL Q) (.int (v : Int)) = some (keyL (Q ++ [(v, n, h.2.2 + 1)])) := (if_pos (by rw [List.length_map]; rw [List.length_append] at hl; exact om_91 capE hl)).trans (by rw [keyL, List.map_append]; rfl)
            refine run_seq (run_eq .next (upd (upd (upd ρ nm_piece (.own (pieceR (R ++ (Q ++ [(v, n, h.2.2 + 1)]))))) nm_far (.own (farR (R ++ (Q ++ [(v, n, h.2.2 + 1)]))))) nm_waiting (.own (keyL (Q ++ [(v, n, h.2.2 + 1)])))) (q_append (by decide +kernel) (q_frz (nmF t6 _ (by decide +kernel)) frz_nl) w6 a1) ?_)
            have hQ' : (Q ++ [(v, n, h.2.2 + 1)])[i]? = some h := by rw [List.getElem?_append_left (List.getElem?_eq_some_iff.mp hQ).1]; exact hQ
            refine run_nil (run_nil ⟨Q ++ [(v, n, h.2.2 + 1)], t1 ++ [v], t2, by rw [e1]; simp, rfl, hQ', B.add hQ hv hk hb, fun u hu => ?_, ⟨rfl, rfl, S6.ties⟩, f6, rfl, h6⟩)
            rcases List.mem_append.mp hu with q | q
            · obtain ⟨s, hs, h1⟩ := hp u q
              exact ⟨s, List.mem_append_left _ hs, h1⟩
            · rw [List.mem_singleton.mp q]; exact ⟨_, List.mem_append_right _ List.mem_cons_self, rfl, Nat.le_refl _⟩
        · rintro ρ ⟨Q, t1, t2, e1, e2, hQ, B, hp, S5, f5, w5, h5⟩
          cases t2 with
          | cons v t2 => cases e2
          | nil =>
          rw [List.append_nil] at e1
          have hil := (List.getElem?_eq_some_iff.mp hQ).1
          have hl := B.len D
          rw [List.length_append] at hl
          exact run_nil ⟨6 - (i + 1), _, by exact om_92 hk2 hil hl, Q, rfl, hil, rfl, B.next hQ fun v hv => hp v (e1 ▸ hv), S5, f5, w5⟩
      · rintro k2 i ds ρ ⟨Q, rfl, hi, hk2, B, S3, f3, w3⟩ hd
        rw [List.getElem?_map, Option.map_eq_none_iff, List.getElem?_eq_none_iff] at hd
        have hne : n ∈ (R ++ Q).map (·.1) := by rw [List.map_append]; exact List.mem_append_right _ B.root
        refine run_nil (run_nil ⟨n + 1, k, R ++ Q, by exact om_89 hnk, rfl, B.done D hd, fun u hu => ?_, S3⟩)
        show u ∈ (R ++ Q).map (·.1)
        by_cases q : u < n
        · rw [List.map_append]; exact List.mem_append_left _ (hb u q)
        · have : u = n := by exact om_86 hu q
          exact this ▸ hne
  · rintro ρ ⟨n, k, R, hnk, hds, D, hb, S⟩
    cases k with
    | succ k => rw [List.range'_succ] at hds; cases hds
    | zero =>
    refine run_seq (run_ret (.fresh, .tup [pieceR R, farR R]) (q_tup (xs := [(.frozen, pieceR R), (.frozen, farR R)]) (q_cons rfl (nmF (lay_own S.piece) _ (by decide +kernel)) (q_cons rfl (nmF (lay_own S.far) _ (by decide +kernel)) q_nil)) ⟨rfl, Nat.le_of_ble_eq_true rfl⟩) fre_nl ?_)
    exact ⟨R, D, fun v hv => hb v (by exact om_93 hnk hv), rfl⟩
theorem sid_ok (T : List Tie) : ∃ R, Done T R ∧ (∀ v, v < 6 → v ∈ keysR R) ∧ fSid [.lst (T.map tieD)] = some (.tup [pieceR R, farR R]) := by
  obtain ⟨fl, ρ', e, R, D, hv, rfl⟩ := sid_run T
  exact ⟨R, D, hv, fn_run rfl ⟨_, ρ', e, rfl⟩⟩
end Mine
end
section
open PySem PySem.W PyProof.Rows PySem.Spec PySem.SeqAt
set_option maxRecDepth 100000
set_option linter.all false
namespace Mine
/-! ## _law_walks: rows (place, how often) -/
abbrev Wt := List (Nat × Int)
noncomputable def wkey (v : Nat) : List Scal := [.str "at", .int (v : Int), .str "end"]
noncomputable def rowW (w : Wt) : Row := w.map fun e => (wkey e.1, e.2)
noncomputable def lin (w : Wt) (f : Nat → Int) : Int := (w.map fun e => e.2 * f e.1).sum
noncomputable def bumpN (w : Wt) (k : Nat) (x : Int) : Wt := if k ∈ w.map (·.1) then w.map fun p => if p.1 = k then (p.1, p.2 + x) else p else w ++ [(k, x)]
noncomputable def opA (T : List Tie) (f : Nat → Int) (u : Nat) : Int := ((near T u).map f).sum
noncomputable def opN (T : List Tie) : Nat → (Nat → Int) → Nat → Int
  | 0, f => f
  | s + 1, f => opN T s (opA T f)
theorem wkey_inj {u v : Nat} (h : wkey u = wkey v) : u = v := by
  simp only [wkey, List.cons.injEq, Scal.int.injEq, Int.ofNat_inj, and_true, true_and] at h
  exact h
theorem rowW_mem (w : Wt) (k : Nat) : wkey k ∈ (rowW w).map (·.1) ↔ k ∈ w.map (·.1) := by
  simp only [rowW, List.map_map, List.mem_map]
  exact ⟨fun ⟨e, h, q⟩ => ⟨e, h, wkey_inj q⟩, fun ⟨e, h, q⟩ => ⟨e, h, congrArg wkey q⟩⟩
theorem bump_row (w : Wt) (k : Nat) (x : Int) : bump (rowW w) (wkey k) x = rowW (bumpN w k x) := by
  unfold bump bumpN
  by_cases h : k ∈ w.map (·.1)
  · rw [if_pos h, if_pos ((rowW_mem w k).mpr h)]
    simp only [rowW, List.map_map]
    refine List.map_congr_left fun e _ => ?_
    show (if wkey e.1 = wkey k then (wkey e.1, e.2 + x) else (wkey e.1, e.2)) = (wkey (if e.1 = k then (e.1, e.2 + x) else e).1, (if e.1 = k then (e.1, e.2 + x) else e).2)
    by_cases q : e.1 = k
    · rw [if_pos q, if_pos (congrArg wkey q)]
    · rw [if_neg q, if_neg fun z => q (wkey_inj z)]
  · rw [if_neg h, if_neg fun z => h ((rowW_mem w k).mp z)]
    simp [rowW]
theorem bumpN_keys (w : Wt) (k : Nat) (x : Int) : (bumpN w k x).map (·.1) = if k ∈ w.map (·.1) then w.map (·.1) else w.map (·.1) ++ [k] := by
  unfold bumpN
  by_cases h : k ∈ w.map (·.1)
  · rw [if_pos h, if_pos h, List.map_map]
    refine List.map_congr_left fun e _ => ?_
    show (if e.1 = k then (e.1, e.2 + x) else e).1 = e.1
    split <;> rfl
  · rw [if_neg h, if_neg h, List.map_append]; rfl
theorem lin_cons (e : Nat × Int) (w : Wt) (f : Nat → Int) : lin (e :: w) f = e.2 * f e.1 + lin w f := rfl
theorem lin_snoc (w : Wt) (e : Nat × Int) (f : Nat → Int) : lin (w ++ [e]) f = lin w f + e.2 * f e.1 := by
  simp [lin]
theorem lin_bump (f : Nat → Int) (k : Nat) (x : Int) : ∀ w : Wt, (w.map (·.1)).Nodup → lin (bumpN w k x) f = lin w f + x * f k
  | [], _ => by simp [bumpN, lin]
  | e :: w, nd => by
    rw [List.map_cons, List.nodup_cons] at nd
    by_cases h : k ∈ (e :: w).map (·.1)
    · unfold bumpN
      rw [if_pos h, List.map_cons, lin_cons, lin_cons]
      by_cases q : e.1 = k
      · have hno : w.map (fun p => if p.1 = k then (p.1, p.2 + x) else p) = w := by
          conv => rhs; rw [← List.map_id w]
          refine List.map_congr_left fun p hp => ?_
          exact if_neg fun z => nd.1 (List.mem_map.mpr ⟨p, hp, by rw [z, q]⟩)
        rw [hno, if_pos q, q]
        show (e.2 + x) * f k + lin w f = _
        rw [Int.add_mul]; exact om_94
      · have hk : k ∈ w.map (·.1) := (List.mem_cons.mp h).resolve_left fun z => q z.symm
        have ih := lin_bump f k x w nd.2
        unfold bumpN at ih
        rw [if_pos hk] at ih
        rw [ih, if_neg q]; exact om_95
    · unfold bumpN
      rw [if_neg h, lin_snoc]
structure WtOk (w : Wt) : Prop where
  nd : (w.map (·.1)).Nodup
  lt : ∀ v ∈ w.map (·.1), v < 6
theorem WtOk.bump {w : Wt} (h : WtOk w) (k : Nat) (hk : k < 6) (x : Int) : WtOk (bumpN w k x) := by
  refine ⟨?_, ?_⟩ <;> rw [bumpN_keys] <;> split
  · exact h.nd
  · rename_i q
    exact List.nodup_append.mpr ⟨h.nd, by simp, fun a ha b hb e => q ((e.trans (List.mem_singleton.mp hb)) ▸ ha)⟩
  · exact h.lt
  · intro v hv
    rcases List.mem_append.mp hv with q | q
    · exact h.lt v q
    · rw [List.mem_singleton.mp q]; exact hk
theorem WtOk.len {w : Wt} (h : WtOk w) : w.length ≤ 6 := by
  have := nodup_lt 6 _ h.nd h.lt
  rwa [List.length_map] at this
theorem WtOk.row {w : Wt} (h : WtOk w) : ((rowW w).map (·.1)).Nodup := by
  have e : (rowW w).map (·.1) = (w.map (·.1)).map wkey := by simp [rowW]
  rw [e]
  exact List.Pairwise.map _ (fun a b hab q => hab (wkey_inj q)) h.nd
end Mine
end
section
open PySem PySem.W PyProof.Rows PySem.Spec PySem.SeqAt
set_option maxRecDepth 100000
set_option linter.all false
namespace Mine
noncomputable def tWlk (f : Str) : Option (List D → Option D) := if f = nm_add_callers then some fAdd else if f = nm_Llaw_near then some fNear else none
theorem T_tWlk_len : tWlk nm_len = none := rfl
theorem T_tWlk_sum : tWlk nm_sum = none := rfl
theorem T_tWlk_sorted : tWlk nm_sorted = none := rfl
theorem T_tWlk_max : tWlk nm_max = none := rfl
theorem T_tWlk_min : tWlk nm_min = none := rfl
theorem T_tWlk_range : tWlk nm_range = none := rfl
theorem T_tWlk_isinstance : tWlk nm_isinstance = none := rfl
theorem T_tWlk_add_callers : tWlk nm_add_callers = some fAdd := rfl
theorem T_tWlk_Llaw_near : tWlk nm_Llaw_near = some fNear := rfl
noncomputable def kWlk : Know := k0 (fun _ => false) tWlk (fun _ => none)
noncomputable def bdWlk : DenS := (den kWlk 30).Ss kf_9 sf_9 (bodyAt topB 9)
noncomputable def fWlk : List D → Option D := fnD bdWlk [nm_ties, nm_place, nm_steps] [] 3
theorem disp_w (v : Nat) (x : Int) : putD (fitD (D.idict [] []) (D.tup [.str "at", .int (v : Int), .str "end"])) (D.tup [.str "at", .int (v : Int), .str "end"]) (.int x) = some (rowD (rowW [(v, x)])) := rowD_put [] (wkey v) x (by simp) (by decide)
abbrev WlA (T : List Tie) (p s : Nat) : List D → Rho → Prop := fun ds ρ => ∃ j k w, j + k = s ∧ ds = (List.range' j k).map (fun v : Nat => D.int (v : Int)) ∧ WtOk w ∧ (∀ f, lin w f = opN T j f p) ∧ ρ nm_table = some (.frz (rowD (rowW w))) ∧ ρ nm_ties = some (.frz (.lst (T.map tieD)))
abbrev WlB (T : List Tie) (w : Wt) : List D → Rho → Prop := fun ds ρ => ∃ t1 t2 a, w = t1 ++ t2 ∧ ds = (rowW t2).map pairD ∧ WtOk a ∧ (∀ f, lin a f = lin t1 (opA T f)) ∧ ρ nm_after = some (.frz (rowD (rowW a))) ∧ ρ nm_ties = some (.frz (.lst (T.map tieD)))
abbrev WlC (T : List Tie) (t1 : Wt) (v : Nat) (o : Int) : List D → Rho → Prop := fun ds ρ => ∃ n1 n2 a, near T v = n1 ++ n2 ∧ ds = n2.map (fun v : Nat => D.int (v : Int)) ∧ WtOk a ∧ (∀ f, lin a f = lin t1 (opA T f) + o * (n1.map f).sum) ∧ ρ nm_after = some (.frz (rowD (rowW a))) ∧ ρ nm_ties = some (.frz (.lst (T.map tieD))) ∧ ρ nm_often = some (.frz (.int o))
theorem wlk_run (T : List Tie) (p s : Nat) (hp : p < 6) (hs : s ≤ 100) : Run bdWlk (rho0 [nm_ties, nm_place, nm_steps] [.frz (.lst (T.map tieD)), .frz (.int (p : Int)), .frz (.int (s : Int))]) (fun fl _ => ∃ w, WtOk w ∧ (∀ f, lin w f = opN T s f p) ∧ fl = .ret (rowD (rowW w))) := by
  unfold bdWlk
  have h : bodyAt topB 9 = bodyAt topB 9 := rfl
  conv at h => rhs; whnf
  rw [h]
  clear h
  dsimp only [ofs_ValueError, ofs_UUclassdictUU, ofs_UUdebugUU, ofs_UUnameUU, ofs_Llaw_near, ofs_Llaw_sides, ofs_Llaw_walks, ofs_a, ofs_add_callers, ofs_after, ofs_append, ofs_b, ofs_bad, ofs_bisect_left, ofs_caller, ofs_callers, ofs_calls, ofs_count_calls, ofs_far, ofs_first, ofs_func, ofs_get, ofs_here, ofs_hi, ofs_i, ofs_insert, ofs_insort_left, ofs_isinstance, ofs_items, ofs_j, ofs_key, ofs_law, ofs_len, ofs_lo, ofs_max, ofs_mid, ofs_min, ofs_more, ofs_nc, ofs_new_callers, ofs_number, ofs_odd, ofs_often, ofs_one, ofs_other, ofs_pairs, ofs_piece, ofs_place, ofs_range, ofs_script, ofs_sorted, ofs_source, ofs_steps, ofs_sum, ofs_table, ofs_target, ofs_there, ofs_tie, ofs_ties, ofs_tuple, ofs_turn, ofs_values, ofs_waiting, ofs_ways, ofs_word, ofs_x, ofs_zip, den_Ss, den_S, den_E, den_I, den_B, E_int, E_str, E_bool, E_none, E_name, E_bin, E_cmp, E_andV, E_ifexp, E_tup, E_lst, E_upto, E_sub_name, E_sub_con, E_sub_bin, E_sub_sub, E_sub_call, E_dict0, E_dict1, E_comp, E_call, E_meth, N_isi, B_and0, B_and, B_or0, B_or, B_cmp, B_call, I_call2, I_name, I_lst, I_tup, I_sub, I_bin, I_items, S_assignC, S_assign_name, S_assign_con, S_assign_bin, S_assign_call, S_assign_sub, S_assign_cmp, S_assign_ifx, S_assign_lst, S_assign_tup, S_assign_dict, S_assign_boo, S_tup, S_unpack_call, S_setSub, S_augSub, S_augName, S_if, S_while, S_for_name, S_for_call, S_for_lst, S_for_tup, S_for_sub, S_ret, S_retNone, S_mut, Ss_nil, Ss_cons, L_nil, L_cons, dTests_nil, dTests_cons, N1_len, N1_sum, N1_sorted, N1_max, N1_min, N2_max, N2_min, N2_isi, I_range, I_items0, I_values, S_appendN, S_insertN, k0_T, k0_M, k0_mu, k0_K, S_k0, callE, bMut, T_tWlk_len, T_tWlk_sum, T_tWlk_sorted, T_tWlk_max, T_tWlk_min, T_tWlk_range, T_tWlk_isinstance, T_tWlk_add_callers, T_tWlk_Llaw_near, kWlk]
  simp only [List.map_cons, List.map_nil, List.cons_append, List.nil_append, rho0_cons]
  have capE : cap = 200 := rfl
  have d0 := disp_w p 1
  refine run_seq (run_assign (.fresh, rowD (rowW [(p, 1)])) (upd (upd (upd (upd (rho0 [] []) nm_steps (.frz (.int (s : Int)))) nm_place (.frz (.int (p : Int)))) nm_ties (.frz (.lst (T.map tieD)))) nm_table (.frz (rowD (rowW [(p, 1)])))) ?_ rfl rfl ?_)
  · exact q_dict1 (q_frz (q_tup (xs := [(.frozen, .str "at"), (.frozen, .int (p : Int)), (.frozen, .str "end")]) (q_cons rfl rfl (q_cons rfl (nmF rfl _ (by decide +kernel)) (q_cons rfl rfl q_nil))) ⟨rfl, Nat.le_of_ble_eq_true rfl⟩) fre_nl) rfl d0
  refine run_seq (run_for (rangeD (s : Int)) (q_range (by decide +kernel) (nmF rfl _ (by decide +kernel)) (by exact om_96 hs)) (WlA T p s) ⟨0, s, [(p, 1)], by exact om_97, by simp [rangeD, List.range_eq_range'], ⟨by simp, fun v hv => by rw [List.mem_singleton.mp hv]; exact hp⟩, fun f => by simp [lin, opN], rfl, rfl⟩ ?_ ?_)
  · rintro d ds ρ ⟨j, k, w, hjk, hds, W, hw, t1, i1⟩
    cases k with
    | zero => cases hds
    | succ k =>
    rw [List.range'_succ] at hds
    cases hds
    refine ⟨upd ρ nm_turn (.frz (.int (j : Int))), rfl, ?_⟩
    refine run_seq (run_assign (.fresh, .idict [] []) (upd (upd ρ nm_turn (.frz (.int (j : Int)))) nm_after (.frz (.idict [] []))) rfl rfl rfl ?_)
    have t2 : upd (upd ρ nm_turn (.frz (.int (j : Int)))) nm_after (.frz (.idict [] [])) nm_table = some (.frz (rowD (rowW w))) := t1
    have i2 : upd (upd ρ nm_turn (.frz (.int (j : Int)))) nm_after (.frz (.idict [] [])) nm_ties = some (.frz (.lst (T.map tieD))) := i1
    have a2 : upd (upd ρ nm_turn (.frz (.int (j : Int)))) nm_after (.frz (.idict [] [])) nm_after = some (.frz (rowD (rowW []))) := rfl
    generalize upd (upd ρ nm_turn (.frz (.int (j : Int)))) nm_after (.frz (.idict [] [])) = ρ at t2 i2 a2
    refine run_seq (run_for ((rowW w).map pairD) (by rw [q_items (by decide +kernel) (nmF t2 _ (by decide +kernel)) (rowD_vals _) frz_nl, rowD_keys, zipD_row]) (WlB T w) ⟨[], w, [], rfl, rfl, ⟨by simp, fun v hv => (nomatch hv)⟩, fun f => rfl, a2, i2⟩ ?_ ?_)
    · rintro d ds ρ ⟨t1, t2, a, e1, e2, A, ha, a3, i3⟩
      cases t2 with
      | nil => cases e2
      | cons e t2 =>
      cases e2
      obtain ⟨v, o⟩ := e
      refine ⟨upd (upd ρ nm_word (.frz (keyD (wkey v)))) nm_often (.frz (.int o)), rfl, ?_⟩
      have a4 : upd (upd ρ nm_word (.frz (keyD (wkey v)))) nm_often (.frz (.int o)) nm_after = some (.frz (rowD (rowW a))) := a3
      have i4 : upd (upd ρ nm_word (.frz (keyD (wkey v)))) nm_often (.frz (.int o)) nm_ties = some (.frz (.lst (T.map tieD))) := i3
      have w4 : upd (upd ρ nm_word (.frz (keyD (wkey v)))) nm_often (.frz (.int o)) nm_word = some (.frz (keyD (wkey v))) := rfl
      have o4 : upd (upd ρ nm_word (.frz (keyD (wkey v)))) nm_often (.frz (.int o)) nm_often = some (.frz (.int o)) := rfl
      generalize upd (upd ρ nm_word (.frz (keyD (wkey v)))) nm_often (.frz (.int o)) = ρ at a4 i4 w4 o4
      have g1 : itemD (keyD (wkey v)) (.int 1) = some (.int (v : Int)) := rfl
      refine run_seq (run_for ((near T v).map fun v : Nat => .int (v : Int)) (q_list (q_call (by decide +kernel) (q_cons rfl (nmF i4 _ (by decide +kernel)) (q_cons rfl (q_sub (nmF w4 _ (by decide +kernel)) rfl rfl g1) q_nil)) (near_ok T v) rfl) rfl (by decide)) (WlC T t1 v o) ⟨[], near T v, a, rfl, rfl, A, fun f => by rw [ha f]; simp, a4, i4, o4⟩ ?_ ?_)
      · rintro d ds ρ ⟨n1, n2, a, e5, e6, A, ha, a5, i5, o5⟩
        cases n2 with
        | nil => cases e6
        | cons x n2 =>
        cases e6
        refine ⟨upd ρ nm_there (.frz (.int (x : Int))), rfl, ?_⟩
        have a6 : upd ρ nm_there (.frz (.int (x : Int))) nm_after = some (.frz (rowD (rowW a))) := a5
        have i6 : upd ρ nm_there (.frz (.int (x : Int))) nm_ties = some (.frz (.lst (T.map tieD))) := i5
        have o6 : upd ρ nm_there (.frz (.int (x : Int))) nm_often = some (.frz (.int o)) := o5
        have t6 : upd ρ nm_there (.frz (.int (x : Int))) nm_there = some (.frz (.int (x : Int))) := rfl
        generalize upd ρ nm_there (.frz (.int (x : Int))) = ρ at a6 i6 o6 t6
        have hx : x < 6 := (near_iff.mp (show x ∈ near T v by rw [e5]; simp)).1
        have d1 := disp_w x o
        have add := add_ok (rowW a) (wkey x) o A.row (by rw [rowW, List.length_map]; have := A.len; exact om_90 capE this)
        rw [bump_row] at add
        refine run_seq (run_assign (.frozen, rowD (rowW (bumpN a x o))) (upd ρ nm_after (.frz (rowD (rowW (bumpN a x o))))) ?_ rfl rfl (run_nil ⟨n1 ++ [x], n2, bumpN a x o, by rw [e5]; simp, rfl, A.bump x hx o, fun f => ?_, rfl, i6, o6⟩))
        · exact q_call (xs := [(.frozen, rowD (rowW a)), (.fresh, rowD (rowW [(x, o)]))]) (by decide +kernel) (q_cons rfl (nmF a6 _ (by decide +kernel)) (q_cons rfl (q_dict1 (q_frz (q_tup (xs := [(.frozen, .str "at"), (.frozen, .int (x : Int)), (.frozen, .str "end")]) (q_cons rfl rfl (q_cons rfl (nmF t6 _ (by decide +kernel)) (q_cons rfl rfl q_nil))) ⟨rfl, Nat.le_of_ble_eq_true rfl⟩) fre_nl) (q_frz (nmF o6 _ (by decide +kernel)) frz_nl) d1) q_nil)) add rfl
        · rw [lin_bump f x o a A.nd, ha f, List.map_append, List.sum_append, Int.mul_add]
          simp [Int.add_assoc]
      · rintro ρ ⟨n1, n2, a, e5, e6, A, ha, a5, i5, o5⟩
        cases n2 with
        | cons x n2 => cases e6
        | nil =>
        rw [List.append_nil] at e5
        refine run_nil ⟨t1 ++ [(v, o)], t2, a, by rw [e1]; simp, rfl, A, fun f => ?_, a5, i5⟩
        rw [ha f, lin_snoc, ← e5]; rfl
    · rintro ρ ⟨t1, t2, a, e1, e2, A, ha, a3, i3⟩
      cases t2 with
      | cons e t2 => cases e2
      | nil =>
      rw [List.append_nil] at e1
      subst e1
      refine run_seq (run_assign (.frozen, rowD (rowW a)) (upd ρ nm_table (.frz (rowD (rowW a)))) (nmF a3 _ (by decide +kernel)) rfl rfl (run_nil ⟨j + 1, k, a, by exact om_98 hjk, rfl, A, fun f => ?_, rfl, i3⟩))
      rw [ha f, hw]; rfl
  · rintro ρ ⟨j, k, w, hjk, hds, W, hw, t1, i1⟩
    cases k with
    | succ k => rw [List.range'_succ] at hds; cases hds
    | zero =>
    have : j = s := hjk
    subst this
    exact run_seq (run_ret (.frozen, rowD (rowW w)) (nmF (lay_frz t1) _ (by decide +kernel)) frz_nl ⟨w, W, hw, rfl⟩)
theorem wlk_ok (T : List Tie) (p s : Nat) (hp : p < 6) (hs : s ≤ 100) : ∃ w, WtOk w ∧ (∀ f, lin w f = opN T s f p) ∧ fWlk [.lst (T.map tieD), .int (p : Int), .int (s : Int)] = some (rowD (rowW w)) := by
  obtain ⟨fl, ρ', e, w, W, hw, rfl⟩ := wlk_run T p s hp hs
  exact ⟨w, W, hw, fn_run rfl ⟨_, ρ', e, rfl⟩⟩
end Mine
end
section
open PySem PySem.W PyProof.Rows PySem.Spec PySem.SeqAt
set_option linter.all false
namespace Mine
/-! ## plain mathematics of law 01 -/
noncomputable def pcF (R : List Rec) (v : Nat) : Nat := ((R.find? fun r => r.1 == v).map (·.2.1)).getD 0
noncomputable def frF (R : List Rec) (v : Nat) : Nat := ((R.find? fun r => r.1 == v).map (·.2.2)).getD 0
theorem rec_find : ∀ {R : List Rec} {r : Rec}, r ∈ R → (R.map (·.1)).Nodup → R.find? (fun s => s.1 == r.1) = some r
  | [], _, h, _ => (nomatch h)
  | s :: R, r, h, nd => by
    rw [List.map_cons, List.nodup_cons] at nd
    rcases List.mem_cons.mp h with rfl | h
    · rw [List.find?_cons_of_pos (by simp)]
    · rw [List.find?_cons_of_neg (by
        have : s.1 ≠ r.1 := fun e => nd.1 (List.mem_map.mpr ⟨r, h, e.symm⟩)
        simpa using this)]
      exact rec_find h nd.2
structure Sd (T : List Tie) (pc fr : Nat → Nat) : Prop where
  edge : ∀ u v, u < 6 → v ∈ near T u → pc v = pc u ∧ fr v ≤ fr u + 1
  pl : ∀ v, v < 6 → pc v ≤ v
  par : ∀ v, v < 6 → (fr v = 0 ∧ pc v = v) ∨ ∃ u, u < 6 ∧ v ∈ near T u ∧ fr v = fr u + 1 ∧ pc u = pc v
theorem Done.at {T : List Tie} {R : List Rec} (D : Done T R) {r : Rec} (h : r ∈ R) : pcF R r.1 = r.2.1 ∧ frF R r.1 = r.2.2 := by
  unfold pcF frF
  rw [rec_find h D.nd]; exact ⟨rfl, rfl⟩
theorem Done.sd {T : List Tie} {R : List Rec} (D : Done T R) (hv : ∀ v, v < 6 → v ∈ keysR R) : Sd T (pcF R) (frF R) where
  edge := fun u v hu h => by
    obtain ⟨r, hr, rfl⟩ := List.mem_map.mp (hv u hu)
    obtain ⟨s, hs, rfl, h1, h2⟩ := D.clo r hr v h
    rw [(D.at hr).1, (D.at hr).2, (D.at hs).1, (D.at hs).2]
    exact ⟨h1, h2⟩
  pl := fun v h => by
    obtain ⟨r, hr, rfl⟩ := List.mem_map.mp (hv v h)
    rw [(D.at hr).1]; exact D.pl r hr
  par := fun v h => by
    obtain ⟨r, hr, rfl⟩ := List.mem_map.mp (hv v h)
    rw [(D.at hr).1, (D.at hr).2]
    rcases D.par r hr with q | ⟨s, hs, h1, h2, h3⟩
    · exact .inl q
    · exact .inr ⟨s.1, D.lt s hs, h1, by rw [(D.at hs).2]; exact h2, by rw [(D.at hs).1]; exact h3⟩
section
variable {T : List Tie} {pc fr : Nat → Nat}
/-- a telling of two sides -/
def Proper (T : List Tie) (c : Nat → Nat) : Prop := ∀ u v, u < 6 → v ∈ near T u → c u % 2 ≠ c v % 2
theorem Sd.colour (S : Sd T pc fr) {c : Nat → Nat} (hc : Proper T c) : ∀ v, v < 6 → c v % 2 = (c (pc v) + fr v) % 2 := by
  have key : ∀ n v, v < 6 → fr v = n → c v % 2 = (c (pc v) + fr v) % 2 := by
    intro n
    induction n with
    | zero =>
      intro v hv e
      rcases S.par v hv with ⟨_, h2⟩ | ⟨u, _, _, h2, _⟩
      · rw [h2, e, Nat.add_zero]
      · exact absurd_om (om_99 e h2)
    | succ n ih =>
      intro v hv e
      rcases S.par v hv with ⟨h1, _⟩ | ⟨u, hu, h1, h2, h3⟩
      · exact absurd_om (om_100 e h1)
      · have := ih u hu (by exact om_101 e h2)
        have := hc u v hu h1
        rw [h3] at *
        omega
  exact fun v hv => key _ v hv rfl
theorem Sd.sides (S : Sd T pc fr) {u v : Nat} (hu : u < 6) (h : v ∈ near T u) : fr u ≤ fr v + 1 ∧ fr v ≤ fr u + 1 ∧ pc v = pc u :=
  ⟨(S.edge v u (near_iff.mp h).1 (near_symm hu h)).2, (S.edge u v hu h).2, (S.edge u v hu h).1⟩
theorem opA_nonneg {f : Nat → Int} (hf : ∀ v, 0 ≤ f v) (u : Nat) : 0 ≤ opA T f u := by
  unfold opA
  have : ∀ L : List Nat, 0 ≤ (L.map f).sum := fun L => by
    induction L with
    | nil => simp
    | cons x L ih => rw [List.map_cons, List.sum_cons]; have := hf x; exact om_102 ih this
  exact this _
theorem opA_le {f : Nat → Int} (hf : ∀ v, 0 ≤ f v) {u v : Nat} (h : v ∈ near T u) : f v ≤ opA T f u := by
  unfold opA
  have : ∀ L : List Nat, v ∈ L → f v ≤ (L.map f).sum ∧ 0 ≤ (L.map f).sum := fun L => by
    induction L with
    | nil => intro h; cases h
    | cons x L ih =>
      intro h
      rw [List.map_cons, List.sum_cons]
      have hx := hf x
      have h0 : 0 ≤ (L.map f).sum := by
        clear ih h
        induction L with
        | nil => simp
        | cons y L ih => rw [List.map_cons, List.sum_cons]; have := hf y; exact om_102 ih this
      rcases List.mem_cons.mp h with rfl | h
      · exact om_103 h0 hx
      · have := ih h; exact om_104 hx this
  exact (this _ h).1
theorem opA_pos {f : Nat → Int} (u : Nat) (h : opA T f u ≠ 0) : ∃ v, v ∈ near T u ∧ f v ≠ 0 := by
  unfold opA at h
  have : ∀ L : List Nat, (L.map f).sum ≠ 0 → ∃ v ∈ L, f v ≠ 0 := fun L => by
    induction L with
    | nil => intro h; simp at h
    | cons x L ih =>
      intro h
      rw [List.map_cons, List.sum_cons] at h
      by_cases q : f x = 0
      · obtain ⟨v, hv, h2⟩ := ih (by exact om_105 h q)
        exact ⟨v, List.mem_cons_of_mem _ hv, h2⟩
      · exact ⟨x, List.mem_cons_self, q⟩
  exact this _ h
noncomputable def dl (p : Nat) : Nat → Int := fun v => if v = p then 1 else 0
theorem dl_nonneg (p : Nat) : ∀ v, 0 ≤ dl p v := fun v => by unfold dl; split <;> omega
/-- walks that come home -/
noncomputable def cw (T : List Tie) (p s : Nat) : Int := opN T s (dl p) p
theorem cw3 (p : Nat) : cw T p 3 = opA T (opA T (opA T (dl p))) p := rfl
theorem cw5 (p : Nat) : cw T p 5 = opA T (opA T (opA T (opA T (opA T (dl p))))) p := rfl
theorem walk3 {p u v : Nat} (h1 : u ∈ near T p) (h2 : v ∈ near T u) (h3 : p ∈ near T v) : 0 < cw T p 3 := by
  rw [cw3]
  have n1 := opA_nonneg (T := T) (dl_nonneg p)
  have n2 := opA_nonneg (T := T) n1
  have a := opA_le (dl_nonneg p) h3
  have b := opA_le n1 h2
  have c := opA_le n2 h1
  have : dl p p = 1 := if_pos rfl
  exact om_106 a b c this
theorem walk5 {p u v x y : Nat} (h1 : u ∈ near T p) (h2 : v ∈ near T u) (h3 : x ∈ near T v) (h4 : y ∈ near T x) (h5 : p ∈ near T y) : 0 < cw T p 5 := by
  rw [cw5]
  have n1 := opA_nonneg (T := T) (dl_nonneg p)
  have n2 := opA_nonneg (T := T) n1
  have n3 := opA_nonneg (T := T) n2
  have n4 := opA_nonneg (T := T) n3
  have a := opA_le (dl_nonneg p) h5
  have b := opA_le n1 h4
  have c := opA_le n2 h3
  have d := opA_le n3 h2
  have e := opA_le n4 h1
  have : dl p p = 1 := if_pos rfl
  exact om_107 a b c d e this
theorem dl_at {p v : Nat} (h : dl p v ≠ 0) : v = p := by
  unfold dl at h
  by_cases q : v = p
  · exact q
  · rw [if_neg q] at h; exact absurd rfl h
theorem cw_even {c : Nat → Nat} (hc : Proper T c) {p : Nat} (hp : p < 6) : cw T p 3 = 0 ∧ cw T p 5 = 0 := by
  have lt : ∀ {u v : Nat}, v ∈ near T u → v < 6 := fun h => (near_iff.mp h).1
  refine ⟨Classical.byContradiction fun h => ?_, Classical.byContradiction fun h => ?_⟩
  · rw [cw3] at h
    obtain ⟨u, hu, h⟩ := opA_pos _ h
    obtain ⟨v, hv, h⟩ := opA_pos _ h
    obtain ⟨x, hx, h⟩ := opA_pos _ h
    obtain rfl := dl_at h
    have := hc x u hp hu
    have := hc u v (lt hu) hv
    have := hc v x (lt hv) hx
    omega
  · rw [cw5] at h
    obtain ⟨u, hu, h⟩ := opA_pos _ h
    obtain ⟨v, hv, h⟩ := opA_pos _ h
    obtain ⟨x, hx, h⟩ := opA_pos _ h
    obtain ⟨y, hy, h⟩ := opA_pos _ h
    obtain ⟨z, hz, h⟩ := opA_pos _ h
    obtain rfl := dl_at h
    have := hc z u hp hu
    have := hc u v (lt hu) hv
    have := hc v x (lt hv) hx
    have := hc x y (lt hx) hy
    have := hc y z (lt hy) hz
    omega
theorem Sd.root (S : Sd T pc fr) {v : Nat} (hv : v < 6) (h : fr v = 0) : pc v = v := by
  rcases S.par v hv with ⟨_, h2⟩ | ⟨u, _, _, h2, _⟩
  · exact h2
  · exact absurd_om (om_99 h h2)
theorem Sd.up (S : Sd T pc fr) {v : Nat} (hv : v < 6) (h : fr v ≠ 0) : ∃ u, u < 6 ∧ v ∈ near T u ∧ fr v = fr u + 1 ∧ pc u = pc v := by
  rcases S.par v hv with ⟨h1, _⟩ | q
  · exact absurd h1 h
  · exact q
theorem seven {a b c d e f g : Nat} (ha : a < 6) (hb : b < 6) (hc : c < 6) (hd : d < 6) (he : e < 6) (hf : f < 6) (hg : g < 6) (nd : [a, b, c, d, e, f, g].Nodup) : False := by
  have := nodup_lt 6 _ nd (by simp; exact om_108 ha hb hc hd he hf hg)
  simp at this
/-- a tie within a side makes a ring of three or five -/
theorem Sd.ring (S : Sd T pc fr) (hs : ∀ u, u ∉ near T u) {u v : Nat} (hu : u < 6) (h : v ∈ near T u) (e : fr u % 2 = fr v % 2) : ∃ p, p < 6 ∧ (0 < cw T p 3 ∨ 0 < cw T p 5) := by
  have hv := (near_iff.mp h).1
  obtain ⟨e1, e2, e3⟩ := S.sides hu h
  have ef : fr u = fr v := by exact om_109 e e1 e2
  have huv : u ≠ v := fun q => hs u (q ▸ h)
  by_cases z0 : fr u = 0
  · exact absurd ((S.root hu z0).symm.trans (e3.symm.trans (S.root hv (ef ▸ z0)))) huv
  obtain ⟨u1, hu1, n1, f1, p1⟩ := S.up hu z0
  obtain ⟨v1, hv1, m1, g1, q1⟩ := S.up hv (ef ▸ z0)
  by_cases w1 : u1 = v1
  · subst w1
    exact ⟨u1, hu1, .inl (walk3 n1 h (near_symm hu1 m1))⟩
  by_cases z1 : fr u1 = 0
  · exact absurd ((S.root hu1 z1).symm.trans (by rw [p1, ← e3, ← q1]; exact S.root hv1 (by exact om_110 ef f1 g1 z1))) w1
  obtain ⟨u2, hu2, n2, f2, p2⟩ := S.up hu1 z1
  obtain ⟨v2, hv2, m2, g2, q2⟩ := S.up hv1 (by exact om_111 ef f1 g1 f2)
  by_cases w2 : u2 = v2
  · subst w2
    exact ⟨u2, hu2, .inr (walk5 n2 n1 h (near_symm hv1 m1) (near_symm hu2 m2))⟩
  by_cases z2 : fr u2 = 0
  · exact absurd ((S.root hu2 z2).symm.trans (by rw [p2, p1, ← e3, ← q1, ← q2]; exact S.root hv2 (by exact om_112 ef f1 g1 f2 g2 z2))) w2
  obtain ⟨u3, hu3, n3, f3, p3⟩ := S.up hu2 z2
  exfalso
  have ne : ∀ {x y : Nat}, fr x ≠ fr y → x ≠ y := fun h e => h (by rw [e])
  refine seven hu hv hu1 hv1 hu2 hv2 hu3 ?_
  simp only [List.nodup_cons, List.mem_cons, List.not_mem_nil, or_false, not_or, List.nodup_nil, and_true, not_false_eq_true]
  refine ⟨⟨huv, ne (by exact om_113 f1), ne (by exact om_114 ef g1), ne (by exact om_115 f1 f2), ne (by exact om_116 ef g1 g2), ne (by exact om_117 f1 f2 f3)⟩, ⟨ne (by exact om_118 ef f1), ne (by exact om_113 g1), ne (by exact om_119 ef f1 f2), ne (by exact om_115 g1 g2), ne (by exact om_120 ef f1 f2 f3)⟩, ⟨w1, ne (by exact om_113 f2), ne (by exact om_121 ef f1 g1 g2), ne (by exact om_115 f2 f3)⟩, ⟨ne (by exact om_122 ef f1 g1 f2), ne (by exact om_113 g2), ne (by exact om_123 ef f1 g1 f2 f3)⟩, ⟨w2, ne (by exact om_113 f3)⟩, ne (by exact om_124 ef f1 g1 f2 g2 f3)⟩
end
end Mine
end
section
open PySem PySem.W PyProof.Rows PySem.Spec PySem.SeqAt
set_option linter.all false
namespace Mine
structure TOk (T : List Tie) : Prop where
  so : T.Pairwise fun t u => t.1 < u.1 ∨ (t.1 = u.1 ∧ t.2 < u.2)
  lt : ∀ t ∈ T, t.1 < t.2 ∧ t.2 < 6
theorem proper_of {T : List Tie} {c : Nat → Nat} (h : ∀ t ∈ T, c t.1 % 2 ≠ c t.2 % 2) : Proper T c := fun u v hu hv => by
  have hm := h _ (near_iff.mp hv).2
  rcases Nat.le_total u v with q | q
  · simp only [Nat.min_eq_left q, Nat.max_eq_right q] at hm; exact hm
  · simp only [Nat.min_eq_right q, Nat.max_eq_left q] at hm; exact fun e => hm e.symm
theorem of_proper {T : List Tie} (K : TOk T) {c : Nat → Nat} (h : Proper T c) : ∀ t ∈ T, c t.1 % 2 ≠ c t.2 % 2 := fun t ht => by
  obtain ⟨h1, h2⟩ := K.lt t ht
  refine h t.1 t.2 (by exact om_125 h1 h2) (near_iff.mpr ⟨h2, ?_⟩)
  rw [Nat.min_eq_left (by exact om_126 h1), Nat.max_eq_right (by exact om_126 h1)]; exact ht
theorem TOk.loop {T : List Tie} (K : TOk T) (u : Nat) : u ∉ near T u := fun h => by
  have := K.lt _ (near_iff.mp h).2
  simp at this
noncomputable def same (c : Nat → Nat) : Tie → Bool := fun t => decide (c t.1 % 2 = c t.2 % 2)
theorem same_nil {T : List Tie} {c : Nat → Nat} : T.filter (same c) = [] ↔ ∀ t ∈ T, c t.1 % 2 ≠ c t.2 % 2 := by
  rw [List.filter_eq_nil_iff]
  exact ⟨fun h t ht e => h t ht (decide_eq_true e), fun h t ht e => h t ht (of_decide_eq_true e)⟩
section
variable {T : List Tie} {pc fr : Nat → Nat}
/-- no tie within a side, iff no ring -/
theorem Sd.bad_iff (S : Sd T pc fr) (K : TOk T) : T.filter (same fr) = [] ↔ ∀ p, p < 6 → ¬ 0 < cw T p 3 ∧ ¬ 0 < cw T p 5 := by
  constructor
  · intro h p hp
    obtain ⟨h1, h2⟩ := cw_even (proper_of (same_nil.mp h)) hp
    exact om_127 h1 h2
  · intro h
    refine Classical.byContradiction fun q => ?_
    rw [same_nil] at q
    obtain ⟨t, ht, e⟩ : ∃ t ∈ T, fr t.1 % 2 = fr t.2 % 2 := by
      refine Classical.byContradiction fun z => q fun t ht e => z ⟨t, ht, e⟩
    obtain ⟨h1, h2⟩ := K.lt t ht
    obtain ⟨p, hp, r⟩ := S.ring K.loop (u := t.1) (v := t.2) (by exact om_125 h1 h2) (near_iff.mpr ⟨h2, by rw [Nat.min_eq_left (by exact om_126 h1), Nat.max_eq_right (by exact om_126 h1)]; exact ht⟩) e
    have := h p hp
    rcases r with r | r
    · exact this.1 r
    · exact this.2 r
theorem Sd.pcr (S : Sd T pc fr) : ∀ v, v < 6 → fr (pc v) = 0 ∧ pc (pc v) = pc v := by
  have key : ∀ n v, v < 6 → fr v = n → fr (pc v) = 0 ∧ pc (pc v) = pc v := by
    intro n
    induction n with
    | zero =>
      intro v hv e
      have := S.root hv e
      rw [this]; exact ⟨e, this⟩
    | succ n ih =>
      intro v hv e
      obtain ⟨u, hu, h1, h2, h3⟩ := S.up hv (by exact om_128 e)
      have := ih u hu (by exact om_101 e h2)
      rwa [h3] at this
  exact fun v hv => key _ v hv rfl
/-- an extra tie within a side -/
theorem Sd.extra (S : Sd T pc fr) {c : Nat → Nat} {a b : Nat} (ha : a < 6) (hb : b < 6) (hp : pc a = pc b) (hf : fr a % 2 = fr b % 2) : (T ++ [(a, b)]).filter (same c) ≠ [] := fun h => by
  have h := same_nil.mp h
  have hc : Proper T c := proper_of fun t ht => h t (List.mem_append_left _ ht)
  have h1 := S.colour hc a ha
  have h2 := S.colour hc b hb
  rw [hp] at h1
  have : c a % 2 ≠ c b % 2 := h (a, b) (List.mem_append_right _ List.mem_cons_self)
  exact absurd_om (om_129 hf h1 h2 this)

/-! the ways to tell the sides -/
noncomputable def bit (m v : Nat) : Nat := m / 2 ^ v % 2
theorem bit_low {n m v : Nat} (h : v < n) : bit (2 ^ n + m) v = bit m v := by
  unfold bit
  obtain ⟨k, rfl⟩ : ∃ k, n = v + 1 + k := ⟨n - (v + 1), by exact om_130 h⟩
  rw [show 2 ^ (v + 1 + k) = 2 ^ v * (2 * 2 ^ k) by rw [Nat.pow_add, Nat.pow_succ]; exact Nat.mul_assoc _ _ _, Nat.mul_add_div (Nat.two_pow_pos v)]
  exact om_131
theorem bit_top {n m : Nat} (h : m < 2 ^ n) : bit (2 ^ n + m) n = 1 ∧ bit m n = 0 := by
  unfold bit
  rw [Nat.add_div_left _ (Nat.two_pow_pos n), Nat.div_eq_of_lt h]; exact ⟨rfl, rfl⟩
noncomputable def fits (pc fr : Nat → Nat) (n m : Nat) : Bool := (List.range n).all fun v => decide (bit m v = (bit m (pc v) + fr v) % 2)
theorem fits_succ (n m : Nat) : fits pc fr (n + 1) m = (fits pc fr n m && decide (bit m n = (bit m (pc n) + fr n) % 2)) := by
  unfold fits
  rw [List.range_succ, List.all_append]; simp
theorem fits_low (S : ∀ v, v < 6 → pc v ≤ v) {n : Nat} (hn : n ≤ 6) (m : Nat) : fits pc fr n (2 ^ n + m) = fits pc fr n m := by
  unfold fits
  rw [Bool.eq_iff_iff, List.all_eq_true, List.all_eq_true]
  have e : ∀ v ∈ List.range n, (decide (bit (2 ^ n + m) v = (bit (2 ^ n + m) (pc v) + fr v) % 2) = decide (bit m v = (bit m (pc v) + fr v) % 2)) := fun v hv => by
    have hv := List.mem_range.mp hv
    have := S v (by exact om_132 hn hv)
    rw [bit_low hv, bit_low (by exact om_133 hv this : pc v < n)]
  exact ⟨fun h v hv => (e v hv) ▸ h v hv, fun h v hv => (e v hv).symm ▸ h v hv⟩
theorem filter_split {α : Type} (p q : α → Bool) : ∀ L : List α, (L.filter fun x => p x && q x).length + (L.filter fun x => p x && !q x).length = (L.filter p).length
  | [] => rfl
  | x :: L => by
    have ih := filter_split p q L
    rw [List.filter_cons, List.filter_cons, List.filter_cons]
    cases p x <;> cases q x <;> simp only [Bool.and_true, Bool.and_false, Bool.not_true, Bool.not_false, Bool.true_and, Bool.false_and, if_true, if_false, Bool.false_eq_true, List.length_cons] <;> omega
theorem filter_ext {α : Type} {p q : α → Bool} {L : List α} (h : ∀ x ∈ L, p x = q x) : (L.filter p).length = (L.filter q).length := by
  induction L with
  | nil => rfl
  | cons x L ih =>
    rw [List.filter_cons, List.filter_cons, h x List.mem_cons_self]
    have := ih fun y hy => h y (List.mem_cons_of_mem _ hy)
    cases q x
    · simpa using this
    · simpa using this
theorem fits_count (S : Sd T pc fr) : ∀ n, n ≤ 6 → ((List.range (2 ^ n)).filter (fits pc fr n)).length = 2 ^ ((List.range n).filter fun v => decide (pc v = v)).length
  | 0, _ => rfl
  | n + 1, hn => by
    have ih := fits_count S n (by exact om_134 hn)
    have e : List.range (2 ^ (n + 1)) = List.range (2 ^ n) ++ (List.range (2 ^ n)).map (2 ^ n + ·) := by rw [Nat.pow_succ, Nat.mul_two, List.range_add]
    rw [e, List.filter_append, List.length_append, List.filter_map, List.length_map]
    have hlt : ∀ m ∈ List.range (2 ^ n), m < 2 ^ n := fun m hm => List.mem_range.mp hm
    by_cases q : pc n = n
    · have f0 : fr n = 0 := by have := (S.pcr n (by exact om_135 hn)).1; rwa [q] at this
      have h1 : ((List.range (2 ^ n)).filter (fits pc fr (n + 1))).length = ((List.range (2 ^ n)).filter (fits pc fr n)).length := filter_ext fun m hm => by
        rw [fits_succ, q, f0, (bit_top (hlt m hm)).2]; simp
      have h2 : ((List.range (2 ^ n)).filter (fits pc fr (n + 1) ∘ (2 ^ n + ·))).length = ((List.range (2 ^ n)).filter (fits pc fr n)).length := filter_ext fun m hm => by
        show fits pc fr (n + 1) (2 ^ n + m) = _
        rw [fits_succ, q, f0, (bit_top (hlt m hm)).1, fits_low S.pl (by exact om_134 hn)]; simp
      rw [h1, h2, ih, List.range_succ, List.filter_append, List.length_append]
      have : ([n].filter fun v => decide (pc v = v)) = [n] := by simp [q]
      rw [this, List.length_singleton, Nat.pow_succ]; exact om_136
    · have hp : pc n < n := Nat.lt_of_le_of_ne (S.pl n (by exact om_135 hn)) q
      let g : Nat → Bool := fun m => decide ((bit m (pc n) + fr n) % 2 = 0)
      have h1 : ((List.range (2 ^ n)).filter (fits pc fr (n + 1))).length = ((List.range (2 ^ n)).filter fun m => fits pc fr n m && g m).length := filter_ext fun m hm => by
        rw [fits_succ, (bit_top (hlt m hm)).2]
        congr 1
        exact decide_eq_decide.mpr eq_comm
      have h2 : ((List.range (2 ^ n)).filter (fits pc fr (n + 1) ∘ (2 ^ n + ·))).length = ((List.range (2 ^ n)).filter fun m => fits pc fr n m && !g m).length := filter_ext fun m hm => by
        show fits pc fr (n + 1) (2 ^ n + m) = _
        rw [fits_succ, (bit_top (hlt m hm)).1, fits_low S.pl (by exact om_134 hn), bit_low hp]
        congr 1
        show _ = !decide _
        rw [← decide_not]
        exact decide_eq_decide.mpr (by exact om_137)
      rw [h1, h2, filter_split, ih, List.range_succ, List.filter_append, List.length_append]
      have : ([n].filter fun v => decide (pc v = v)) = [] := by simp [q]
      rw [this, List.length_nil, Nat.add_zero]
noncomputable def good (T : List Tie) (m : Nat) : Bool := decide (T.filter (same (bit m)) = [])
theorem bit_mod (m v : Nat) : bit m v % 2 = bit m v := Nat.mod_mod _ _
theorem Sd.ways (S : Sd T pc fr) (K : TOk T) : ((List.range 64).filter (good T)).length = if T.filter (same fr) = [] then 2 ^ ((List.range 6).filter fun v => decide (pc v = v)).length else 0 := by
  by_cases h : T.filter (same fr) = []
  · rw [if_pos h, ← fits_count S 6 (Nat.le_refl _)]
    have pf := proper_of (same_nil.mp h)
    refine filter_ext fun m _ => ?_
    unfold good
    rw [Bool.eq_iff_iff, decide_eq_true_iff, same_nil]
    unfold fits
    rw [List.all_eq_true]
    constructor
    · intro hg v hv
      have := S.colour (proper_of hg) v (List.mem_range.mp hv)
      rw [bit_mod] at this
      exact decide_eq_true this
    · intro hf
      refine of_proper K fun u v hu hv => ?_
      have hv6 := (near_iff.mp hv).1
      have h1 := of_decide_eq_true (hf u (List.mem_range.mpr hu))
      have h2 := of_decide_eq_true (hf v (List.mem_range.mpr hv6))
      have h3 := pf u v hu hv
      rw [(S.edge u v hu hv).1] at h2
      rw [bit_mod, bit_mod]
      exact om_138 h1 h2 h3
  · rw [if_neg h]
    have : (List.range 64).filter (good T) = [] := by
      rw [List.filter_eq_nil_iff]
      intro m _ hg
      have hg := proper_of (same_nil.mp (of_decide_eq_true hg))
      refine h ((S.bad_iff K).mpr fun p hp => ?_)
      obtain ⟨h1, h2⟩ := cw_even hg hp
      exact om_127 h1 h2
    rw [this]; rfl
end
end Mine
end
section
open PySem PySem.W PyProof.Rows PySem.Spec PySem.SeqAt
set_option maxRecDepth 100000
set_option linter.all false
namespace Mine
/-! ## the ties in order -/
abbrev tlt (t u : Tie) : Prop := t.1 < u.1 ∨ (t.1 = u.1 ∧ t.2 < u.2)
theorem tlt_irr (t : Tie) : ¬ tlt t t := fun h => by rcases h with h | ⟨_, h⟩ <;> exact absurd h (Nat.lt_irrefl _)
theorem tlt_asymm {t u : Tie} (h : tlt t u) : ¬ tlt u t := by unfold tlt at *; exact om_139 h
theorem tlt_trans {t u v : Tie} (h : tlt t u) (h' : tlt u v) : tlt t v := by unfold tlt at *; exact om_140 h h'
theorem tlt_tri {t u : Tie} (h : t ≠ u) (h' : ¬ tlt t u) : tlt u t := by
  obtain ⟨a, b⟩ := t
  obtain ⟨c, d⟩ := u
  simp only [ne_eq, Prod.mk.injEq] at h
  unfold tlt at *
  simp only at *
  exact om_141 h' h
theorem cmp_lt_tie (t u : Tie) : cmpD .Lt (tieD t) (tieD u) = some (decide (tlt t u)) := by
  refine (cmpD_ltT _ _ _ _).trans (congrArg some (decide_eq_decide.mpr ?_))
  unfold tlt
  exact om_142
theorem ins_pos (t : Tie) : ∀ T : List Tie, T.Pairwise tlt → t ∉ T → ∃ k, k ≤ T.length ∧ (∀ (i : Nat) u, T[i]? = some u → (tlt u t ↔ i < k)) ∧ (T.take k ++ t :: T.drop k).Pairwise tlt
  | [], _, _ => ⟨0, Nat.le_refl _, fun i u h => by simp at h, by simp⟩
  | v :: T, so, ht => by
    rw [List.pairwise_cons] at so
    rw [List.mem_cons, not_or] at ht
    by_cases q : tlt v t
    · obtain ⟨k, h1, h2, h3⟩ := ins_pos t T so.2 ht.2
      refine ⟨k + 1, Nat.succ_le_succ h1, fun i u h => ?_, ?_⟩
      · cases i with
        | zero => cases h; exact ⟨fun _ => Nat.succ_pos _, fun _ => q⟩
        | succ i => exact (h2 i u h).trans (Nat.succ_lt_succ_iff).symm
      · rw [List.take_succ_cons, List.drop_succ_cons, List.cons_append]
        refine List.pairwise_cons.mpr ⟨fun u hu => ?_, h3⟩
        rcases List.mem_append.mp hu with z | z
        · exact so.1 u (List.mem_of_mem_take z)
        · rcases List.mem_cons.mp z with rfl | z
          · exact q
          · exact so.1 u (List.mem_of_mem_drop z)
    · have hlt := tlt_tri (Ne.symm ht.1) q
      have all : ∀ u ∈ v :: T, tlt t u := fun u hu => by
        rcases List.mem_cons.mp hu with rfl | hu
        · exact hlt
        · exact tlt_trans hlt (so.1 u hu)
      exact ⟨0, Nat.zero_le _, fun i u h => ⟨fun z => absurd z (tlt_asymm (all u (List.mem_of_getElem? h))), fun z => absurd z (Nat.not_lt_zero _)⟩, List.pairwise_cons.mpr ⟨all, List.pairwise_cons.mpr so⟩⟩
theorem find_pos {t : Tie} {T : List Tie} (so : T.Pairwise tlt) (ht : t ∈ T) : ∃ k, T[k]? = some t ∧ k < T.length ∧ ∀ (i : Nat) u, T[i]? = some u → (tlt u t ↔ i < k) := by
  obtain ⟨k, hk, e⟩ := List.mem_iff_getElem.mp ht
  refine ⟨k, by rw [List.getElem?_eq_getElem hk, e], hk, fun i u hu => ?_⟩
  obtain ⟨hi, e2⟩ := List.getElem?_eq_some_iff.mp hu
  rcases Nat.lt_trichotomy i k with q | q | q
  · exact ⟨fun _ => q, fun _ => by rw [← e, ← e2]; exact List.pairwise_iff_getElem.mp so i k hi hk q⟩
  · subst q
    rw [e] at e2
    subst e2
    exact ⟨fun h => absurd h (tlt_irr _), fun h => absurd h (Nat.lt_irrefl _)⟩
  · have := List.pairwise_iff_getElem.mp so k i hk hi q
    rw [e, e2] at this
    exact ⟨fun h => absurd h (tlt_asymm this), fun h => by exact absurd_om (om_143 q h)⟩
theorem lt_at {T : List Tie} {t : Tie} {k : Nat} (h : ∀ (i : Nat) u, T[i]? = some u → (tlt u t ↔ i < k)) : ∀ (i : Nat) d, (T.map tieD)[i]? = some d → cmpD .Lt d (tieD t) = some (decide (i < k)) := fun i d hd => by
  rw [List.getElem?_map] at hd
  obtain ⟨u, hu, rfl⟩ := Option.map_eq_some_iff.mp hd
  rw [cmp_lt_tie]
  exact congrArg some (decide_eq_decide.mpr (h i u hu))
theorem eqDs_ties : ∀ T U : List Tie, eqDs (T.map tieD) (U.map tieD) = decide (T = U)
  | [], [] => eqDs_nil
  | [], u :: U => by rw [List.map_cons, List.map_nil, eqDs_nc]; rfl
  | t :: T, [] => by rw [List.map_cons, List.map_nil, eqDs_cn]; rfl
  | t :: T, u :: U => by
    rw [List.map_cons, List.map_cons, eqDs_cons, eqD_tie, eqDs_ties T U, ← Bool.decide_and]
    exact decide_eq_decide.mpr (by rw [List.cons.injEq])
theorem okPy_ties (T : List Tie) : okPy 8 (.lst (T.map tieD)) = true := okPys_ties T 5
theorem cmp_eq_ties (T U : List Tie) : cmpD .Eq (.lst (T.map tieD)) (.lst (U.map tieD)) = some (decide (T = U)) := by
  rw [cmpD_eq, okPy_ties, okPy_ties, eqD_lst, eqDs_ties]; rfl
theorem cmp_ne_ties (T U : List Tie) : cmpD .NotEq (.lst (T.map tieD)) (.lst (U.map tieD)) = some (!decide (T = U)) := by
  rw [cmpD_ne, okPy_ties, okPy_ties, eqD_lst, eqDs_ties]; rfl
theorem cmp_ne_tie (t u : Tie) : cmpD .NotEq (tieD t) (tieD u) = some (!decide (t = u)) := by
  rw [cmpD_ne, okPy_tie t 6, okPy_tie u 6, eqD_tie]; rfl
theorem cmp_ne_bool (a b : Bool) : cmpD .NotEq (.bool a) (.bool b) = some (a != b) := by
  have h : okPy 8 (.bool a) = true ∧ okPy 8 (.bool b) = true := by simp [okPy]
  rw [cmpD_ne, h.1, h.2]
  cases a <;> cases b <;> simp [eqD, pyOf, PyData.eqv]
/-! ## further rules -/
theorem turnG {κ : Kap} {sto : Str → Bool} {FI : Expr → Expr → Rho → Option (List D)} {FE : Expr → Den} {FB : Expr → DenB} {elt t it : Expr} {gs : List Comprehension} {ρ0 ρ' : Rho} {d : D} {out : List D} (h1 : dTarget κ sto t d ρ0 = some ρ') (h2 : dGens κ sto FE FB FI elt gs ρ' = some out) : dTurn κ sto FE FB FI elt ⟨t, it, [], 0⟩ gs ρ0 d = some out := by
  unfold dTurn
  rw [h1]; exact h2
theorem turns_over {α : Type} {f : D → Option (List D)} {m : α → D} {g : α → List D} : ∀ {L : List α}, (∀ x ∈ L, f (m x) = some (g x)) → dTurns f (L.map m) = some (L.flatMap g)
  | [], _ => rfl
  | x :: L, h => by
    show Option.bind (f (m x)) _ = _
    rw [h x List.mem_cons_self]
    show Option.map _ (dTurns f (L.map m)) = _
    rw [turns_over fun y hy => h y (List.mem_cons_of_mem _ hy)]
    rw [List.flatMap_cons]; rfl
theorem comp_over {α : Type} {κ : Kap} {FI0 FI : Expr → Expr → Rho → Option (List D)} {FE : Expr → Den} {FB : Expr → DenB} {elt t it : Expr} {ifs : List Expr} {gs : List Comprehension} {scope : Scope} {ρ : Rho} (L : List α) (m : α → D) (g : α → List D)
    (hs : scopeOk scope κ = true ∧ ((⟨t, it, ifs, 0⟩ :: gs : List Comprehension).all fun g => decide (g.is_async = 0)) = true ∧ noSet it = true ∧ ((targetNames t).all fun x => (rhoC scope ρ x).isNone) = true) (hi : FI0 t it ρ = some (L.map m))
    (ht : ∀ x ∈ L, dTurn (kapC scope κ) (stoC scope) FE FB FI elt ⟨t, it, ifs, 0⟩ gs (rhoC scope ρ) (m x) = some (g x)) (hc : (L.flatMap g).length ≤ cap) : dComp κ FI0 FE FB FI elt (⟨t, it, ifs, 0⟩ :: gs) scope ρ = some (L.flatMap g) := by
  unfold dComp
  refine (if_pos hs).trans ?_
  rw [hi, opt_bind_some, turns_over ht, opt_bind_some, if_pos hc]
theorem gens_over {α : Type} {κ : Kap} {sto : Str → Bool} {FI : Expr → Expr → Rho → Option (List D)} {FE : Expr → Den} {FB : Expr → DenB} {elt t it : Expr} {ifs : List Expr} {ρ : Rho} (L : List α) (m : α → D) (g : α → List D) (hc : noSet it = true ∧ ((targetNames t).all fun x => (ρ x).isNone) = true) (hi : FI t it ρ = some (L.map m))
    (ht : ∀ x ∈ L, dTurn κ sto FE FB FI elt ⟨t, it, ifs, 0⟩ [] ρ (m x) = some (g x)) : dGens κ sto FE FB FI elt [⟨t, it, ifs, 0⟩] ρ = some (L.flatMap g) := by
  refine (if_pos ⟨rfl, hc.1, hc.2⟩).trans ?_
  show Option.bind (FI t it ρ) _ = _
  rw [hi]
  exact turns_over ht
theorem flat_if {α β : Type} (p : α → Bool) (h : α → β) : ∀ L : List α, (L.flatMap fun x => if p x then [h x] else []) = (L.filter p).map h
  | [] => rfl
  | x :: L => by
    rw [List.flatMap_cons, flat_if p h L, List.filter_cons]
    cases p x <;> rfl
theorem q_upto {f : Den} {ρ : Rho} {fx : Fl} {ds : List D} {k : Int} (h : f ρ = some (fx, .lst ds)) (hk : 0 ≤ k) : dUpto f k ρ = some (.fresh, .lst (ds.take k.toNat)) := by
  unfold dUpto; rw [h]; exact if_pos hk
theorem q_if {f : DenB} {g h : Den} {ρ : Rho} {b : Bool} {r : Option (Fl × D)} (ha : f ρ = some b) (hr : (if b then g ρ else h ρ) = r) : dIf f g h ρ = r := by
  unfold dIf; rw [ha]; exact hr
theorem q_unpack {κ : Kap} {sto : Str → Bool} {t : Expr} {fv : Den} {ρ ρ' : Rho} {d : D} (h : dFrz fv ρ = some d) (ht : dTarget κ sto t d ρ = some ρ') : dUnpack κ sto t fv ρ = some (.next, ρ') := by
  unfold dUnpack; rw [h, opt_bind_some, ht]; rfl
theorem q_truth {f : Den} {ρ : Rho} {fx : Fl} {b : Bool} (h : f ρ = some (fx, .bool b)) : dTruth f ρ = some b := by
  unfold dTruth; rw [h]; rfl
theorem run_layOne {sto : Str → Bool} {x : Str} {f : DenS} {ρ : Rho} {d : D} {Q : Flo → Rho → Prop} (hs : sto x = true) (h : ρ x = some (.own d)) (r : Run f (upd ρ x (.frz d)) Q) : Run (dLayOne sto x f) ρ Q := by
  obtain ⟨fl, ρ', e, q⟩ := r
  refine ⟨fl, ρ', ?_, q⟩
  unfold dLayOne layOne
  rw [if_pos hs, own_at h]; exact e
noncomputable def layT : Stmt → Option Str
  | .If (.BoolOp .Or _ _) _ _ _ => some nm_ties
  | _ => none
noncomputable def k1 (mu : Str → Bool) (T : Str → Option (List D → Option D)) (M : Str → Option (D → List D → Option D)) : Know := ⟨T, M, mu, layT, 40⟩
section
variable (mu : Str → Bool) (T : Str → Option (List D → Option D)) (M : Str → Option (D → List D → Option D)) (r : Sem5) (κ : Kap) (sto : Str → Bool)
theorem k1_T : (k1 mu T M).T = T := rfl
theorem k1_M : (k1 mu T M).M = M := rfl
theorem k1_mu : (k1 mu T M).mu = mu := rfl
theorem k1_K : (k1 mu T M).K = 40 := rfl
theorem S1_assign (ts : List Expr) (v : Expr) (p : Pos) : stepS (k1 mu T M) r κ sto (.Assign ts v p) = stepS0 (k1 mu T M) r κ sto (.Assign ts v p) := rfl
theorem S1_for (t i : Expr) (b o : List Stmt) (p : Pos) : stepS (k1 mu T M) r κ sto (.For t i b o p) = stepS0 (k1 mu T M) r κ sto (.For t i b o p) := rfl
theorem S1_ifC (a : Expr) (ops : List CmpOp) (es : List Expr) (p0 : Pos) (b o : List Stmt) (p : Pos) : stepS (k1 mu T M) r κ sto (.If (.Compare a ops es p0) b o p) = stepS0 (k1 mu T M) r κ sto (.If (.Compare a ops es p0) b o p) := rfl
theorem S1_ifA (es : List Expr) (p0 : Pos) (b o : List Stmt) (p : Pos) : stepS (k1 mu T M) r κ sto (.If (.BoolOp .And es p0) b o p) = stepS0 (k1 mu T M) r κ sto (.If (.BoolOp .And es p0) b o p) := rfl
theorem S1_ifO (es : List Expr) (p0 : Pos) (b o : List Stmt) (p : Pos) : stepS (k1 mu T M) r κ sto (.If (.BoolOp .Or es p0) b o p) = dLayOne sto nm_ties (stepS0 (k1 mu T M) r κ sto (.If (.BoolOp .Or es p0) b o p)) := rfl
theorem S1_expr (e : Expr) (p : Pos) : stepS (k1 mu T M) r κ sto (.Expr e p) = stepS0 (k1 mu T M) r κ sto (.Expr e p) := rfl
theorem S1_ret (e : Option Expr) (p : Pos) : stepS (k1 mu T M) r κ sto (.Return e p) = stepS0 (k1 mu T M) r κ sto (.Return e p) := rfl
end
end Mine
end
section
open PySem PySem.W PyProof.Rows PySem.Spec PySem.SeqAt
set_option maxRecDepth 100000
set_option linter.all false
namespace Mine
theorem far_at {T : List Tie} {R : List Rec} (D : Done T R) (hv : ∀ v, v < 6 → v ∈ keysR R) {v : Nat} (h : v < 6) : itemD (farR R) (.int (v : Int)) = some (.int (frF R v : Int)) := by
  obtain ⟨r, hr, rfl⟩ := List.mem_map.mp (hv v h)
  rw [(D.at hr).2]
  exact rec_get (fun r : Rec => .int (r.2.2 : Int)) R r hr D.nd
theorem piece_at {T : List Tie} {R : List Rec} (D : Done T R) (hv : ∀ v, v < 6 → v ∈ keysR R) {v : Nat} (h : v < 6) : itemD (pieceR R) (.int (v : Int)) = some (.int (pcF R v : Int)) := by
  obtain ⟨r, hr, rfl⟩ := List.mem_map.mp (hv v h)
  rw [(D.at hr).1]
  exact rec_get (fun r : Rec => .int (r.2.1 : Int)) R r hr D.nd
theorem mod2 (n : Nat) : binD .Mod (.int (n : Int)) (.int 2) = some (.frozen, .int ((n % 2 : Nat) : Int)) := by
  rw [binD_mod, if_pos (by decide), Int.fmod_eq_emod_of_nonneg _ (by decide)]; rfl
theorem pow2 {n : Nat} (h : n ≤ 1000) : binD .Pow (.int 2) (.int (n : Int)) = some (.frozen, .int ((2 ^ n : Nat) : Int)) := by
  rw [binD_pow, if_pos ⟨by exact om_79, by exact om_144 h, by decide⟩, Int.toNat_natCast, Int.natCast_pow]; rfl
theorem div2 {m n : Nat} (h : n < 6) : binD .FloorDiv (.int (m : Int)) (.int ((2 ^ n : Nat) : Int)) = some (.frozen, .int ((m / 2 ^ n : Nat) : Int)) := by
  have h1 : 2 ^ n ≤ 2 ^ 5 := Nat.pow_le_pow_right (by decide) (by exact om_145 h)
  have h2 := Nat.two_pow_pos n
  rw [binD_fdiv, if_pos ⟨by exact om_146 h2, by rw [Int.natAbs_natCast]; omega⟩, Int.fdiv_eq_ediv_of_nonneg _ (by exact om_147 h2), Int.natCast_ediv]
theorem row_at (p : Nat) : ∀ w : Wt, (w.map (·.1)).Nodup → (getK ((rowW w).map (·.1)) ((rowW w).map fun q => D.int q.2) (wkey p) = some (.int (lin w (dl p)))) ∨ (getK ((rowW w).map (·.1)) ((rowW w).map fun q => D.int q.2) (wkey p) = none ∧ lin w (dl p) = 0)
  | [], _ => .inr ⟨rfl, rfl⟩
  | e :: w, nd => by
    rw [List.map_cons, List.nodup_cons] at nd
    have hg : getK ((rowW (e :: w)).map (·.1)) ((rowW (e :: w)).map fun q => D.int q.2) (wkey p) = if wkey e.1 = wkey p then some (.int e.2) else getK ((rowW w).map (·.1)) ((rowW w).map fun q => D.int q.2) (wkey p) := rfl
    rw [hg, lin_cons]
    by_cases q : e.1 = p
    · rw [if_pos (congrArg wkey q)]
      left
      have h0 : lin w (dl p) = 0 := by
        have : ∀ l : Wt, (∀ x ∈ l, x.1 ≠ p) → lin l (dl p) = 0 := by
          intro l
          induction l with
          | nil => intro _; rfl
          | cons x l ih =>
            intro h
            rw [lin_cons, ih fun y hy => h y (List.mem_cons_of_mem _ hy), dl, if_neg (h x List.mem_cons_self)]; simp
        exact this w fun x hx z => nd.1 (List.mem_map.mpr ⟨x, hx, by rw [z, q]⟩)
      rw [h0, q, dl, if_pos rfl]; simp
    · rw [if_neg fun z => q (wkey_inj z), dl, if_neg q]
      rcases row_at p w nd.2 with h | ⟨h1, h2⟩
      · left; rw [h]; simp
      · right; refine ⟨h1, ?_⟩; rw [h2]; simp
theorem get_row {w : Wt} (W : WtOk w) (p : Nat) (f g : Fl) : methD nm_get (rowD (rowW w)) [(f, .tup [.str "at", .int (p : Int), .str "end"]), (g, .int 0)] = some (.frozen, .int (lin w (dl p))) := by
  have hk : keyOf (.tup [.str "at", .int (p : Int), .str "end"]) = some (wkey p) := keyOf_keyD (wkey p)
  cases w with
  | nil =>
    show methD nm_get (.idict [] []) _ = _
    rw [methD_get0, if_pos (by decide), hk]; rfl
  | cons e w =>
    have h1 : rowD (rowW (e :: w)) = .tdict ((rowW (e :: w)).map (·.1)) ((rowW (e :: w)).map fun p => .int p.2) := by unfold rowD; rw [if_neg (by simp [rowW])]
    rw [h1, methD_get, if_pos (by decide), hk, opt_bind_some, if_pos (show (D.int 0).comp = false from rfl)]
    unfold getD2
    rcases row_at p (e :: w) W.nd with h | ⟨h2, h3⟩
    · rw [h]; rfl
    · rw [h2, h3]
theorem count_row (w : Wt) : fCount [rowD (rowW w)] = some (.int (lin w fun _ => 1)) := by
  have e : (w.map fun e : Nat × Int => e.2 * 1) = w.map (·.2) := List.map_congr_left fun e _ => Int.mul_one _
  have h := count_ok (rowD (rowW w)) (w.map (·.2)) (by rw [rowD_vals, rowW, List.map_map, List.map_map]; rfl)
  rw [← e] at h
  exact h
theorem op1 (T : List Tie) (v : Nat) : opA T (fun _ => 1) v = ((near T v).length : Int) := by
  unfold opA
  have : ∀ L : List Nat, (L.map fun _ => (1 : Int)).sum = (L.length : Int) := fun L => by
    induction L with
    | nil => rfl
    | cons x L ih => rw [List.map_cons, List.sum_cons, ih, List.length_cons]; exact om_148
  exact this _
theorem near_len (T : List Tie) (v : Nat) : (near T v).length ≤ 6 := Nat.le_trans (List.length_filter_le _ _) (by simp)
/-- the places of rings, as the law lists them -/
noncomputable def oddAt (T : List Tie) (p : Nat) : List Nat := (([3, 5] : List Nat).filter fun s => decide (0 < cw T p s)).map fun _ => p
noncomputable def oddL (T : List Tie) : List Nat := (List.range 6).flatMap (oddAt T)
theorem odd_nil (T : List Tie) : oddL T = [] ↔ ∀ p, p < 6 → ¬ 0 < cw T p 3 ∧ ¬ 0 < cw T p 5 := by
  unfold oddL
  rw [List.flatMap_eq_nil_iff]
  have e : ∀ p, oddAt T p = [] ↔ ¬ 0 < cw T p 3 ∧ ¬ 0 < cw T p 5 := fun p => by
    unfold oddAt
    rw [List.map_eq_nil_iff, List.filter_eq_nil_iff]
    simp
  exact ⟨fun h p hp => (e p).mp (h p (List.mem_range.mpr hp)), fun h p hp => (e p).mpr (h p (List.mem_range.mp hp))⟩
end Mine
end
section
open PySem PySem.W PyProof.Rows PySem.Spec PySem.SeqAt
set_option maxRecDepth 100000
set_option linter.all false
namespace Mine
noncomputable def tLw1 (f : Str) : Option (List D → Option D) := if f = nm_Llaw_near then some fNear else if f = nm_Llaw_sides then some fSid else if f = nm_Llaw_walks then some fWlk else if f = nm_bisect_left then some fBis else if f = nm_count_calls then some fCount else none
noncomputable def mLw1 (f : Str) : Option (D → List D → Option D) := if f = nm_insort_left then some fIns else none
theorem T_tLw1_len : tLw1 nm_len = none := rfl
theorem T_tLw1_sum : tLw1 nm_sum = none := rfl
theorem T_tLw1_sorted : tLw1 nm_sorted = none := rfl
theorem T_tLw1_max : tLw1 nm_max = none := rfl
theorem T_tLw1_min : tLw1 nm_min = none := rfl
theorem T_tLw1_range : tLw1 nm_range = none := rfl
theorem T_tLw1_isinstance : tLw1 nm_isinstance = none := rfl
theorem T_tLw1_Llaw_near : tLw1 nm_Llaw_near = some fNear := rfl
theorem T_tLw1_Llaw_sides : tLw1 nm_Llaw_sides = some fSid := rfl
theorem T_tLw1_Llaw_walks : tLw1 nm_Llaw_walks = some fWlk := rfl
theorem T_tLw1_bisect_left : tLw1 nm_bisect_left = some fBis := rfl
theorem T_tLw1_count_calls : tLw1 nm_count_calls = some fCount := rfl
theorem T_mLw1_len : mLw1 nm_len = none := rfl
theorem T_mLw1_sum : mLw1 nm_sum = none := rfl
theorem T_mLw1_sorted : mLw1 nm_sorted = none := rfl
theorem T_mLw1_max : mLw1 nm_max = none := rfl
theorem T_mLw1_min : mLw1 nm_min = none := rfl
theorem T_mLw1_range : mLw1 nm_range = none := rfl
theorem T_mLw1_isinstance : mLw1 nm_isinstance = none := rfl
theorem T_mLw1_insort_left : mLw1 nm_insort_left = some fIns := rfl
noncomputable def kLw1 : Know := k1 (fun x => x = nm_ties) tLw1 mLw1
noncomputable def bdLw1 : DenS := (den kLw1 30).Ss kf_10 sf_10 (bodyAt topB 10)
noncomputable def prs : List Tie := (List.range 6).flatMap fun b => (List.range b).map fun a => (a, b)
theorem prs_lt : ∀ t ∈ prs, t.1 < t.2 ∧ t.2 < 6 := by decide +kernel
theorem prs_len : prs.length = 15 := by decide +kernel
theorem prs_item {x : Int} : ∃ t, t ∈ prs ∧ itemD (.lst (prs.map tieD)) (.int (x.fmod 15)) = some (tieD t) := by
  have h0 : 0 ≤ x.fmod 15 := Int.fmod_nonneg_of_pos x (by decide)
  have h1 : x.fmod 15 < 15 := Int.fmod_lt_of_pos x (by decide)
  have hi : (x.fmod 15).toNat < prs.length := by rw [prs_len]; exact om_149 h1
  refine ⟨prs[(x.fmod 15).toNat], List.getElem_mem hi, ?_⟩
  rw [itemD_lst, if_pos ⟨h0, by exact om_150 h1⟩, List.getElem?_map, List.getElem?_eq_getElem hi]; rfl
theorem sort_ties {T : List Tie} (f : Fl) (K : TOk T) (hl : T.length < 64) : bfnD nm_sorted [(f, .lst (T.map tieD))] = some (.fresh, .lst (T.map tieD)) := by
  cases T with
  | nil => rfl
  | cons t T =>
    show bfnP nm_sorted ((t :: T).map tieD) = _
    unfold bfnP
    have e : (t :: T).map tieD = ((t :: T).map fun t => ((t.1 : Int), (t.2 : Int))).map pairI := by simp [tieD, pairI]
    rw [if_pos (by decide), e, pairsI_map]
    refine if_pos ⟨?_, by simpa using hl⟩
    refine List.Pairwise.map _ (fun a b h => ?_) K.so
    unfold lexLt
    simp only
    exact om_151 h
theorem ins_tok {T : List Tie} {t : Tie} {k : Nat} (K : TOk T) (ht : t.1 < t.2 ∧ t.2 < 6) (h : (T.take k ++ t :: T.drop k).Pairwise tlt) : TOk (T.take k ++ t :: T.drop k) :=
  ⟨h, fun u hu => by
    rcases List.mem_append.mp hu with q | q
    · exact K.lt u (List.mem_of_mem_take q)
    · rcases List.mem_cons.mp q with rfl | q
      · exact ht
      · exact K.lt u (List.mem_of_mem_drop q)⟩
theorem flat_nil {α β : Type} : ∀ L : List α, L.flatMap (fun _ => ([] : List β)) = []
  | [] => rfl
  | _ :: L => flat_nil L
theorem range64 : rangeD 64 = (List.range 64).map fun v : Nat => .int (v : Int) := rfl
theorem q_andB {f g : DenB} {ρ : Rho} {b c : Bool} (ha : f ρ = some b) (hb : g ρ = some c) : dAnd f g ρ = some (b && c) := by
  unfold dAnd; rw [ha]
  cases b with
  | false => rfl
  | true => exact hb
theorem cmp_ones {α : Type} (L : List α) : cmpD .Eq (.lst (L.map fun _ => D.int 1)) (.lst []) = some (decide (L = [])) := by
  have h := cmp_eq_ints (L.map fun _ => (1 : Int)) []
  rw [List.map_map] at h
  refine h.trans (congrArg some (decide_eq_decide.mpr List.map_eq_nil_iff))
theorem app_tie (T : List Tie) (t : Tie) (h : T.length ≤ 50) : binD .Add (.lst (T.map tieD)) (.lst [tieD t]) = some (.fresh, .lst ((T ++ [t]).map tieD)) := by
  rw [binD_app, if_pos (by rw [List.length_map]; have : cap = 200 := rfl; simp; exact om_152 h this), List.map_append]; rfl
abbrev LwA : List D → Rho → Prop := fun ds ρ => ∃ (ms : List Int) (T : List Tie), ds = ms.map .int ∧ T.length + ms.length ≤ 9 ∧ TOk T ∧ ρ nm_ties = some (.own (.lst (T.map tieD))) ∧ ρ nm_pairs = some (.frz (.lst (prs.map tieD)))
structure L1 (T : List Tie) (R : List Rec) (ρ : Rho) : Prop where
  ties : ρ nm_ties = some (.frz (.lst (T.map tieD)))
  pairs : ρ nm_pairs = some (.frz (.lst (prs.map tieD)))
  piece : ρ nm_piece = some (.frz (pieceR R))
  far : ρ nm_far = some (.frz (farR R))
abbrev LwB (T : List Tie) (R : List Rec) : List D → Rho → Prop := fun ds ρ => ∃ ts : List Tie, ds = ts.map tieD ∧ (∀ t ∈ ts, t ∈ prs) ∧ L1 T R ρ
set_option maxHeartbeats 8000000 in
theorem law1_run (ns : List Int) : Run bdLw1 (rho0 [nm_script] [.frz (.lst (ns.map .int))]) (RetD (.bool true)) := by
  unfold bdLw1
  have h : bodyAt topB 10 = bodyAt topB 10 := rfl
  conv at h => rhs; whnf
  rw [h]
  clear h
  dsimp only [ofs_ValueError, ofs_UUclassdictUU, ofs_UUdebugUU, ofs_UUnameUU, ofs_Llaw_near, ofs_Llaw_sides, ofs_Llaw_walks, ofs_a, ofs_add_callers, ofs_after, ofs_append, ofs_b, ofs_bad, ofs_bisect_left, ofs_caller, ofs_callers, ofs_calls, ofs_count_calls, ofs_far, ofs_first, ofs_func, ofs_get, ofs_here, ofs_hi, ofs_i, ofs_insert, ofs_insort_left, ofs_isinstance, ofs_items, ofs_j, ofs_key, ofs_law, ofs_len, ofs_lo, ofs_max, ofs_mid, ofs_min, ofs_more, ofs_nc, ofs_new_callers, ofs_number, ofs_odd, ofs_often, ofs_one, ofs_other, ofs_pairs, ofs_piece, ofs_place, ofs_range, ofs_script, ofs_sorted, ofs_source, ofs_steps, ofs_sum, ofs_table, ofs_target, ofs_there, ofs_tie, ofs_ties, ofs_tuple, ofs_turn, ofs_values, ofs_waiting, ofs_ways, ofs_word, ofs_x, ofs_zip, den_Ss, den_S, den_E, den_I, den_B, E_int, E_str, E_bool, E_none, E_name, E_bin, E_cmp, E_andV, E_ifexp, E_tup, E_lst, E_upto, E_sub_name, E_sub_con, E_sub_bin, E_sub_sub, E_sub_call, E_dict0, E_dict1, E_comp, E_call, E_meth, N_isi, B_and0, B_and, B_or0, B_or, B_cmp, B_call, I_call2, I_name, I_lst, I_tup, I_sub, I_bin, I_items, S_assignC, S_assign_name, S_assign_con, S_assign_bin, S_assign_call, S_assign_sub, S_assign_cmp, S_assign_ifx, S_assign_lst, S_assign_tup, S_assign_dict, S_assign_boo, S_tup, S_unpack_call, S_setSub, S_augSub, S_augName, S_if, S_while, S_for_name, S_for_call, S_for_lst, S_for_tup, S_for_sub, S_ret, S_retNone, S_mut, Ss_nil, Ss_cons, L_nil, L_cons, dTests_nil, dTests_cons, N1_len, N1_sum, N1_sorted, N1_max, N1_min, N2_max, N2_min, N2_isi, I_range, I_items0, I_values, S_appendN, S_insertN, k0_T, k0_M, k0_mu, k0_K, S_k0, callE, bMut, T_tLw1_len, T_tLw1_sum, T_tLw1_sorted, T_tLw1_max, T_tLw1_min, T_tLw1_range, T_tLw1_isinstance, T_tLw1_Llaw_near, T_tLw1_Llaw_sides, T_tLw1_Llaw_walks, T_tLw1_bisect_left, T_tLw1_count_calls, T_mLw1_len, T_mLw1_sum, T_mLw1_sorted, T_mLw1_max, T_mLw1_min, T_mLw1_range, T_mLw1_isinstance, T_mLw1_insort_left, kLw1, k1_T, k1_M, k1_mu, k1_K, S1_assign, S1_for, S1_ifC, S1_ifA, S1_ifO, S1_expr, S1_ret]
  simp only [List.map_cons, List.map_nil, List.cons_append, List.nil_append, rho0_cons]
  have capE : cap = 200 := rfl
  refine run_seq (run_eq .next (upd (upd (upd (rho0 [] []) nm_script (.frz (.lst (ns.map .int)))) nm_pairs (.frz (.lst (prs.map tieD)))) nm_ties (.own (.lst []))) ?_ ?_)
  · refine q_tupA (xs := [(false, .lst (prs.map tieD)), (true, .lst [])]) ⟨rfl, rfl, by decide +kernel, by decide⟩ (q_hold (f := .fresh) rfl ?_ rfl (q_hold (f := .fresh) rfl ?_ rfl rfl)) (q_stores (q_stN (by decide +kernel)) (q_stores (q_stN (by decide +kernel)) rfl))
    · dsimp only [ofs_ValueError, ofs_UUclassdictUU, ofs_UUdebugUU, ofs_UUnameUU, ofs_Llaw_near, ofs_Llaw_sides, ofs_Llaw_walks, ofs_a, ofs_add_callers, ofs_after, ofs_append, ofs_b, ofs_bad, ofs_bisect_left, ofs_caller, ofs_callers, ofs_calls, ofs_count_calls, ofs_far, ofs_first, ofs_func, ofs_get, ofs_here, ofs_hi, ofs_i, ofs_insert, ofs_insort_left, ofs_isinstance, ofs_items, ofs_j, ofs_key, ofs_law, ofs_len, ofs_lo, ofs_max, ofs_mid, ofs_min, ofs_more, ofs_nc, ofs_new_callers, ofs_number, ofs_odd, ofs_often, ofs_one, ofs_other, ofs_pairs, ofs_piece, ofs_place, ofs_range, ofs_script, ofs_sorted, ofs_source, ofs_steps, ofs_sum, ofs_table, ofs_target, ofs_there, ofs_tie, ofs_ties, ofs_tuple, ofs_turn, ofs_values, ofs_waiting, ofs_ways, ofs_word, ofs_x, ofs_zip, den_Ss, den_S, den_E, den_I, den_B, E_int, E_str, E_bool, E_none, E_name, E_bin, E_cmp, E_andV, E_ifexp, E_tup, E_lst, E_upto, E_sub_name, E_sub_con, E_sub_bin, E_sub_sub, E_sub_call, E_dict0, E_dict1, E_comp, E_call, E_meth, N_isi, B_and0, B_and, B_or0, B_or, B_cmp, B_call, I_call2, I_name, I_lst, I_tup, I_sub, I_bin, I_items, S_assignC, S_assign_name, S_assign_con, S_assign_bin, S_assign_call, S_assign_sub, S_assign_cmp, S_assign_ifx, S_assign_lst, S_assign_tup, S_assign_dict, S_assign_boo, S_tup, S_unpack_call, S_setSub, S_augSub, S_augName, S_if, S_while, S_for_name, S_for_call, S_for_lst, S_for_tup, S_for_sub, S_ret, S_retNone, S_mut, Ss_nil, Ss_cons, L_nil, L_cons, dTests_nil, dTests_cons, N1_len, N1_sum, N1_sorted, N1_max, N1_min, N2_max, N2_min, N2_isi, I_range, I_items0, I_values, S_appendN, S_insertN, k0_T, k0_M, k0_mu, k0_K, S_k0, callE, bMut, T_tLw1_len, T_tLw1_sum, T_tLw1_sorted, T_tLw1_max, T_tLw1_min, T_tLw1_range, T_tLw1_isinstance, T_tLw1_Llaw_near, T_tLw1_Llaw_sides, T_tLw1_Llaw_walks, T_tLw1_bisect_left, T_tLw1_count_calls, T_mLw1_len, T_mLw1_sum, T_mLw1_sorted, T_mLw1_max, T_mLw1_min, T_mLw1_range, T_mLw1_isinstance, T_mLw1_insort_left, k1_T, k1_M, k1_mu, k1_K]
      refine q_comp ?_
      have e : prs.map tieD = (List.range 6).flatMap fun b => (List.range b).flatMap fun a => [tieD (a, b)] := by rfl
      rw [e]
      refine comp_over (List.range 6) (fun v : Nat => D.int (v : Int)) _ ⟨by decide +kernel, rfl, rfl, rfl⟩ ?_ (fun b hb => ?_) (by decide +kernel)
      · dsimp only [ofs_ValueError, ofs_UUclassdictUU, ofs_UUdebugUU, ofs_UUnameUU, ofs_Llaw_near, ofs_Llaw_sides, ofs_Llaw_walks, ofs_a, ofs_add_callers, ofs_after, ofs_append, ofs_b, ofs_bad, ofs_bisect_left, ofs_caller, ofs_callers, ofs_calls, ofs_count_calls, ofs_far, ofs_first, ofs_func, ofs_get, ofs_here, ofs_hi, ofs_i, ofs_insert, ofs_insort_left, ofs_isinstance, ofs_items, ofs_j, ofs_key, ofs_law, ofs_len, ofs_lo, ofs_max, ofs_mid, ofs_min, ofs_more, ofs_nc, ofs_new_callers, ofs_number, ofs_odd, ofs_often, ofs_one, ofs_other, ofs_pairs, ofs_piece, ofs_place, ofs_range, ofs_script, ofs_sorted, ofs_source, ofs_steps, ofs_sum, ofs_table, ofs_target, ofs_there, ofs_tie, ofs_ties, ofs_tuple, ofs_turn, ofs_values, ofs_waiting, ofs_ways, ofs_word, ofs_x, ofs_zip, den_Ss, den_S, den_E, den_I, den_B, E_int, E_str, E_bool, E_none, E_name, E_bin, E_cmp, E_andV, E_ifexp, E_tup, E_lst, E_upto, E_sub_name, E_sub_con, E_sub_bin, E_sub_sub, E_sub_call, E_dict0, E_dict1, E_comp, E_call, E_meth, N_isi, B_and0, B_and, B_or0, B_or, B_cmp, B_call, I_call2, I_name, I_lst, I_tup, I_sub, I_bin, I_items, S_assignC, S_assign_name, S_assign_con, S_assign_bin, S_assign_call, S_assign_sub, S_assign_cmp, S_assign_ifx, S_assign_lst, S_assign_tup, S_assign_dict, S_assign_boo, S_tup, S_unpack_call, S_setSub, S_augSub, S_augName, S_if, S_while, S_for_name, S_for_call, S_for_lst, S_for_tup, S_for_sub, S_ret, S_retNone, S_mut, Ss_nil, Ss_cons, L_nil, L_cons, dTests_nil, dTests_cons, N1_len, N1_sum, N1_sorted, N1_max, N1_min, N2_max, N2_min, N2_isi, I_range, I_items0, I_values, S_appendN, S_insertN, k0_T, k0_M, k0_mu, k0_K, S_k0, callE, bMut, T_tLw1_len, T_tLw1_sum, T_tLw1_sorted, T_tLw1_max, T_tLw1_min, T_tLw1_range, T_tLw1_isinstance, T_tLw1_Llaw_near, T_tLw1_Llaw_sides, T_tLw1_Llaw_walks, T_tLw1_bisect_left, T_tLw1_count_calls, T_mLw1_len, T_mLw1_sum, T_mLw1_sorted, T_mLw1_max, T_mLw1_min, T_mLw1_range, T_mLw1_isinstance, T_mLw1_insort_left, k1_T, k1_M, k1_mu, k1_K]
        exact (q_range (k := 6) (fl := .frozen) (by decide +kernel) rfl (by decide)).trans (congrArg some range6)
      · have hb := List.mem_range.mp hb
        refine turnG rfl (gens_over (List.range b) (fun v : Nat => D.int (v : Int)) _ ⟨rfl, rfl⟩ ?_ (fun a ha => ?_))
        · dsimp only [ofs_ValueError, ofs_UUclassdictUU, ofs_UUdebugUU, ofs_UUnameUU, ofs_Llaw_near, ofs_Llaw_sides, ofs_Llaw_walks, ofs_a, ofs_add_callers, ofs_after, ofs_append, ofs_b, ofs_bad, ofs_bisect_left, ofs_caller, ofs_callers, ofs_calls, ofs_count_calls, ofs_far, ofs_first, ofs_func, ofs_get, ofs_here, ofs_hi, ofs_i, ofs_insert, ofs_insort_left, ofs_isinstance, ofs_items, ofs_j, ofs_key, ofs_law, ofs_len, ofs_lo, ofs_max, ofs_mid, ofs_min, ofs_more, ofs_nc, ofs_new_callers, ofs_number, ofs_odd, ofs_often, ofs_one, ofs_other, ofs_pairs, ofs_piece, ofs_place, ofs_range, ofs_script, ofs_sorted, ofs_source, ofs_steps, ofs_sum, ofs_table, ofs_target, ofs_there, ofs_tie, ofs_ties, ofs_tuple, ofs_turn, ofs_values, ofs_waiting, ofs_ways, ofs_word, ofs_x, ofs_zip, den_Ss, den_S, den_E, den_I, den_B, E_int, E_str, E_bool, E_none, E_name, E_bin, E_cmp, E_andV, E_ifexp, E_tup, E_lst, E_upto, E_sub_name, E_sub_con, E_sub_bin, E_sub_sub, E_sub_call, E_dict0, E_dict1, E_comp, E_call, E_meth, N_isi, B_and0, B_and, B_or0, B_or, B_cmp, B_call, I_call2, I_name, I_lst, I_tup, I_sub, I_bin, I_items, S_assignC, S_assign_name, S_assign_con, S_assign_bin, S_assign_call, S_assign_sub, S_assign_cmp, S_assign_ifx, S_assign_lst, S_assign_tup, S_assign_dict, S_assign_boo, S_tup, S_unpack_call, S_setSub, S_augSub, S_augName, S_if, S_while, S_for_name, S_for_call, S_for_lst, S_for_tup, S_for_sub, S_ret, S_retNone, S_mut, Ss_nil, Ss_cons, L_nil, L_cons, dTests_nil, dTests_cons, N1_len, N1_sum, N1_sorted, N1_max, N1_min, N2_max, N2_min, N2_isi, I_range, I_items0, I_values, S_appendN, S_insertN, k0_T, k0_M, k0_mu, k0_K, S_k0, callE, bMut, T_tLw1_len, T_tLw1_sum, T_tLw1_sorted, T_tLw1_max, T_tLw1_min, T_tLw1_range, T_tLw1_isinstance, T_tLw1_Llaw_near, T_tLw1_Llaw_sides, T_tLw1_Llaw_walks, T_tLw1_bisect_left, T_tLw1_count_calls, T_mLw1_len, T_mLw1_sum, T_mLw1_sorted, T_mLw1_max, T_mLw1_min, T_mLw1_range, T_mLw1_isinstance, T_mLw1_insort_left, k1_T, k1_M, k1_mu, k1_K]
          exact (q_range (by decide +kernel) (nmF (d := .int (b : Int)) rfl _ (by decide +kernel)) (by exact om_153 hb)).trans (by simp [rangeD])
        · refine turn0 rfl (.fresh, tieD (a, b)) ?_ fre_nl
          dsimp only [ofs_ValueError, ofs_UUclassdictUU, ofs_UUdebugUU, ofs_UUnameUU, ofs_Llaw_near, ofs_Llaw_sides, ofs_Llaw_walks, ofs_a, ofs_add_callers, ofs_after, ofs_append, ofs_b, ofs_bad, ofs_bisect_left, ofs_caller, ofs_callers, ofs_calls, ofs_count_calls, ofs_far, ofs_first, ofs_func, ofs_get, ofs_here, ofs_hi, ofs_i, ofs_insert, ofs_insort_left, ofs_isinstance, ofs_items, ofs_j, ofs_key, ofs_law, ofs_len, ofs_lo, ofs_max, ofs_mid, ofs_min, ofs_more, ofs_nc, ofs_new_callers, ofs_number, ofs_odd, ofs_often, ofs_one, ofs_other, ofs_pairs, ofs_piece, ofs_place, ofs_range, ofs_script, ofs_sorted, ofs_source, ofs_steps, ofs_sum, ofs_table, ofs_target, ofs_there, ofs_tie, ofs_ties, ofs_tuple, ofs_turn, ofs_values, ofs_waiting, ofs_ways, ofs_word, ofs_x, ofs_zip, den_Ss, den_S, den_E, den_I, den_B, E_int, E_str, E_bool, E_none, E_name, E_bin, E_cmp, E_andV, E_ifexp, E_tup, E_lst, E_upto, E_sub_name, E_sub_con, E_sub_bin, E_sub_sub, E_sub_call, E_dict0, E_dict1, E_comp, E_call, E_meth, N_isi, B_and0, B_and, B_or0, B_or, B_cmp, B_call, I_call2, I_name, I_lst, I_tup, I_sub, I_bin, I_items, S_assignC, S_assign_name, S_assign_con, S_assign_bin, S_assign_call, S_assign_sub, S_assign_cmp, S_assign_ifx, S_assign_lst, S_assign_tup, S_assign_dict, S_assign_boo, S_tup, S_unpack_call, S_setSub, S_augSub, S_augName, S_if, S_while, S_for_name, S_for_call, S_for_lst, S_for_tup, S_for_sub, S_ret, S_retNone, S_mut, Ss_nil, Ss_cons, L_nil, L_cons, dTests_nil, dTests_cons, N1_len, N1_sum, N1_sorted, N1_max, N1_min, N2_max, N2_min, N2_isi, I_range, I_items0, I_values, S_appendN, S_insertN, k0_T, k0_M, k0_mu, k0_K, S_k0, callE, bMut, T_tLw1_len, T_tLw1_sum, T_tLw1_sorted, T_tLw1_max, T_tLw1_min, T_tLw1_range, T_tLw1_isinstance, T_tLw1_Llaw_near, T_tLw1_Llaw_sides, T_tLw1_Llaw_walks, T_tLw1_bisect_left, T_tLw1_count_calls, T_mLw1_len, T_mLw1_sum, T_mLw1_sorted, T_mLw1_max, T_mLw1_min, T_mLw1_range, T_mLw1_isinstance, T_mLw1_insort_left, k1_T, k1_M, k1_mu, k1_K]
          exact q_tup (xs := [(.frozen, .int (a : Int)), (.frozen, .int (b : Int))]) (q_cons rfl (nmF rfl _ (by decide +kernel)) (q_cons rfl (nmF rfl _ (by decide +kernel)) q_nil)) ⟨rfl, Nat.le_of_ble_eq_true rfl⟩
    · dsimp only [ofs_ValueError, ofs_UUclassdictUU, ofs_UUdebugUU, ofs_UUnameUU, ofs_Llaw_near, ofs_Llaw_sides, ofs_Llaw_walks, ofs_a, ofs_add_callers, ofs_after, ofs_append, ofs_b, ofs_bad, ofs_bisect_left, ofs_caller, ofs_callers, ofs_calls, ofs_count_calls, ofs_far, ofs_first, ofs_func, ofs_get, ofs_here, ofs_hi, ofs_i, ofs_insert, ofs_insort_left, ofs_isinstance, ofs_items, ofs_j, ofs_key, ofs_law, ofs_len, ofs_lo, ofs_max, ofs_mid, ofs_min, ofs_more, ofs_nc, ofs_new_callers, ofs_number, ofs_odd, ofs_often, ofs_one, ofs_other, ofs_pairs, ofs_piece, ofs_place, ofs_range, ofs_script, ofs_sorted, ofs_source, ofs_steps, ofs_sum, ofs_table, ofs_target, ofs_there, ofs_tie, ofs_ties, ofs_tuple, ofs_turn, ofs_values, ofs_waiting, ofs_ways, ofs_word, ofs_x, ofs_zip, den_Ss, den_S, den_E, den_I, den_B, E_int, E_str, E_bool, E_none, E_name, E_bin, E_cmp, E_andV, E_ifexp, E_tup, E_lst, E_upto, E_sub_name, E_sub_con, E_sub_bin, E_sub_sub, E_sub_call, E_dict0, E_dict1, E_comp, E_call, E_meth, N_isi, B_and0, B_and, B_or0, B_or, B_cmp, B_call, I_call2, I_name, I_lst, I_tup, I_sub, I_bin, I_items, S_assignC, S_assign_name, S_assign_con, S_assign_bin, S_assign_call, S_assign_sub, S_assign_cmp, S_assign_ifx, S_assign_lst, S_assign_tup, S_assign_dict, S_assign_boo, S_tup, S_unpack_call, S_setSub, S_augSub, S_augName, S_if, S_while, S_for_name, S_for_call, S_for_lst, S_for_tup, S_for_sub, S_ret, S_retNone, S_mut, Ss_nil, Ss_cons, L_nil, L_cons, dTests_nil, dTests_cons, N1_len, N1_sum, N1_sorted, N1_max, N1_min, N2_max, N2_min, N2_isi, I_range, I_items0, I_values, S_appendN, S_insertN, k0_T, k0_M, k0_mu, k0_K, S_k0, callE, bMut, T_tLw1_len, T_tLw1_sum, T_tLw1_sorted, T_tLw1_max, T_tLw1_min, T_tLw1_range, T_tLw1_isinstance, T_tLw1_Llaw_near, T_tLw1_Llaw_sides, T_tLw1_Llaw_walks, T_tLw1_bisect_left, T_tLw1_count_calls, T_mLw1_len, T_mLw1_sum, T_mLw1_sorted, T_mLw1_max, T_mLw1_min, T_mLw1_range, T_mLw1_isinstance, T_mLw1_insort_left, k1_T, k1_M, k1_mu, k1_K]
      rfl
  refine run_seq (run_for ((ns.take 9).map .int) ?_ LwA ⟨ns.take 9, [], rfl, by simp; exact om_154, ⟨List.Pairwise.nil, fun _ h => (nomatch h)⟩, rfl, rfl⟩ ?_ ?_)
  · refine (q_list (q_upto (nmF (d := .lst (ns.map .int)) rfl _ (by decide +kernel)) (by decide)) rfl (by decide)).trans ?_
    rw [← List.map_take]; rfl
  · rintro d ds ρ ⟨ms, T, hds, hl, K, i1, p1⟩
    cases ms with
    | nil => cases hds
    | cons x ms =>
    cases hds
    refine ⟨upd ρ nm_number (.frz (.int x)), rfl, ?_⟩
    have n2 : upd ρ nm_number (.frz (.int x)) nm_number = some (.frz (.int x)) := rfl
    have i2 : upd ρ nm_number (.frz (.int x)) nm_ties = some (.own (.lst (T.map tieD))) := i1
    have p2 : upd ρ nm_number (.frz (.int x)) nm_pairs = some (.frz (.lst (prs.map tieD))) := p1
    generalize upd ρ nm_number (.frz (.int x)) = ρ at n2 i2 p2
    obtain ⟨t, ht, g1⟩ := prs_item (x := x)
    have m1 : binD .Mod (.int x) (.int 15) = some (.frozen, .int (x.fmod 15)) := rfl
    have it := q_sub (nmF p2 kf_10 (by decide +kernel)) (q_bin (op := .Mod) (g := fun _ => some (Fl.frozen, D.int 15)) (nmF n2 kf_10 (by decide +kernel)) rfl m1) rfl g1
    rw [List.length_cons] at hl
    refine run_seq (run_if (decide (t ∉ T)) (q_cmp rfl it (nmO i2 _ (by decide +kernel)) (cmp_notin_ties T t)) ?_)
    by_cases hk : t ∈ T
    · rw [decide_eq_false (fun q => q hk)]
      exact run_nil (run_nil ⟨ms, T, rfl, by exact om_155 hl, K, i2, p2⟩)
    · rw [decide_eq_true hk]
      obtain ⟨k, h1, h2, h3⟩ := ins_pos t T K.so hk
      have hins := ins_ok (T.map tieD) (tieD t) k (by rw [List.length_map]; exact h1) (by rw [List.length_map]; exact om_156 hl) (lt_at h2)
      have e : (T.map tieD).take k ++ tieD t :: (T.map tieD).drop k = (T.take k ++ t :: T.drop k).map tieD := by simp [List.map_take, List.map_drop]
      rw [e] at hins
      refine run_seq (run_eq .next (upd ρ nm_ties (.own (.lst ((T.take k ++ t :: T.drop k).map tieD)))) (q_mut (by decide +kernel) (q_frz it frz_nl) i2 hins) (run_nil (run_nil ⟨ms, T.take k ++ t :: T.drop k, rfl, ?_, ins_tok K (prs_lt t ht) h3, rfl, p2⟩)))
      have : (T.take k ++ t :: T.drop k).length = T.length + 1 := by simp; exact om_157
      exact om_158 hl this
  rintro ρ ⟨ms, T, _, hl, K, i1, p1⟩
  have hT : T.length ≤ 9 := by exact om_159 hl
  clear hl
  refine run_seq (run_layOne (by decide +kernel) i1 ?_)
  have i2 : upd ρ nm_ties (.frz (.lst (T.map tieD))) nm_ties = some (.frz (.lst (T.map tieD))) := rfl
  have p2 : upd ρ nm_ties (.frz (.lst (T.map tieD))) nm_pairs = some (.frz (.lst (prs.map tieD))) := p1
  generalize upd ρ nm_ties (.frz (.lst (T.map tieD))) = ρ at i2 p2
  refine run_if false ?_ (run_nil ?_)
  · have hs := sort_ties .frozen K (by exact om_160 hT)
    have c1 : cmpD .NotEq (.lst (T.map tieD)) (.lst (T.map tieD)) = some false := (cmp_ne_ties T T).trans (by rw [decide_eq_true rfl]; rfl)
    have c2 : cmpD .NotEq (.lst []) (.lst []) = some false := cmp_ne_ties [] []
    refine q_or (q_cmp rfl (nmF i2 _ (by decide +kernel)) (q_bfn (by decide +kernel) (q_cons rfl (nmF i2 _ (by decide +kernel)) q_nil) hs) c1) (q_or (q_cmp rfl (q_comp (out := []) ?_) rfl c2) rfl)
    refine (comp_over T tieD (fun _ => []) ⟨by decide +kernel, rfl, rfl, rfl⟩ ?_ (fun t ht => ?_) (by rw [flat_nil]; exact Nat.zero_le _)).trans (by rw [flat_nil])
    · dsimp only [ofs_ValueError, ofs_UUclassdictUU, ofs_UUdebugUU, ofs_UUnameUU, ofs_Llaw_near, ofs_Llaw_sides, ofs_Llaw_walks, ofs_a, ofs_add_callers, ofs_after, ofs_append, ofs_b, ofs_bad, ofs_bisect_left, ofs_caller, ofs_callers, ofs_calls, ofs_count_calls, ofs_far, ofs_first, ofs_func, ofs_get, ofs_here, ofs_hi, ofs_i, ofs_insert, ofs_insort_left, ofs_isinstance, ofs_items, ofs_j, ofs_key, ofs_law, ofs_len, ofs_lo, ofs_max, ofs_mid, ofs_min, ofs_more, ofs_nc, ofs_new_callers, ofs_number, ofs_odd, ofs_often, ofs_one, ofs_other, ofs_pairs, ofs_piece, ofs_place, ofs_range, ofs_script, ofs_sorted, ofs_source, ofs_steps, ofs_sum, ofs_table, ofs_target, ofs_there, ofs_tie, ofs_ties, ofs_tuple, ofs_turn, ofs_values, ofs_waiting, ofs_ways, ofs_word, ofs_x, ofs_zip, den_Ss, den_S, den_E, den_I, den_B, E_int, E_str, E_bool, E_none, E_name, E_bin, E_cmp, E_andV, E_ifexp, E_tup, E_lst, E_upto, E_sub_name, E_sub_con, E_sub_bin, E_sub_sub, E_sub_call, E_dict0, E_dict1, E_comp, E_call, E_meth, N_isi, B_and0, B_and, B_or0, B_or, B_cmp, B_call, I_call2, I_name, I_lst, I_tup, I_sub, I_bin, I_items, S_assignC, S_assign_name, S_assign_con, S_assign_bin, S_assign_call, S_assign_sub, S_assign_cmp, S_assign_ifx, S_assign_lst, S_assign_tup, S_assign_dict, S_assign_boo, S_tup, S_unpack_call, S_setSub, S_augSub, S_augName, S_if, S_while, S_for_name, S_for_call, S_for_lst, S_for_tup, S_for_sub, S_ret, S_retNone, S_mut, Ss_nil, Ss_cons, L_nil, L_cons, dTests_nil, dTests_cons, N1_len, N1_sum, N1_sorted, N1_max, N1_min, N2_max, N2_min, N2_isi, I_range, I_items0, I_values, S_appendN, S_insertN, k0_T, k0_M, k0_mu, k0_K, S_k0, callE, bMut, T_tLw1_len, T_tLw1_sum, T_tLw1_sorted, T_tLw1_max, T_tLw1_min, T_tLw1_range, T_tLw1_isinstance, T_tLw1_Llaw_near, T_tLw1_Llaw_sides, T_tLw1_Llaw_walks, T_tLw1_bisect_left, T_tLw1_count_calls, T_mLw1_len, T_mLw1_sum, T_mLw1_sorted, T_mLw1_max, T_mLw1_min, T_mLw1_range, T_mLw1_isinstance, T_mLw1_insort_left, k1_T, k1_M, k1_mu, k1_K]
      exact q_list (nmF i2 _ (by decide +kernel)) rfl (by decide)
    · refine turn1 rfl false ?_ (.frozen, tieD t) fun q => by cases q
      obtain ⟨k, h1, h2, h3⟩ := find_pos K.so ht
      generalize hρ3 : upd (rhoC _ ρ) nm_tie _ = ρ3
      have b1 : ρ3 nm_ties = some (.frz (.lst (T.map tieD))) := by rw [← hρ3]; exact i2
      have b2 : ρ3 nm_tie = some (.frz (tieD t)) := by rw [← hρ3]; rfl
      have hbis := bis_two (T.map tieD) (tieD t) k (by rw [List.length_map]; exact om_126 h2) (by rw [List.length_map]; exact om_161 hT) (lt_at h3)
      have hit : itemD (.lst (T.map tieD)) (.int (k : Int)) = some (tieD t) := by
        rw [itemD_lst, if_pos (by exact om_162 hT h2), List.getElem?_map, Int.toNat_natCast, h1]; rfl
      have hc : cmpD .NotEq (tieD t) (tieD t) = some false := (cmp_ne_tie t t).trans (by rw [decide_eq_true rfl]; rfl)
      dsimp only [ofs_ValueError, ofs_UUclassdictUU, ofs_UUdebugUU, ofs_UUnameUU, ofs_Llaw_near, ofs_Llaw_sides, ofs_Llaw_walks, ofs_a, ofs_add_callers, ofs_after, ofs_append, ofs_b, ofs_bad, ofs_bisect_left, ofs_caller, ofs_callers, ofs_calls, ofs_count_calls, ofs_far, ofs_first, ofs_func, ofs_get, ofs_here, ofs_hi, ofs_i, ofs_insert, ofs_insort_left, ofs_isinstance, ofs_items, ofs_j, ofs_key, ofs_law, ofs_len, ofs_lo, ofs_max, ofs_mid, ofs_min, ofs_more, ofs_nc, ofs_new_callers, ofs_number, ofs_odd, ofs_often, ofs_one, ofs_other, ofs_pairs, ofs_piece, ofs_place, ofs_range, ofs_script, ofs_sorted, ofs_source, ofs_steps, ofs_sum, ofs_table, ofs_target, ofs_there, ofs_tie, ofs_ties, ofs_tuple, ofs_turn, ofs_values, ofs_waiting, ofs_ways, ofs_word, ofs_x, ofs_zip, den_Ss, den_S, den_E, den_I, den_B, E_int, E_str, E_bool, E_none, E_name, E_bin, E_cmp, E_andV, E_ifexp, E_tup, E_lst, E_upto, E_sub_name, E_sub_con, E_sub_bin, E_sub_sub, E_sub_call, E_dict0, E_dict1, E_comp, E_call, E_meth, N_isi, B_and0, B_and, B_or0, B_or, B_cmp, B_call, I_call2, I_name, I_lst, I_tup, I_sub, I_bin, I_items, S_assignC, S_assign_name, S_assign_con, S_assign_bin, S_assign_call, S_assign_sub, S_assign_cmp, S_assign_ifx, S_assign_lst, S_assign_tup, S_assign_dict, S_assign_boo, S_tup, S_unpack_call, S_setSub, S_augSub, S_augName, S_if, S_while, S_for_name, S_for_call, S_for_lst, S_for_tup, S_for_sub, S_ret, S_retNone, S_mut, Ss_nil, Ss_cons, L_nil, L_cons, dTests_nil, dTests_cons, N1_len, N1_sum, N1_sorted, N1_max, N1_min, N2_max, N2_min, N2_isi, I_range, I_items0, I_values, S_appendN, S_insertN, k0_T, k0_M, k0_mu, k0_K, S_k0, callE, bMut, T_tLw1_len, T_tLw1_sum, T_tLw1_sorted, T_tLw1_max, T_tLw1_min, T_tLw1_range, T_tLw1_isinstance, T_tLw1_Llaw_near, T_tLw1_Llaw_sides, T_tLw1_Llaw_walks, T_tLw1_bisect_left, T_tLw1_count_calls, T_mLw1_len, T_mLw1_sum, T_mLw1_sorted, T_mLw1_max, T_mLw1_min, T_mLw1_range, T_mLw1_isinstance, T_mLw1_insort_left, k1_T, k1_M, k1_mu, k1_K]
      exact q_one (q_cmp rfl (q_sub (nmF b1 _ (by decide +kernel)) (q_call (by decide +kernel) (q_cons rfl (nmF b1 _ (by decide +kernel)) (q_cons rfl (nmF b2 _ (by decide +kernel)) q_nil)) hbis rfl) rfl hit) (nmF b2 _ (by decide +kernel)) hc)
  obtain ⟨R, Dn, hv, hsid⟩ := sid_ok T
  refine run_seq (run_eq .next (upd (upd ρ nm_piece (.frz (pieceR R))) nm_far (.frz (farR R))) (q_unpack (q_frz (q_call (by decide +kernel) (q_cons rfl (nmF i2 _ (by decide +kernel)) q_nil) hsid rfl) frz_nl) rfl) ?_)
  have St : L1 T R (upd (upd ρ nm_piece (.frz (pieceR R))) nm_far (.frz (farR R))) := ⟨i2, p2, rfl, rfl⟩
  generalize upd (upd ρ nm_piece (.frz (pieceR R))) nm_far (.frz (farR R)) = ρ at St
  clear i1 i2 p1 p2
  have S := Dn.sd hv
  -- bad
  refine run_seq (run_assignC ((T.filter (same (frF R))).map tieD) (upd ρ nm_bad (.frz (.lst ((T.filter (same (frF R))).map tieD)))) ?_ ?_ ?_)
  · rw [← flat_if]
    refine comp_over T tieD _ ⟨by decide +kernel, rfl, rfl, rfl⟩ ?_ (fun t ht => ?_) (by rw [flat_if, List.length_map]; exact Nat.le_trans (List.length_filter_le _ _) (by exact om_163 capE hT))
    · dsimp only [ofs_ValueError, ofs_UUclassdictUU, ofs_UUdebugUU, ofs_UUnameUU, ofs_Llaw_near, ofs_Llaw_sides, ofs_Llaw_walks, ofs_a, ofs_add_callers, ofs_after, ofs_append, ofs_b, ofs_bad, ofs_bisect_left, ofs_caller, ofs_callers, ofs_calls, ofs_count_calls, ofs_far, ofs_first, ofs_func, ofs_get, ofs_here, ofs_hi, ofs_i, ofs_insert, ofs_insort_left, ofs_isinstance, ofs_items, ofs_j, ofs_key, ofs_law, ofs_len, ofs_lo, ofs_max, ofs_mid, ofs_min, ofs_more, ofs_nc, ofs_new_callers, ofs_number, ofs_odd, ofs_often, ofs_one, ofs_other, ofs_pairs, ofs_piece, ofs_place, ofs_range, ofs_script, ofs_sorted, ofs_source, ofs_steps, ofs_sum, ofs_table, ofs_target, ofs_there, ofs_tie, ofs_ties, ofs_tuple, ofs_turn, ofs_values, ofs_waiting, ofs_ways, ofs_word, ofs_x, ofs_zip, den_Ss, den_S, den_E, den_I, den_B, E_int, E_str, E_bool, E_none, E_name, E_bin, E_cmp, E_andV, E_ifexp, E_tup, E_lst, E_upto, E_sub_name, E_sub_con, E_sub_bin, E_sub_sub, E_sub_call, E_dict0, E_dict1, E_comp, E_call, E_meth, N_isi, B_and0, B_and, B_or0, B_or, B_cmp, B_call, I_call2, I_name, I_lst, I_tup, I_sub, I_bin, I_items, S_assignC, S_assign_name, S_assign_con, S_assign_bin, S_assign_call, S_assign_sub, S_assign_cmp, S_assign_ifx, S_assign_lst, S_assign_tup, S_assign_dict, S_assign_boo, S_tup, S_unpack_call, S_setSub, S_augSub, S_augName, S_if, S_while, S_for_name, S_for_call, S_for_lst, S_for_tup, S_for_sub, S_ret, S_retNone, S_mut, Ss_nil, Ss_cons, L_nil, L_cons, dTests_nil, dTests_cons, N1_len, N1_sum, N1_sorted, N1_max, N1_min, N2_max, N2_min, N2_isi, I_range, I_items0, I_values, S_appendN, S_insertN, k0_T, k0_M, k0_mu, k0_K, S_k0, callE, bMut, T_tLw1_len, T_tLw1_sum, T_tLw1_sorted, T_tLw1_max, T_tLw1_min, T_tLw1_range, T_tLw1_isinstance, T_tLw1_Llaw_near, T_tLw1_Llaw_sides, T_tLw1_Llaw_walks, T_tLw1_bisect_left, T_tLw1_count_calls, T_mLw1_len, T_mLw1_sum, T_mLw1_sorted, T_mLw1_max, T_mLw1_min, T_mLw1_range, T_mLw1_isinstance, T_mLw1_insort_left, k1_T, k1_M, k1_mu, k1_K]
      exact q_list (nmF St.ties _ (by decide +kernel)) rfl (by decide)
    · obtain ⟨h1, h2⟩ := K.lt t ht
      obtain ⟨x, y⟩ := t
      refine turn1 rfl (same (frF R) (x, y)) ?_ (.fresh, tieD (x, y)) fun _ => ⟨?_, fre_nl⟩
      · generalize hρ3 : upd (upd (rhoC _ ρ) nm_a _) nm_b _ = ρ3
        have b1 : ρ3 nm_far = some (.frz (farR R)) := by rw [← hρ3]; exact St.far
        have b2 : ρ3 nm_a = some (.frz (.int (x : Int))) := by rw [← hρ3]; rfl
        have b3 : ρ3 nm_b = some (.frz (.int (y : Int))) := by rw [← hρ3]; rfl
        dsimp only [ofs_ValueError, ofs_UUclassdictUU, ofs_UUdebugUU, ofs_UUnameUU, ofs_Llaw_near, ofs_Llaw_sides, ofs_Llaw_walks, ofs_a, ofs_add_callers, ofs_after, ofs_append, ofs_b, ofs_bad, ofs_bisect_left, ofs_caller, ofs_callers, ofs_calls, ofs_count_calls, ofs_far, ofs_first, ofs_func, ofs_get, ofs_here, ofs_hi, ofs_i, ofs_insert, ofs_insort_left, ofs_isinstance, ofs_items, ofs_j, ofs_key, ofs_law, ofs_len, ofs_lo, ofs_max, ofs_mid, ofs_min, ofs_more, ofs_nc, ofs_new_callers, ofs_number, ofs_odd, ofs_often, ofs_one, ofs_other, ofs_pairs, ofs_piece, ofs_place, ofs_range, ofs_script, ofs_sorted, ofs_source, ofs_steps, ofs_sum, ofs_table, ofs_target, ofs_there, ofs_tie, ofs_ties, ofs_tuple, ofs_turn, ofs_values, ofs_waiting, ofs_ways, ofs_word, ofs_x, ofs_zip, den_Ss, den_S, den_E, den_I, den_B, E_int, E_str, E_bool, E_none, E_name, E_bin, E_cmp, E_andV, E_ifexp, E_tup, E_lst, E_upto, E_sub_name, E_sub_con, E_sub_bin, E_sub_sub, E_sub_call, E_dict0, E_dict1, E_comp, E_call, E_meth, N_isi, B_and0, B_and, B_or0, B_or, B_cmp, B_call, I_call2, I_name, I_lst, I_tup, I_sub, I_bin, I_items, S_assignC, S_assign_name, S_assign_con, S_assign_bin, S_assign_call, S_assign_sub, S_assign_cmp, S_assign_ifx, S_assign_lst, S_assign_tup, S_assign_dict, S_assign_boo, S_tup, S_unpack_call, S_setSub, S_augSub, S_augName, S_if, S_while, S_for_name, S_for_call, S_for_lst, S_for_tup, S_for_sub, S_ret, S_retNone, S_mut, Ss_nil, Ss_cons, L_nil, L_cons, dTests_nil, dTests_cons, N1_len, N1_sum, N1_sorted, N1_max, N1_min, N2_max, N2_min, N2_isi, I_range, I_items0, I_values, S_appendN, S_insertN, k0_T, k0_M, k0_mu, k0_K, S_k0, callE, bMut, T_tLw1_len, T_tLw1_sum, T_tLw1_sorted, T_tLw1_max, T_tLw1_min, T_tLw1_range, T_tLw1_isinstance, T_tLw1_Llaw_near, T_tLw1_Llaw_sides, T_tLw1_Llaw_walks, T_tLw1_bisect_left, T_tLw1_count_calls, T_mLw1_len, T_mLw1_sum, T_mLw1_sorted, T_mLw1_max, T_mLw1_min, T_mLw1_range, T_mLw1_isinstance, T_mLw1_insort_left, k1_T, k1_M, k1_mu, k1_K]
        exact q_one (q_cmp rfl (q_bin (q_sub (nmF b1 _ (by decide +kernel)) (nmF b2 _ (by decide +kernel)) rfl (far_at Dn hv (by exact om_125 h1 h2 : x < 6))) rfl (mod2 _)) (q_bin (q_sub (nmF b1 _ (by decide +kernel)) (nmF b3 _ (by decide +kernel)) rfl (far_at Dn hv h2)) rfl (mod2 _)) (cmp_eqN _ _))
      · dsimp only [ofs_ValueError, ofs_UUclassdictUU, ofs_UUdebugUU, ofs_UUnameUU, ofs_Llaw_near, ofs_Llaw_sides, ofs_Llaw_walks, ofs_a, ofs_add_callers, ofs_after, ofs_append, ofs_b, ofs_bad, ofs_bisect_left, ofs_caller, ofs_callers, ofs_calls, ofs_count_calls, ofs_far, ofs_first, ofs_func, ofs_get, ofs_here, ofs_hi, ofs_i, ofs_insert, ofs_insort_left, ofs_isinstance, ofs_items, ofs_j, ofs_key, ofs_law, ofs_len, ofs_lo, ofs_max, ofs_mid, ofs_min, ofs_more, ofs_nc, ofs_new_callers, ofs_number, ofs_odd, ofs_often, ofs_one, ofs_other, ofs_pairs, ofs_piece, ofs_place, ofs_range, ofs_script, ofs_sorted, ofs_source, ofs_steps, ofs_sum, ofs_table, ofs_target, ofs_there, ofs_tie, ofs_ties, ofs_tuple, ofs_turn, ofs_values, ofs_waiting, ofs_ways, ofs_word, ofs_x, ofs_zip, den_Ss, den_S, den_E, den_I, den_B, E_int, E_str, E_bool, E_none, E_name, E_bin, E_cmp, E_andV, E_ifexp, E_tup, E_lst, E_upto, E_sub_name, E_sub_con, E_sub_bin, E_sub_sub, E_sub_call, E_dict0, E_dict1, E_comp, E_call, E_meth, N_isi, B_and0, B_and, B_or0, B_or, B_cmp, B_call, I_call2, I_name, I_lst, I_tup, I_sub, I_bin, I_items, S_assignC, S_assign_name, S_assign_con, S_assign_bin, S_assign_call, S_assign_sub, S_assign_cmp, S_assign_ifx, S_assign_lst, S_assign_tup, S_assign_dict, S_assign_boo, S_tup, S_unpack_call, S_setSub, S_augSub, S_augName, S_if, S_while, S_for_name, S_for_call, S_for_lst, S_for_tup, S_for_sub, S_ret, S_retNone, S_mut, Ss_nil, Ss_cons, L_nil, L_cons, dTests_nil, dTests_cons, N1_len, N1_sum, N1_sorted, N1_max, N1_min, N2_max, N2_min, N2_isi, I_range, I_items0, I_values, S_appendN, S_insertN, k0_T, k0_M, k0_mu, k0_K, S_k0, callE, bMut, T_tLw1_len, T_tLw1_sum, T_tLw1_sorted, T_tLw1_max, T_tLw1_min, T_tLw1_range, T_tLw1_isinstance, T_tLw1_Llaw_near, T_tLw1_Llaw_sides, T_tLw1_Llaw_walks, T_tLw1_bisect_left, T_tLw1_count_calls, T_mLw1_len, T_mLw1_sum, T_mLw1_sorted, T_mLw1_max, T_mLw1_min, T_mLw1_range, T_mLw1_isinstance, T_mLw1_insort_left, k1_T, k1_M, k1_mu, k1_K]
        exact q_tup (xs := [(.frozen, .int (x : Int)), (.frozen, .int (y : Int))]) (q_cons rfl (nmF rfl _ (by decide +kernel)) (q_cons rfl (nmF rfl _ (by decide +kernel)) q_nil)) ⟨rfl, Nat.le_of_ble_eq_true rfl⟩
  · rfl
  have S1 : L1 T R (upd ρ nm_bad (.frz (.lst ((T.filter (same (frF R))).map tieD)))) := ⟨St.ties, St.pairs, St.piece, St.far⟩
  have b1 : upd ρ nm_bad (.frz (.lst ((T.filter (same (frF R))).map tieD))) nm_bad = some (.frz (.lst ((T.filter (same (frF R))).map tieD))) := rfl
  generalize upd ρ nm_bad (.frz (.lst ((T.filter (same (frF R))).map tieD))) = ρ at S1 b1
  clear St
  -- odd
  refine run_seq (run_assignC ((oddL T).map fun v : Nat => .int (v : Int)) (upd ρ nm_odd (.frz (natsD (oddL T)))) ?_ ?_ ?_)
  · have e : ((oddL T).map fun v : Nat => D.int (v : Int)) = (List.range 6).flatMap fun p => ([3, 5] : List Nat).flatMap fun s => if decide (0 < cw T p s) then [D.int (p : Int)] else [] := by
      unfold oddL
      rw [List.map_flatMap]
      congr 1
      funext p
      rw [flat_if, oddAt, List.map_map]; rfl
    rw [e]
    refine comp_over (List.range 6) (fun v : Nat => D.int (v : Int)) _ ⟨by decide +kernel, rfl, rfl, rfl⟩ ?_ (fun p hp => ?_) ?_
    · dsimp only [ofs_ValueError, ofs_UUclassdictUU, ofs_UUdebugUU, ofs_UUnameUU, ofs_Llaw_near, ofs_Llaw_sides, ofs_Llaw_walks, ofs_a, ofs_add_callers, ofs_after, ofs_append, ofs_b, ofs_bad, ofs_bisect_left, ofs_caller, ofs_callers, ofs_calls, ofs_count_calls, ofs_far, ofs_first, ofs_func, ofs_get, ofs_here, ofs_hi, ofs_i, ofs_insert, ofs_insort_left, ofs_isinstance, ofs_items, ofs_j, ofs_key, ofs_law, ofs_len, ofs_lo, ofs_max, ofs_mid, ofs_min, ofs_more, ofs_nc, ofs_new_callers, ofs_number, ofs_odd, ofs_often, ofs_one, ofs_other, ofs_pairs, ofs_piece, ofs_place, ofs_range, ofs_script, ofs_sorted, ofs_source, ofs_steps, ofs_sum, ofs_table, ofs_target, ofs_there, ofs_tie, ofs_ties, ofs_tuple, ofs_turn, ofs_values, ofs_waiting, ofs_ways, ofs_word, ofs_x, ofs_zip, den_Ss, den_S, den_E, den_I, den_B, E_int, E_str, E_bool, E_none, E_name, E_bin, E_cmp, E_andV, E_ifexp, E_tup, E_lst, E_upto, E_sub_name, E_sub_con, E_sub_bin, E_sub_sub, E_sub_call, E_dict0, E_dict1, E_comp, E_call, E_meth, N_isi, B_and0, B_and, B_or0, B_or, B_cmp, B_call, I_call2, I_name, I_lst, I_tup, I_sub, I_bin, I_items, S_assignC, S_assign_name, S_assign_con, S_assign_bin, S_assign_call, S_assign_sub, S_assign_cmp, S_assign_ifx, S_assign_lst, S_assign_tup, S_assign_dict, S_assign_boo, S_tup, S_unpack_call, S_setSub, S_augSub, S_augName, S_if, S_while, S_for_name, S_for_call, S_for_lst, S_for_tup, S_for_sub, S_ret, S_retNone, S_mut, Ss_nil, Ss_cons, L_nil, L_cons, dTests_nil, dTests_cons, N1_len, N1_sum, N1_sorted, N1_max, N1_min, N2_max, N2_min, N2_isi, I_range, I_items0, I_values, S_appendN, S_insertN, k0_T, k0_M, k0_mu, k0_K, S_k0, callE, bMut, T_tLw1_len, T_tLw1_sum, T_tLw1_sorted, T_tLw1_max, T_tLw1_min, T_tLw1_range, T_tLw1_isinstance, T_tLw1_Llaw_near, T_tLw1_Llaw_sides, T_tLw1_Llaw_walks, T_tLw1_bisect_left, T_tLw1_count_calls, T_mLw1_len, T_mLw1_sum, T_mLw1_sorted, T_mLw1_max, T_mLw1_min, T_mLw1_range, T_mLw1_isinstance, T_mLw1_insort_left, k1_T, k1_M, k1_mu, k1_K]
      exact (q_range (k := 6) (fl := .frozen) (by decide +kernel) rfl (by decide)).trans (congrArg some range6)
    · have hp := List.mem_range.mp hp
      refine turnG rfl (gens_over ([3, 5] : List Nat) (fun v : Nat => D.int (v : Int)) _ ⟨rfl, rfl⟩ ?_ (fun s hs => ?_))
      · dsimp only [ofs_ValueError, ofs_UUclassdictUU, ofs_UUdebugUU, ofs_UUnameUU, ofs_Llaw_near, ofs_Llaw_sides, ofs_Llaw_walks, ofs_a, ofs_add_callers, ofs_after, ofs_append, ofs_b, ofs_bad, ofs_bisect_left, ofs_caller, ofs_callers, ofs_calls, ofs_count_calls, ofs_far, ofs_first, ofs_func, ofs_get, ofs_here, ofs_hi, ofs_i, ofs_insert, ofs_insort_left, ofs_isinstance, ofs_items, ofs_j, ofs_key, ofs_law, ofs_len, ofs_lo, ofs_max, ofs_mid, ofs_min, ofs_more, ofs_nc, ofs_new_callers, ofs_number, ofs_odd, ofs_often, ofs_one, ofs_other, ofs_pairs, ofs_piece, ofs_place, ofs_range, ofs_script, ofs_sorted, ofs_source, ofs_steps, ofs_sum, ofs_table, ofs_target, ofs_there, ofs_tie, ofs_ties, ofs_tuple, ofs_turn, ofs_values, ofs_waiting, ofs_ways, ofs_word, ofs_x, ofs_zip, den_Ss, den_S, den_E, den_I, den_B, E_int, E_str, E_bool, E_none, E_name, E_bin, E_cmp, E_andV, E_ifexp, E_tup, E_lst, E_upto, E_sub_name, E_sub_con, E_sub_bin, E_sub_sub, E_sub_call, E_dict0, E_dict1, E_comp, E_call, E_meth, N_isi, B_and0, B_and, B_or0, B_or, B_cmp, B_call, I_call2, I_name, I_lst, I_tup, I_sub, I_bin, I_items, S_assignC, S_assign_name, S_assign_con, S_assign_bin, S_assign_call, S_assign_sub, S_assign_cmp, S_assign_ifx, S_assign_lst, S_assign_tup, S_assign_dict, S_assign_boo, S_tup, S_unpack_call, S_setSub, S_augSub, S_augName, S_if, S_while, S_for_name, S_for_call, S_for_lst, S_for_tup, S_for_sub, S_ret, S_retNone, S_mut, Ss_nil, Ss_cons, L_nil, L_cons, dTests_nil, dTests_cons, N1_len, N1_sum, N1_sorted, N1_max, N1_min, N2_max, N2_min, N2_isi, I_range, I_items0, I_values, S_appendN, S_insertN, k0_T, k0_M, k0_mu, k0_K, S_k0, callE, bMut, T_tLw1_len, T_tLw1_sum, T_tLw1_sorted, T_tLw1_max, T_tLw1_min, T_tLw1_range, T_tLw1_isinstance, T_tLw1_Llaw_near, T_tLw1_Llaw_sides, T_tLw1_Llaw_walks, T_tLw1_bisect_left, T_tLw1_count_calls, T_mLw1_len, T_mLw1_sum, T_mLw1_sorted, T_mLw1_max, T_mLw1_min, T_mLw1_range, T_mLw1_isinstance, T_mLw1_insort_left, k1_T, k1_M, k1_mu, k1_K]
        exact q_list (q_lst (xs := [(.frozen, .int 3), (.frozen, .int 5)]) (q_cons rfl rfl (q_cons rfl rfl q_nil)) ⟨rfl, Nat.le_of_ble_eq_true rfl⟩) rfl (by decide)
      · have hs : s ≤ 5 := by rcases List.mem_cons.mp hs with h | h; · exact om_164 h
                              · have := List.mem_singleton.mp h; exact om_165 this
        refine turn1 rfl (decide (0 < cw T p s)) ?_ (.frozen, .int (p : Int)) fun _ => ⟨?_, frz_nl⟩
        · generalize hρ3 : upd (upd (rhoC _ ρ) nm_place _) nm_steps _ = ρ3
          have c1 : ρ3 nm_ties = some (.frz (.lst (T.map tieD))) := by rw [← hρ3]; exact S1.ties
          have c2 : ρ3 nm_place = some (.frz (.int (p : Int))) := by rw [← hρ3]; rfl
          have c3 : ρ3 nm_steps = some (.frz (.int (s : Int))) := by rw [← hρ3]; rfl
          obtain ⟨w, W, hw, hf⟩ := wlk_ok T p s hp (by exact om_166 hs)
          have hg := get_row W p .fresh .frozen
          rw [hw] at hg
          dsimp only [ofs_ValueError, ofs_UUclassdictUU, ofs_UUdebugUU, ofs_UUnameUU, ofs_Llaw_near, ofs_Llaw_sides, ofs_Llaw_walks, ofs_a, ofs_add_callers, ofs_after, ofs_append, ofs_b, ofs_bad, ofs_bisect_left, ofs_caller, ofs_callers, ofs_calls, ofs_count_calls, ofs_far, ofs_first, ofs_func, ofs_get, ofs_here, ofs_hi, ofs_i, ofs_insert, ofs_insort_left, ofs_isinstance, ofs_items, ofs_j, ofs_key, ofs_law, ofs_len, ofs_lo, ofs_max, ofs_mid, ofs_min, ofs_more, ofs_nc, ofs_new_callers, ofs_number, ofs_odd, ofs_often, ofs_one, ofs_other, ofs_pairs, ofs_piece, ofs_place, ofs_range, ofs_script, ofs_sorted, ofs_source, ofs_steps, ofs_sum, ofs_table, ofs_target, ofs_there, ofs_tie, ofs_ties, ofs_tuple, ofs_turn, ofs_values, ofs_waiting, ofs_ways, ofs_word, ofs_x, ofs_zip, den_Ss, den_S, den_E, den_I, den_B, E_int, E_str, E_bool, E_none, E_name, E_bin, E_cmp, E_andV, E_ifexp, E_tup, E_lst, E_upto, E_sub_name, E_sub_con, E_sub_bin, E_sub_sub, E_sub_call, E_dict0, E_dict1, E_comp, E_call, E_meth, N_isi, B_and0, B_and, B_or0, B_or, B_cmp, B_call, I_call2, I_name, I_lst, I_tup, I_sub, I_bin, I_items, S_assignC, S_assign_name, S_assign_con, S_assign_bin, S_assign_call, S_assign_sub, S_assign_cmp, S_assign_ifx, S_assign_lst, S_assign_tup, S_assign_dict, S_assign_boo, S_tup, S_unpack_call, S_setSub, S_augSub, S_augName, S_if, S_while, S_for_name, S_for_call, S_for_lst, S_for_tup, S_for_sub, S_ret, S_retNone, S_mut, Ss_nil, Ss_cons, L_nil, L_cons, dTests_nil, dTests_cons, N1_len, N1_sum, N1_sorted, N1_max, N1_min, N2_max, N2_min, N2_isi, I_range, I_items0, I_values, S_appendN, S_insertN, k0_T, k0_M, k0_mu, k0_K, S_k0, callE, bMut, T_tLw1_len, T_tLw1_sum, T_tLw1_sorted, T_tLw1_max, T_tLw1_min, T_tLw1_range, T_tLw1_isinstance, T_tLw1_Llaw_near, T_tLw1_Llaw_sides, T_tLw1_Llaw_walks, T_tLw1_bisect_left, T_tLw1_count_calls, T_mLw1_len, T_mLw1_sum, T_mLw1_sorted, T_mLw1_max, T_mLw1_min, T_mLw1_range, T_mLw1_isinstance, T_mLw1_insort_left, k1_T, k1_M, k1_mu, k1_K]
          exact q_one (q_cmp rfl (q_meth (by decide +kernel) (q_call (by decide +kernel) (q_cons rfl (nmF c1 _ (by decide +kernel)) (q_cons rfl (nmF c2 _ (by decide +kernel)) (q_cons rfl (nmF c3 _ (by decide +kernel)) q_nil))) hf rfl) (q_cons rfl (q_tup (xs := [(.frozen, .str "at"), (.frozen, .int (p : Int)), (.frozen, .str "end")]) (q_cons rfl rfl (q_cons rfl (nmF c2 _ (by decide +kernel)) (q_cons rfl rfl q_nil))) ⟨rfl, Nat.le_of_ble_eq_true rfl⟩) (q_cons rfl rfl q_nil)) hg) rfl (cmpD_gt _ _))
        · dsimp only [ofs_ValueError, ofs_UUclassdictUU, ofs_UUdebugUU, ofs_UUnameUU, ofs_Llaw_near, ofs_Llaw_sides, ofs_Llaw_walks, ofs_a, ofs_add_callers, ofs_after, ofs_append, ofs_b, ofs_bad, ofs_bisect_left, ofs_caller, ofs_callers, ofs_calls, ofs_count_calls, ofs_far, ofs_first, ofs_func, ofs_get, ofs_here, ofs_hi, ofs_i, ofs_insert, ofs_insort_left, ofs_isinstance, ofs_items, ofs_j, ofs_key, ofs_law, ofs_len, ofs_lo, ofs_max, ofs_mid, ofs_min, ofs_more, ofs_nc, ofs_new_callers, ofs_number, ofs_odd, ofs_often, ofs_one, ofs_other, ofs_pairs, ofs_piece, ofs_place, ofs_range, ofs_script, ofs_sorted, ofs_source, ofs_steps, ofs_sum, ofs_table, ofs_target, ofs_there, ofs_tie, ofs_ties, ofs_tuple, ofs_turn, ofs_values, ofs_waiting, ofs_ways, ofs_word, ofs_x, ofs_zip, den_Ss, den_S, den_E, den_I, den_B, E_int, E_str, E_bool, E_none, E_name, E_bin, E_cmp, E_andV, E_ifexp, E_tup, E_lst, E_upto, E_sub_name, E_sub_con, E_sub_bin, E_sub_sub, E_sub_call, E_dict0, E_dict1, E_comp, E_call, E_meth, N_isi, B_and0, B_and, B_or0, B_or, B_cmp, B_call, I_call2, I_name, I_lst, I_tup, I_sub, I_bin, I_items, S_assignC, S_assign_name, S_assign_con, S_assign_bin, S_assign_call, S_assign_sub, S_assign_cmp, S_assign_ifx, S_assign_lst, S_assign_tup, S_assign_dict, S_assign_boo, S_tup, S_unpack_call, S_setSub, S_augSub, S_augName, S_if, S_while, S_for_name, S_for_call, S_for_lst, S_for_tup, S_for_sub, S_ret, S_retNone, S_mut, Ss_nil, Ss_cons, L_nil, L_cons, dTests_nil, dTests_cons, N1_len, N1_sum, N1_sorted, N1_max, N1_min, N2_max, N2_min, N2_isi, I_range, I_items0, I_values, S_appendN, S_insertN, k0_T, k0_M, k0_mu, k0_K, S_k0, callE, bMut, T_tLw1_len, T_tLw1_sum, T_tLw1_sorted, T_tLw1_max, T_tLw1_min, T_tLw1_range, T_tLw1_isinstance, T_tLw1_Llaw_near, T_tLw1_Llaw_sides, T_tLw1_Llaw_walks, T_tLw1_bisect_left, T_tLw1_count_calls, T_mLw1_len, T_mLw1_sum, T_mLw1_sorted, T_mLw1_max, T_mLw1_min, T_mLw1_range, T_mLw1_isinstance, T_mLw1_insort_left, k1_T, k1_M, k1_mu, k1_K]
          exact nmF rfl _ (by decide +kernel)
    · rw [← e, List.length_map]
      have : ∀ L : List Nat, (L.flatMap (oddAt T)).length ≤ 2 * L.length := fun L => by
        induction L with
        | nil => simp
        | cons x L ih =>
          rw [List.flatMap_cons, List.length_append, List.length_cons]
          have : (oddAt T x).length ≤ 2 := by unfold oddAt; rw [List.length_map]; exact List.length_filter_le _ _
          exact om_167 ih this
      have h2 := this (List.range 6)
      rw [List.length_range] at h2
      exact Nat.le_trans h2 (by decide)
  · rfl
  have S2 : L1 T R (upd ρ nm_odd (.frz (natsD (oddL T)))) := ⟨S1.ties, S1.pairs, S1.piece, S1.far⟩
  have b2 : upd ρ nm_odd (.frz (natsD (oddL T))) nm_bad = some (.frz (.lst ((T.filter (same (frF R))).map tieD))) := b1
  have o2 : upd ρ nm_odd (.frz (natsD (oddL T))) nm_odd = some (.frz (natsD (oddL T))) := rfl
  generalize upd ρ nm_odd (.frz (natsD (oddL T))) = ρ at S2 b2 o2
  clear S1 b1
  have cb : cmpD .Eq (.lst ((T.filter (same (frF R))).map tieD)) (.lst []) = some (decide (T.filter (same (frF R)) = [])) := cmp_eq_ties _ []
  have co := cmp_nil_nats (oddL T)
  refine run_seq (run_if false ?_ ?_)
  · have c : cmpD .NotEq (.bool (decide (T.filter (same (frF R)) = []))) (.bool (decide (oddL T = []))) = some false := by
      have hd : decide (T.filter (same (frF R)) = []) = decide (oddL T = []) := decide_eq_decide.mpr ((S.bad_iff K).trans (odd_nil T).symm)
      rw [cmp_ne_bool, hd]
      simp
    exact q_cmp rfl (q_val (q_cmp rfl (nmF b2 _ (by decide +kernel)) rfl cb)) (q_val (q_cmp rfl (nmF o2 _ (by decide +kernel)) rfl co)) c
  refine run_nil ?_
  -- counts
  refine run_seq (run_if false ?_ ?_)
  · obtain ⟨w, W, hw, hf⟩ := wlk_ok T 0 2 (by decide) (by decide)
    have hcnt := count_row w
    rw [hw] at hcnt
    have e : opN T 2 (fun _ => 1) 0 = ((near T 0).map fun v => ((near T v).length : Int)).sum := by
      show opA T (opA T fun _ => 1) 0 = _
      unfold opA
      exact congrArg List.sum (List.map_congr_left fun v _ => op1 T v)
    rw [e] at hcnt
    have hsum := bfn_sum .fresh ((near T 0).map fun v => ((near T v).length : Int)) (fun x hx => by
      obtain ⟨v, _, rfl⟩ := List.mem_map.mp hx
      have := near_len T v
      exact om_168 this)
    refine q_cmp rfl (q_call (by decide +kernel) (q_cons rfl (q_call (by decide +kernel) (q_cons rfl (nmF S2.ties _ (by decide +kernel)) (q_cons rfl rfl (q_cons rfl rfl q_nil))) hf rfl) q_nil) hcnt rfl) (q_bfn (by decide +kernel) (q_cons rfl (q_comp ?_) q_nil) hsum) (cmp_neF rfl)
    have e2 : ((near T 0).map fun v => ((near T v).length : Int)).map D.int = (near T 0).flatMap fun v => [D.int ((near T v).length : Int)] := by
      rw [List.map_map, ← List.map_eq_flatMap]; rfl
    rw [e2]
    refine comp_over (near T 0) (fun v : Nat => D.int (v : Int)) _ ⟨by decide +kernel, rfl, rfl, rfl⟩ ?_ (fun v _ => ?_) ?_
    · dsimp only [ofs_ValueError, ofs_UUclassdictUU, ofs_UUdebugUU, ofs_UUnameUU, ofs_Llaw_near, ofs_Llaw_sides, ofs_Llaw_walks, ofs_a, ofs_add_callers, ofs_after, ofs_append, ofs_b, ofs_bad, ofs_bisect_left, ofs_caller, ofs_callers, ofs_calls, ofs_count_calls, ofs_far, ofs_first, ofs_func, ofs_get, ofs_here, ofs_hi, ofs_i, ofs_insert, ofs_insort_left, ofs_isinstance, ofs_items, ofs_j, ofs_key, ofs_law, ofs_len, ofs_lo, ofs_max, ofs_mid, ofs_min, ofs_more, ofs_nc, ofs_new_callers, ofs_number, ofs_odd, ofs_often, ofs_one, ofs_other, ofs_pairs, ofs_piece, ofs_place, ofs_range, ofs_script, ofs_sorted, ofs_source, ofs_steps, ofs_sum, ofs_table, ofs_target, ofs_there, ofs_tie, ofs_ties, ofs_tuple, ofs_turn, ofs_values, ofs_waiting, ofs_ways, ofs_word, ofs_x, ofs_zip, den_Ss, den_S, den_E, den_I, den_B, E_int, E_str, E_bool, E_none, E_name, E_bin, E_cmp, E_andV, E_ifexp, E_tup, E_lst, E_upto, E_sub_name, E_sub_con, E_sub_bin, E_sub_sub, E_sub_call, E_dict0, E_dict1, E_comp, E_call, E_meth, N_isi, B_and0, B_and, B_or0, B_or, B_cmp, B_call, I_call2, I_name, I_lst, I_tup, I_sub, I_bin, I_items, S_assignC, S_assign_name, S_assign_con, S_assign_bin, S_assign_call, S_assign_sub, S_assign_cmp, S_assign_ifx, S_assign_lst, S_assign_tup, S_assign_dict, S_assign_boo, S_tup, S_unpack_call, S_setSub, S_augSub, S_augName, S_if, S_while, S_for_name, S_for_call, S_for_lst, S_for_tup, S_for_sub, S_ret, S_retNone, S_mut, Ss_nil, Ss_cons, L_nil, L_cons, dTests_nil, dTests_cons, N1_len, N1_sum, N1_sorted, N1_max, N1_min, N2_max, N2_min, N2_isi, I_range, I_items0, I_values, S_appendN, S_insertN, k0_T, k0_M, k0_mu, k0_K, S_k0, callE, bMut, T_tLw1_len, T_tLw1_sum, T_tLw1_sorted, T_tLw1_max, T_tLw1_min, T_tLw1_range, T_tLw1_isinstance, T_tLw1_Llaw_near, T_tLw1_Llaw_sides, T_tLw1_Llaw_walks, T_tLw1_bisect_left, T_tLw1_count_calls, T_mLw1_len, T_mLw1_sum, T_mLw1_sorted, T_mLw1_max, T_mLw1_min, T_mLw1_range, T_mLw1_isinstance, T_mLw1_insort_left, k1_T, k1_M, k1_mu, k1_K]
      exact q_list (q_call (by decide +kernel) (q_cons rfl (nmF S2.ties _ (by decide +kernel)) (q_cons rfl rfl q_nil)) (near_ok T 0) rfl) rfl (by decide)
    · refine turn0 rfl (.frozen, .int ((near T v).length : Int)) ?_ frz_nl
      have hl : bfnD nm_len [(Fl.frozen, natsD (near T v))] = some (.frozen, .int ((near T v).length : Int)) := congrArg (fun n : Nat => some (Fl.frozen, D.int (n : Int))) (List.length_map _)
      generalize hρ3 : upd (rhoC _ ρ) nm_there _ = ρ3
      have c1 : ρ3 nm_ties = some (.frz (.lst (T.map tieD))) := by rw [← hρ3]; exact S2.ties
      have c2 : ρ3 nm_there = some (.frz (.int (v : Int))) := by rw [← hρ3]; rfl
      dsimp only [ofs_ValueError, ofs_UUclassdictUU, ofs_UUdebugUU, ofs_UUnameUU, ofs_Llaw_near, ofs_Llaw_sides, ofs_Llaw_walks, ofs_a, ofs_add_callers, ofs_after, ofs_append, ofs_b, ofs_bad, ofs_bisect_left, ofs_caller, ofs_callers, ofs_calls, ofs_count_calls, ofs_far, ofs_first, ofs_func, ofs_get, ofs_here, ofs_hi, ofs_i, ofs_insert, ofs_insort_left, ofs_isinstance, ofs_items, ofs_j, ofs_key, ofs_law, ofs_len, ofs_lo, ofs_max, ofs_mid, ofs_min, ofs_more, ofs_nc, ofs_new_callers, ofs_number, ofs_odd, ofs_often, ofs_one, ofs_other, ofs_pairs, ofs_piece, ofs_place, ofs_range, ofs_script, ofs_sorted, ofs_source, ofs_steps, ofs_sum, ofs_table, ofs_target, ofs_there, ofs_tie, ofs_ties, ofs_tuple, ofs_turn, ofs_values, ofs_waiting, ofs_ways, ofs_word, ofs_x, ofs_zip, den_Ss, den_S, den_E, den_I, den_B, E_int, E_str, E_bool, E_none, E_name, E_bin, E_cmp, E_andV, E_ifexp, E_tup, E_lst, E_upto, E_sub_name, E_sub_con, E_sub_bin, E_sub_sub, E_sub_call, E_dict0, E_dict1, E_comp, E_call, E_meth, N_isi, B_and0, B_and, B_or0, B_or, B_cmp, B_call, I_call2, I_name, I_lst, I_tup, I_sub, I_bin, I_items, S_assignC, S_assign_name, S_assign_con, S_assign_bin, S_assign_call, S_assign_sub, S_assign_cmp, S_assign_ifx, S_assign_lst, S_assign_tup, S_assign_dict, S_assign_boo, S_tup, S_unpack_call, S_setSub, S_augSub, S_augName, S_if, S_while, S_for_name, S_for_call, S_for_lst, S_for_tup, S_for_sub, S_ret, S_retNone, S_mut, Ss_nil, Ss_cons, L_nil, L_cons, dTests_nil, dTests_cons, N1_len, N1_sum, N1_sorted, N1_max, N1_min, N2_max, N2_min, N2_isi, I_range, I_items0, I_values, S_appendN, S_insertN, k0_T, k0_M, k0_mu, k0_K, S_k0, callE, bMut, T_tLw1_len, T_tLw1_sum, T_tLw1_sorted, T_tLw1_max, T_tLw1_min, T_tLw1_range, T_tLw1_isinstance, T_tLw1_Llaw_near, T_tLw1_Llaw_sides, T_tLw1_Llaw_walks, T_tLw1_bisect_left, T_tLw1_count_calls, T_mLw1_len, T_mLw1_sum, T_mLw1_sorted, T_mLw1_max, T_mLw1_min, T_mLw1_range, T_mLw1_isinstance, T_mLw1_insort_left, k1_T, k1_M, k1_mu, k1_K]
      exact q_bfn (by decide +kernel) (q_cons rfl (q_call (by decide +kernel) (q_cons rfl (nmF c1 _ (by decide +kernel)) (q_cons rfl (nmF c2 _ (by decide +kernel)) q_nil)) (near_ok T v) rfl) q_nil) hl
    · rw [← e2, List.length_map, List.length_map]; exact Nat.le_trans (near_len T 0) (by decide)
  refine run_nil ?_
  -- ways
  have hways := S.ways K
  generalize hwN : ((List.range 64).filter (good T)).length = wN at hways
  refine run_seq (run_assign (.frozen, .int (wN : Int)) (upd ρ nm_ways (.frz (.int (wN : Int)))) ?_ rfl rfl ?_)
  · have hl : bfnD nm_len [(Fl.fresh, .lst (((List.range 64).filter (good T)).map fun v : Nat => .int (v : Int)))] = some (.frozen, .int (wN : Int)) := by
      rw [bfn_len, List.length_map, hwN]
    refine q_bfn (by decide +kernel) (q_cons rfl (q_comp ?_) q_nil) hl
    rw [← flat_if]
    refine comp_over (List.range 64) (fun v : Nat => D.int (v : Int)) _ ⟨by decide +kernel, rfl, rfl, rfl⟩ ?_ (fun m hm => ?_) (by rw [flat_if, List.length_map]; exact Nat.le_trans (List.length_filter_le _ _) (by decide))
    · dsimp only [ofs_ValueError, ofs_UUclassdictUU, ofs_UUdebugUU, ofs_UUnameUU, ofs_Llaw_near, ofs_Llaw_sides, ofs_Llaw_walks, ofs_a, ofs_add_callers, ofs_after, ofs_append, ofs_b, ofs_bad, ofs_bisect_left, ofs_caller, ofs_callers, ofs_calls, ofs_count_calls, ofs_far, ofs_first, ofs_func, ofs_get, ofs_here, ofs_hi, ofs_i, ofs_insert, ofs_insort_left, ofs_isinstance, ofs_items, ofs_j, ofs_key, ofs_law, ofs_len, ofs_lo, ofs_max, ofs_mid, ofs_min, ofs_more, ofs_nc, ofs_new_callers, ofs_number, ofs_odd, ofs_often, ofs_one, ofs_other, ofs_pairs, ofs_piece, ofs_place, ofs_range, ofs_script, ofs_sorted, ofs_source, ofs_steps, ofs_sum, ofs_table, ofs_target, ofs_there, ofs_tie, ofs_ties, ofs_tuple, ofs_turn, ofs_values, ofs_waiting, ofs_ways, ofs_word, ofs_x, ofs_zip, den_Ss, den_S, den_E, den_I, den_B, E_int, E_str, E_bool, E_none, E_name, E_bin, E_cmp, E_andV, E_ifexp, E_tup, E_lst, E_upto, E_sub_name, E_sub_con, E_sub_bin, E_sub_sub, E_sub_call, E_dict0, E_dict1, E_comp, E_call, E_meth, N_isi, B_and0, B_and, B_or0, B_or, B_cmp, B_call, I_call2, I_name, I_lst, I_tup, I_sub, I_bin, I_items, S_assignC, S_assign_name, S_assign_con, S_assign_bin, S_assign_call, S_assign_sub, S_assign_cmp, S_assign_ifx, S_assign_lst, S_assign_tup, S_assign_dict, S_assign_boo, S_tup, S_unpack_call, S_setSub, S_augSub, S_augName, S_if, S_while, S_for_name, S_for_call, S_for_lst, S_for_tup, S_for_sub, S_ret, S_retNone, S_mut, Ss_nil, Ss_cons, L_nil, L_cons, dTests_nil, dTests_cons, N1_len, N1_sum, N1_sorted, N1_max, N1_min, N2_max, N2_min, N2_isi, I_range, I_items0, I_values, S_appendN, S_insertN, k0_T, k0_M, k0_mu, k0_K, S_k0, callE, bMut, T_tLw1_len, T_tLw1_sum, T_tLw1_sorted, T_tLw1_max, T_tLw1_min, T_tLw1_range, T_tLw1_isinstance, T_tLw1_Llaw_near, T_tLw1_Llaw_sides, T_tLw1_Llaw_walks, T_tLw1_bisect_left, T_tLw1_count_calls, T_mLw1_len, T_mLw1_sum, T_mLw1_sorted, T_mLw1_max, T_mLw1_min, T_mLw1_range, T_mLw1_isinstance, T_mLw1_insort_left, k1_T, k1_M, k1_mu, k1_K]
      exact (q_range (k := 64) (fl := .frozen) (by decide +kernel) rfl (by decide)).trans (congrArg some range64)
    · refine turn1 rfl (good T m) ?_ (.frozen, .int (m : Int)) fun _ => ⟨?_, frz_nl⟩
      · generalize hρ3 : upd (rhoC _ ρ) nm_number _ = ρ3
        have c1 : ρ3 nm_ties = some (.frz (.lst (T.map tieD))) := by rw [← hρ3]; exact S2.ties
        have c2 : ρ3 nm_number = some (.frz (.int (m : Int))) := by rw [← hρ3]; rfl
        have hc := cmp_ones (T.filter (same (bit m)))
        have q3 : ρ3 nm_a = none ∧ ρ3 nm_b = none := by rw [← hρ3]; exact ⟨rfl, rfl⟩
        dsimp only [ofs_ValueError, ofs_UUclassdictUU, ofs_UUdebugUU, ofs_UUnameUU, ofs_Llaw_near, ofs_Llaw_sides, ofs_Llaw_walks, ofs_a, ofs_add_callers, ofs_after, ofs_append, ofs_b, ofs_bad, ofs_bisect_left, ofs_caller, ofs_callers, ofs_calls, ofs_count_calls, ofs_far, ofs_first, ofs_func, ofs_get, ofs_here, ofs_hi, ofs_i, ofs_insert, ofs_insort_left, ofs_isinstance, ofs_items, ofs_j, ofs_key, ofs_law, ofs_len, ofs_lo, ofs_max, ofs_mid, ofs_min, ofs_more, ofs_nc, ofs_new_callers, ofs_number, ofs_odd, ofs_often, ofs_one, ofs_other, ofs_pairs, ofs_piece, ofs_place, ofs_range, ofs_script, ofs_sorted, ofs_source, ofs_steps, ofs_sum, ofs_table, ofs_target, ofs_there, ofs_tie, ofs_ties, ofs_tuple, ofs_turn, ofs_values, ofs_waiting, ofs_ways, ofs_word, ofs_x, ofs_zip, den_Ss, den_S, den_E, den_I, den_B, E_int, E_str, E_bool, E_none, E_name, E_bin, E_cmp, E_andV, E_ifexp, E_tup, E_lst, E_upto, E_sub_name, E_sub_con, E_sub_bin, E_sub_sub, E_sub_call, E_dict0, E_dict1, E_comp, E_call, E_meth, N_isi, B_and0, B_and, B_or0, B_or, B_cmp, B_call, I_call2, I_name, I_lst, I_tup, I_sub, I_bin, I_items, S_assignC, S_assign_name, S_assign_con, S_assign_bin, S_assign_call, S_assign_sub, S_assign_cmp, S_assign_ifx, S_assign_lst, S_assign_tup, S_assign_dict, S_assign_boo, S_tup, S_unpack_call, S_setSub, S_augSub, S_augName, S_if, S_while, S_for_name, S_for_call, S_for_lst, S_for_tup, S_for_sub, S_ret, S_retNone, S_mut, Ss_nil, Ss_cons, L_nil, L_cons, dTests_nil, dTests_cons, N1_len, N1_sum, N1_sorted, N1_max, N1_min, N2_max, N2_min, N2_isi, I_range, I_items0, I_values, S_appendN, S_insertN, k0_T, k0_M, k0_mu, k0_K, S_k0, callE, bMut, T_tLw1_len, T_tLw1_sum, T_tLw1_sorted, T_tLw1_max, T_tLw1_min, T_tLw1_range, T_tLw1_isinstance, T_tLw1_Llaw_near, T_tLw1_Llaw_sides, T_tLw1_Llaw_walks, T_tLw1_bisect_left, T_tLw1_count_calls, T_mLw1_len, T_mLw1_sum, T_mLw1_sorted, T_mLw1_max, T_mLw1_min, T_mLw1_range, T_mLw1_isinstance, T_mLw1_insort_left, k1_T, k1_M, k1_mu, k1_K]
        refine q_one (q_cmp rfl (q_comp ?_) rfl hc)
        rw [← flat_if]
        refine comp_over T tieD _ ⟨by decide +kernel, rfl, rfl, rfl⟩ ?_ (fun t ht => ?_) (by rw [flat_if, List.length_map]; exact Nat.le_trans (List.length_filter_le _ _) (by exact om_163 capE hT))
        · dsimp only [ofs_ValueError, ofs_UUclassdictUU, ofs_UUdebugUU, ofs_UUnameUU, ofs_Llaw_near, ofs_Llaw_sides, ofs_Llaw_walks, ofs_a, ofs_add_callers, ofs_after, ofs_append, ofs_b, ofs_bad, ofs_bisect_left, ofs_caller, ofs_callers, ofs_calls, ofs_count_calls, ofs_far, ofs_first, ofs_func, ofs_get, ofs_here, ofs_hi, ofs_i, ofs_insert, ofs_insort_left, ofs_isinstance, ofs_items, ofs_j, ofs_key, ofs_law, ofs_len, ofs_lo, ofs_max, ofs_mid, ofs_min, ofs_more, ofs_nc, ofs_new_callers, ofs_number, ofs_odd, ofs_often, ofs_one, ofs_other, ofs_pairs, ofs_piece, ofs_place, ofs_range, ofs_script, ofs_sorted, ofs_source, ofs_steps, ofs_sum, ofs_table, ofs_target, ofs_there, ofs_tie, ofs_ties, ofs_tuple, ofs_turn, ofs_values, ofs_waiting, ofs_ways, ofs_word, ofs_x, ofs_zip, den_Ss, den_S, den_E, den_I, den_B, E_int, E_str, E_bool, E_none, E_name, E_bin, E_cmp, E_andV, E_ifexp, E_tup, E_lst, E_upto, E_sub_name, E_sub_con, E_sub_bin, E_sub_sub, E_sub_call, E_dict0, E_dict1, E_comp, E_call, E_meth, N_isi, B_and0, B_and, B_or0, B_or, B_cmp, B_call, I_call2, I_name, I_lst, I_tup, I_sub, I_bin, I_items, S_assignC, S_assign_name, S_assign_con, S_assign_bin, S_assign_call, S_assign_sub, S_assign_cmp, S_assign_ifx, S_assign_lst, S_assign_tup, S_assign_dict, S_assign_boo, S_tup, S_unpack_call, S_setSub, S_augSub, S_augName, S_if, S_while, S_for_name, S_for_call, S_for_lst, S_for_tup, S_for_sub, S_ret, S_retNone, S_mut, Ss_nil, Ss_cons, L_nil, L_cons, dTests_nil, dTests_cons, N1_len, N1_sum, N1_sorted, N1_max, N1_min, N2_max, N2_min, N2_isi, I_range, I_items0, I_values, S_appendN, S_insertN, k0_T, k0_M, k0_mu, k0_K, S_k0, callE, bMut, T_tLw1_len, T_tLw1_sum, T_tLw1_sorted, T_tLw1_max, T_tLw1_min, T_tLw1_range, T_tLw1_isinstance, T_tLw1_Llaw_near, T_tLw1_Llaw_sides, T_tLw1_Llaw_walks, T_tLw1_bisect_left, T_tLw1_count_calls, T_mLw1_len, T_mLw1_sum, T_mLw1_sorted, T_mLw1_max, T_mLw1_min, T_mLw1_range, T_mLw1_isinstance, T_mLw1_insort_left, k1_T, k1_M, k1_mu, k1_K]
          exact q_list (nmF c1 _ (by decide +kernel)) rfl (by decide)
        · obtain ⟨h1, h2⟩ := K.lt t ht
          obtain ⟨x, y⟩ := t
          refine turn1 rfl (same (bit m) (x, y)) ?_ (.frozen, .int 1) fun _ => ⟨?_, frz_nl⟩
          · have es : same (bit m) (x, y) = decide (m / 2 ^ x % 2 = m / 2 ^ y % 2) := decide_eq_decide.mpr (by rw [bit_mod, bit_mod]; exact Iff.rfl)
            rw [es]
            generalize hρ4 : upd (upd (rhoC _ ρ3) nm_a _) nm_b _ = ρ4
            have d1 : ρ4 nm_number = some (.frz (.int (m : Int))) := by rw [← hρ4]; exact c2
            have d2 : ρ4 nm_a = some (.frz (.int (x : Int))) := by rw [← hρ4]; rfl
            have d3 : ρ4 nm_b = some (.frz (.int (y : Int))) := by rw [← hρ4]; rfl
            dsimp only [ofs_ValueError, ofs_UUclassdictUU, ofs_UUdebugUU, ofs_UUnameUU, ofs_Llaw_near, ofs_Llaw_sides, ofs_Llaw_walks, ofs_a, ofs_add_callers, ofs_after, ofs_append, ofs_b, ofs_bad, ofs_bisect_left, ofs_caller, ofs_callers, ofs_calls, ofs_count_calls, ofs_far, ofs_first, ofs_func, ofs_get, ofs_here, ofs_hi, ofs_i, ofs_insert, ofs_insort_left, ofs_isinstance, ofs_items, ofs_j, ofs_key, ofs_law, ofs_len, ofs_lo, ofs_max, ofs_mid, ofs_min, ofs_more, ofs_nc, ofs_new_callers, ofs_number, ofs_odd, ofs_often, ofs_one, ofs_other, ofs_pairs, ofs_piece, ofs_place, ofs_range, ofs_script, ofs_sorted, ofs_source, ofs_steps, ofs_sum, ofs_table, ofs_target, ofs_there, ofs_tie, ofs_ties, ofs_tuple, ofs_turn, ofs_values, ofs_waiting, ofs_ways, ofs_word, ofs_x, ofs_zip, den_Ss, den_S, den_E, den_I, den_B, E_int, E_str, E_bool, E_none, E_name, E_bin, E_cmp, E_andV, E_ifexp, E_tup, E_lst, E_upto, E_sub_name, E_sub_con, E_sub_bin, E_sub_sub, E_sub_call, E_dict0, E_dict1, E_comp, E_call, E_meth, N_isi, B_and0, B_and, B_or0, B_or, B_cmp, B_call, I_call2, I_name, I_lst, I_tup, I_sub, I_bin, I_items, S_assignC, S_assign_name, S_assign_con, S_assign_bin, S_assign_call, S_assign_sub, S_assign_cmp, S_assign_ifx, S_assign_lst, S_assign_tup, S_assign_dict, S_assign_boo, S_tup, S_unpack_call, S_setSub, S_augSub, S_augName, S_if, S_while, S_for_name, S_for_call, S_for_lst, S_for_tup, S_for_sub, S_ret, S_retNone, S_mut, Ss_nil, Ss_cons, L_nil, L_cons, dTests_nil, dTests_cons, N1_len, N1_sum, N1_sorted, N1_max, N1_min, N2_max, N2_min, N2_isi, I_range, I_items0, I_values, S_appendN, S_insertN, k0_T, k0_M, k0_mu, k0_K, S_k0, callE, bMut, T_tLw1_len, T_tLw1_sum, T_tLw1_sorted, T_tLw1_max, T_tLw1_min, T_tLw1_range, T_tLw1_isinstance, T_tLw1_Llaw_near, T_tLw1_Llaw_sides, T_tLw1_Llaw_walks, T_tLw1_bisect_left, T_tLw1_count_calls, T_mLw1_len, T_mLw1_sum, T_mLw1_sorted, T_mLw1_max, T_mLw1_min, T_mLw1_range, T_mLw1_isinstance, T_mLw1_insort_left, k1_T, k1_M, k1_mu, k1_K]
            exact q_one (q_cmp rfl (q_bin (q_bin (nmF d1 _ (by decide +kernel)) (q_bin rfl (nmF d2 _ (by decide +kernel)) (pow2 (by exact om_169 h1 h2))) (div2 (by exact om_125 h1 h2 : x < 6))) rfl (mod2 _)) (q_bin (q_bin (nmF d1 _ (by decide +kernel)) (q_bin rfl (nmF d3 _ (by decide +kernel)) (pow2 (by exact om_170 h2))) (div2 h2)) rfl (mod2 _)) (cmp_eqN _ _))
          · dsimp only [ofs_ValueError, ofs_UUclassdictUU, ofs_UUdebugUU, ofs_UUnameUU, ofs_Llaw_near, ofs_Llaw_sides, ofs_Llaw_walks, ofs_a, ofs_add_callers, ofs_after, ofs_append, ofs_b, ofs_bad, ofs_bisect_left, ofs_caller, ofs_callers, ofs_calls, ofs_count_calls, ofs_far, ofs_first, ofs_func, ofs_get, ofs_here, ofs_hi, ofs_i, ofs_insert, ofs_insort_left, ofs_isinstance, ofs_items, ofs_j, ofs_key, ofs_law, ofs_len, ofs_lo, ofs_max, ofs_mid, ofs_min, ofs_more, ofs_nc, ofs_new_callers, ofs_number, ofs_odd, ofs_often, ofs_one, ofs_other, ofs_pairs, ofs_piece, ofs_place, ofs_range, ofs_script, ofs_sorted, ofs_source, ofs_steps, ofs_sum, ofs_table, ofs_target, ofs_there, ofs_tie, ofs_ties, ofs_tuple, ofs_turn, ofs_values, ofs_waiting, ofs_ways, ofs_word, ofs_x, ofs_zip, den_Ss, den_S, den_E, den_I, den_B, E_int, E_str, E_bool, E_none, E_name, E_bin, E_cmp, E_andV, E_ifexp, E_tup, E_lst, E_upto, E_sub_name, E_sub_con, E_sub_bin, E_sub_sub, E_sub_call, E_dict0, E_dict1, E_comp, E_call, E_meth, N_isi, B_and0, B_and, B_or0, B_or, B_cmp, B_call, I_call2, I_name, I_lst, I_tup, I_sub, I_bin, I_items, S_assignC, S_assign_name, S_assign_con, S_assign_bin, S_assign_call, S_assign_sub, S_assign_cmp, S_assign_ifx, S_assign_lst, S_assign_tup, S_assign_dict, S_assign_boo, S_tup, S_unpack_call, S_setSub, S_augSub, S_augName, S_if, S_while, S_for_name, S_for_call, S_for_lst, S_for_tup, S_for_sub, S_ret, S_retNone, S_mut, Ss_nil, Ss_cons, L_nil, L_cons, dTests_nil, dTests_cons, N1_len, N1_sum, N1_sorted, N1_max, N1_min, N2_max, N2_min, N2_isi, I_range, I_items0, I_values, S_appendN, S_insertN, k0_T, k0_M, k0_mu, k0_K, S_k0, callE, bMut, T_tLw1_len, T_tLw1_sum, T_tLw1_sorted, T_tLw1_max, T_tLw1_min, T_tLw1_range, T_tLw1_isinstance, T_tLw1_Llaw_near, T_tLw1_Llaw_sides, T_tLw1_Llaw_walks, T_tLw1_bisect_left, T_tLw1_count_calls, T_mLw1_len, T_mLw1_sum, T_mLw1_sorted, T_mLw1_max, T_mLw1_min, T_mLw1_range, T_mLw1_isinstance, T_mLw1_insort_left, k1_T, k1_M, k1_mu, k1_K]
      · dsimp only [ofs_ValueError, ofs_UUclassdictUU, ofs_UUdebugUU, ofs_UUnameUU, ofs_Llaw_near, ofs_Llaw_sides, ofs_Llaw_walks, ofs_a, ofs_add_callers, ofs_after, ofs_append, ofs_b, ofs_bad, ofs_bisect_left, ofs_caller, ofs_callers, ofs_calls, ofs_count_calls, ofs_far, ofs_first, ofs_func, ofs_get, ofs_here, ofs_hi, ofs_i, ofs_insert, ofs_insort_left, ofs_isinstance, ofs_items, ofs_j, ofs_key, ofs_law, ofs_len, ofs_lo, ofs_max, ofs_mid, ofs_min, ofs_more, ofs_nc, ofs_new_callers, ofs_number, ofs_odd, ofs_often, ofs_one, ofs_other, ofs_pairs, ofs_piece, ofs_place, ofs_range, ofs_script, ofs_sorted, ofs_source, ofs_steps, ofs_sum, ofs_table, ofs_target, ofs_there, ofs_tie, ofs_ties, ofs_tuple, ofs_turn, ofs_values, ofs_waiting, ofs_ways, ofs_word, ofs_x, ofs_zip, den_Ss, den_S, den_E, den_I, den_B, E_int, E_str, E_bool, E_none, E_name, E_bin, E_cmp, E_andV, E_ifexp, E_tup, E_lst, E_upto, E_sub_name, E_sub_con, E_sub_bin, E_sub_sub, E_sub_call, E_dict0, E_dict1, E_comp, E_call, E_meth, N_isi, B_and0, B_and, B_or0, B_or, B_cmp, B_call, I_call2, I_name, I_lst, I_tup, I_sub, I_bin, I_items, S_assignC, S_assign_name, S_assign_con, S_assign_bin, S_assign_call, S_assign_sub, S_assign_cmp, S_assign_ifx, S_assign_lst, S_assign_tup, S_assign_dict, S_assign_boo, S_tup, S_unpack_call, S_setSub, S_augSub, S_augName, S_if, S_while, S_for_name, S_for_call, S_for_lst, S_for_tup, S_for_sub, S_ret, S_retNone, S_mut, Ss_nil, Ss_cons, L_nil, L_cons, dTests_nil, dTests_cons, N1_len, N1_sum, N1_sorted, N1_max, N1_min, N2_max, N2_min, N2_isi, I_range, I_items0, I_values, S_appendN, S_insertN, k0_T, k0_M, k0_mu, k0_K, S_k0, callE, bMut, T_tLw1_len, T_tLw1_sum, T_tLw1_sorted, T_tLw1_max, T_tLw1_min, T_tLw1_range, T_tLw1_isinstance, T_tLw1_Llaw_near, T_tLw1_Llaw_sides, T_tLw1_Llaw_walks, T_tLw1_bisect_left, T_tLw1_count_calls, T_mLw1_len, T_mLw1_sum, T_mLw1_sorted, T_mLw1_max, T_mLw1_min, T_mLw1_range, T_mLw1_isinstance, T_mLw1_insort_left, k1_T, k1_M, k1_mu, k1_K]
        exact nmF rfl _ (by decide +kernel)
  have S3 : L1 T R (upd ρ nm_ways (.frz (.int (wN : Int)))) := ⟨S2.ties, S2.pairs, S2.piece, S2.far⟩
  have b3 : upd ρ nm_ways (.frz (.int (wN : Int))) nm_bad = some (.frz (.lst ((T.filter (same (frF R))).map tieD))) := b2
  have w3 : upd ρ nm_ways (.frz (.int (wN : Int))) nm_ways = some (.frz (.int (wN : Int))) := rfl
  generalize upd ρ nm_ways (.frz (.int (wN : Int))) = ρ at S3 b3 w3
  clear S2 b2 o2
  refine run_seq (run_if false ?_ ?_)
  · by_cases hb : T.filter (same (frF R)) = []
    · rw [decide_eq_true hb] at cb
      rw [if_pos hb] at hways
      generalize hrt : ((List.range 6).filter fun v => decide (pcF R v = v)) = rt at hways
      have hrl : rt.length ≤ 6 := by rw [← hrt]; exact Nat.le_trans (List.length_filter_le _ _) (by simp)
      have hl : bfnD nm_len [(Fl.fresh, .lst (rt.map fun v : Nat => .int (v : Int)))] = some (.frozen, .int (rt.length : Int)) := by
        rw [bfn_len, List.length_map]
      refine q_cmp rfl (nmF w3 _ (by decide +kernel)) (q_if (q_cmp rfl (nmF b3 _ (by decide +kernel)) rfl cb) ((if_pos rfl).trans (q_bin rfl (q_bfn (by decide +kernel) (q_cons rfl (q_comp ?_) q_nil) hl) (pow2 (by exact om_171 hrl))))) (cmp_neF (by rw [hways]))
      rw [← hrt, ← flat_if]
      refine comp_over (List.range 6) (fun v : Nat => D.int (v : Int)) _ ⟨by decide +kernel, rfl, rfl, rfl⟩ ?_ (fun v hvm => ?_) (by rw [flat_if, List.length_map]; exact Nat.le_trans (List.length_filter_le _ _) (by decide))
      · dsimp only [ofs_ValueError, ofs_UUclassdictUU, ofs_UUdebugUU, ofs_UUnameUU, ofs_Llaw_near, ofs_Llaw_sides, ofs_Llaw_walks, ofs_a, ofs_add_callers, ofs_after, ofs_append, ofs_b, ofs_bad, ofs_bisect_left, ofs_caller, ofs_callers, ofs_calls, ofs_count_calls, ofs_far, ofs_first, ofs_func, ofs_get, ofs_here, ofs_hi, ofs_i, ofs_insert, ofs_insort_left, ofs_isinstance, ofs_items, ofs_j, ofs_key, ofs_law, ofs_len, ofs_lo, ofs_max, ofs_mid, ofs_min, ofs_more, ofs_nc, ofs_new_callers, ofs_number, ofs_odd, ofs_often, ofs_one, ofs_other, ofs_pairs, ofs_piece, ofs_place, ofs_range, ofs_script, ofs_sorted, ofs_source, ofs_steps, ofs_sum, ofs_table, ofs_target, ofs_there, ofs_tie, ofs_ties, ofs_tuple, ofs_turn, ofs_values, ofs_waiting, ofs_ways, ofs_word, ofs_x, ofs_zip, den_Ss, den_S, den_E, den_I, den_B, E_int, E_str, E_bool, E_none, E_name, E_bin, E_cmp, E_andV, E_ifexp, E_tup, E_lst, E_upto, E_sub_name, E_sub_con, E_sub_bin, E_sub_sub, E_sub_call, E_dict0, E_dict1, E_comp, E_call, E_meth, N_isi, B_and0, B_and, B_or0, B_or, B_cmp, B_call, I_call2, I_name, I_lst, I_tup, I_sub, I_bin, I_items, S_assignC, S_assign_name, S_assign_con, S_assign_bin, S_assign_call, S_assign_sub, S_assign_cmp, S_assign_ifx, S_assign_lst, S_assign_tup, S_assign_dict, S_assign_boo, S_tup, S_unpack_call, S_setSub, S_augSub, S_augName, S_if, S_while, S_for_name, S_for_call, S_for_lst, S_for_tup, S_for_sub, S_ret, S_retNone, S_mut, Ss_nil, Ss_cons, L_nil, L_cons, dTests_nil, dTests_cons, N1_len, N1_sum, N1_sorted, N1_max, N1_min, N2_max, N2_min, N2_isi, I_range, I_items0, I_values, S_appendN, S_insertN, k0_T, k0_M, k0_mu, k0_K, S_k0, callE, bMut, T_tLw1_len, T_tLw1_sum, T_tLw1_sorted, T_tLw1_max, T_tLw1_min, T_tLw1_range, T_tLw1_isinstance, T_tLw1_Llaw_near, T_tLw1_Llaw_sides, T_tLw1_Llaw_walks, T_tLw1_bisect_left, T_tLw1_count_calls, T_mLw1_len, T_mLw1_sum, T_mLw1_sorted, T_mLw1_max, T_mLw1_min, T_mLw1_range, T_mLw1_isinstance, T_mLw1_insort_left, k1_T, k1_M, k1_mu, k1_K]
        exact (q_range (k := 6) (fl := .frozen) (by decide +kernel) rfl (by decide)).trans (congrArg some range6)
      · have hv6 := List.mem_range.mp hvm
        refine turn1 rfl (decide (pcF R v = v)) ?_ (.frozen, .int (v : Int)) fun _ => ⟨?_, frz_nl⟩
        · generalize hρ4 : upd (rhoC _ ρ) nm_place _ = ρ4
          have d1 : ρ4 nm_piece = some (.frz (pieceR R)) := by rw [← hρ4]; exact S3.piece
          have d2 : ρ4 nm_place = some (.frz (.int (v : Int))) := by rw [← hρ4]; rfl
          dsimp only [ofs_ValueError, ofs_UUclassdictUU, ofs_UUdebugUU, ofs_UUnameUU, ofs_Llaw_near, ofs_Llaw_sides, ofs_Llaw_walks, ofs_a, ofs_add_callers, ofs_after, ofs_append, ofs_b, ofs_bad, ofs_bisect_left, ofs_caller, ofs_callers, ofs_calls, ofs_count_calls, ofs_far, ofs_first, ofs_func, ofs_get, ofs_here, ofs_hi, ofs_i, ofs_insert, ofs_insort_left, ofs_isinstance, ofs_items, ofs_j, ofs_key, ofs_law, ofs_len, ofs_lo, ofs_max, ofs_mid, ofs_min, ofs_more, ofs_nc, ofs_new_callers, ofs_number, ofs_odd, ofs_often, ofs_one, ofs_other, ofs_pairs, ofs_piece, ofs_place, ofs_range, ofs_script, ofs_sorted, ofs_source, ofs_steps, ofs_sum, ofs_table, ofs_target, ofs_there, ofs_tie, ofs_ties, ofs_tuple, ofs_turn, ofs_values, ofs_waiting, ofs_ways, ofs_word, ofs_x, ofs_zip, den_Ss, den_S, den_E, den_I, den_B, E_int, E_str, E_bool, E_none, E_name, E_bin, E_cmp, E_andV, E_ifexp, E_tup, E_lst, E_upto, E_sub_name, E_sub_con, E_sub_bin, E_sub_sub, E_sub_call, E_dict0, E_dict1, E_comp, E_call, E_meth, N_isi, B_and0, B_and, B_or0, B_or, B_cmp, B_call, I_call2, I_name, I_lst, I_tup, I_sub, I_bin, I_items, S_assignC, S_assign_name, S_assign_con, S_assign_bin, S_assign_call, S_assign_sub, S_assign_cmp, S_assign_ifx, S_assign_lst, S_assign_tup, S_assign_dict, S_assign_boo, S_tup, S_unpack_call, S_setSub, S_augSub, S_augName, S_if, S_while, S_for_name, S_for_call, S_for_lst, S_for_tup, S_for_sub, S_ret, S_retNone, S_mut, Ss_nil, Ss_cons, L_nil, L_cons, dTests_nil, dTests_cons, N1_len, N1_sum, N1_sorted, N1_max, N1_min, N2_max, N2_min, N2_isi, I_range, I_items0, I_values, S_appendN, S_insertN, k0_T, k0_M, k0_mu, k0_K, S_k0, callE, bMut, T_tLw1_len, T_tLw1_sum, T_tLw1_sorted, T_tLw1_max, T_tLw1_min, T_tLw1_range, T_tLw1_isinstance, T_tLw1_Llaw_near, T_tLw1_Llaw_sides, T_tLw1_Llaw_walks, T_tLw1_bisect_left, T_tLw1_count_calls, T_mLw1_len, T_mLw1_sum, T_mLw1_sorted, T_mLw1_max, T_mLw1_min, T_mLw1_range, T_mLw1_isinstance, T_mLw1_insort_left, k1_T, k1_M, k1_mu, k1_K]
          exact q_one (q_cmp rfl (q_sub (nmF d1 _ (by decide +kernel)) (nmF d2 _ (by decide +kernel)) rfl (piece_at Dn hv hv6)) (nmF d2 _ (by decide +kernel)) (cmp_eqN _ _))
        · dsimp only [ofs_ValueError, ofs_UUclassdictUU, ofs_UUdebugUU, ofs_UUnameUU, ofs_Llaw_near, ofs_Llaw_sides, ofs_Llaw_walks, ofs_a, ofs_add_callers, ofs_after, ofs_append, ofs_b, ofs_bad, ofs_bisect_left, ofs_caller, ofs_callers, ofs_calls, ofs_count_calls, ofs_far, ofs_first, ofs_func, ofs_get, ofs_here, ofs_hi, ofs_i, ofs_insert, ofs_insort_left, ofs_isinstance, ofs_items, ofs_j, ofs_key, ofs_law, ofs_len, ofs_lo, ofs_max, ofs_mid, ofs_min, ofs_more, ofs_nc, ofs_new_callers, ofs_number, ofs_odd, ofs_often, ofs_one, ofs_other, ofs_pairs, ofs_piece, ofs_place, ofs_range, ofs_script, ofs_sorted, ofs_source, ofs_steps, ofs_sum, ofs_table, ofs_target, ofs_there, ofs_tie, ofs_ties, ofs_tuple, ofs_turn, ofs_values, ofs_waiting, ofs_ways, ofs_word, ofs_x, ofs_zip, den_Ss, den_S, den_E, den_I, den_B, E_int, E_str, E_bool, E_none, E_name, E_bin, E_cmp, E_andV, E_ifexp, E_tup, E_lst, E_upto, E_sub_name, E_sub_con, E_sub_bin, E_sub_sub, E_sub_call, E_dict0, E_dict1, E_comp, E_call, E_meth, N_isi, B_and0, B_and, B_or0, B_or, B_cmp, B_call, I_call2, I_name, I_lst, I_tup, I_sub, I_bin, I_items, S_assignC, S_assign_name, S_assign_con, S_assign_bin, S_assign_call, S_assign_sub, S_assign_cmp, S_assign_ifx, S_assign_lst, S_assign_tup, S_assign_dict, S_assign_boo, S_tup, S_unpack_call, S_setSub, S_augSub, S_augName, S_if, S_while, S_for_name, S_for_call, S_for_lst, S_for_tup, S_for_sub, S_ret, S_retNone, S_mut, Ss_nil, Ss_cons, L_nil, L_cons, dTests_nil, dTests_cons, N1_len, N1_sum, N1_sorted, N1_max, N1_min, N2_max, N2_min, N2_isi, I_range, I_items0, I_values, S_appendN, S_insertN, k0_T, k0_M, k0_mu, k0_K, S_k0, callE, bMut, T_tLw1_len, T_tLw1_sum, T_tLw1_sorted, T_tLw1_max, T_tLw1_min, T_tLw1_range, T_tLw1_isinstance, T_tLw1_Llaw_near, T_tLw1_Llaw_sides, T_tLw1_Llaw_walks, T_tLw1_bisect_left, T_tLw1_count_calls, T_mLw1_len, T_mLw1_sum, T_mLw1_sorted, T_mLw1_max, T_mLw1_min, T_mLw1_range, T_mLw1_isinstance, T_mLw1_insort_left, k1_T, k1_M, k1_mu, k1_K]
          exact nmF rfl _ (by decide +kernel)
    · rw [decide_eq_false hb] at cb
      rw [if_neg hb] at hways
      exact q_cmp rfl (nmF w3 _ (by decide +kernel)) (q_if (q_cmp rfl (nmF b3 _ (by decide +kernel)) rfl cb) ((if_neg (by decide)).trans rfl)) (cmp_neF (by rw [hways]; rfl))
  refine run_nil ?_
  -- an extra tie
  refine run_seq (run_if (decide (T.filter (same (frF R)) = [])) (q_cmp rfl (nmF b3 _ (by decide +kernel)) rfl cb) ?_)
  by_cases hb : T.filter (same (frF R)) = []
  · rw [decide_eq_true hb]
    refine run_seq (run_notown (own_frz S3.pairs) (run_for (prs.map tieD) (q_list (nmF S3.pairs _ (by decide +kernel)) rfl (by decide)) (LwB T R) ⟨prs, rfl, fun _ h => h, S3⟩ ?_ ?_))
    · rintro d ds ρ ⟨ts, hds, hts, S4⟩
      cases ts with
      | nil => cases hds
      | cons t ts =>
      cases hds
      have htp := hts t List.mem_cons_self
      obtain ⟨h1, h2⟩ := prs_lt t htp
      obtain ⟨x, y⟩ := t
      refine ⟨upd (upd ρ nm_a (.frz (.int (x : Int)))) nm_b (.frz (.int (y : Int))), rfl, ?_⟩
      have S5 : L1 T R (upd (upd ρ nm_a (.frz (.int (x : Int)))) nm_b (.frz (.int (y : Int)))) := ⟨S4.ties, S4.pairs, S4.piece, S4.far⟩
      have x5 : upd (upd ρ nm_a (.frz (.int (x : Int)))) nm_b (.frz (.int (y : Int))) nm_a = some (.frz (.int (x : Int))) := rfl
      have y5 : upd (upd ρ nm_a (.frz (.int (x : Int)))) nm_b (.frz (.int (y : Int))) nm_b = some (.frz (.int (y : Int))) := rfl
      generalize upd (upd ρ nm_a (.frz (.int (x : Int)))) nm_b (.frz (.int (y : Int))) = ρ at S5 x5 y5
      have hx : x < 6 := by simp only at h1 h2; exact om_125 h1 h2
      have c1 := cmp_notin_ties T (x, y)
      refine run_seq (run_if (decide ((x, y) ∉ T) && (decide (pcF R x = pcF R y) && (decide (frF R x % 2 = frF R y % 2) && true))) (q_andB (q_cmp rfl (q_tup (xs := [(.frozen, .int (x : Int)), (.frozen, .int (y : Int))]) (q_cons rfl (nmF x5 _ (by decide +kernel)) (q_cons rfl (nmF y5 _ (by decide +kernel)) q_nil)) ⟨rfl, Nat.le_of_ble_eq_true rfl⟩) (nmF S5.ties _ (by decide +kernel)) c1) (q_andB (q_cmp rfl (q_sub (nmF S5.piece _ (by decide +kernel)) (nmF x5 _ (by decide +kernel)) rfl (piece_at Dn hv hx)) (q_sub (nmF S5.piece _ (by decide +kernel)) (nmF y5 _ (by decide +kernel)) rfl (piece_at Dn hv h2)) (cmp_eqN _ _)) (q_andB (q_cmp rfl (q_bin (q_sub (nmF S5.far _ (by decide +kernel)) (nmF x5 _ (by decide +kernel)) rfl (far_at Dn hv hx)) rfl (mod2 _)) (q_bin (q_sub (nmF S5.far _ (by decide +kernel)) (nmF y5 _ (by decide +kernel)) rfl (far_at Dn hv h2)) rfl (mod2 _)) (cmp_eqN _ _)) rfl))) ?_)
      have back : LwB T R (ts.map tieD) ρ := ⟨ts, rfl, fun t h => hts t (List.mem_cons_of_mem _ h), S5⟩
      by_cases q : (x, y) ∉ T ∧ pcF R x = pcF R y ∧ frF R x % 2 = frF R y % 2
      · rw [decide_eq_true q.1, decide_eq_true q.2.1, decide_eq_true q.2.2]
        obtain ⟨R', D', hv', hs'⟩ := sid_ok (T ++ [(x, y)])
        have happ := app_tie T (x, y) (by exact om_172 hT)
        have i1 : itemD (.tup [pieceR R', farR R']) (.int 1) = some (farR R') := rfl
        refine run_seq (run_assign (.frozen, farR R') (upd ρ nm_more (.frz (farR R'))) ?_ rfl rfl ?_)
        · exact q_sub (q_call (xs := [(.fresh, .lst ((T ++ [(x, y)]).map tieD))]) (by decide +kernel) (q_cons rfl (q_bin (nmF S5.ties _ (by decide +kernel)) (q_lst (xs := [(.fresh, tieD (x, y))]) (q_cons rfl (q_tup (xs := [(.frozen, .int (x : Int)), (.frozen, .int (y : Int))]) (q_cons rfl (nmF x5 _ (by decide +kernel)) (q_cons rfl (nmF y5 _ (by decide +kernel)) q_nil)) ⟨rfl, Nat.le_of_ble_eq_true rfl⟩) q_nil) ⟨rfl, Nat.le_of_ble_eq_true rfl⟩) happ) q_nil) hs' rfl) rfl rfl i1
        have S6 : L1 T R (upd ρ nm_more (.frz (farR R'))) := ⟨S5.ties, S5.pairs, S5.piece, S5.far⟩
        have x6 : upd ρ nm_more (.frz (farR R')) nm_a = some (.frz (.int (x : Int))) := x5
        have y6 : upd ρ nm_more (.frz (farR R')) nm_b = some (.frz (.int (y : Int))) := y5
        have m6 : upd ρ nm_more (.frz (farR R')) nm_more = some (.frz (farR R')) := rfl
        generalize upd ρ nm_more (.frz (farR R')) = ρ at S6 x6 y6 m6
        have hne := S.extra (c := frF R') hx h2 q.2.1 q.2.2
        have hc := cmp_ones ((T ++ [(x, y)]).filter (same (frF R')))
        rw [decide_eq_false hne] at hc
        refine run_seq (run_if false (q_cmp rfl (q_comp ?_) rfl hc) (run_nil (run_nil (run_nil ⟨ts, rfl, fun t h => hts t (List.mem_cons_of_mem _ h), S6⟩))))
        rw [← flat_if]
        refine comp_over (T ++ [(x, y)]) tieD _ ⟨by decide +kernel, rfl, rfl, rfl⟩ ?_ (fun t ht => ?_) (by rw [flat_if, List.length_map]; refine Nat.le_trans (List.length_filter_le _ _) ?_; simp; exact om_173 capE hT)
        · dsimp only [ofs_ValueError, ofs_UUclassdictUU, ofs_UUdebugUU, ofs_UUnameUU, ofs_Llaw_near, ofs_Llaw_sides, ofs_Llaw_walks, ofs_a, ofs_add_callers, ofs_after, ofs_append, ofs_b, ofs_bad, ofs_bisect_left, ofs_caller, ofs_callers, ofs_calls, ofs_count_calls, ofs_far, ofs_first, ofs_func, ofs_get, ofs_here, ofs_hi, ofs_i, ofs_insert, ofs_insort_left, ofs_isinstance, ofs_items, ofs_j, ofs_key, ofs_law, ofs_len, ofs_lo, ofs_max, ofs_mid, ofs_min, ofs_more, ofs_nc, ofs_new_callers, ofs_number, ofs_odd, ofs_often, ofs_one, ofs_other, ofs_pairs, ofs_piece, ofs_place, ofs_range, ofs_script, ofs_sorted, ofs_source, ofs_steps, ofs_sum, ofs_table, ofs_target, ofs_there, ofs_tie, ofs_ties, ofs_tuple, ofs_turn, ofs_values, ofs_waiting, ofs_ways, ofs_word, ofs_x, ofs_zip, den_Ss, den_S, den_E, den_I, den_B, E_int, E_str, E_bool, E_none, E_name, E_bin, E_cmp, E_andV, E_ifexp, E_tup, E_lst, E_upto, E_sub_name, E_sub_con, E_sub_bin, E_sub_sub, E_sub_call, E_dict0, E_dict1, E_comp, E_call, E_meth, N_isi, B_and0, B_and, B_or0, B_or, B_cmp, B_call, I_call2, I_name, I_lst, I_tup, I_sub, I_bin, I_items, S_assignC, S_assign_name, S_assign_con, S_assign_bin, S_assign_call, S_assign_sub, S_assign_cmp, S_assign_ifx, S_assign_lst, S_assign_tup, S_assign_dict, S_assign_boo, S_tup, S_unpack_call, S_setSub, S_augSub, S_augName, S_if, S_while, S_for_name, S_for_call, S_for_lst, S_for_tup, S_for_sub, S_ret, S_retNone, S_mut, Ss_nil, Ss_cons, L_nil, L_cons, dTests_nil, dTests_cons, N1_len, N1_sum, N1_sorted, N1_max, N1_min, N2_max, N2_min, N2_isi, I_range, I_items0, I_values, S_appendN, S_insertN, k0_T, k0_M, k0_mu, k0_K, S_k0, callE, bMut, T_tLw1_len, T_tLw1_sum, T_tLw1_sorted, T_tLw1_max, T_tLw1_min, T_tLw1_range, T_tLw1_isinstance, T_tLw1_Llaw_near, T_tLw1_Llaw_sides, T_tLw1_Llaw_walks, T_tLw1_bisect_left, T_tLw1_count_calls, T_mLw1_len, T_mLw1_sum, T_mLw1_sorted, T_mLw1_max, T_mLw1_min, T_mLw1_range, T_mLw1_isinstance, T_mLw1_insort_left, k1_T, k1_M, k1_mu, k1_K]
          exact q_list (q_bin (nmF S6.ties _ (by decide +kernel)) (q_lst (xs := [(.fresh, tieD (x, y))]) (q_cons rfl (q_tup (xs := [(.frozen, .int (x : Int)), (.frozen, .int (y : Int))]) (q_cons rfl (nmF x6 _ (by decide +kernel)) (q_cons rfl (nmF y6 _ (by decide +kernel)) q_nil)) ⟨rfl, Nat.le_of_ble_eq_true rfl⟩) q_nil) ⟨rfl, Nat.le_of_ble_eq_true rfl⟩) happ) rfl (by decide)
        · have hlt : t.1 < 6 ∧ t.2 < 6 := by
            rcases List.mem_append.mp ht with z | z
            · have := K.lt t z; exact om_174 this
            · rw [List.mem_singleton.mp z]; exact ⟨hx, h2⟩
          obtain ⟨u, v⟩ := t
          refine turn1 rfl (same (frF R') (u, v)) ?_ (.frozen, .int 1) fun _ => ⟨?_, frz_nl⟩
          · generalize hρ4 : upd (upd (rhoC _ ρ) nm_one _) nm_other _ = ρ4
            have d1 : ρ4 nm_more = some (.frz (farR R')) := by rw [← hρ4]; exact m6
            have d2 : ρ4 nm_one = some (.frz (.int (u : Int))) := by rw [← hρ4]; rfl
            have d3 : ρ4 nm_other = some (.frz (.int (v : Int))) := by rw [← hρ4]; rfl
            dsimp only [ofs_ValueError, ofs_UUclassdictUU, ofs_UUdebugUU, ofs_UUnameUU, ofs_Llaw_near, ofs_Llaw_sides, ofs_Llaw_walks, ofs_a, ofs_add_callers, ofs_after, ofs_append, ofs_b, ofs_bad, ofs_bisect_left, ofs_caller, ofs_callers, ofs_calls, ofs_count_calls, ofs_far, ofs_first, ofs_func, ofs_get, ofs_here, ofs_hi, ofs_i, ofs_insert, ofs_insort_left, ofs_isinstance, ofs_items, ofs_j, ofs_key, ofs_law, ofs_len, ofs_lo, ofs_max, ofs_mid, ofs_min, ofs_more, ofs_nc, ofs_new_callers, ofs_number, ofs_odd, ofs_often, ofs_one, ofs_other, ofs_pairs, ofs_piece, ofs_place, ofs_range, ofs_script, ofs_sorted, ofs_source, ofs_steps, ofs_sum, ofs_table, ofs_target, ofs_there, ofs_tie, ofs_ties, ofs_tuple, ofs_turn, ofs_values, ofs_waiting, ofs_ways, ofs_word, ofs_x, ofs_zip, den_Ss, den_S, den_E, den_I, den_B, E_int, E_str, E_bool, E_none, E_name, E_bin, E_cmp, E_andV, E_ifexp, E_tup, E_lst, E_upto, E_sub_name, E_sub_con, E_sub_bin, E_sub_sub, E_sub_call, E_dict0, E_dict1, E_comp, E_call, E_meth, N_isi, B_and0, B_and, B_or0, B_or, B_cmp, B_call, I_call2, I_name, I_lst, I_tup, I_sub, I_bin, I_items, S_assignC, S_assign_name, S_assign_con, S_assign_bin, S_assign_call, S_assign_sub, S_assign_cmp, S_assign_ifx, S_assign_lst, S_assign_tup, S_assign_dict, S_assign_boo, S_tup, S_unpack_call, S_setSub, S_augSub, S_augName, S_if, S_while, S_for_name, S_for_call, S_for_lst, S_for_tup, S_for_sub, S_ret, S_retNone, S_mut, Ss_nil, Ss_cons, L_nil, L_cons, dTests_nil, dTests_cons, N1_len, N1_sum, N1_sorted, N1_max, N1_min, N2_max, N2_min, N2_isi, I_range, I_items0, I_values, S_appendN, S_insertN, k0_T, k0_M, k0_mu, k0_K, S_k0, callE, bMut, T_tLw1_len, T_tLw1_sum, T_tLw1_sorted, T_tLw1_max, T_tLw1_min, T_tLw1_range, T_tLw1_isinstance, T_tLw1_Llaw_near, T_tLw1_Llaw_sides, T_tLw1_Llaw_walks, T_tLw1_bisect_left, T_tLw1_count_calls, T_mLw1_len, T_mLw1_sum, T_mLw1_sorted, T_mLw1_max, T_mLw1_min, T_mLw1_range, T_mLw1_isinstance, T_mLw1_insort_left, k1_T, k1_M, k1_mu, k1_K]
            exact q_one (q_cmp rfl (q_bin (q_sub (nmF d1 _ (by decide +kernel)) (nmF d2 _ (by decide +kernel)) rfl (far_at D' hv' hlt.1)) rfl (mod2 _)) (q_bin (q_sub (nmF d1 _ (by decide +kernel)) (nmF d3 _ (by decide +kernel)) rfl (far_at D' hv' hlt.2)) rfl (mod2 _)) (cmp_eqN _ _))
          · dsimp only [ofs_ValueError, ofs_UUclassdictUU, ofs_UUdebugUU, ofs_UUnameUU, ofs_Llaw_near, ofs_Llaw_sides, ofs_Llaw_walks, ofs_a, ofs_add_callers, ofs_after, ofs_append, ofs_b, ofs_bad, ofs_bisect_left, ofs_caller, ofs_callers, ofs_calls, ofs_count_calls, ofs_far, ofs_first, ofs_func, ofs_get, ofs_here, ofs_hi, ofs_i, ofs_insert, ofs_insort_left, ofs_isinstance, ofs_items, ofs_j, ofs_key, ofs_law, ofs_len, ofs_lo, ofs_max, ofs_mid, ofs_min, ofs_more, ofs_nc, ofs_new_callers, ofs_number, ofs_odd, ofs_often, ofs_one, ofs_other, ofs_pairs, ofs_piece, ofs_place, ofs_range, ofs_script, ofs_sorted, ofs_source, ofs_steps, ofs_sum, ofs_table, ofs_target, ofs_there, ofs_tie, ofs_ties, ofs_tuple, ofs_turn, ofs_values, ofs_waiting, ofs_ways, ofs_word, ofs_x, ofs_zip, den_Ss, den_S, den_E, den_I, den_B, E_int, E_str, E_bool, E_none, E_name, E_bin, E_cmp, E_andV, E_ifexp, E_tup, E_lst, E_upto, E_sub_name, E_sub_con, E_sub_bin, E_sub_sub, E_sub_call, E_dict0, E_dict1, E_comp, E_call, E_meth, N_isi, B_and0, B_and, B_or0, B_or, B_cmp, B_call, I_call2, I_name, I_lst, I_tup, I_sub, I_bin, I_items, S_assignC, S_assign_name, S_assign_con, S_assign_bin, S_assign_call, S_assign_sub, S_assign_cmp, S_assign_ifx, S_assign_lst, S_assign_tup, S_assign_dict, S_assign_boo, S_tup, S_unpack_call, S_setSub, S_augSub, S_augName, S_if, S_while, S_for_name, S_for_call, S_for_lst, S_for_tup, S_for_sub, S_ret, S_retNone, S_mut, Ss_nil, Ss_cons, L_nil, L_cons, dTests_nil, dTests_cons, N1_len, N1_sum, N1_sorted, N1_max, N1_min, N2_max, N2_min, N2_isi, I_range, I_items0, I_values, S_appendN, S_insertN, k0_T, k0_M, k0_mu, k0_K, S_k0, callE, bMut, T_tLw1_len, T_tLw1_sum, T_tLw1_sorted, T_tLw1_max, T_tLw1_min, T_tLw1_range, T_tLw1_isinstance, T_tLw1_Llaw_near, T_tLw1_Llaw_sides, T_tLw1_Llaw_walks, T_tLw1_bisect_left, T_tLw1_count_calls, T_mLw1_len, T_mLw1_sum, T_mLw1_sorted, T_mLw1_max, T_mLw1_min, T_mLw1_range, T_mLw1_isinstance, T_mLw1_insort_left, k1_T, k1_M, k1_mu, k1_K]
      · have e : (decide ((x, y) ∉ T) && (decide (pcF R x = pcF R y) && (decide (frF R x % 2 = frF R y % 2) && true))) = false := by
          rw [Bool.and_true, ← Bool.decide_and, ← Bool.decide_and]; exact decide_eq_false q
        rw [e]
        exact run_nil (run_nil back)
    · rintro ρ ⟨ts, _, _, S4⟩
      exact run_nil (run_seq (run_ret (.frozen, .bool true) rfl frz_nl rfl))
  · rw [decide_eq_false hb]
    exact run_nil (run_seq (run_ret (.frozen, .bool true) rfl frz_nl rfl))
end Mine
end
section
open PySem PySem.W PyProof.Rows PySem.Spec PySem.SeqAt
set_option linter.all false
namespace Mine
section
variable {prog : Program} {w : World} {G : Str → Option Value} {hb : Heap} {n : Nat}
theorem call_code {a : Addr} {fd : FuncData} {body : List Stmt} {ps : List Str} {k : Nat} {bd : DenS} (hf : FnAt hb a fd body) (hs : fscopeOk fd.scope ps = true) (hbi : Binds hb fd ps k []) (hlen : ps.length = k)
    (hbd : Exs prog w G hb n (kapF fd.scope) (stoF fd.scope) body bd) (A : Around) (s : Shared) (ds : List D) (vs : List Value) (d : D) (R : Room A (n + 1)) (hB : Base G hb) (hx : Ext hb s.heap) (r : Reps w (Fz [] s.heap) ds vs) (hk : ds.length = k)
    (e : Run bd (rho0 ps (ds.map .frz)) (RetD d)) (P : Result → Shared → Prop)
    (hQ : ∀ v h' tk, Ext s.heap h' → Rep w (Fz [] h') d v → P (.ok (.ret v)) { s with heap := h', toks := tk }) : codeAny (model prog w) A (.call (.ref a) ⟨vs, []⟩) P s := by
  obtain ⟨fl, ρ', e1, e⟩ := e
  have hvl : vs.length = k := by rw [r.length, hk]
  obtain ⟨o, ho, hd⟩ := hf.obj
  have hh : ∀ a ∈ ([] : List Addr), hb.get? a = none := fun _ h => nomatch h
  have hlt : ∀ a ∈ ([] : List Addr), (s.heap.get? a).isSome = true := fun _ h => nomatch h
  refine codeAny_call_function R.depth (hx _ _ ho) hd hf.co hf.gen hf.body (hf.code.keeps hx) (hbi vs s hvl hx _ _ _ _ ?_)
  rw [hf.clo, List.append_nil]
  have hpl : ps.length = vs.length := by rw [hvl, hlen]
  have hs' := hs
  simp only [fscopeOk, Bool.and_eq_true, decide_eq_true_eq, List.all_eq_true, Bool.not_eq_true', beq_eq_false_iff_ne, ne_eq, Bool.or_eq_true, beq_iff_eq] at hs'
  refine wpAny_newFunctionEnv_cells hf.kind (fun p hp => ?_) fun env he s₁ x => ?_
  · have hm := (List.of_mem_zip (show (p.1, p.2) ∈ ps.zip vs from hp)).1
    rcases hs'.2 p.1 hm with q | q
    · exact .inl q
    · refine .inr ⟨q, ?_⟩
      obtain ⟨c, hc⟩ := cellsFrom_has fd.scope.names (s.heap.objs.size + 1) p.1 (mem_of_lookup q)
      obtain ⟨c', hc'⟩ := lookup_isSome_of_mem hc
      rw [hc']; rfl
  · have he' : env = callEnvC fd s.heap.objs.size a := he
    subst he'
    obtain ⟨new, hnew, S, W, O, x1⟩ := frame_sim (a := a) (bs := ds.map .frz) (own := []) (wro := []) (ov := []) hB hx hh hlt hs hf.kind hf.gl hf.bl hpl (fun _ h => (nomatch h)) (fun _ h => (nomatch h)) List.nodup_nil
      (fun i v b y h1 h2 _ => by
        obtain ⟨d', rfl, q⟩ := reps_any r h1 h2
        exact q) x
    rw [List.append_nil] at S W O
    refine ⟨hB.nolimit.keeps (hx.trans x1), codeAny_func ?_⟩
    refine hbd (A.deeper _) _ new new [] _ s₁ _ fl ρ' (R.deeper _) S W O e1 _ fun rr h' tk own' wr' ov' st S' _ _ F => ?_
    have hfin : Ext s.heap h' := fun b o' q => st.keep b o' (fun hm => by have := (hnew b hm).1; rw [this] at q; cases q) (x1 b o' q)
    have hso : ∀ b ∈ ([] : List Addr), b ∈ own' := fun b hb' => nomatch hb'
    obtain ⟨h1, tk1, hs1⟩ := x.toInCall.same
    subst hs1
    cases fl with
    | ret d' =>
      have e : d' = d := e
      subst e
      obtain ⟨v, rfl, q⟩ := F
      exact hQ v h' tk hfin (Rep.mono (Fz.fewer hso) _ q)
    | next => exact e.elim
    | cont => exact e.elim
    | brk => exact e.elim
end
end Mine
end
section
open PySem PySem.W PyProof.Rows PySem.Spec PySem.SeqAt
set_option linter.all false
namespace Mine
theorem fnAt_K {K : Frag} {h : Heap} (X : K.In h) {a : Addr} {o : Obj} {fd : FuncData} {body : List Stmt} (ho : K.lookup a = some o) (hd : o.data = .func fd) (hb : fd.body = .stmts body) (hc : codeIn K fd.code fd.qualname = true)
    (gl : fd.globals = mainGlobals) (bl : fd.builtins = builtinsNs) (clo : fd.closure = []) (co : fd.scope.isCoroutine = false) (gen : fd.scope.isGenerator = false) (kind : fd.scope.kind = .function) : FnAt h a fd body :=
  ⟨⟨o, X _ _ ho, hd⟩, hb, codeRec_of X hc, gl, bl, clo, co, gen, kind⟩
theorem load_bind {α : Type} (a : Addr) (p : Option Value) (k : Obj → Sem α) : Sem.load a p k = loadPart a p >>= k := rfl
theorem binds_kw {K : Frag} {s : Shared} {fd : FuncData} {args : Args} {binds : List (Str × Value)} {T D : Addr} {o o2 : Obj} {p1 p2 : Option Value} {k1 k2 : Obj → Sem (List (Str × Value))}
    (X : K.In s.heap) (h₁ : bindArgs fd args = Sem.load T p1 k1) (ho : K.lookup T = some o) (h₂ : k1 o = Sem.load D p2 k2) (ho2 : K.lookup D = some o2) (h₃ : k2 o2 = Sem.pure binds) : BindsTo s fd args binds :=
  fun M A E Q hq => by
    rw [h₁, load_bind]
    refine wpAny_bind (wpAny_loadPart (X _ _ ho) ?_)
    rw [h₂, load_bind]
    refine wpAny_bind (wpAny_loadPart (X _ _ ho2) ?_)
    rw [h₃]
    exact wpAny_pure hq
end Mine
end
section
open PySem PySem.W PyProof.Rows PySem.Spec PySem.SeqAt
set_option linter.all false
open_top Mine.hd1 for PySem.Challenge.rw_gj0003_01
namespace Mine
theorem CallOk.up {prog : Program} {w : World} {G : Str → Option Value} {hb : Heap} {n m : Nat} {a : Addr} {F : List D → Option D} (x : CallOk prog w G hb n a F) (h : n ≤ m) : CallOk prog w G hb m a F := fun A own s ds vs d R => x A own s ds vs d (R.less h)
theorem CallOk.two {prog : Program} {w : World} {G : Str → Option Value} {hb : Heap} {n : Nat} {a : Addr} {F F' : List D → Option D} (x : CallOk prog w G hb n a F) (y : CallOk prog w G hb n a F') : CallOk prog w G hb n a (fun ds => if ds.length = 2 then F ds else F' ds) := fun A own s ds vs d R hB hx hh hlt r e => by
  by_cases q : ds.length = 2
  · simp only [q, if_true] at e; exact x A own s ds vs d R hB hx hh hlt r e
  · simp only [q, if_false] at e; exact y A own s ds vs d R hB hx hh hlt r e
theorem MutOk.up {prog : Program} {w : World} {G : Str → Option Value} {hb : Heap} {n m : Nat} {a : Addr} {F : D → List D → Option D} (x : MutOk prog w G hb n a F) (h : n ≤ m) : MutOk prog w G hb m a F := fun A own s b o d ds vs d' R => x A own s b o d ds vs d' (R.less h)
theorem mg_of {K : Frag} {h : Heap} {mg : Str → Option Value} {o : Obj} {es : Array DictEntry} {ep : Nat} (X : K.In h) (ho : K.lookup mainGlobals = some o) (hd : o.data = .dict es ep) (N : h.Ns mainGlobals mg) (x : Str) : mg x = nsFind es x := by
  obtain ⟨o2, es2, ep2, h1, h2, _, h3⟩ := N
  have := X _ _ ho
  rw [this] at h1
  cases h1
  rw [hd] at h2
  cases h2
  exact (h3 x).symm
theorem den_exs {prog : Program} {w : World} {G : Str → Option Value} {hb : Heap} {n : Nat} {kn : Know} (ko : KnowOk prog w G hb n kn) {sc : Scope} {κ : Kap} {σ : Str → Bool} {b : List Stmt} (i : Nat) (hbo : b = bodyAt topB i) (hsc : sc = scopeAt topB i) (hκ : kapF (scopeAt topB i) = κ) (hσ : stoF (scopeAt topB i) = σ) :
    Exs prog w G hb n (kapF sc) (stoF sc) b ((den kn 30).Ss κ σ (bodyAt topB i)) := by
  subst hbo hsc hκ hσ
  exact (den_sound ko 30).Ss _ _ _
theorem den_mut {prog : Program} {w : World} {G : Str → Option Value} {hb : Heap} {n : Nat} {kn : Know} (ko : KnowOk prog w G hb n kn) {sc : Scope} {κ : Kap} {σ : Str → Bool} {b : List Stmt} {x : Str} (i : Nat) (hbo : b = bodyAt topB i) (hsc : sc = scopeAt topB i) (hκ : kapF (scopeAt topB i) = κ) (hσ : stoF (scopeAt topB i) = σ) :
    Exs prog w G hb n (kapF sc) (stoBut (stoF sc) x) b ((den kn 30).Ss κ (stoBut σ x) (bodyAt topB i)) := by
  subst hbo hsc hκ hσ
  exact (den_sound ko 30).Ss _ _ _
noncomputable def fdIn (K : Frag) (a : Addr) : FuncData := match K.lookup a with
  | some ⟨_, _, .func fd, _⟩ => fd
  | _ => Calls.docDef (Str.ofString "") ⟨[], [], none, [], [], none, []⟩ [] ⟨.function, [], false, false, []⟩ .none .none .none
theorem fn_of {K : Frag} {h : Heap} (X : K.In h) (a : Addr) (i : Nat) (hs : (K.lookup a).isSome = true) (hd : ((K.lookup a).get hs).data = .func (fdIn K a)) (hb : (fdIn K a).body = .stmts (bodyAt topB i)) (hc : codeIn K (fdIn K a).code (fdIn K a).qualname = true)
    (gl : (fdIn K a).globals = mainGlobals) (bl : (fdIn K a).builtins = builtinsNs) (clo : (fdIn K a).closure = []) (co : (fdIn K a).scope.isCoroutine = false) (gen : (fdIn K a).scope.isGenerator = false) (kind : (fdIn K a).scope.kind = .function) : FnAt h a (fdIn K a) (bodyAt topB i) :=
  ⟨⟨_, X _ _ (Option.some_get hs).symm, hd⟩, hb, codeRec_of X hc, gl, bl, clo, co, gen, kind⟩
theorem len1 {α : Type} {l : List α} (h : l.length = 1) : ∃ a, l = [a] := by
  cases l with
  | nil => cases h
  | cons a l => exact ⟨a, by rw [List.length_eq_zero_iff.mp (Nat.succ.inj h)]⟩
theorem len2 {α : Type} {l : List α} (h : l.length = 2) : ∃ a b, l = [a, b] := by
  cases l with
  | nil => cases h
  | cons a l => obtain ⟨b, rfl⟩ := len1 (Nat.succ.inj h); exact ⟨a, b, rfl⟩
theorem len3 {α : Type} {l : List α} (h : l.length = 3) : ∃ a b c, l = [a, b, c] := by
  cases l with
  | nil => cases h
  | cons a l => obtain ⟨b, c, rfl⟩ := len2 (Nat.succ.inj h); exact ⟨a, b, c, rfl⟩
theorem len4 {α : Type} {l : List α} (h : l.length = 4) : ∃ a b c d, l = [a, b, c, d] := by
  cases l with
  | nil => cases h
  | cons a l => obtain ⟨b, c, d, rfl⟩ := len3 (Nat.succ.inj h); exact ⟨a, b, c, d, rfl⟩
/-- what a name of the text's top is -/
structure Defs (G : Str → Option Value) : Prop where
  add : G nm_add_callers = some (.ref 39)
  cnt : G nm_count_calls = some (.ref 46)
  ins : G nm_insort_left = some (.ref 23)
  bis : G nm_bisect_left = some (.ref 32)
  near : G nm_Llaw_near = some (.ref 51)
  sid : G nm_Llaw_sides = some (.ref 58)
  wlk : G nm_Llaw_walks = some (.ref 65)
  law : G nm_law = some (.ref 70)
set_option maxRecDepth 100000 in
set_option maxHeartbeats 2000000 in
theorem defs_mg (w : World) (G : Str → Option Value) (h : Heap) (KX : (hd1.heap_39 w.params).In h) (N : h.Ns mainGlobals G) : Defs G ∧ ∀ x : Str, biN x = true → G x = none := by
  obtain ⟨o, ho⟩ : ∃ o, (hd1.heap_39 w.params).lookup mainGlobals = some o := ⟨_, rfl⟩
  have ho2 := ho
  conv at ho2 => lhs; whnf
  cases ho2
  have E := mg_of KX ho rfl N
  exact ⟨⟨(E _).trans rfl, (E _).trans rfl, (E _).trans rfl, (E _).trans rfl, (E _).trans rfl, (E _).trans rfl, (E _).trans rfl, (E _).trans rfl⟩,
    fun x hx => by
      unfold biN at hx
      have hx := of_decide_eq_true hx
      have key : ∀ y ∈ (["len", "sum", "sorted", "max", "min", "list", "range", "enumerate", "isinstance", "tuple"] : List Str), G y = none := by
        intro y hy
        simp only [List.mem_cons, List.not_mem_nil, or_false] at hy
        rcases hy with rfl | rfl | rfl | rfl | rfl | rfl | rfl | rfl | rfl | rfl <;> exact (E _).trans rfl
      exact key x hx⟩
set_option maxRecDepth 100000 in
set_option maxHeartbeats 2000000 in
theorem add_at (w : World) (G : Str → Option Value) (h : Heap) (KX : (hd1.heap_39 w.params).In h) : ∃ fd, (∃ o, h.get? 39 = some o ∧ o.data = .func fd) ∧ CallOk PySem.Challenge.rw_gj0003_01.row.prog w G h 1 39 fAdd := by
  have f := fn_of KX 39 4 (by kernel_rfl) (by kernel_rfl) (by kernel_rfl) (by kernel_rfl) (by kernel_rfl) (by kernel_rfl) (by kernel_rfl) (by kernel_rfl) (by kernel_rfl) (by kernel_rfl)
  refine ⟨_, f.obj, ?_⟩
  unfold fAdd bdAdd
  refine Mine.call_ok f (ps := [nm_target, nm_source]) (k := 2) (extra := []) (xs := []) (n := 0) (by kernel_rfl) ?_ (fun _ => by simp only [Reps]) rfl ?_
  · intro vs s hl hx
    obtain ⟨a, b, rfl⟩ := len2 hl
    exact BindsTo.of_eq (by kernel_rfl)
  · exact den_exs (kn := kAdd) ⟨fun f F e => (nomatch e), fun f F e => (nomatch e)⟩ 4 (by kernel_rfl) (by kernel_rfl) kf_4_eq sf_4_eq
set_option maxRecDepth 100000 in
set_option maxHeartbeats 2000000 in
theorem count_at (w : World) (G : Str → Option Value) (h : Heap) (KX : (hd1.heap_39 w.params).In h) : ∃ fd, (∃ o, h.get? 46 = some o ∧ o.data = .func fd) ∧ CallOk PySem.Challenge.rw_gj0003_01.row.prog w G h 1 46 fCount := by
  have f := fn_of KX 46 5 (by kernel_rfl) (by kernel_rfl) (by kernel_rfl) (by kernel_rfl) (by kernel_rfl) (by kernel_rfl) (by kernel_rfl) (by kernel_rfl) (by kernel_rfl) (by kernel_rfl)
  refine ⟨_, f.obj, ?_⟩
  unfold fCount
  refine Mine.call_ok f (ps := [nm_callers]) (k := 1) (extra := []) (xs := []) (n := 0) (by kernel_rfl) ?_ (fun _ => by simp only [Reps]) rfl ?_
  · intro vs s hl hx
    obtain ⟨a, rfl⟩ := len1 hl
    exact BindsTo.of_eq (by kernel_rfl)
  · exact den_exs (kn := kB) ⟨fun f F e => (nomatch e), fun f F e => (nomatch e)⟩ 5 (by kernel_rfl) (by kernel_rfl) kf_5_eq sf_5_eq
set_option maxRecDepth 100000 in
set_option maxHeartbeats 2000000 in
theorem bis2_at (w : World) (G : Str → Option Value) (h : Heap) (KX : (hd1.heap_39 w.params).In h) : ∃ fd, (∃ o, h.get? 32 = some o ∧ o.data = .func fd) ∧ CallOk PySem.Challenge.rw_gj0003_01.row.prog w G h 1 32 (fnD bdBis psBis [.int 0, .none, .none] 2) := by
  obtain ⟨o, ho⟩ : ∃ o, (hd1.heap_39 w.params).lookup 32 = some o := ⟨_, rfl⟩
  have ho2 := ho
  conv at ho2 => lhs; whnf
  cases ho2
  have f := Mine.fnAt_K KX ho rfl rfl rfl rfl rfl rfl rfl rfl rfl
  refine ⟨_, f.obj, ?_⟩
  unfold bdBis
  refine Mine.call_ok f (ps := psBis) (k := 2) (extra := [.int 0, .none, .none]) (xs := [.int 0 202, .none, .none]) (n := 0) (by kernel_rfl) ?_ (fun g => ?_) rfl ?_
  · intro vs s hl hx
    obtain ⟨a, b, rfl⟩ := len2 hl
    refine' Mine.binds_kw (KX.keeps hx) ?a ?b ?c ?d ?e
    case a => exact rfl
    case b => exact rfl
    case c => exact rfl
    case d => exact rfl
    case e => exact rfl
  · simp [Reps, Rep]
  · exact den_exs (kn := kB) ⟨fun f F e => (nomatch e), fun f F e => (nomatch e)⟩ 2 (by kernel_rfl) (by kernel_rfl) kf_2_eq sf_2_eq
set_option maxRecDepth 100000 in
set_option maxHeartbeats 2000000 in
theorem bis4_at (w : World) (G : Str → Option Value) (h : Heap) (KX : (hd1.heap_39 w.params).In h) : ∃ fd, (∃ o, h.get? 32 = some o ∧ o.data = .func fd) ∧ CallOk PySem.Challenge.rw_gj0003_01.row.prog w G h 1 32 (fnD bdBis psBis [.none] 4) := by
  obtain ⟨o, ho⟩ : ∃ o, (hd1.heap_39 w.params).lookup 32 = some o := ⟨_, rfl⟩
  have ho2 := ho
  conv at ho2 => lhs; whnf
  cases ho2
  have f := Mine.fnAt_K KX ho rfl rfl rfl rfl rfl rfl rfl rfl rfl
  refine ⟨_, f.obj, ?_⟩
  unfold bdBis
  refine Mine.call_ok f (ps := psBis) (k := 4) (extra := [.none]) (xs := [.none]) (n := 0) (by kernel_rfl) ?_ (fun g => ?_) rfl ?_
  · intro vs s hl hx
    obtain ⟨a, b, c, d, rfl⟩ := len4 hl
    refine' Mine.binds_kw (KX.keeps hx) ?a ?b ?c ?d ?e
    case a => exact rfl
    case b => exact rfl
    case c => exact rfl
    case d => exact rfl
    case e => exact rfl
  · simp [Reps, Rep]
  · exact den_exs (kn := kB) ⟨fun f F e => (nomatch e), fun f F e => (nomatch e)⟩ 2 (by kernel_rfl) (by kernel_rfl) kf_2_eq sf_2_eq
theorem bis_at (w : World) (G : Str → Option Value) (h : Heap) (KX : (hd1.heap_39 w.params).In h) : ∃ fd, (∃ o, h.get? 32 = some o ∧ o.data = .func fd) ∧ CallOk PySem.Challenge.rw_gj0003_01.row.prog w G h 1 32 fBis := by
  obtain ⟨fd, h1, h2⟩ := bis2_at w G h KX
  obtain ⟨_, _, h3⟩ := bis4_at w G h KX
  exact ⟨fd, h1, h2.two h3⟩
set_option maxRecDepth 100000 in
set_option maxHeartbeats 2000000 in
theorem ins_at (w : World) (G : Str → Option Value) (h : Heap) (KX : (hd1.heap_39 w.params).In h) (DG : Defs G) : ∃ fd, (∃ o, h.get? 23 = some o ∧ o.data = .func fd) ∧ MutOk PySem.Challenge.rw_gj0003_01.row.prog w G h 2 23 fIns := by
  have ko : KnowOk PySem.Challenge.rw_gj0003_01.row.prog w G h 1 kIns := by
    refine ⟨fun f F e => ?_, fun f F e => (nomatch e)⟩
    have e : tIns f = some F := e
    unfold tIns at e
    split at e
    · rename_i q
      cases e
      subst q
      obtain ⟨fd, h1, h2⟩ := bis_at w G h KX
      exact ⟨32, fd, DG.bis, h1, h2⟩
    · cases e
  obtain ⟨o, ho⟩ : ∃ o, (hd1.heap_39 w.params).lookup 23 = some o := ⟨_, rfl⟩
  have ho2 := ho
  conv at ho2 => lhs; whnf
  cases ho2
  have f := Mine.fnAt_K KX ho rfl rfl rfl rfl rfl rfl rfl rfl rfl
  refine ⟨_, f.obj, ?_⟩
  unfold fIns bdIns
  refine Mine.mut_ok f (p0 := nm_a) (ps := [nm_x, nm_lo, nm_hi, nm_key]) (k := 1) (extra := [.int 0, .none, .none]) (xs := [.int 0 189, .none, .none]) (n := 1) (by kernel_rfl) ?_ (fun g => ?_) rfl ?_
  · intro vs s hl hx
    obtain ⟨a, b, rfl⟩ := len2 hl
    refine' Mine.binds_kw (KX.keeps hx) ?a ?b ?c ?d ?e
    case a => exact rfl
    case b => exact rfl
    case c => exact rfl
    case d => exact rfl
    case e => exact rfl
  · simp [Reps, Rep]
  · exact den_mut (kn := kIns) ko 1 (by kernel_rfl) (by kernel_rfl) kf_1_eq sf_1_eq
set_option maxRecDepth 100000 in
set_option maxHeartbeats 2000000 in
theorem near_at (w : World) (G : Str → Option Value) (h : Heap) (KX : (hd1.heap_39 w.params).In h) : ∃ fd, (∃ o, h.get? 51 = some o ∧ o.data = .func fd) ∧ CallOk PySem.Challenge.rw_gj0003_01.row.prog w G h 1 51 fNear := by
  have f := fn_of KX 51 7 (by kernel_rfl) (by kernel_rfl) (by kernel_rfl) (by kernel_rfl) (by kernel_rfl) (by kernel_rfl) (by kernel_rfl) (by kernel_rfl) (by kernel_rfl) (by kernel_rfl)
  refine ⟨_, f.obj, ?_⟩
  unfold fNear bdNear
  refine Mine.call_ok f (ps := [nm_ties, nm_place]) (k := 2) (extra := []) (xs := []) (n := 0) (by kernel_rfl) ?_ (fun _ => by simp only [Reps]) rfl ?_
  · intro vs s hl hx
    obtain ⟨a, b, rfl⟩ := len2 hl
    exact BindsTo.of_eq (by kernel_rfl)
  · exact den_exs (kn := kNear) ⟨fun f F e => (nomatch e), fun f F e => (nomatch e)⟩ 7 (by kernel_rfl) (by kernel_rfl) kf_7_eq sf_7_eq
theorem ko_sid (w : World) (G : Str → Option Value) (h : Heap) (KX : (hd1.heap_39 w.params).In h) (DG : Defs G) : KnowOk PySem.Challenge.rw_gj0003_01.row.prog w G h 1 kSid := by
  refine ⟨fun f F e => ?_, fun f F e => (nomatch e)⟩
  · have e : tSid f = some F := e
    unfold tSid at e
    split at e
    · rename_i q; cases e; subst q
      obtain ⟨fd, h1, h2⟩ := near_at w G h KX
      exact ⟨_, fd, DG.near, h1, h2.up (by exact om_175)⟩
    · cases e
set_option maxRecDepth 100000 in
set_option maxHeartbeats 2000000 in
theorem sid_at (w : World) (G : Str → Option Value) (h : Heap) (KX : (hd1.heap_39 w.params).In h) (DG : Defs G) : ∃ fd, (∃ o, h.get? 58 = some o ∧ o.data = .func fd) ∧ CallOk PySem.Challenge.rw_gj0003_01.row.prog w G h 2 58 fSid := by
  have f := fn_of KX 58 8 (by kernel_rfl) (by kernel_rfl) (by kernel_rfl) (by kernel_rfl) (by kernel_rfl) (by kernel_rfl) (by kernel_rfl) (by kernel_rfl) (by kernel_rfl) (by kernel_rfl)
  refine ⟨_, f.obj, ?_⟩
  unfold fSid bdSid
  refine Mine.call_ok f (ps := [nm_ties]) (k := 1) (extra := []) (xs := []) (n := 1) (by kernel_rfl) ?_ (fun _ => by simp only [Reps]) rfl ?_
  · intro vs s hl hx
    obtain ⟨a, rfl⟩ := len1 hl
    exact BindsTo.of_eq (by kernel_rfl)
  · exact den_exs (kn := kSid) (ko_sid w G h KX DG) 8 (by kernel_rfl) (by kernel_rfl) kf_8_eq sf_8_eq
theorem ko_wlk (w : World) (G : Str → Option Value) (h : Heap) (KX : (hd1.heap_39 w.params).In h) (DG : Defs G) : KnowOk PySem.Challenge.rw_gj0003_01.row.prog w G h 1 kWlk := by
  refine ⟨fun f F e => ?_, fun f F e => (nomatch e)⟩
  · have e : tWlk f = some F := e
    unfold tWlk at e
    split at e
    · rename_i q; cases e; subst q
      obtain ⟨fd, h1, h2⟩ := add_at w G h KX
      exact ⟨_, fd, DG.add, h1, h2.up (by exact om_175)⟩
    split at e
    · rename_i q; cases e; subst q
      obtain ⟨fd, h1, h2⟩ := near_at w G h KX
      exact ⟨_, fd, DG.near, h1, h2.up (by exact om_175)⟩
    · cases e
set_option maxRecDepth 100000 in
set_option maxHeartbeats 2000000 in
theorem wlk_at (w : World) (G : Str → Option Value) (h : Heap) (KX : (hd1.heap_39 w.params).In h) (DG : Defs G) : ∃ fd, (∃ o, h.get? 65 = some o ∧ o.data = .func fd) ∧ CallOk PySem.Challenge.rw_gj0003_01.row.prog w G h 2 65 fWlk := by
  have f := fn_of KX 65 9 (by kernel_rfl) (by kernel_rfl) (by kernel_rfl) (by kernel_rfl) (by kernel_rfl) (by kernel_rfl) (by kernel_rfl) (by kernel_rfl) (by kernel_rfl) (by kernel_rfl)
  refine ⟨_, f.obj, ?_⟩
  unfold fWlk bdWlk
  refine Mine.call_ok f (ps := [nm_ties, nm_place, nm_steps]) (k := 3) (extra := []) (xs := []) (n := 1) (by kernel_rfl) ?_ (fun _ => by simp only [Reps]) rfl ?_
  · intro vs s hl hx
    obtain ⟨a, b, c, rfl⟩ := len3 hl
    exact BindsTo.of_eq (by kernel_rfl)
  · exact den_exs (kn := kWlk) (ko_wlk w G h KX DG) 9 (by kernel_rfl) (by kernel_rfl) kf_9_eq sf_9_eq
theorem ko_law (w : World) (G : Str → Option Value) (h : Heap) (KX : (hd1.heap_39 w.params).In h) (DG : Defs G) : KnowOk PySem.Challenge.rw_gj0003_01.row.prog w G h 3 kLw1 := by
  refine ⟨fun f F e => ?_, fun f F e => ?_⟩
  · have e : tLw1 f = some F := e
    unfold tLw1 at e
    split at e
    · rename_i q; cases e; subst q
      obtain ⟨fd, h1, h2⟩ := near_at w G h KX
      exact ⟨_, fd, DG.near, h1, h2.up (by exact om_176)⟩
    split at e
    · rename_i q; cases e; subst q
      obtain ⟨fd, h1, h2⟩ := sid_at w G h KX DG
      exact ⟨_, fd, DG.sid, h1, h2.up (by exact om_177)⟩
    split at e
    · rename_i q; cases e; subst q
      obtain ⟨fd, h1, h2⟩ := wlk_at w G h KX DG
      exact ⟨_, fd, DG.wlk, h1, h2.up (by exact om_177)⟩
    split at e
    · rename_i q; cases e; subst q
      obtain ⟨fd, h1, h2⟩ := bis_at w G h KX
      exact ⟨_, fd, DG.bis, h1, h2.up (by exact om_176)⟩
    split at e
    · rename_i q; cases e; subst q
      obtain ⟨fd, h1, h2⟩ := count_at w G h KX
      exact ⟨_, fd, DG.cnt, h1, h2.up (by exact om_176)⟩
    · cases e
  · have e : mLw1 f = some F := e
    unfold mLw1 at e
    split at e
    · rename_i q; cases e; subst q
      obtain ⟨fd, h1, h2⟩ := ins_at w G h KX DG
      exact ⟨_, fd, DG.ins, h1, h2.up (by exact om_177)⟩
    · cases e
set_option maxRecDepth 100000 in
set_option maxHeartbeats 2000000 in
theorem law_at (w : World) (G : Str → Option Value) (h : Heap) (KX : (hd1.heap_39 w.params).In h) (DG : Defs G) : ∃ fd, FnAt h 70 fd (bodyAt topB 10) ∧ fscopeOk fd.scope [nm_script] = true ∧ Binds h fd [nm_script] 1 [] ∧ Exs PySem.Challenge.rw_gj0003_01.row.prog w G h 3 (kapF fd.scope) (stoF fd.scope) (bodyAt topB 10) bdLw1 := by
  refine ⟨_, fn_of KX 70 10 (by kernel_rfl) (by kernel_rfl) (by kernel_rfl) (by kernel_rfl) (by kernel_rfl) (by kernel_rfl) (by kernel_rfl) (by kernel_rfl) (by kernel_rfl) (by kernel_rfl), by kernel_rfl, fun vs s hl hx => ?_, ?_⟩
  · obtain ⟨a, rfl⟩ := len1 hl
    exact BindsTo.of_eq (by kernel_rfl)
  · unfold bdLw1
    exact den_exs (kn := kLw1) (ko_law w G h KX DG) 10 (by kernel_rfl) (by kernel_rfl) kf_10_eq sf_10_eq
end Mine
end
section
open PySem PySem.W PyProof.Rows PySem.Spec PySem.SeqAt
set_option linter.all false
namespace Mine
theorem room_caller : Room callerA 4 := ⟨rfl, by rw [depth_caller]; decide, by rw [units_caller]; decide⟩
theorem base_of {p : Program} {loose : List Str} {mean : ExcName → Option Value} {mg mb : Str → Option Value} {h : Heap} (T : Top p loose mean mg mb h) (hf : ∀ x : Str, biN x = true → mg x = none) : Base mg h := ⟨T.g, ⟨mb, T.b, T.builtins⟩, T.nolimit, hf⟩
theorem reps_well {P : Params} {w : World} {h : Heap} {g : Part} : ∀ (ns : List Int) (vs : List Value), WellAll P h vs (ofPys (ns.map .int)) → Reps w g (ns.map .int) vs
  | [], vs, x => by
    simp only [List.map_nil, ofPys] at x
    cases x
    simp only [List.map_nil, Reps]
  | n :: ns, vs, x => by
    simp only [List.map_cons, ofPys, ofPy] at x
    cases x with
    | cons h1 h2 =>
      cases h1
      simp only [List.map_cons, Reps, Rep]
      exact ⟨_, _, rfl, ⟨_, rfl⟩, reps_well ns _ h2⟩
theorem rep_well {P : Params} {w : World} {h : Heap} {v : Value} {ns : List Int} (x : Well P h v (ofPy (.list (ns.map .int)))) (hn : ns.length ≤ 63) : Reps w (Fz [] h) [.lst (ns.map .int)] [v] := by
  simp only [ofPy] at x
  cases x with
  | list h1 h2 =>
    have hf : Fz [] h = h.get? := by funext b; unfold Fz; simp
    refine Reps.single ?_
    simp only [Rep]
    rw [← hf] at h1
    refine ⟨_, _, _, _, rfl, h1, ⟨rfl, rfl, rfl⟩, rfl, ?_, ?_⟩
    · rw [List.length_map]; have : cap = 200 := rfl; exact om_178 hn this
    · rw [List.toList_toArray]; exact reps_well ns _ h2
end Mine
set_option maxRecDepth 100000 in
set_option maxHeartbeats 8000000 in
theorem PySem.Challenge.cw_gj0003_01_holds : PySem.Challenge.rw_gj0003_01.Holds :=
  Mine.hd1 (by
  k_fill
  intro w s₀ s₁ mg mb G Y fa o pm cd doc dV kV ho hd hcd hD hmg hg args vals as hpre hlay hrd hwl hlo
  have KX := kIn_of Y
  have X := (Ground.X G).1
  have V := (Ground.X G).2
  refine Ground.open G ?_
  intro T B D TE TW
  try (refine guard_noD D (by decide +kernel) ?_; clear D)
  try (obtain ⟨_, _, he, B0⟩ := based_of_top T rfl hmg ho hd; have he' : cd = _ := he; subst he'; clear he)
  wrow_args hpre hlay hrd hwl hlo
  rename_i ns hs' hlay0 hL1 hr1 hl2 as1 as2 l vs as3 hL ra w1 r0 hI hr hcond hcond2
  refine enter_call ?_
  w_top on
  have hlen : ns.length ≤ 63 := by omega
  obtain ⟨DG, hGB⟩ := Mine.defs_mg w mg s₁.heap KX T.g
  have run := Mine.law1_run ns
  have hfa : fa = 70 := by
    have e := hmg.symm.trans DG.law
    cases e; rfl
  subst hfa
  obtain ⟨fd, f1, f2, f3, f4⟩ := Mine.law_at w mg s₁.heap KX DG
  refine Mine.call_code (ps := [Mine.nm_script]) (k := 1) (n := 3) (ds := [.lst (ns.map .int)]) (d := .bool true) f1 f2 f3 rfl f4 callerA s₁ _ Mine.room_caller (Mine.base_of T hGB) (fun _ _ e => e) (Mine.rep_well w1 hlen) rfl run _ ?_
  intro v h' tk x r
  simp only [Mine.Rep] at r
  subst r
  refine GoodW.toG ⟨.inl ⟨.bool true, .bool true, [], rfl, ?_, .bool true, ?_, ?_⟩, x, rfl, hg⟩
  · exact fun cls => rfl
  · exact postW_of (by wrow_shape) (by wtm_val) rfl
  · exact unshared_nil)
end
