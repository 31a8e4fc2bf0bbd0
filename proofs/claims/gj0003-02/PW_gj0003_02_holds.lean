import PyProof.Rows.All
import Wide.All
import OpenK.AllK
import Wide.FinOn
import PySem.Challenge.RW_gj0003_02
set_option Elab.async false
section
namespace Mine
theorem absurd_om {p : Prop} (h : False) : p := h.elim
theorem om_1 {x0 : Nat} {x1 : Nat} {x2 : Nat} (h0 : x0 + (x1 + (1 : Nat)) < x2) : x0 + (1 : Nat) + x1 < x2 := by lia
theorem om_2 {x0 : Nat} {x1 : Nat} {x2 : Nat} (h0 : x0 + (40 : Nat) * (x1 + (1 : Nat)) + (100 : Nat) < x2) : x0 + (3 : Nat) + (40 : Nat) * x1 + (100 : Nat) < x2 := by lia
theorem om_3 {x0 : Nat} {x1 : Nat} {x2 : Nat} {x3 : Nat} (h0 : x0 ≤ x1) (h1 : x2 + x1 < x3) : x2 + x0 < x3 := by lia
theorem om_4 {x0 : Nat} {x1 : Nat} {x2 : Nat} {x3 : Nat} (h0 : x0 ≤ x1) (h1 : x2 + (40 : Nat) * x1 + (100 : Nat) < x3) : x2 + (40 : Nat) * x0 + (100 : Nat) < x3 := by lia
theorem om_5 {x0 : Nat} {x1 : Nat} {x2 : Nat} (h0 : x0 + (40 : Nat) * x1 + (100 : Nat) < x2) : x0 < x2 := by lia
theorem om_6 {x0 : Nat} {x1 : Nat} {x2 : Nat} (h0 : x0 + (40 : Nat) * x1 + (100 : Nat) < x2) : x0 + (1 : Nat) < x2 := by lia
theorem om_7 {x0 : Nat} {x1 : Nat} {x2 : Nat} (h0 : x0 + (40 : Nat) * x1 + (100 : Nat) < x2) : x0 + (2 : Nat) < x2 := by lia
theorem om_8 {x0 : Nat} {x1 : Nat} {x2 : Nat} (h0 : x0 + x1 < x2) : x0 < x2 := by lia
theorem om_9 {x0 : Nat} {x1 : Nat} {x2 : Nat} (h0 : x0 ≤ x1) (h1 : x2 ≤ x1) : max x0 x2 ≤ x1 := by lia
theorem om_10 {x0 : Nat} {x1 : Nat} {x2 : Nat} (h0 : x0 + (40 : Nat) * x1 + (100 : Nat) < x2) : x0 + (64 : Nat) < x2 := by lia
theorem om_11 {x0 : Nat} {x1 : Nat} (h0 : x0 = x1) : x0 ≤ x1 := by exact Nat.le_of_eq h0
theorem om_12 {x0 : Nat} {x1 : Nat} (h0 : x0 = x1) : x1 ≤ x0 := by exact Nat.le_of_eq h0.symm
theorem om_13 {x0 : Int} {x1 : Nat} (h0 : Int.toNat x0 < x1) : x0 < (↑x1 : Int) := by lia
theorem om_14 {x0 : Nat} {x1 : Nat} {x2 : Nat} {x3 : Nat} {x4 : Nat} {x5 : Nat} (h0 : x0 + x1 ≤ x2) (h1 : x3 = x0) (h2 : x4 = x1) (h3 : x2 ≤ x5) : x3 + x4 ≤ x5 := by lia
theorem om_15 {x0 : Int} {x1 : Nat} (h0 : x0 ≠ (0 : Int) ∧ x1 < (300 : Nat)) : x1 < (1073741824 : Nat) := by lia
theorem om_16 {x0 : Nat} {x1 : Nat} {x2 : Nat} {x3 : Nat} (h0 : x0 ≤ x1) (h1 : x2 = x0) (h2 : x1 ≤ x3) : x2 ≤ x3 := by lia
theorem om_17 {x0 : Int} (h0 : (0 : Int) ≤ x0) : (↑(Int.toNat x0) : Int) = x0 := by lia
theorem om_18 {x0 : Nat} {x1 : Nat} {x2 : Int} (h0 : x0 ≤ x1) : min (Int.toNat x2) x0 ≤ x1 := by lia
theorem om_19 {x0 : Nat} {x1 : Nat} (h0 : x0 + (1 : Nat) ≤ x1) : x0 < x1 := by exact h0
theorem om_20 {x0 : Int} {x1 : Int} {x2 : Int} {x3 : Int} (h0 : -x0 ≤ x1 ∧ x1 ≤ x0) (h1 : -x2 ≤ x3 ∧ x3 ≤ x2) : -(x2 + x0) ≤ x1 + x3 ∧ x1 + x3 ≤ x2 + x0 := by lia
theorem om_21 {x0 : Int} {x1 : Int} (h0 : ¬x0 ≤ x1) : x1 ≤ x0 := by lia
theorem om_22 {x0 : Nat} {x1 : Nat} (h0 : x0 = x1 + (1 : Nat)) : (0 : Nat) < x0 := by lia
theorem om_23 {x0 : Nat} {x1 : Nat} (h0 : x0 < x1 - (1 : Nat)) : x0 + (1 : Nat) < x1 := by lia
theorem om_24 {x0 : Nat} {x1 : Nat} (h0 : x0 = x1 + (1 : Nat)) : x1 ≤ x0 - (1 : Nat) := by lia
theorem om_25 {x0 : Nat} {x1 : Nat} {x2 : Nat} (h0 : x0 = x1) (h1 : x1 ≤ (200 : Nat)) (h2 : x2 < x0) : x2 + (1 : Nat) ≤ (200 : Nat) := by lia
theorem om_26 {x0 : Nat} {x1 : Nat} (h0 : x0 < (64 : Nat)) (h1 : x1 = x0) : x1 < (64 : Nat) := by exact h1 ▸ h0
theorem om_27 {x0 : Nat} {x1 : Nat} (h0 : x0 < (64 : Nat)) (h1 : x1 = (200 : Nat)) : x0 ≤ x1 := by exact (h1 ▸ Nat.le_of_lt (Nat.lt_of_lt_of_le h0 (by decide)))
theorem om_28 : (0 : Nat) + (1 : Nat) + (1 : Nat) + ((0 : Nat) + (1 : Nat) + (1 : Nat) + (1 : Nat) + (1 : Nat)) +     ((0 : Nat) + (1 : Nat) + (1 : Nat)) ≤   (16777216 : Nat) + (2 : Nat) := by decide
theorem om_29 : (0 : Nat) ≤ (16777216 : Nat) := by exact Nat.zero_le _
theorem om_30 {x0 : Nat} : (↑(x0 + (1 : Nat)) : Int) = (↑x0 : Int) + (1 : Int) := by rfl
theorem om_31 : (0 : Nat) + (1 : Nat) + (1 : Nat) ≤ (16777216 : Nat) := by decide
theorem om_32 : (0 : Nat) + (1 : Nat) + (1 : Nat) + (1 : Nat) + (1 : Nat) ≤ (16777216 : Nat) + (2 : Nat) := by decide
theorem om_33 : (0 : Nat) + (1 : Nat) ≤ (16777216 : Nat) + (2 : Nat) := by decide
theorem om_34 {x0 : Nat} {x1 : Nat} (h0 : x0 < x1) : (0 : Int) < (↑x1 : Int) - (↑x0 : Int) := by lia
theorem om_35 {x0 : Nat} {x1 : Nat} : (↑x0 : Int) - (↑(x1 + (1 : Nat)) : Int) = (↑x0 : Int) - (↑x1 : Int) - (1 : Int) := by lia
theorem om_36 {x0 : Nat} {x1 : Nat} {x2 : Nat} (h0 : x0 = x1) (h1 : x0 = x2) : x2 = x1 := by exact h1 ▸ h0
theorem om_37 {x0 : Int} (h0 : (0 : Int) ≤ x0) : (↑(Int.toNat x0) : Int) - (↑(0 : Nat) : Int) = x0 := by lia
theorem om_38 {x0 : Nat} {x1 : Nat} (h0 : x0 < x1) : x1 - (x0 + (1 : Nat)) < x1 - x0 := by lia
theorem om_39 {x0 : Nat} {x1 : Nat} {x2 : Nat} {x3 : Nat} {x4 : Nat} {x5 : Nat} (h0 : x0 + x1 ≤ x2) (h1 : x3 + (x4 + x5) = x0 + x1) : x3 + x4 ≤ x2 := by lia
theorem om_40 {x0 : Nat} {x1 : Nat} (h0 : (↑x0 : Int) < (↑x1 : Int)) : x0 < x1 := by exact Int.ofNat_lt.mp h0
theorem om_41 {x0 : Int} {x1 : Nat} {x2 : Nat} (h0 : (0 : Int) ≤ x0 ∧ Int.toNat x0 < x1) (h1 : x2 = x1) : x0 < (↑x2 : Int) := by lia
theorem om_42 {x0 : Nat} {x1 : Nat} {x2 : Nat} {x3 : Nat} (h0 : x0 ≤ x1) (h1 : x1 ≤ x2) : min x0 x3 ≤ x2 := by lia
theorem om_43 {x0 : Nat} {x1 : Nat} {x2 : Nat} (h0 : x0 ≤ x1) (h1 : x2 ≤ x0) : x2 ≤ x1 := by exact Nat.le_trans h1 h0
theorem om_44 {x0 : Nat} (h0 : x0 < (29 : Nat)) : x0 + (0 : Nat) + (0 : Nat) < (30 : Nat) := by exact Nat.le_succ_of_le h0
theorem om_45 {x0 : Nat} {x1 : Nat} {x2 : Nat} (h0 : x0 = x1) (h1 : x2 < x1) : x2 < x0 := by exact h0 ▸ h1
theorem om_46 {x0 : Nat} {x1 : Nat} {x2 : Nat} (h0 : x0 < x1) (h1 : x2 < x0) : x2 < x1 := by exact Nat.lt_trans h1 h0
theorem om_47 {x0 : Int} {x1 : Nat} {x2 : Nat} (h0 : (0 : Int) ≤ x0 ∧ x0 < (300 : Int) ∧ x1 + (1 : Nat) ≤ x2) : ¬x0 < (0 : Int) := by lia
theorem om_48 {x0 : Int} {x1 : Nat} {x2 : Nat} (h0 : (0 : Int) ≤ x0 ∧ x0 < (300 : Int) ∧ x1 + (1 : Nat) ≤ x2) : min (Int.toNat x0) x1 + (x1 - Int.toNat x0 + (1 : Nat)) ≤ x2 := by lia
theorem om_49 {x0 : Nat} {x1 : Nat} {x2 : Nat} (h0 : x0 = x1) (h1 : x1 ≤ x2) : x0 ≤ x2 := by exact h0 ▸ h1
theorem om_50 {x0 : Nat} {x1 : Nat} : (↑(x0 + (x1 + (1 : Nat))) : Int) * (1 : Int) = (↑(x0 + (1 : Nat) + x1) : Int) * (1 : Int) := by lia
theorem om_51 {x0 : Int} (h0 : (0 : Int) ≤ x0 ∧ x0 ≤ (200 : Int)) : x0 = (↑(Int.toNat x0) : Int) := by lia
theorem om_52 {x0 : Int} (h0 : (0 : Int) ≤ x0 ∧ x0 ≤ (200 : Int)) : x0 ≤ (200 : Int) := by exact h0.2
theorem om_53 {x0 : Nat} {x1 : Nat} {x2 : Nat} (h0 : x0 < x1 + (1 : Nat)) (h1 : x2 < x0) : x2 < x1 := by lia
theorem om_54 {x0 : Int} : (0 : Int) + x0 = x0 := by lia
theorem om_55 {x0 : Nat} : (0 : Nat) ≤ x0 := by exact Nat.zero_le _
theorem om_56 {x0 : Nat} : x0 ≤ x0 := by lia
theorem om_57 {x0 : Nat} : x0 = x0 - (0 : Nat) := by rfl
theorem om_58 : (0 : Int) ≤ (2 : Int) := by exact Int.natCast_nonneg _
theorem om_59 {x0 : Nat} {x1 : Nat} : ((↑x0 : Int) + (↑x1 : Int)) / (2 : Int) = (↑((x0 + x1) / (2 : Nat)) : Int) := by rfl
theorem om_60 {x0 : Nat} {x1 : Nat} {x2 : Nat} {x3 : Nat} (h0 : x0 ≤ x1) (h1 : x2 < x0) (h2 : (x2 + x0) / (2 : Nat) = x3) : x3 < x1 := by lia
theorem om_61 {x0 : Nat} {x1 : Nat} (h0 : x0 < (40 : Nat)) (h1 : x1 < x0) : (0 : Int) ≤ (↑x1 : Int) ∧ (↑x1 : Int) < (300 : Int) := by lia
theorem om_62 {x0 : Nat} {x1 : Nat} {x2 : Nat} (h0 : x0 < x1) (h1 : (x0 + x1) / (2 : Nat) = x2) : x1 - (x2 + (1 : Nat)) < x1 - x0 := by lia
theorem om_63 {x0 : Nat} {x1 : Nat} {x2 : Nat} {x3 : Nat} (h0 : x0 ≤ x1) (h1 : x1 ≤ x2) (h2 : x3 < x0) : x3 + (1 : Nat) ≤ x0 ∧ x0 ≤ x1 ∧ x1 ≤ x2 ∧ x1 - (x3 + (1 : Nat)) = x1 - (x3 + (1 : Nat)) := by lia
theorem om_64 {x0 : Nat} {x1 : Nat} {x2 : Nat} (h0 : x0 < x1) (h1 : (x0 + x1) / (2 : Nat) = x2) : x2 - x0 < x1 - x0 := by lia
theorem om_65 {x0 : Nat} {x1 : Nat} {x2 : Nat} {x3 : Nat} (h0 : x0 ≤ x1) (h1 : x2 < x3) (h2 : ¬x2 < x1) : x0 ≤ x1 ∧ x1 ≤ x2 ∧ x2 ≤ x3 ∧ x2 - x0 = x2 - x0 := by lia
theorem om_66 {x0 : Nat} {x1 : Nat} {x2 : Nat} (h0 : x0 ≤ x1) (h1 : x1 ≤ x2) (h2 : ¬x0 < x2) : x0 = x1 := by lia
theorem om_67 {x0 : Nat} : (0 : Int) ≤ (↑x0 : Int) := by exact Int.natCast_nonneg _
theorem om_68 {x0 : Nat} {x1 : Nat} (h0 : x0 ≤ x1) (h1 : x1 < (40 : Nat)) : (↑x0 : Int) < (300 : Int) := by lia
theorem om_69 {x0 : Nat} {x1 : Nat} (h0 : x0 < (40 : Nat)) (h1 : x1 = (200 : Nat)) : x0 + (1 : Nat) ≤ x1 := by exact (h1 ▸ Nat.le_trans h0 (by decide))
theorem om_70 {x0 : Nat} {x1 : Nat} {x2 : Nat} (h0 : x0 + (x1 + (1 : Nat)) + (1 : Nat) ≤ x2) : x0 + (1 : Nat) ≤ x2 := by lia
theorem om_71 {x0 : Nat} {x1 : Nat} (h0 : x0 + (1 : Nat) ≤ x1) : x0 ≤ x1 := by exact Nat.le_of_lt h0
theorem om_72 {x0 : Nat} {x1 : Nat} {x2 : Nat} (h0 : x0 = x1) (h1 : x0 ≤ x2) : x1 ≤ x2 := by exact h0 ▸ h1
theorem om_73 {x0 : Int} {x1 : Int} {x2 : Int} : x0 + x1 + x2 = x0 + x2 + x1 := by lia
theorem om_74 {x0 : Int} {x1 : Int} {x2 : Int} {x3 : Int} (h0 : x0 = x1 + x2) : x3 + x0 = x3 + x1 + x2 := by lia
theorem om_75 {x0 : Nat} (h0 : x0 < (300 : Nat)) : (0 : Int) ≤ (↑x0 : Int) ∧ (↑x0 : Int) < (300 : Int) := by lia
theorem om_76 {x0 : Nat} {x1 : Nat} (h0 : x0 ≤ (40 : Nat)) (h1 : x1 = (200 : Nat)) : x0 ≤ x1 := by exact (h1 ▸ Nat.le_trans h0 (by decide))
theorem om_77 {x0 : Nat} (h0 : x0 ≤ (40 : Nat)) : (0 : Int) ≤ (↑x0 : Int) ∧ (↑x0 : Int) ≤ (200 : Int) := by lia
theorem om_78 {x0 : Nat} {x1 : Nat} (h0 : x0 + (x1 + (1 : Nat)) ≤ (40 : Nat)) : x0 + (1 : Nat) ≤ (40 : Nat) := by lia
theorem om_79 {x0 : Nat} {x1 : Nat} {x2 : Nat} {x3 : Nat} (h0 : x0 = x1) (h1 : x2 < x1 ∧ x3 < x1) : x2 < x0 := by lia
theorem om_80 {x0 : Nat} {x1 : Nat} {x2 : Nat} (h0 : x0 + (1 : Nat) ≤ (40 : Nat)) (h1 : x1 ≤ (2 : Nat) * x0) (h2 : x2 = (200 : Nat)) : x1 + (1 : Nat) ≤ x2 := by lia
theorem om_81 {x0 : Nat} {x1 : Nat} {x2 : Nat} {x3 : Nat} (h0 : x0 < x1 ∧ x2 < x1) (h1 : x3 = x1) : x2 < x3 := by lia
theorem om_82 {x0 : Nat} {x1 : Nat} {x2 : Nat} (h0 : x0 ≤ (2 : Nat) * x1) (h1 : x2 ≤ x0 + (1 : Nat)) : x2 ≤ (2 : Nat) * x1 + (1 : Nat) := by lia
theorem om_83 {x0 : Nat} {x1 : Nat} (h0 : x0 ≤ (2 : Nat) * x1) : x0 ≤ (2 : Nat) * x1 + (1 : Nat) := by exact Nat.le_succ_of_le h0
theorem om_84 {x0 : Nat} {x1 : Nat} {x2 : Nat} (h0 : x0 + (1 : Nat) ≤ (40 : Nat)) (h1 : x1 ≤ (2 : Nat) * x0 + (1 : Nat)) (h2 : x2 = (200 : Nat)) : x1 + (1 : Nat) ≤ x2 := by lia
theorem om_85 {x0 : Nat} {x1 : Nat} {x2 : Nat} (h0 : x0 ≤ (40 : Nat)) (h1 : x1 < x0 ∧ x2 < x0) : x1 < (300 : Nat) := by lia
theorem om_86 {x0 : Nat} {x1 : Nat} {x2 : Nat} (h0 : x0 ≤ (40 : Nat)) (h1 : x1 = x0) (h2 : x2 < x1) : x2 < (300 : Nat) := by lia
theorem om_87 {x0 : Int} {x1 : Int} : x0 + x1 + (1 : Int) = x0 + (x1 + (1 : Int)) := by lia
theorem om_88 {x0 : Nat} {x1 : Nat} {x2 : Nat} (h0 : x0 ≤ (2 : Nat) * x1 + (1 : Nat)) (h1 : x2 ≤ x0 + (1 : Nat)) : x2 ≤ (2 : Nat) * (x1 + (1 : Nat)) := by lia
theorem om_89 {x0 : Nat} {x1 : Nat} (h0 : x0 ≤ (2 : Nat) * x1 + (1 : Nat)) : x0 ≤ (2 : Nat) * (x1 + (1 : Nat)) := by exact Nat.le_succ_of_le h0
theorem om_90 {x0 : Nat} {x1 : Nat} (h0 : x0 < x1 + (1 : Nat)) (h1 : x0 ≠ x1) : x0 < x1 := by lia
theorem om_91 {x0 : Nat} {x1 : Nat} (h0 : x0 ≤ x1 + (1 : Nat)) : x0 ≤ x1 + (1 : Nat) := by exact h0
theorem om_92 {x0 : Nat} {x1 : Nat} {x2 : Nat} (h0 : x0 ≤ x1) (h1 : x2 ≤ x0 + (1 : Nat)) : x2 ≤ x1 + (1 : Nat) := by lia
theorem om_93 {x0 : Nat} {x1 : Nat} (h0 : ¬x0 = x1) : ¬(↑x0 : Int) = (↑x1 : Int) := by lia
theorem om_94 {x0 : Nat} {x1 : Nat} (h0 : (↑x0 : Int) = (↑x1 : Int)) : x0 = x1 := by exact Int.ofNat.inj h0
theorem om_95 {x0 : Nat} {x1 : Nat} : (↑x0 : Int) = (↑x1 : Int) ↔ x0 = x1 := by lia
theorem om_96 {x0 : Nat} {x1 : Nat} (h0 : x0 = x1 + (1 : Nat)) : x1 + (1 : Nat) = x0 := by exact h0.symm
theorem om_97 {x0 : Nat} {x1 : Nat} {x2 : Nat} (h0 : x0 = x1) (h1 : x2 + (1 : Nat) = x0) : x2 < x1 := by lia
theorem om_98 {x0 : Nat} (h0 : x0 = (200 : Nat)) : (1 : Nat) ≤ x0 := by lia
theorem om_99 {x0 : Nat} (h0 : x0 + (1 : Nat) = (0 : Nat)) : False := by lia
theorem om_100 {x0 : Nat} {x1 : Nat} {x2 : Nat} (h0 : x0 < (40 : Nat)) (h1 : x1 = (200 : Nat)) (h2 : x2 + (1 : Nat) ≤ x0) : x2 + (1 : Nat) ≤ x1 := by lia
theorem om_101 {x0 : Nat} {x1 : Nat} (h0 : x0 = x1 + (1 : Nat)) : (↑x0 : Int) = (↑x1 : Int) + (1 : Int) := by exact congrArg Int.ofNat h0
theorem om_102 {x0 : Nat} {x1 : Nat} {x2 : Nat} (h0 : x0 ≤ x1) (h1 : x2 < x0) : x1 - (x2 + (1 : Nat)) < x1 - x2 := by lia
theorem om_103 {x0 : Nat} {x1 : Nat} (h0 : x0 < x1) : x0 + (1 : Nat) ≤ x1 := by exact h0
theorem om_104 {x0 : Nat} {x1 : Nat} (h0 : x0 < x1 + (1 : Nat)) (h1 : ¬x0 < x1) : x0 = x1 := by lia
theorem om_105 {x0 : Nat} {x1 : Nat} {x2 : Nat} (h0 : x0 ≤ x1) (h1 : x2 < x0) : x2 < x1 := by exact Nat.le_trans h1 h0
theorem om_106 {x0 : Nat} {x1 : Nat} (h0 : x0 < (40 : Nat)) (h1 : x1 = (200 : Nat)) : x0 ≤ x1 := by exact (h1 ▸ Nat.le_of_lt (Nat.lt_of_lt_of_le h0 (by decide)))
theorem om_107 {x0 : Nat} (h0 : x0 < (40 : Nat)) : (0 : Int) ≤ (↑x0 : Int) ∧ (↑x0 : Int) ≤ (200 : Int) := by lia
theorem om_108 {x0 : Nat} {x1 : Nat} (h0 : x0 < x1) (h1 : x1 < (300 : Nat)) : (0 : Int) ≤ (↑x0 : Int) ∧ (↑x0 : Int) < (300 : Int) := by lia
theorem om_109 {x0 : Nat} {x1 : Nat} (h0 : x0 ≤ x1) (h1 : (2 : Nat) < x0) : x1 = x1 - (1 : Nat) + (1 : Nat) := by lia
theorem om_110 {x0 : Nat} (h0 : (2 : Nat) < x0) : ¬x0 ≤ (2 : Nat) := by lia
theorem om_111 {x0 : Nat} (h0 : x0 < (40 : Nat)) : x0 ≤ (40 : Nat) := by exact Nat.le_of_lt h0
theorem om_112 {x0 : Nat} {x1 : Nat} {x2 : Nat} (h0 : x0 < (40 : Nat)) (h1 : x1 = (200 : Nat)) (h2 : x2 ≤ x0) : x2 ≤ x1 := by lia
theorem om_113 {x0 : Nat} (h0 : x0 < (40 : Nat)) : x0 < (300 : Nat) := by exact Nat.le_trans h0 (by decide)
theorem om_114 {x0 : Nat} {x1 : Nat} (h0 : x0 = (200 : Nat)) (h1 : x1 ≤ (40 : Nat)) : x1 ≤ x0 := by exact (h0 ▸ Nat.le_trans h1 (by decide))
theorem om_115 {x0 : Nat} : x0 < x0 + (1 : Nat) := by lia
theorem om_116 {x0 : Nat} {x1 : Nat} {x2 : Nat} (h0 : x0 ≤ x1 + (1 : Nat)) (h1 : x2 < x0) : x2 ≤ x1 := by lia
theorem om_117 {x0 : Nat} {x1 : Nat} {x2 : Nat} (h0 : x0 ≤ x1) (h1 : x2 < x0) : x2 ≤ x1 := by exact Nat.le_of_lt (Nat.lt_of_lt_of_le h1 h0)
theorem om_118 {x0 : Nat} (h0 : ¬(2 : Nat) < x0) : x0 ≤ (2 : Nat) := by lia
theorem om_119 {x0 : Nat} {x1 : Nat} (h0 : x0 ≤ x1) : x0 ≤ x1 := by exact h0
theorem om_120 {x0 : Nat} {x1 : Nat} : x0 < x1 ↔ x0 + (1 : Nat) < x1 + (1 : Nat) := by lia
theorem om_121 {x0 : Int} {x1 : Int} {x2 : Int} (h0 : x0 < x1) (h1 : x2 = x1) : x0 ≤ x2 := by lia
theorem om_122 {x0 : Int} {x1 : Int} {x2 : Int} {x3 : Nat} (h0 : ¬x0 < x1) (h1 : x2 = x0) : x2 < x1 ↔ x3 < (0 : Nat) := by lia
theorem om_123 {x0 : Int} {x1 : Int} {x2 : Int} {x3 : Nat} (h0 : ¬x0 < x1) (h1 : x0 ≤ x2) : x2 < x1 ↔ x3 < (0 : Nat) := by lia
theorem om_124 {x0 : Int} {x1 : Int} {x2 : Int} (h0 : ¬x0 < x1) (h1 : x2 = x0) : x1 ≤ x2 := by lia
theorem om_125 {x0 : Int} {x1 : Int} {x2 : Int} (h0 : ¬x0 < x1) (h1 : x0 ≤ x2) : x1 ≤ x2 := by lia
theorem om_126 {x0 : Int} {x1 : Nat} {x2 : Nat} (h0 : x0 < x0 ↔ x1 < x2) : x2 ≤ x1 := by lia
theorem om_127 {x0 : Nat} {x1 : Nat} {x2 : Nat} (h0 : x0 < x1) (h1 : x2 ≤ x0) : x2 < x1 := by exact Nat.lt_of_le_of_lt h1 h0
theorem om_128 {x0 : Nat} {x1 : Nat} (h0 : x0 ≤ x1) (h1 : ¬x0 = x1) : x0 < x1 := by exact Nat.lt_of_le_of_ne h0 h1
theorem om_129 {x0 : Int} {x1 : Int} {x2 : Int} {x3 : Nat} (h0 : x0 = x1) (h1 : x2 < x1 ↔ x3 < x3) (h2 : x2 ≤ x0) : x2 = x1 := by lia
theorem om_130 {x0 : Nat} {x1 : Nat} (h0 : x0 < x1) (h1 : x1 < (300 : Nat)) : x0 < (300 : Nat) := by exact Nat.lt_trans h0 h1
theorem om_131 {x0 : Nat} : (1 : Int) + ((↑x0 : Int) - (1 : Int)) = (↑x0 : Int) := by lia
theorem om_132 {x0 : Nat} {x1 : Nat} (h0 : x0 = (200 : Nat)) : min (8 : Nat) x1 ≤ x0 := by lia
theorem om_133 {x0 : Nat} : (0 : Int) < (↑x0 : Int) + (1 : Int) := by lia
theorem om_134 {x0 : Nat} : (↑x0 : Int) + (1 : Int) ≠ (0 : Int) := by lia
theorem om_135 {x0 : Nat} {x1 : Nat} (h0 : x0 ≤ (9 : Nat)) (h1 : x1 = (200 : Nat)) : x0 ≤ x1 := by exact (h1 ▸ Nat.le_trans h0 (by decide))
theorem om_136 {x0 : Nat} (h0 : x0 ≤ (9 : Nat)) : (0 : Int) ≤ (↑x0 : Int) ∧ (↑x0 : Int) ≤ (200 : Int) := by lia
theorem om_137 {x0 : Nat} (h0 : x0 ≤ (9 : Nat)) : x0 < (40 : Nat) := by exact Nat.lt_of_le_of_lt h0 (by decide)
theorem om_138 {x0 : Nat} (h0 : x0 ≤ (8 : Nat)) : x0 ≤ (40 : Nat) := by exact Nat.le_trans h0 (by decide)
theorem om_139 {x0 : Nat} {x1 : Nat} (h0 : x0 < x1) (h1 : x1 = (0 : Nat)) : False := by lia
theorem om_140 {x0 : Nat} (h0 : (0 : Nat) < x0) (h1 : x0 = (0 : Nat)) : False := by lia
theorem om_141 {x0 : Nat} {x1 : Nat} (h0 : x0 ≤ (9 : Nat)) (h1 : x1 < x0) : x1 < (300 : Nat) := by lia
theorem om_142 {x0 : Nat} (h0 : x0 ≤ (9 : Nat)) : x0 < (300 : Nat) := by exact Nat.lt_of_le_of_lt h0 (by decide)
theorem om_143 {x0 : Nat} (h0 : (0 : Nat) < x0) : (0 : Int) < (↑x0 : Int) := by exact Int.ofNat_lt.mpr h0
theorem om_144 {x0 : Nat} {x1 : Int} {x2 : Nat} (h0 : (↑x0 : Int) = x1) (h1 : x1 < (↑x2 : Int)) : x0 < x2 := by lia
theorem om_145 {x0 : Nat} {x1 : Nat} (h0 : x0 ≤ (63 : Nat)) (h1 : x1 = (200 : Nat)) : x0 + (1 : Nat) ≤ x1 := by lia
theorem om_146 : (0 : Nat) < (300 : Nat) := by decide
theorem om_147 {x0 : Nat} {x1 : Nat} (h0 : x0 < x1) : (↑x1 : Int) ≠ (0 : Int) := by lia
theorem om_148 {x0 : Nat} (h0 : x0 ≤ (9 : Nat)) : x0 ≤ (200 : Nat) := by exact Nat.le_trans h0 (by decide)
theorem om_149 : (-300 : Int) ≤ (2 : Int) ∧ (2 : Int) ≤ (300 : Int) := by decide
theorem om_150 {x0 : Nat} {x1 : Nat} (h0 : x0 ≤ (9 : Nat)) (h1 : x1 < x0) : (0 : Int) ≤ (↑x1 : Int) ∧ (↑x1 : Int) ≤ (200 : Int) := by lia
theorem om_151 {x0 : Nat} {x1 : Nat} {x2 : Nat} (h0 : x0 ≤ (9 : Nat)) (h1 : x1 = (200 : Nat)) (h2 : x2 ≤ x0) : x2 ≤ x1 := by lia
theorem om_152 {x0 : Nat} (h0 : x0 ≤ (9 : Nat)) : x0 ≤ (40 : Nat) := by exact Nat.le_trans h0 (by decide)
theorem om_153 {x0 : Nat} : (1 : Int) < (↑x0 : Int) ↔ (1 : Nat) < x0 := by lia
theorem om_154 {x0 : Int} {x1 : Nat} (h0 : x0 ≤ (↑x1 : Int)) : ¬(↑x1 : Int) < x0 := by lia
theorem om_155 {x0 : Nat} {x1 : Nat} {x2 : Nat} {x3 : Nat} (h0 : x0 ≤ (9 : Nat)) (h1 : x1 = x2) (h2 : x0 = x2 + (x3 + (1 : Nat))) : x1 < (40 : Nat) := by lia
theorem om_156 {x0 : Nat} (h0 : x0 ≤ (9 : Nat)) : x0 < (64 : Nat) := by exact Nat.lt_of_le_of_lt h0 (by decide)
theorem om_157 {x0 : Nat} {x1 : Nat} (h0 : x0 = (200 : Nat)) (h1 : x1 ≤ (40 : Nat)) : x1 + (1 : Nat) ≤ x0 := by lia
theorem om_158 {x0 : Nat} : Int.toNat ((↑x0 : Int) + (1 : Int)) = x0 + (1 : Nat) := by rfl
theorem om_159 {x0 : Nat} (h0 : x0 ≤ (40 : Nat)) : (0 : Int) ≤ (↑x0 : Int) + (1 : Int) ∧ (↑x0 : Int) + (1 : Int) ≤ (200 : Int) := by lia
theorem om_160 {x0 : Nat} {x1 : Nat} (h0 : x0 < x1 + (1 : Nat)) : x0 ≤ x1 := by exact Nat.le_of_lt_succ h0
theorem om_161 {x0 : Nat} {x1 : Nat} (h0 : x0 ≤ (9 : Nat)) (h1 : x1 = x0) : x1 < (40 : Nat) := by lia
theorem om_162 {x0 : Nat} {x1 : Nat} {x2 : Nat} (h0 : x0 ≤ (9 : Nat)) (h1 : x1 = x0) (h2 : x2 ≤ x1) : x2 < (300 : Nat) := by lia
theorem om_163 {x0 : Nat} {x1 : Nat} (h0 : x0 + x1 ≤ (0 : Nat)) : x0 = (0 : Nat) := by lia
theorem om_164 {x0 : Nat} {x1 : Nat} (h0 : x0 + x1 ≤ (0 : Nat)) : x1 = (0 : Nat) := by lia
theorem om_165 {x0 : Nat} (h0 : x0 + (1 : Nat) ≤ (0 : Nat)) : False := by lia
theorem om_166 {x0 : Nat} {x1 : Nat} (h0 : x0 < x1) : (0 : Nat) < x1 := by lia
theorem om_167 {x0 : Nat} {x1 : Nat} {x2 : Nat} {x3 : Nat} (h0 : x0 + x1 ≤ x2 + (1 : Nat)) (h1 : x3 < x1) : x0 + x3 ≤ x2 := by lia
theorem om_168 {x0 : Nat} {x1 : Nat} (h0 : x0 + (1 : Nat) ≤ x1 + (1 : Nat)) : x0 ≤ x1 := by exact Nat.le_of_lt_succ h0
theorem om_169 {x0 : Nat} {x1 : Nat} (h0 : ¬x0 = x1) (h1 : ¬x0 < x1) : (0 : Nat) < x0 := by lia
theorem om_170 {x0 : Nat} {x1 : Nat} {x2 : Nat} {x3 : Nat} (h0 : x0 + x1 ≤ x2 + (1 : Nat)) (h1 : x3 < x0) : x3 + x1 ≤ x2 := by lia
theorem om_171 {x0 : Nat} {x1 : Nat} {x2 : Nat} (h0 : x0 < x1) : x2 + x1 = x2 + x1 - (1 : Nat) + (1 : Nat) := by lia
theorem om_172 {x0 : Nat} {x1 : Nat} : x0 + x1 ≤ x0 + x1 := by lia
theorem om_173 {x0 : Nat} {x1 : Nat} {x2 : Nat} (h0 : x0 < x1) : x2 + x0 ≤ x2 + x1 - (1 : Nat) := by lia
theorem om_174 {x0 : Nat} {x1 : Nat} (h0 : x0 < x1) : ¬x0 = x1 := by lia
theorem om_175 {x0 : Nat} {x1 : Nat} {x2 : Nat} (h0 : x0 < x1) : x1 + x2 = x1 + x2 - (1 : Nat) + (1 : Nat) := by lia
theorem om_176 {x0 : Nat} {x1 : Nat} {x2 : Nat} (h0 : x0 < x1) : x0 + x2 ≤ x1 + x2 - (1 : Nat) := by lia
theorem om_177 {x0 : Nat} {x1 : Nat} (h0 : x0 < x1) : ¬x1 = x0 := by lia
theorem om_178 {x0 : Nat} {x1 : Nat} (h0 : x0 < x1) : ¬x1 < x0 := by lia
theorem om_179 {x0 : Nat} {x1 : Nat} (h0 : x0 + x1 ≤ (0 : Nat)) : x0 = x1 := by lia
theorem om_180 {x0 : Nat} {x1 : Nat} {x2 : Nat} {x3 : Nat} (h0 : x0 + x1 ≤ x2 + (1 : Nat)) (h1 : x3 < x0) : x1 + x3 ≤ x2 := by lia
theorem om_181 {x0 : Nat} : (0 : Nat) ≤ x0 + x0 := by exact Nat.zero_le _
theorem om_182 {x0 : Nat} {x1 : Nat} {x2 : Nat} (h0 : x0 < x1) (h1 : x1 < x2) : x0 < x2 := by exact Nat.lt_trans h0 h1
theorem om_183 {x0 : Nat} {x1 : Nat} {x2 : Nat} {x3 : Nat} (h0 : x0 < x1) (h1 : x1 = x2) (h2 : x2 < x3) : x0 < x3 := by lia
theorem om_184 {x0 : Nat} {x1 : Nat} (h0 : x0 + (1 : Nat) = x1) (h1 : x0 = x1 + (1 : Nat)) : False := by lia
theorem om_185 {x0 : Nat} {x1 : Nat} {x2 : Nat} {x3 : Nat} (h0 : x0 < x1) (h1 : x1 < x2) (h2 : x2 = x3) (h3 : x3 < x0) : False := by lia
theorem om_186 {x0 : Nat} {x1 : Nat} (h0 : (0 : Nat) + (1 : Nat) = x0) (h1 : x1 + (1 : Nat) = x0) : x1 = (0 : Nat) := by lia
theorem om_187 {x0 : Nat} {x1 : Nat} (h0 : x0 + (1 : Nat) + (1 : Nat) = x1 + (1 : Nat)) : x0 + (1 : Nat) = x1 := by exact Nat.succ.inj h0
theorem om_188 {x0 : Nat} {x1 : Nat} (h0 : x0 < x1) : x0 ≤ x1 := by exact Nat.le_of_lt h0
theorem om_189 {x0 : Nat} {x1 : Nat} {x2 : Nat} (h0 : x0 < x1) (h1 : x1 = x2) (h2 : x2 < x0) : False := by lia
theorem om_190 {x0 : Nat} {x1 : Nat} {x2 : Nat} {x3 : Nat} (h0 : x0 < x1) (h1 : x2 < x1) (h2 : x3 ≤ x2 ∨ x3 ≤ x0) (h3 : x1 < x3) : False := by lia
theorem om_191 {x0 : Nat} {x1 : Nat} (h0 : x0 + (1 : Nat) = x1) : x0 + (1 : Nat) + (1 : Nat) = x1 + (1 : Nat) := by exact congrArg Nat.succ h0
theorem om_192 {x0 : Nat} {x1 : Nat} {x2 : Nat} {x3 : Nat} (h0 : x0 < x1) (h1 : x2 < x1) (h2 : x3 ≤ x0 ∨ x3 ≤ x2) : x3 < x1 := by lia
theorem om_193 {x0 : Nat} {x1 : Nat} (h0 : x0 < x1) (h1 : x1 < x0) : False := by lia
theorem om_194 {x0 : Nat} {x1 : Nat} {x2 : Nat} (h0 : x0 < x1) (h1 : x0 = x2) : ¬x1 = x2 := by lia
theorem om_195 {x0 : Nat} : (1 : Int) + (↑x0 : Int) = (↑x0 : Int) + (1 : Int) := by lia
theorem om_196 {x0 : Nat} (h0 : (↑x0 : Int) + (1 : Int) + (1 : Int) = (1 : Int)) : False := by lia
theorem om_197 {x0 : Nat} (h0 : (↑x0 : Int) ≠ (1 : Int)) (h1 : (0 : Nat) < x0) : (2 : Nat) ≤ x0 := by lia
theorem om_198 {x0 : Nat} {x1 : Nat} : x0 ≤ max x0 x1 := by lia
theorem om_199 {x0 : Nat} {x1 : Nat} {x2 : Nat} (h0 : x0 ≤ x1) : x0 ≤ max x2 x1 := by lia
theorem om_200 {x0 : Nat} {x1 : Nat} {x2 : Nat} (h0 : x0 = x1) (h1 : x2 ≤ x1) : x0 = max x2 x1 := by lia
theorem om_201 {x0 : Nat} {x1 : Nat} (h0 : ¬x0 ≤ x1) : x0 = max x0 x1 := by lia
theorem om_202 {x0 : Nat} {x1 : Nat} (h0 : (0 : Nat) = x0) (h1 : x1 ≤ x0) : x1 = (0 : Nat) := by lia
theorem om_203 {x0 : Nat} (h0 : x0 < x0) : False := by exact Nat.lt_irrefl _ h0
theorem om_204 {x0 : Nat} (h0 : (3 : Nat) ≤ x0) (h1 : x0 ≤ (2 : Nat)) : False := by lia
theorem om_205 {x0 : Nat} {x1 : Nat} (h0 : x0 + (1 : Nat) = x1) (h1 : x1 + (1 : Nat) = x0) : False := by lia
theorem om_206 {x0 : Nat} {x1 : Nat} (h0 : x0 + (1 : Nat) = x1) : x1 = x0 + (1 : Nat) := by exact h0.symm
theorem om_207 {x0 : Nat} (h0 : (3 : Nat) ≤ x0) : (2 : Nat) ≤ x0 := by exact Nat.le_of_lt h0
theorem om_208 {x0 : Nat} {x1 : Nat} {x2 : Nat} (h0 : x0 + (1 : Nat) = x1) (h1 : x0 ≤ x2) : x1 ≤ x2 + (1 : Nat) := by lia
theorem om_209 {x0 : Nat} {x1 : Nat} (h0 : x0 ≤ x1) : x0 ≤ x1 + (1 : Nat) := by exact Nat.le_succ_of_le h0
theorem om_210 {x0 : Nat} {x1 : Nat} (h0 : (0 : Nat) = x0) (h1 : x1 ≠ (0 : Nat)) : x0 + (1 : Nat) ≤ x1 := by lia
theorem om_211 {x0 : Nat} {x1 : Nat} {x2 : Nat} (h0 : x0 = x1) (h1 : x2 = x0 + (1 : Nat)) : x1 + (1 : Nat) ≤ x2 := by lia
theorem om_212 {x0 : Nat} : (0 : Nat) ≤ x0 + (1 : Nat) := by exact Nat.zero_le _
theorem om_213 {x0 : Nat} {x1 : Nat} {x2 : Nat} {x3 : Nat} (h0 : x0 = x1) (h1 : x2 ≠ (0 : Nat)) (h2 : x0 = (1 : Nat)) (h3 : x3 = x2 + (1 : Nat)) : x1 + (1 : Nat) ≤ x3 := by lia
theorem om_214 {x0 : Nat} (h0 : (0 : Nat) + (1 : Nat) = x0) : x0 = (1 : Nat) := by exact h0.symm
theorem om_215 {x0 : Nat} (h0 : x0 + (1 : Nat) = x0) : False := by lia
theorem om_216 {x0 : Nat} (h0 : x0 ≤ (0 : Nat)) : x0 = (0 : Nat) := by lia
theorem om_217 {x0 : Nat} {x1 : Nat} {x2 : Nat} (h0 : x0 = x1 + (2 : Nat)) (h1 : x1 = x2) : x0 = x2 + (2 : Nat) := by exact h1 ▸ h0
theorem om_218 {x0 : Nat} {x1 : Nat} (h0 : (0 : Nat) = x0) (h1 : x0 = x1 + (1 : Nat)) : False := by lia
theorem om_219 {x0 : Nat} {x1 : Nat} {x2 : Nat} {x3 : Nat} (h0 : x0 = x1) (h1 : x1 = x2 + (1 : Nat)) (h2 : x0 = x3 + (1 : Nat)) : x3 = x2 := by lia
theorem om_220 {x0 : Nat} {x1 : Nat} {x2 : Nat} (h0 : x0 < x1) (h1 : x1 ≤ x2) : x2 = x2 - (1 : Nat) + (1 : Nat) := by lia
theorem om_221 {x0 : Nat} (h0 : (3 : Nat) ≤ x0) : ¬x0 ≤ (2 : Nat) := by lia
theorem om_222 {x0 : Nat} {x1 : Nat} {x2 : Nat} (h0 : x0 < x1) (h1 : x1 ≤ x2 + (1 : Nat)) : x0 ≤ x2 := by lia
theorem om_223 {x0 : Nat} {x1 : Nat} {x2 : Nat} (h0 : x0 = x1 + (1 : Nat)) : x0 = x2 + (1 : Nat) ↔ x1 = x2 := by lia
theorem om_224 {x0 : Nat} {x1 : Nat} {x2 : Nat} (h0 : x0 = x1 + (2 : Nat)) (h1 : x2 ≤ x1) : ¬x0 = x2 + (1 : Nat) := by lia
theorem om_225 {x0 : Nat} {x1 : Nat} {x2 : Nat} (h0 : x0 = x1 + (2 : Nat)) (h1 : x2 ≤ x1) : x2 + (1 : Nat) ≤ x0 := by lia
theorem om_226 {x0 : Nat} {x1 : Nat} {x2 : Nat} (h0 : x0 = x1 + (2 : Nat)) (h1 : x1 ≤ x2) : x0 ≤ x2 + (2 : Nat) := by lia
theorem om_227 {x0 : Nat} {x1 : Nat} {x2 : Nat} (h0 : x0 + x1 = (2 : Nat) * x2 + (1 : Nat)) : x0 + (2 : Nat) + x1 = (2 : Nat) * (x2 + (1 : Nat)) + (1 : Nat) := by lia
theorem om_228 {x0 : Nat} {x1 : Nat} {x2 : Nat} (h0 : x0 = x1 + (2 : Nat)) (h1 : x0 ≤ x2) (h2 : x2 ≤ x1 + (2 : Nat)) : x2 = x1 + (2 : Nat) := by lia
theorem om_229 {x0 : Nat} (h0 : (0 : Nat) = x0 + (2 : Nat)) : False := by lia
theorem om_230 {x0 : Nat} {x1 : Nat} {x2 : Nat} {x3 : Nat} (h0 : x0 = x1 + (2 : Nat)) (h1 : x0 = x2 + (1 : Nat)) (h2 : x2 = x3 + (1 : Nat)) : x3 = x1 := by lia
theorem om_231 {x0 : Nat} {x1 : Nat} {x2 : Nat} {x3 : Nat} {x4 : Nat} (h0 : x0 = x1 + (1 : Nat)) (h1 : x2 = x3 + (1 : Nat)) (h2 : x1 + x3 = x4) : x0 + x2 = x4 + (2 : Nat) := by lia
theorem om_232 {x0 : Nat} : (0 : Nat) < x0 + (1 : Nat) := by lia
theorem om_233 {x0 : Nat} {x1 : Nat} {x2 : Nat} {x3 : Nat} (h0 : x0 = (1 : Nat) + min (8 : Nat) x1) (h1 : x2 = min (8 : Nat) x1) (h2 : x3 < x2) : x3 + (1 : Nat) < x0 := by lia
theorem om_234 {x0 : Nat} {x1 : Nat} {x2 : Nat} {x3 : Nat} (h0 : x0 = (1 : Nat) + min (8 : Nat) x1) (h1 : x2 = min (8 : Nat) x1) (h2 : (0 : Nat) < x3) (h3 : x3 < x0) : x3 - (1 : Nat) < x2 := by lia
theorem om_235 {x0 : Nat} (h0 : (0 : Nat) < x0) : (↑(x0 - (1 : Nat)) : Int) + (1 : Int) = (↑x0 : Int) := by lia
theorem om_236 {x0 : Nat} (h0 : (↑(x0 - (1 : Nat)) : Int) + (1 : Int) = (↑x0 : Int)) : x0 - (1 : Nat) + (1 : Nat) = x0 := by exact Int.ofNat.inj h0
theorem om_237 {x0 : Nat} {x1 : Nat} (h0 : x0 < x1) (h1 : x0 + (1 : Nat) = x1 + (1 : Nat)) : False := by lia
theorem om_238 {x0 : Nat} {x1 : Nat} {x2 : Nat} (h0 : x0 < x1) (h1 : x1 < x2) : x0 < x2 ∧ x1 < x2 := by lia
theorem om_239 {x0 : Nat} {x1 : Nat} (h0 : (↑x0 : Int) ≤ (↑x1 : Int)) (h1 : x1 ≤ x0) : (↑x1 : Int) = (↑x0 : Int) := by lia
theorem om_240 {x0 : Nat} {x1 : Nat} (h0 : (↑x0 : Int) ≤ (↑x1 : Int)) (h1 : x1 ≤ x0) : (↑x0 : Int) = (↑x1 : Int) := by lia
theorem om_241 {x0 : Nat} {x1 : Nat} (h0 : x0 = (0 : Nat)) (h1 : x1 ≤ (0 : Nat)) : x0 = x1 := by lia
theorem om_242 {x0 : Nat} {x1 : Nat} {x2 : Nat} (h0 : x0 = x1 + (1 : Nat)) (h1 : x2 = x1 + (1 : Nat)) : x0 = x2 := by exact h0.trans h1.symm
theorem om_243 {x0 : Nat} (h0 : (0 : Nat) = x0 + (1 : Nat)) : False := by lia
theorem om_244 {x0 : Nat} {x1 : Nat} {x2 : Nat} (h0 : x0 = x1 + (1 : Nat)) (h1 : x2 + (1 : Nat) = x0) : x2 = x1 := by lia
theorem om_245 {x0 : Nat} {x1 : Nat} (h0 : x0 ≤ x1 + (1 : Nat)) (h1 : ¬x0 = x1 + (1 : Nat)) : x0 ≤ x1 := by lia
theorem om_246 {x0 : Nat} {x1 : Nat} (h0 : x0 + (1 : Nat) ≤ x1) : ¬x1 = x0 := by lia
theorem om_247 {x0 : Nat} (h0 : x0 < (0 : Nat)) : False := by lia
theorem om_248 {x0 : Nat} {x1 : Nat} (h0 : x0 < x1 + (1 : Nat)) (h1 : ¬x0 = x1) : x0 < x1 := by lia
theorem om_249 {x0 : Int} {x1 : Int} {x2 : Int} {x3 : Int} : x0 + x1 + (x2 + x3) = x0 + x2 + (x1 + x3) := by lia
theorem om_250 {x0 : Nat} : (1 : Int) + (1 : Int) + (2 : Int) * (↑x0 : Int) = (2 : Int) * (↑(x0 + (1 : Nat)) : Int) := by lia
theorem om_251 {x0 : Nat} {x1 : Int} (h0 : -(↑x0 : Int) ≤ x1) : -((↑x0 : Int) + (1 : Int)) ≤ (-1 : Int) + x1 := by lia
theorem om_252 {x0 : Nat} {x1 : Int} {x2 : Int} (h0 : -(↑x0 : Int) ≤ x1) (h1 : (1 : Int) ≤ x2) (h2 : ¬x2 = (1 : Int)) : -(↑x0 : Int) ≤ x2 - (2 : Int) + x1 := by lia
theorem om_253 {x0 : Nat} {x1 : Int} {x2 : Int} (h0 : -(↑x0 : Int) ≤ x1) : x2 - (2 : Int) - (↑x0 : Int) ≤ x2 - (2 : Int) + x1 := by lia
theorem om_254 {x0 : Int} {x1 : Nat} {x2 : Int} (h0 : x0 - (2 : Int) - (↑x1 : Int) ≤ x2) : x0 - (2 : Int) - ((↑x1 : Int) + (1 : Int)) ≤ (-1 : Int) + x2 := by lia
theorem om_255 {x0 : Int} {x1 : Int} {x2 : Nat} {x3 : Int} (h0 : (1 : Int) ≤ x0) (h1 : x1 - (2 : Int) - (↑x2 : Int) ≤ x3) (h2 : ¬x0 = (1 : Int)) : x1 - (2 : Int) - (↑x2 : Int) ≤ x0 - (2 : Int) + x3 := by lia
theorem om_256 {x0 : Int} {x1 : Int} {x2 : Nat} : x0 - (2 : Int) + (x1 - (2 : Int) * (↑x2 : Int)) = x0 + x1 - (2 : Int) * (↑(x2 + (1 : Nat)) : Int) := by lia
theorem om_257 {x0 : Int} {x1 : Nat} (h0 : x0 = (1 : Int)) (h1 : (0 : Nat) < x1) : x0 ≤ (↑x1 : Int) := by lia
theorem om_258 {x0 : Int} {x1 : Nat} {x2 : Nat} (h0 : x0 - (2 : Int) - (↑x1 : Int) ≤ (2 : Int) * (↑x2 : Int) - (2 : Int) - (2 : Int) * (↑x2 : Int)) : x0 ≤ (↑x1 : Int) := by lia
theorem om_259 {x0 : Nat} {x1 : Nat} (h0 : x0 = (1 : Nat) + min (8 : Nat) x1) : (0 : Nat) < x0 := by lia
theorem om_260 {x0 : Nat} {x1 : Nat} (h0 : x0 = (1 : Nat) + min (8 : Nat) x1) : min (8 : Nat) x1 = x0 - (1 : Nat) := by lia
theorem om_261 {x0 : Nat} {x1 : Nat} (h0 : x0 = (1 : Nat) + min (8 : Nat) x1) : x0 ≤ (9 : Nat) := by lia
theorem om_262 {x0 : Nat} {x1 : Nat} {x2 : Nat} (h0 : x0 = (1 : Nat) + min (8 : Nat) x1) (h1 : x2 = x0 - (1 : Nat)) : x2 ≤ (8 : Nat) := by lia
theorem om_263 {x0 : Nat} {x1 : Nat} (h0 : x0 = x1) (h1 : x0 ≤ (18 : Nat)) : x1 ≤ (40 : Nat) := by exact (h0 ▸ Nat.le_trans h1 (by decide))
theorem om_264 {x0 : Nat} {x1 : Nat} {x2 : Nat} (h0 : x0 + x1 = (2 : Nat) * x2 + (1 : Nat)) : (↑x0 : Int) = (2 : Int) * (↑x2 : Int) - (↑x1 : Int) + (1 : Int) := by lia
theorem om_265 {x0 : Nat} (h0 : (1 : Nat) < x0) : (2 : Nat) ≤ x0 := by exact h0
theorem om_266 {x0 : Nat} (h0 : (0 : Nat) < x0) : (1 : Int) ≤ (↑x0 : Int) := by exact Int.ofNat_lt.mpr h0
theorem om_267 {x0 : Nat} (h0 : (1 : Nat) < x0) : (2 : Int) * (↑(x0 - (1 : Nat)) : Int) = (2 : Int) * (↑x0 : Int) - (2 : Int) := by lia
theorem om_268 {x0 : Nat} (h0 : (1 : Nat) < x0) (h1 : (0 : Nat) = x0) : False := by lia
theorem om_269 {x0 : Nat} {x1 : Nat} {x2 : Nat} {x3 : Nat} (h0 : x0 = (1 : Nat) + min (8 : Nat) x1) (h1 : x2 = x0 - (1 : Nat)) (h2 : x3 ≤ x2) : (-300 : Int) ≤ (↑x3 : Int) ∧ (↑x3 : Int) ≤ (300 : Int) := by lia
theorem om_270 {x0 : Nat} {x1 : Nat} {x2 : Nat} {x3 : Nat} (h0 : x0 = x1) (h1 : x2 ≤ x1) (h2 : x3 = x0) : x2 ≤ x3 := by lia
theorem om_271 : (1 : Nat) ≤ (3 : Nat) := by decide
theorem om_272 : (2 : Nat) ≤ (3 : Nat) := by decide
theorem om_273 : (3 : Nat) ≤ (3 : Nat) := by decide
theorem om_274 {x0 : Nat} {x1 : Nat} (h0 : x0 ≤ (63 : Nat)) (h1 : x1 = (200 : Nat)) : x0 ≤ x1 := by exact (h1 ▸ Nat.le_trans h0 (by decide))
end Mine
end
section
open PySem PySem.W PyProof.Rows
namespace Mine

/-! ## Plain data -/
inductive Scal where
  | int (i : Int)
  | str (s : Str)
  deriving DecidableEq

inductive D where
  | none
  | bool (b : Bool)
  | int (i : Int)
  | str (s : Str)
  | tup (ds : List D)
  | lst (ds : List D)
  | idict (ks : List Int) (ds : List D)
  | tdict (ks : List (List Scal)) (ds : List D)

abbrev Part := Addr → Option Obj

/-- what a list or dict holds at most -/
noncomputable def cap : Nat := 200

section
variable (prog : Program) (w : World)

noncomputable def Scal.is : Scal → Value → Bool
  | .int i, v => Value.isInt i v
  | .str s, v => Value.isStrOf s v

noncomputable def Scal.hash : Scal → Int
  | .int i => hashInt i
  | .str s => hashStr w s

noncomputable def ScalsAre : List Scal → List Value → Prop
  | [], vs => vs = []
  | k :: ks, vs => ∃ v vs', vs = v :: vs' ∧ k.is v = true ∧ ScalsAre ks vs'

noncomputable def tupHash (ks : List Scal) : Int := reduceHash (Builtin.Tuple.tupleHashOf (ks.map (Scal.hash w)))

/-- a tuple of ints and texts, as a key -/
noncomputable def KeyAt (g : Part) (ks : List Scal) (v : Value) : Prop :=
  ∃ a o vs n, v = .ref a ∧ g a = some o ∧ o.cls = .type "tuple" ∧ o.data = .seq vs n ∧ ks.length ≤ cap ∧ ScalsAre ks vs.toList

noncomputable def IKeys : List Int → List DictEntry → Prop
  | [], es => es = []
  | k :: ks, es => ∃ e es', es = e :: es' ∧ Value.isInt k e.key = true ∧ e.hash = hashInt k ∧ IKeys ks es'

noncomputable def TKeys (g : Part) : List (List Scal) → List DictEntry → Prop
  | [], es => es = []
  | k :: ks, es => ∃ e es', es = e :: es' ∧ KeyAt g k e.key ∧ e.hash = tupHash w k ∧ TKeys g ks es'

mutual
noncomputable def Rep (g : Part) : D → Value → Prop
  | .none, v => v = .none
  | .bool b, v => v = .bool b
  | .int i, v => ∃ t, v = .int i t
  | .str s, v => ∃ t, v = .str s t
  | .tup ds, v => ∃ a o vs n, v = .ref a ∧ g a = some o ∧ o.cls = .type "tuple" ∧ o.data = .seq vs n ∧ ds.length ≤ cap ∧ Reps g ds vs.toList
  | .lst ds, v => ∃ a o vs n, v = .ref a ∧ g a = some o ∧ (o.cls = .type "list" ∧ o.dict = none ∧ o.slots = #[]) ∧ o.data = .seq vs n ∧ ds.length ≤ cap ∧ Reps g ds vs.toList
  | .idict ks ds, v => ∃ a o es n, v = .ref a ∧ g a = some o ∧ (a ≠ sysModules ∧ o.ExactDict) ∧ o.data = .dict es n ∧ (ks.length ≤ cap ∧ ks.Nodup) ∧ IKeys ks es.toList ∧ Reps g ds (es.toList.map (·.val))
  | .tdict ks ds, v => ∃ a o es n, v = .ref a ∧ g a = some o ∧ (a ≠ sysModules ∧ o.ExactDict) ∧ o.data = .dict es n ∧ (ks.length ≤ cap ∧ ks.Nodup) ∧ TKeys w g ks es.toList ∧ Reps g ds (es.toList.map (·.val))
noncomputable def Reps (g : Part) : List D → List Value → Prop
  | [], vs => vs = []
  | d :: ds, vs => ∃ v vs', vs = v :: vs' ∧ Rep g d v ∧ Reps g ds vs'
end

/-- the object o at a bears the composite datum d, its parts in g -/
noncomputable def ORep (g : Part) (a : Addr) (o : Obj) : D → Prop
  | .tup ds => o.cls = .type "tuple" ∧ ∃ vs n, o.data = .seq vs n ∧ ds.length ≤ cap ∧ Reps w g ds vs.toList
  | .lst ds => (o.cls = .type "list" ∧ o.dict = none ∧ o.slots = #[]) ∧ ∃ vs n, o.data = .seq vs n ∧ ds.length ≤ cap ∧ Reps w g ds vs.toList
  | .idict ks ds => (a ≠ sysModules ∧ o.ExactDict) ∧ ∃ es n, o.data = .dict es n ∧ (ks.length ≤ cap ∧ ks.Nodup) ∧ IKeys ks es.toList ∧ Reps w g ds (es.toList.map (·.val))
  | .tdict ks ds => (a ≠ sysModules ∧ o.ExactDict) ∧ ∃ es n, o.data = .dict es n ∧ (ks.length ≤ cap ∧ ks.Nodup) ∧ TKeys w g ks es.toList ∧ Reps w g ds (es.toList.map (·.val))
  | _ => False

variable {w}

noncomputable def Le (g g' : Part) : Prop := ∀ a o, g a = some o → g' a = some o
theorem Le.refl (g : Part) : Le g g := fun _ _ e => e
theorem Le.trans {g₁ g₂ g₃ : Part} (x : Le g₁ g₂) (y : Le g₂ g₃) : Le g₁ g₃ := fun a o e => y a o (x a o e)

theorem KeyAt.mono {g g' : Part} (h : Le g g') {ks : List Scal} {v : Value} : KeyAt g ks v → KeyAt g' ks v := fun ⟨a, o, vs, n, e, q, r⟩ => ⟨a, o, vs, n, e, h _ _ q, r⟩

theorem TKeys.mono {g g' : Part} (h : Le g g') : ∀ {ks : List (List Scal)} {es : List DictEntry}, TKeys w g ks es → TKeys w g' ks es
  | [], _, x => x
  | _ :: _, _, ⟨e, es', q, k, hh, r⟩ => ⟨e, es', q, k.mono h, hh, TKeys.mono h r⟩

mutual
theorem Rep.mono {g g' : Part} (h : Le g g') : ∀ (d : D) {v : Value}, Rep w g d v → Rep w g' d v
  | .none, _, x => x
  | .bool _, _, x => x
  | .int _, _, x => x
  | .str _, _, x => x
  | .tup ds, _, x => by
    simp only [Rep] at x ⊢
    obtain ⟨a, o, vs, n, e, q, c, dd, l, r⟩ := x; exact ⟨a, o, vs, n, e, h _ _ q, c, dd, l, Reps.mono h ds r⟩
  | .lst ds, _, x => by
    simp only [Rep] at x ⊢
    obtain ⟨a, o, vs, n, e, q, c, dd, l, r⟩ := x; exact ⟨a, o, vs, n, e, h _ _ q, c, dd, l, Reps.mono h ds r⟩
  | .idict ks ds, _, x => by
    simp only [Rep] at x ⊢
    obtain ⟨a, o, es, n, e, q, c, dd, l, kk, r⟩ := x; exact ⟨a, o, es, n, e, h _ _ q, c, dd, l, kk, Reps.mono h ds r⟩
  | .tdict ks ds, _, x => by
    simp only [Rep] at x ⊢
    obtain ⟨a, o, es, n, e, q, c, dd, l, kk, r⟩ := x; exact ⟨a, o, es, n, e, h _ _ q, c, dd, l, kk.mono h, Reps.mono h ds r⟩
theorem Reps.mono {g g' : Part} (h : Le g g') : ∀ (ds : List D) {vs : List Value}, Reps w g ds vs → Reps w g' ds vs
  | [], _, x => x
  | d :: ds, _, x => by
    simp only [Reps] at x ⊢
    obtain ⟨v, vs', e, q, r⟩ := x; exact ⟨v, vs', e, Rep.mono h d q, Reps.mono h ds r⟩
end

theorem ORep.mono {g g' : Part} (h : Le g g') {a : Addr} {o : Obj} {d : D} (x : ORep w g a o d) : ORep w g' a o d := by
  cases d <;> simp only [ORep] at x ⊢ <;> first
    | exact x
    | (obtain ⟨c, vs, n, dd, l, r⟩ := x; exact ⟨c, vs, n, dd, l, Reps.mono h _ r⟩)
    | (obtain ⟨c, es, n, dd, l, kk, r⟩ := x; exact ⟨c, es, n, dd, l, kk, Reps.mono h _ r⟩)
    | (obtain ⟨c, es, n, dd, l, kk, r⟩ := x; exact ⟨c, es, n, dd, l, kk.mono h, Reps.mono h _ r⟩)

/-- a composite datum from its object -/
theorem Rep.of_obj {g : Part} {a : Addr} {o : Obj} {d : D} (e : g a = some o) (x : ORep w g a o d) : Rep w g d (.ref a) := by
  cases d <;> simp only [ORep, Rep] at x ⊢ <;> first
    | exact x.elim
    | (obtain ⟨c, vs, n, dd, l, r⟩ := x; exact ⟨a, o, vs, n, rfl, e, c, dd, l, r⟩)
    | (obtain ⟨c, es, n, dd, l, kk, r⟩ := x; exact ⟨a, o, es, n, rfl, e, c, dd, l, kk, r⟩)

/-- the object of a composite datum -/
theorem Rep.obj {g : Part} {d : D} {v : Value} (hd : match d with | .tup _ | .lst _ | .idict _ _ | .tdict _ _ => True | _ => False) (x : Rep w g d v) : ∃ a o, v = .ref a ∧ g a = some o ∧ ORep w g a o d := by
  cases d <;> simp only [ORep, Rep] at x hd ⊢ <;> first
    | exact hd.elim
    | (obtain ⟨a, o, vs, n, e, q, c, dd, l, r⟩ := x; exact ⟨a, o, e, q, c, vs, n, dd, l, r⟩)
    | (obtain ⟨a, o, es, n, e, q, c, dd, l, kk, r⟩ := x; exact ⟨a, o, e, q, c, es, n, dd, l, kk, r⟩)

theorem Reps.length {g : Part} : ∀ {ds : List D} {vs : List Value}, Reps w g ds vs → vs.length = ds.length
  | [], _, x => by simp only [Reps] at x; subst x; rfl
  | _ :: _, _, x => by
    simp only [Reps] at x
    obtain ⟨v, vs', rfl, _, r⟩ := x; simp [Reps.length r]

theorem Reps.get {g : Part} : ∀ {ds : List D} {vs : List Value} {i : Nat} {d : D}, Reps w g ds vs → ds[i]? = some d → ∃ v, vs[i]? = some v ∧ Rep w g d v
  | [], _, _, _, _, e => by simp at e
  | d :: ds, _, i, d', x, e => by
    simp only [Reps] at x
    obtain ⟨v, vs', rfl, q, r⟩ := x
    cases i with
    | zero => simp at e; subst e; exact ⟨v, by simp, q⟩
    | succ j => simp at e; obtain ⟨v', h1, h2⟩ := Reps.get r e; exact ⟨v', by simpa using h1, h2⟩

theorem Reps.append {g : Part} : ∀ {ds : List D} {vs : List Value} {ds' : List D} {vs' : List Value}, Reps w g ds vs → Reps w g ds' vs' → Reps w g (ds ++ ds') (vs ++ vs')
  | [], _, _, _, x, y => by simp only [Reps] at x; subst x; exact y
  | _ :: _, _, _, _, x, y => by
    simp only [Reps, List.cons_append] at x ⊢
    obtain ⟨v, vs', rfl, q, r⟩ := x
    exact ⟨v, vs' ++ _, rfl, q, Reps.append r y⟩

theorem Reps.single {g : Part} {d : D} {v : Value} (x : Rep w g d v) : Reps w g [d] [v] := by
  simp only [Reps]; exact ⟨v, [], rfl, x, rfl⟩

theorem Reps.take {g : Part} : ∀ {ds : List D} {vs : List Value} (n : Nat), Reps w g ds vs → Reps w g (ds.take n) (vs.take n)
  | [], _, n, x => by simp only [Reps] at x; subst x; simp [Reps]
  | _ :: _, _, 0, x => by simp [Reps]
  | _ :: _, _, n + 1, x => by
    simp only [Reps] at x
    obtain ⟨v, vs', rfl, q, r⟩ := x
    simp only [List.take_succ_cons, Reps]
    exact ⟨v, _, rfl, q, Reps.take n r⟩
theorem Reps.drop {g : Part} : ∀ {ds : List D} {vs : List Value} (n : Nat), Reps w g ds vs → Reps w g (ds.drop n) (vs.drop n)
  | [], _, n, x => by simp only [Reps] at x; subst x; simp [Reps]
  | _ :: _, _, 0, x => by simpa using x
  | _ :: _, _, n + 1, x => by
    simp only [Reps] at x
    obtain ⟨v, vs', rfl, q, r⟩ := x
    simpa using Reps.drop n r

end

/-! ## Heaps: what is frozen, what may still be written -/
noncomputable def Fz (own : List Addr) (h : Heap) : Part := fun a => if a ∈ own then none else h.get? a
theorem Fz.get {own : List Addr} {h : Heap} {a : Addr} {o : Obj} (e : Fz own h a = some o) : a ∉ own ∧ h.get? a = some o := by
  unfold Fz at e; split at e
  · cases e
  · rename_i q; exact ⟨q, e⟩
theorem Fz.of {own : List Addr} {h : Heap} {a : Addr} {o : Obj} (q : a ∉ own) (e : h.get? a = some o) : Fz own h a = some o := by
  unfold Fz; rw [if_neg q]; exact e
theorem Fz.le (own : List Addr) (h : Heap) : Le (Fz own h) h.get? := fun _ _ e => (Fz.get e).2

/-- nothing that lay is changed -/
noncomputable def Ext (h h' : Heap) : Prop := ∀ a o, h.get? a = some o → h'.get? a = some o
theorem Ext.refl (h : Heap) : Ext h h := fun _ _ e => e
theorem Ext.trans {h₁ h₂ h₃ : Heap} (x : Ext h₁ h₂) (y : Ext h₂ h₃) : Ext h₁ h₃ := fun a o e => y a o (x a o e)
theorem Ext.push (h : Heap) (o : Obj) : Ext h (h.push o) := fun _ _ e => Heap.get?_push_of_some _ e
theorem Ext.none {h h' : Heap} (x : Ext h h') {a : Addr} (e : h'.get? a = none) : h.get? a = none := by
  cases q : h.get? a with
  | none => rfl
  | some o => rw [x a o q] at e; cases e
theorem Ext.some {h h' : Heap} (x : Ext h h') {a : Addr} (e : (h.get? a).isSome = true) : (h'.get? a).isSome = true := by
  obtain ⟨o, q⟩ := Option.isSome_iff_exists.mp e; rw [x a o q]; rfl
theorem get_size (h : Heap) : h.get? h.objs.size = .none := by
  cases q : h.get? h.objs.size with
  | none => rfl
  | some o => exact absurd (Heap.lt_size q) (Nat.lt_irrefl _)
theorem Ext.fz {own : List Addr} {h h' : Heap} (x : Ext h h') : Le (Fz own h) (Fz own h') := fun a o e => Fz.of (Fz.get e).1 (x a o (Fz.get e).2)
/-- what is new may be taken as one's own -/
theorem Ext.fzNew {own own' : List Addr} {h h' : Heap} (x : Ext h h') (hn : ∀ a ∈ own', a ∈ own ∨ h.get? a = .none) : Le (Fz own h) (Fz own' h') := fun a o e => by
  have q := Fz.get e
  refine Fz.of (fun hm => ?_) (x a o q.2)
  rcases hn a hm with h1 | h1
  · exact q.1 h1
  · rw [h1] at q; exact absurd q.2 (by simp)
theorem Fz.fewer {own own' : List Addr} {h : Heap} (hs : ∀ a ∈ own', a ∈ own) : Le (Fz own h) (Fz own' h) := fun a o e => Fz.of (fun hm => (Fz.get e).1 (hs a hm)) (Fz.get e).2

end Mine
end
section
open PySem PySem.W PyProof.Rows
namespace Mine

/-! a list, an int, a bool -/
noncomputable def lsB : (d : D) → { o : Option (List D) // ∀ ds, o = some ds → d = .lst ds }
  | .lst ds => ⟨some ds, fun y h => by cases h; rfl⟩
  | _ => ⟨none, fun _ h => (nomatch h)⟩
noncomputable def lsOf (d : D) : Option (List D) := (lsB d).1
theorem lsOf_some {d : D} {ds : List D} (h : lsOf d = some ds) : d = .lst ds := (lsB d).2 ds h
noncomputable def itB : (d : D) → { o : Option Int // ∀ i, o = some i → d = .int i }
  | .int i => ⟨some i, fun y h => by cases h; rfl⟩
  | _ => ⟨none, fun _ h => (nomatch h)⟩
noncomputable def itOf (d : D) : Option Int := (itB d).1
theorem itOf_some {d : D} {i : Int} (h : itOf d = some i) : d = .int i := (itB d).2 i h
noncomputable def blB : (d : D) → { o : Option Bool // ∀ b, o = some b → d = .bool b }
  | .bool b => ⟨some b, fun y h => by cases h; rfl⟩
  | _ => ⟨none, fun _ h => (nomatch h)⟩
noncomputable def blOf (d : D) : Option Bool := (blB d).1
theorem blOf_some {d : D} {b : Bool} (h : blOf d = some b) : d = .bool b := (blB d).2 b h
theorem lsOf_lst (ds : List D) : lsOf (.lst ds) = some ds := rfl
theorem itOf_int (i : Int) : itOf (.int i) = some i := rfl
theorem blOf_bool (b : Bool) : blOf (.bool b) = some b := rfl

abbrev NoE : Value → Shared → Prop := fun _ _ => False

structure Room (A : Around) (n : Nat) : Prop where
  hd : A.handled = none
  dep : A.depth + n < recursionLimit
  un : A.units + 40 * n + 100 < cLine

theorem Room.deeper {A : Around} {n : Nat} (r : Room A (n + 1)) (env : Env) : Room (A.deeper env) n :=
  ⟨r.hd, by have := r.dep; show A.depth + 1 + n < _; exact om_1 this, by have := r.un; show A.units + 3 + 40 * n + 100 < _; exact om_2 this⟩
theorem Room.less {A : Around} {n m : Nat} (r : Room A n) (h : m ≤ n) : Room A m :=
  ⟨r.hd, by have := r.dep; exact om_3 h this, by have := r.un; exact om_4 h this⟩
theorem Room.units {A : Around} {n : Nat} (r : Room A n) : A.units < cLine := by have := r.un; exact om_5 this
theorem Room.units1 {A : Around} {n : Nat} (r : Room A n) : A.in1.units < cLine := by have := r.un; show A.units + 1 < _; exact om_6 this
theorem Room.units2 {A : Around} {n : Nat} (r : Room A n) : A.units + 2 < cLine := by have := r.un; exact om_7 this
theorem Room.depth {A : Around} {n : Nat} (r : Room A n) : A.depth < recursionLimit := by have := r.dep; exact om_8 this

/-- the built-ins' names that a text may use -/
noncomputable def biN (x : Str) : Bool := decide (x ∈ (["len", "sum", "sorted", "max", "min", "list", "range", "enumerate", "isinstance", "tuple"] : List Str))
/-- what the text's top has left, in the heap at the law's call -/
structure Base (G : Str → Option Value) (hb : Heap) : Prop where
  g : hb.Ns mainGlobals G
  b : ∃ mb, hb.Ns builtinsNs mb ∧ ∀ x : Str, x ≠ "__name__" → mb x = bootBuiltins x
  nolimit : hb.NoLimit
  free : ∀ x : Str, biN x = true → G x = none

noncomputable def isV (k : Option NameKind) : Bool := k == some .local || k == some .cell || k == some .free
theorem isV_cases {k : Option NameKind} (h : isV k = true) : k = some .local ∨ k = some .cell ∨ k = some .free := by
  unfold isV at h; simpa [or_assoc] using h

structure EnvOk (env : Env) (own : List Addr) (vm : Str → Option Value) (h : Heap) : Prop where
  fn : env.scope.kind = .function
  gl : env.globals = mainGlobals
  bl : env.builtins = builtinsNs
  locIn : env.locals ∈ own
  loc : ∃ m, h.Ns env.locals m ∧ ∀ x, env.kindOf x = some .local → m x = vm x
  cel : ∀ x, (env.kindOf x = some .cell ∨ env.kindOf x = some .free) → ∃ c, env.cells.lookup x = some c ∧ c ∈ own ∧ c ≠ env.locals ∧ h.IsCell c (vm x)
  inj : ∀ x y c, env.cells.lookup x = some c → env.cells.lookup y = some c → x = y
  celIn : ∀ y c, env.cells.lookup y = some c → c ∈ own
  celK : ∀ y c, env.cells.lookup y = some c → env.kindOf y = some .cell ∨ env.kindOf y = some .free

theorem ns_at {h h' : Heap} {a : Addr} {m} (hn : h.Ns a m) (e : ∀ o, h.get? a = some o → h'.get? a = some o) : h'.Ns a m :=
  let ⟨o, es, ep, x, r⟩ := hn; ⟨o, es, ep, e _ x, r⟩
theorem cell_at {h h' : Heap} {c : Addr} {v} (x : h.IsCell c v) (e : ∀ o, h.get? c = some o → h'.get? c = some o) : h'.IsCell c v :=
  let ⟨o, ho, hd⟩ := x; ⟨o, e _ ho, hd⟩

theorem EnvOk.keep {env : Env} {own own' : List Addr} {vm} {h h' : Heap} (x : EnvOk env own vm h) (hs : ∀ a ∈ own, a = env.locals ∨ (∃ y, env.cells.lookup y = some a) → a ∈ own')
    (e : ∀ a, a = env.locals ∨ (∃ y, env.cells.lookup y = some a) → ∀ o, h.get? a = some o → h'.get? a = some o) : EnvOk env own' vm h' where
  fn := x.fn
  gl := x.gl
  bl := x.bl
  locIn := hs _ x.locIn (.inl rfl)
  loc := let ⟨m, hn, hm⟩ := x.loc; ⟨m, ns_at hn (e _ (.inl rfl)), hm⟩
  cel := fun y hy => let ⟨c, h1, h2, h3, h4⟩ := x.cel y hy; ⟨c, h1, hs _ h2 (.inr ⟨y, h1⟩), h3, cell_at h4 (e _ (.inr ⟨y, h1⟩))⟩
  inj := x.inj
  celIn := fun y c q => hs _ (x.celIn y c q) (.inr ⟨y, q⟩)
  celK := x.celK
theorem EnvOk.ext {env : Env} {own : List Addr} {vm} {h h' : Heap} (x : EnvOk env own vm h) (e : Ext h h') : EnvOk env own vm h' :=
  x.keep (fun _ q _ => q) fun a _ o q => e a o q

noncomputable def okName (x : Str) : Bool := !(x == ("__debug__" : Str)) && !(x == ("__classdict__" : Str))

section
variable {M : Model} {A : Around} {E : Value → Shared → Prop} {s : Shared} {env : Env} {own : List Addr} {vm : Str → Option Value}

theorem EnvOk.load {x : Str} {v : Value} {Q : Value → Shared → Prop} (e : EnvOk env own vm s.heap) (hk : isV (env.kindOf x) = true) (hn : okName x = true) (hv : vm x = some v) (h : Q v s) :
    wpAny M A (loadName env x) Q E s := by
  simp only [okName, Bool.and_eq_true, Bool.not_eq_true'] at hn
  rcases isV_cases hk with k | k | k
  · obtain ⟨m, hm, he⟩ := e.loc
    exact wpAny_loadName_local e.fn k hm ((he x k).trans hv) h
  · obtain ⟨c, h1, _, _, h4⟩ := e.cel x (.inl k)
    exact wpAny_loadName_cell e.fn k h1 (hv ▸ h4) h
  · obtain ⟨c, h1, _, _, h4⟩ := e.cel x (.inr k)
    exact wpAny_loadName_free e.fn k h1 (hv ▸ h4) h hn.2

theorem EnvOk.name {x : Str} {pos : Pos} {v : Value} {Q : Value → Shared → Prop} (e : EnvOk env own vm s.heap) (hk : isV (env.kindOf x) = true) (hn : okName x = true) (hv : vm x = some v) (h : Q v s) :
    wpAny M A (eval (.Name x pos) env) Q E s :=
  wpAny_Name (e.load hk hn hv h) (by simp only [okName, Bool.and_eq_true, Bool.not_eq_true'] at hn; exact hn.1)

/-- the place of a variable -/
noncomputable def isPlace (env : Env) (a : Addr) : Prop := a = env.locals ∨ ∃ y, env.cells.lookup y = some a

theorem EnvOk.store {x : Str} {v : Value} {Q : Unit → Shared → Prop} (e : EnvOk env own vm s.heap) (hk : env.kindOf x = some .local ∨ env.kindOf x = some .cell)
    (h : ∀ h' tk p, (p = env.locals ∨ env.cells.lookup x = some p) → p ∈ own → (h'.get? p).isSome = true → EnvOk env own (fun y => if y = x then some v else vm y) h' → Heap.SameBut p s.heap h' → Q () { s with heap := h', toks := tk }) :
    wpAny M A (storeName env x v) Q E s := by
  rcases hk with k | k
  · obtain ⟨m, hm, he⟩ := e.loc
    refine wpAny_storeName_local k hm (fun h' hn hs => h h' _ env.locals (.inl rfl) e.locIn (let ⟨o, _, _, q, _⟩ := hn; by rw [q]; rfl) ⟨e.fn, e.gl, e.bl, e.locIn, ⟨_, hn, fun y hy => ?_⟩, fun y hy => ?_, e.inj, e.celIn, e.celK⟩ hs) (by rw [e.fn]; rfl)
    · by_cases q : y = x
      · simp [q]
      · simp [q, he y hy]
    · obtain ⟨c, h1, h2, h3, h4⟩ := e.cel y hy
      have q : y ≠ x := fun q => by subst q; rw [k] at hy; rcases hy with hy | hy <;> cases hy
      exact ⟨c, h1, h2, h3, by rw [if_neg q]; exact h4.sameBut hs h3⟩
  · obtain ⟨c, h1, h2, h3, h4⟩ := e.cel x (.inl k)
    refine wpAny_storeName_cell e.fn k h1 h4 fun h' hc hs => h h' _ c (.inr h1) h2 (let ⟨o, q, _⟩ := hc; by rw [q]; rfl) ⟨e.fn, e.gl, e.bl, e.locIn, ?_, fun y hy => ?_, e.inj, e.celIn, e.celK⟩ hs
    · obtain ⟨m, hm, he⟩ := e.loc
      refine ⟨m, hm.sameBut hs (Ne.symm h3), fun y hy => ?_⟩
      have q : y ≠ x := fun q => by subst q; rw [k] at hy; cases hy
      rw [if_neg q, he y hy]
    · by_cases q : y = x
      · subst q; exact ⟨c, h1, h2, h3, by simpa using hc⟩
      · obtain ⟨c', g1, g2, g3, g4⟩ := e.cel y hy
        exact ⟨c', g1, g2, g3, by rw [if_neg q]; exact g4.sameBut hs fun r => q (e.inj y x c (r ▸ g1) h1)⟩
end

/-! ## A frame's variables against plain data -/
inductive Bd where
  | frz (d : D)
  | own (d : D)
abbrev Rho := Str → Option Bd

section
variable (w : World) (G : Str → Option Value) (hb : Heap)

noncomputable def BdOk (own : List Addr) (ov : List (Str × Addr)) (h : Heap) (x : Str) (v : Value) : Bd → Prop
  | .frz d => Rep w (Fz own h) d v
  | .own d => ∃ a o, v = .ref a ∧ ov.lookup x = some a ∧ h.get? a = some o ∧ ORep w (Fz own h) a o d

structure SimV (κ : Str → Option NameKind) (env : Env) (own : List Addr) (ov : List (Str × Addr)) (ρ : Rho) (vm : Str → Option Value) (h : Heap) : Prop where
  eo : EnvOk env own vm h
  kap : ∀ x, env.kindOf x = κ x
  bas : Base G hb
  ext : Ext hb h
  high : ∀ a ∈ own, hb.get? a = none
  lt : ∀ a ∈ own, (h.get? a).isSome = true
  vars : ∀ x b, ρ x = some b → isV (κ x) = true ∧ ∃ v, vm x = some v ∧ BdOk w own ov h x v b
  ovIn : ∀ p ∈ ov, p.2 ∈ own ∧ ¬ isPlace env p.2
  ovInj : (ov.map (·.2)).Nodup

noncomputable def Sim (κ : Str → Option NameKind) (env : Env) (own : List Addr) (ov : List (Str × Addr)) (ρ : Rho) (h : Heap) : Prop := ∃ vm, SimV w G hb κ env own ov ρ vm h
end

section
variable {w : World} {G : Str → Option Value} {hb : Heap} {κ : Str → Option NameKind} {env : Env} {own : List Addr} {ov : List (Str × Addr)} {ρ : Rho} {h h' : Heap}

theorem BdOk.ext {x : Str} {v : Value} {b : Bd} (e : Ext h h') (y : BdOk w own ov h x v b) : BdOk w own ov h' x v b := by
  cases b with
  | frz d => exact Rep.mono e.fz d y
  | own d => obtain ⟨a, o, h1, h2, h3, h4⟩ := y; exact ⟨a, o, h1, h2, e _ _ h3, h4.mono e.fz⟩

theorem Sim.ext (x : Sim w G hb κ env own ov ρ h) (e : Ext h h') : Sim w G hb κ env own ov ρ h' :=
  let ⟨vm, x⟩ := x
  ⟨vm, x.eo.ext e, x.kap, x.bas, x.ext.trans e, x.high, fun a ha => e.some (x.lt a ha),
    fun y b hy => let ⟨k, v, h1, h2⟩ := x.vars y b hy; ⟨k, v, h1, h2.ext e⟩, x.ovIn, x.ovInj⟩

theorem BdOk.more {own' : List Addr} {x : Str} {v : Value} {b : Bd} (e : Ext h h') (hn : ∀ a ∈ own', a ∈ own ∨ h.get? a = none) (y : BdOk w own ov h x v b) : BdOk w own' ov h' x v b := by
  cases b with
  | frz d => exact Rep.mono (e.fzNew hn) d y
  | own d => obtain ⟨a, o, h1, h2, h3, h4⟩ := y; exact ⟨a, o, h1, h2, e _ _ h3, h4.mono (e.fzNew hn)⟩

/-- more that is one's own, new since h -/
theorem Sim.more {new : List Addr} (x : Sim w G hb κ env own ov ρ h) (e : Ext h h') (hn : ∀ a ∈ new, h.get? a = none ∧ (h'.get? a).isSome = true) : Sim w G hb κ env (new ++ own) ov ρ h' :=
  let ⟨vm, x⟩ := x
  ⟨vm, x.eo.keep (fun a ha _ => List.mem_append_right _ ha) (fun a _ o q => e a o q), x.kap, x.bas, x.ext.trans e,
    fun a ha => (List.mem_append.mp ha).elim (fun q => x.ext.none (hn a q).1) (x.high a),
    fun a ha => (List.mem_append.mp ha).elim (fun q => (hn a q).2) fun q => e.some (x.lt a q),
    fun y b hy => let ⟨k, v, h1, h2⟩ := x.vars y b hy; ⟨k, v, h1, h2.more e fun a ha => (List.mem_append.mp ha).elim (fun q => .inr (hn a q).1) .inl⟩,
    fun p hp => ⟨List.mem_append_right _ (x.ovIn p hp).1, (x.ovIn p hp).2⟩, x.ovInj⟩
end

/-! ## Values that an expression gives -/
inductive Fl where
  | fresh
  | frozen
  | loose
  deriving DecidableEq

noncomputable def VRep (w : World) (own : List Addr) (h₀ h : Heap) : Fl → D → Value → Prop
  | .frozen, d, v => Rep w (Fz own h) d v
  | .loose, d, v => ∃ a o, v = .ref a ∧ h.get? a = some o ∧ ORep w (Fz own h) a o d
  | .fresh, d, v => ∃ a o, v = .ref a ∧ h₀.get? a = none ∧ h.get? a = some o ∧ ORep w (Fz (a :: own) h) a o d

section
variable {w : World} {own : List Addr} {h₀ h h' : Heap} {fl : Fl} {d : D} {v : Value}

theorem VRep.ext (e : Ext h h') (x : VRep w own h₀ h fl d v) : VRep w own h₀ h' fl d v := by
  cases fl with
  | frozen => exact Rep.mono e.fz d x
  | loose => obtain ⟨a, o, h1, h2, h3⟩ := x; exact ⟨a, o, h1, e _ _ h2, h3.mono e.fz⟩
  | fresh => obtain ⟨a, o, h1, h2, h3, h4⟩ := x; exact ⟨a, o, h1, h2, e _ _ h3, h4.mono e.fz⟩

theorem VRep.any (x : VRep w own h₀ h fl d v) : Rep w h.get? d v := by
  cases fl with
  | frozen => exact Rep.mono (Fz.le _ _) d x
  | loose => obtain ⟨a, o, rfl, h2, h3⟩ := x; exact Rep.of_obj h2 (h3.mono (Fz.le _ _))
  | fresh => obtain ⟨a, o, rfl, h2, h3, h4⟩ := x; exact Rep.of_obj h3 (h4.mono (Fz.le _ _))

theorem VRep.frz (hf : fl ≠ .loose) (hlt : ∀ a ∈ own, (h₀.get? a).isSome = true) (x : VRep w own h₀ h fl d v) : Rep w (Fz own h) d v := by
  cases fl with
  | frozen => exact x
  | loose => exact absurd rfl hf
  | fresh =>
    obtain ⟨a, o, rfl, h2, h3, h4⟩ := x
    exact Rep.of_obj (Fz.of (fun q => by have := hlt a q; rw [h2] at this; cases this) h3) (h4.mono (Fz.fewer fun b hb => List.mem_cons_of_mem _ hb))
end

/-- e gives what f says, whatever the frame -/
noncomputable def Ev (prog : Program) (w : World) (G : Str → Option Value) (hb : Heap) (n : Nat) (κ : Str → Option NameKind) (e : Expr) (f : Rho → Option (Fl × D)) : Prop :=
  ∀ (A : Around) (env : Env) (own : List Addr) (ov : List (Str × Addr)) (ρ : Rho) (s : Shared) (fl : Fl) (d : D), Room A n → Sim w G hb κ env own ov ρ s.heap → f ρ = some (fl, d) →
    ∀ Q : Value → Shared → Prop, (∀ v h' tk, Ext s.heap h' → VRep w own s.heap h' fl d v → Q v { s with heap := h', toks := tk }) → wpAny (model prog w) A (eval e env) Q NoE s

/-- e's truth -/
noncomputable def EvB (prog : Program) (w : World) (G : Str → Option Value) (hb : Heap) (n : Nat) (κ : Str → Option NameKind) (e : Expr) (f : Rho → Option Bool) : Prop :=
  ∀ (A : Around) (env : Env) (own : List Addr) (ov : List (Str × Addr)) (ρ : Rho) (s : Shared) (b : Bool), Room A n → Sim w G hb κ env own ov ρ s.heap → f ρ = some b →
    ∀ Q : Bool → Shared → Prop, (∀ h' tk, Ext s.heap h' → Q b { s with heap := h', toks := tk }) → wpAny (model prog w) A (isTrue e env (eval e env)) Q NoE s

end Mine
end
section
open PySem PySem.W PyProof.Rows PySem.Spec
namespace Mine

/-! ## Data that compare: ints, None, tuples and lists of such -/
mutual
noncomputable def okPy : Nat → D → Bool
  | _, .none => true
  | _, .int _ => true
  | n + 1, .tup ds => okPys n ds
  | n + 1, .lst ds => okPys n ds
  | _, _ => false
noncomputable def okPys : Nat → List D → Bool
  | _, [] => true
  | n, d :: ds => okPy n d && okPys n ds
end
mutual
noncomputable def pyOf : D → PyData
  | .int i => .int i
  | .tup ds => .tuple (pyOfs ds)
  | .lst ds => .list (pyOfs ds)
  | _ => .none
noncomputable def pyOfs : List D → List PyData
  | [] => []
  | d :: ds => pyOf d :: pyOfs ds
end
/-- equal as Python says -/
noncomputable def eqD (d e : D) : Bool := PyData.eqv (pyOf d) (pyOf e)
noncomputable def eqDs (ds es : List D) : Bool := PyData.eqvAll (pyOfs ds) (pyOfs es)
theorem eqD_int (i j : Int) : eqD (.int i) (.int j) = decide (i = j) := by
  unfold eqD
  simp only [pyOf, PyData.eqv]
  first | rfl | (by_cases q : i = j <;> simp [q])
theorem eqD_tup (ds es : List D) : eqD (.tup ds) (.tup es) = eqDs ds es := by unfold eqD eqDs; simp only [pyOf, PyData.eqv]
theorem eqD_lst (ds es : List D) : eqD (.lst ds) (.lst es) = eqDs ds es := by unfold eqD eqDs; simp only [pyOf, PyData.eqv]
theorem eqDs_nil : eqDs [] [] = true := by unfold eqDs; simp only [pyOfs, PyData.eqvAll]
theorem eqDs_nc (d : D) (ds : List D) : eqDs [] (d :: ds) = false := by unfold eqDs; simp only [pyOfs, PyData.eqvAll]
theorem eqDs_cn (d : D) (ds : List D) : eqDs (d :: ds) [] = false := by unfold eqDs; simp only [pyOfs, PyData.eqvAll]
theorem eqDs_cons (d e : D) (ds es : List D) : eqDs (d :: ds) (e :: es) = (eqD d e && eqDs ds es) := by unfold eqDs eqD; simp only [pyOfs, PyData.eqvAll]

theorem okPy_tup {n : Nat} {ds : List D} (h : okPy n (.tup ds) = true) : ∃ m, n = m + 1 ∧ okPys m ds = true := by
  cases n with
  | zero => simp [okPy] at h
  | succ m => exact ⟨m, rfl, by simpa [okPy] using h⟩
theorem okPy_lst {n : Nat} {ds : List D} (h : okPy n (.lst ds) = true) : ∃ m, n = m + 1 ∧ okPys m ds = true := by
  cases n with
  | zero => simp [okPy] at h
  | succ m => exact ⟨m, rfl, by simpa [okPy] using h⟩

mutual
theorem reads_of {w : World} {h : Heap} : ∀ (n : Nat) (d : D) (v : Value), okPy n d = true → Rep w h.get? d v → ∃ as, Reads h v (pyOf d) as
  | _, .none, v, _, x => by simp only [Rep] at x; subst x; exact ⟨_, .none⟩
  | _, .int i, v, _, x => by simp only [Rep] at x; obtain ⟨t, rfl⟩ := x; exact ⟨_, .int i t⟩
  | n, .tup ds, v, ok, x => by
    obtain ⟨m, rfl, ok⟩ := okPy_tup ok
    simp only [Rep] at x
    obtain ⟨a, o, vs, k, rfl, q, c, dd, _, r⟩ := x
    obtain ⟨as, z⟩ := readsAll_of m ds vs.toList ok r
    exact ⟨as, .tuple q c dd z⟩
  | n, .lst ds, v, ok, x => by
    obtain ⟨m, rfl, ok⟩ := okPy_lst ok
    simp only [Rep] at x
    obtain ⟨a, o, vs, k, rfl, q, c, dd, _, r⟩ := x
    obtain ⟨as, z⟩ := readsAll_of m ds vs.toList ok r
    exact ⟨_, .list q c.1 dd z⟩
  | n, .bool _, _, ok, _ => by cases n <;> simp [okPy] at ok
  | n, .str _, _, ok, _ => by cases n <;> simp [okPy] at ok
  | n, .idict _ _, _, ok, _ => by cases n <;> simp [okPy] at ok
  | n, .tdict _ _, _, ok, _ => by cases n <;> simp [okPy] at ok
theorem readsAll_of {w : World} {h : Heap} : ∀ (n : Nat) (ds : List D) (vs : List Value), okPys n ds = true → Reps w h.get? ds vs → ∃ as, ReadsAll h vs (pyOfs ds) as
  | _, [], vs, _, x => by simp only [Reps] at x; subst x; exact ⟨_, .nil⟩
  | n, d :: ds, vs, ok, x => by
    simp only [okPys, Bool.and_eq_true] at ok
    simp only [Reps] at x
    obtain ⟨v, vs', rfl, q, r⟩ := x
    obtain ⟨as, z⟩ := reads_of n d v ok.1 q
    obtain ⟨bs, y⟩ := readsAll_of n ds vs' ok.2 r
    exact ⟨_, .cons z y⟩
end

mutual
theorem lay_of : ∀ (n : Nat) (d : D), okPy n d = true → (pyOf d).canLay0 = true ∧ (pyOf d).depth ≤ n
  | _, .none, _ => by simp [pyOf, PyData.canLay0, PyData.depth]
  | _, .int i, _ => by simp [pyOf, PyData.canLay0, PyData.depth]
  | n, .tup ds, ok => by
    obtain ⟨m, rfl, ok⟩ := okPy_tup ok
    have := layAll_of m ds ok
    simp only [pyOf, PyData.canLay0, PyData.depth, this.1, true_and]
    omega
  | n, .lst ds, ok => by
    obtain ⟨m, rfl, ok⟩ := okPy_lst ok
    have := layAll_of m ds ok
    simp only [pyOf, PyData.canLay0, PyData.depth, this.1, true_and]
    omega
  | n, .bool _, ok => by cases n <;> simp [okPy] at ok
  | n, .str _, ok => by cases n <;> simp [okPy] at ok
  | n, .idict _ _, ok => by cases n <;> simp [okPy] at ok
  | n, .tdict _ _, ok => by cases n <;> simp [okPy] at ok
theorem layAll_of : ∀ (n : Nat) (ds : List D), okPys n ds = true → PyData.canLayAll0 (pyOfs ds) = true ∧ PyData.depthAll (pyOfs ds) ≤ n
  | _, [], _ => by simp [pyOfs, PyData.canLayAll0, PyData.depthAll]
  | n, d :: ds, ok => by
    simp only [okPys, Bool.and_eq_true] at ok
    have h1 := lay_of n d ok.1
    have h2 := layAll_of n ds ok.2
    simp only [pyOfs, PyData.canLayAll0, PyData.depthAll, h1.1, h2.1, Bool.and_self, true_and]
    have a1 := h1.2
    have a2 := h2.2
    exact om_9 a1 a2
end

theorem any_of (d : D) : ∀ (ds : List D), ((pyOfs ds).any fun y => PyData.eqv y (pyOf d)) = ds.any fun y => eqD y d
  | [] => rfl
  | e :: ds => by
    simp only [pyOfs, List.any_cons, any_of d ds]
    rfl

section
variable {prog : Program} {w : World} {A : Around} {E : Value → Shared → Prop} {s : Shared} {n : Nat}

theorem op_eq {d e : D} {v u : Value} {Q : Value → Shared → Prop} (r : Room A n) (hd : okPy 8 d = true) (he : okPy 8 e = true) (x : Rep w s.heap.get? d v) (y : Rep w s.heap.get? e u)
    (h : Q (.bool (eqD d e)) s) : wpAny (model prog w) A (compareOp .Eq v u) Q E s := by
  obtain ⟨as, ra⟩ := reads_of 8 d v hd x
  obtain ⟨bs, rb⟩ := reads_of 8 e u he y
  have l1 := lay_of 8 d hd
  have l2 := lay_of 8 e he
  refine eq_dataH ra rb ?_ ?_ (by have := r.un; exact om_10 this) h
  · unfold SeqAt.shaped; rw [l1.1, Bool.true_and]; exact decide_eq_true (Nat.le_trans l1.2 (by decide))
  · unfold SeqAt.shaped; rw [l2.1, Bool.true_and]; exact decide_eq_true (Nat.le_trans l2.2 (by decide))
theorem op_ne {d e : D} {v u : Value} {Q : Value → Shared → Prop} (r : Room A n) (hd : okPy 8 d = true) (he : okPy 8 e = true) (x : Rep w s.heap.get? d v) (y : Rep w s.heap.get? e u)
    (h : Q (.bool (!eqD d e)) s) : wpAny (model prog w) A (compareOp .NotEq v u) Q E s := by
  obtain ⟨as, ra⟩ := reads_of 8 d v hd x
  obtain ⟨bs, rb⟩ := reads_of 8 e u he y
  have l1 := lay_of 8 d hd
  have l2 := lay_of 8 e he
  refine ne_dataH ra rb ?_ ?_ (by have := r.un; exact om_10 this) h
  · unfold SeqAt.shaped; rw [l1.1, Bool.true_and]; exact decide_eq_true (Nat.le_trans l1.2 (by decide))
  · unfold SeqAt.shaped; rw [l2.1, Bool.true_and]; exact decide_eq_true (Nat.le_trans l2.2 (by decide))

theorem op_inList {ds : List D} {e : D} {v u : Value} {Q : Value → Shared → Prop} (r : Room A n) (hd : okPys 8 ds = true) (he : okPy 8 e = true) (x : Rep w s.heap.get? (.lst ds) v) (y : Rep w s.heap.get? e u)
    (h : Q (.bool (ds.any fun y => eqD y e)) s) : wpAny (model prog w) A (compareOp .In u v) Q E s := by
  obtain ⟨as, ra⟩ := reads_of 9 (.lst ds) v (by simpa [okPy] using hd) x
  obtain ⟨bs, rb⟩ := reads_of 8 e u he y
  have l1 := layAll_of 8 ds hd
  have l2 := lay_of 8 e he
  rw [pyOf] at ra
  refine SeqAt.in_list_reads ra rb l1.1 l2.1 (by have := r.un; have := l1.2; omega) (by rw [any_of e ds]; exact h)
end

end Mine
end
section
open PySem PySem.W PyProof.Rows PySem.Spec
namespace Mine

/-! ## Association lists, keys and values apart -/
section
variable {K α β : Type} [DecidableEq K]
noncomputable def getK : List K → List α → K → Option α
  | k :: ks, d :: ds, x => if k = x then some d else getK ks ds x
  | _, _, _ => none
noncomputable def setK : List K → List α → K → α → List α
  | k :: ks, d :: ds, x, v => (if k = x then v else d) :: setK ks ds x v
  | _, ds, _, _ => ds
theorem getK_cons (k : K) (ks : List K) (d : α) (ds : List α) (x : K) : getK (k :: ks) (d :: ds) x = if k = x then some d else getK ks ds x := rfl
theorem getK_nl (ds : List α) (x : K) : getK [] ds x = none := rfl
theorem getK_ln (k : K) (ks : List K) (x : K) : getK (k :: ks) ([] : List α) x = none := rfl
theorem setK_cons (k : K) (ks : List K) (d : α) (ds : List α) (x : K) (v : α) : setK (k :: ks) (d :: ds) x v = (if k = x then v else d) :: setK ks ds x v := rfl
theorem setK_nl (ds : List α) (x : K) (v : α) : setK [] ds x v = ds := rfl
theorem setK_ln (k : K) (ks : List K) (x : K) (v : α) : setK (k :: ks) ([] : List α) x v = [] := rfl
noncomputable def putK (ks : List K) (ds : List α) (x : K) (v : α) : List K × List α :=
  if x ∈ ks then (ks, setK ks ds x v) else (ks ++ [x], ds ++ [v])

theorem setK_not {ks : List K} {ds : List α} {x : K} {v : α} (h : x ∉ ks) : setK ks ds x v = ds := by
  induction ks generalizing ds with
  | nil => cases ds <;> rfl
  | cons k ks ih =>
    cases ds with
    | nil => rfl
    | cons d ds =>
      simp only [List.mem_cons, not_or] at h
      simp only [Mine.setK_cons, Mine.setK_nl, Mine.setK_ln, if_neg (Ne.symm h.1), ih h.2]
theorem setK_length {ks : List K} {ds : List α} {x : K} {v : α} : (setK ks ds x v).length = ds.length := by
  induction ks generalizing ds with
  | nil => cases ds <;> rfl
  | cons k ks ih => cases ds with
    | nil => rfl
    | cons d ds => simp [Mine.setK_cons, Mine.setK_nl, Mine.setK_ln, ih]
theorem getK_none {ks : List K} {ds : List α} {x : K} (hl : ks.length = ds.length) : getK ks ds x = none ↔ x ∉ ks := by
  induction ks generalizing ds with
  | nil => cases ds <;> simp [Mine.getK_cons, Mine.getK_nl, Mine.getK_ln]
  | cons k ks ih => cases ds with
    | nil => simp at hl
    | cons d ds =>
      simp only [Mine.getK_cons, Mine.getK_nl, Mine.getK_ln, List.mem_cons, not_or]
      by_cases q : k = x
      · simp [q]
      · simp [q, ih (by simpa using hl), Ne.symm q]
theorem getK_isSome {ks : List K} {ds : List α} {x : K} (hl : ks.length = ds.length) : (getK ks ds x).isSome = true ↔ x ∈ ks := by
  by_cases q : x ∈ ks
  · cases e : getK ks ds x with
    | none => exact absurd q ((getK_none hl).mp e)
    | some _ => simp [q]
  · rw [(getK_none hl).mpr q]; simp [q]
end

section
variable {w : World}
theorem Reps.getK {K : Type} [DecidableEq K] {g : Part} : ∀ {ks : List K} {ds : List D} {vs : List Value} {x : K} {d : D}, Reps w g ds vs → Mine.getK ks ds x = some d → ∃ v, Mine.getK ks vs x = some v ∧ Rep w g d v
  | [], _, _, _, _, _, e => by cases e
  | _ :: _, [], _, _, _, _, e => by simp [Mine.getK_cons, Mine.getK_nl, Mine.getK_ln] at e
  | k :: ks, d :: ds, vs, x, d', r, e => by
    simp only [Reps] at r
    obtain ⟨v, vs', rfl, q, r⟩ := r
    simp only [Mine.getK_cons, Mine.getK_nl, Mine.getK_ln] at e ⊢
    split at e
    · rename_i h; cases e; rw [if_pos h]; exact ⟨v, rfl, q⟩
    · rename_i h; rw [if_neg h]; exact Reps.getK r e
theorem Reps.setK {K : Type} [DecidableEq K] {g : Part} : ∀ {ks : List K} {ds : List D} {vs : List Value} {x : K} {d : D} {v : Value}, Reps w g ds vs → Rep w g d v → Reps w g (Mine.setK ks ds x d) (Mine.setK ks vs x v)
  | [], _, _, _, _, _, r, _ => by simpa [Mine.setK_cons, Mine.setK_nl, Mine.setK_ln] using r
  | _ :: _, [], _, _, _, _, r, _ => by simp only [Reps] at r; subst r; simp [Mine.setK_cons, Mine.setK_nl, Mine.setK_ln, Reps]
  | k :: ks, d :: ds, vs, x, d', v', r, y => by
    simp only [Reps] at r
    obtain ⟨v, vs', rfl, q, r⟩ := r
    simp only [Mine.setK_cons, Mine.setK_nl, Mine.setK_ln, Reps]
    refine ⟨_, _, rfl, ?_, Reps.setK r y⟩
    split
    · exact y
    · exact q
end

/-! ## Int keys -/
section
variable {prog : Program} {w : World}
theorem IKeys.length : ∀ {ks : List Int} {es : List DictEntry}, IKeys ks es → es.length = ks.length
  | [], _, x => by subst x; rfl
  | _ :: _, _, ⟨_, _, e, _, _, r⟩ => by subst e; simp [IKeys.length r]
theorem IKeys.pairs : ∀ {ks : List Int} {es : List DictEntry}, IKeys ks es → (∀ e ∈ es, ∃ k, (intKind prog w).is k e.key = true ∧ e.hash = (intKind prog w).hash k) ∧ Pairs (intKind prog w) es (ks.zip (es.map (·.val)))
  | [], _, x => by subst x; exact ⟨(fun _ h => nomatch h), Pairs.nil⟩
  | k :: ks, _, ⟨e, es', q, h1, h2, r⟩ => by
    subst q
    have ih := IKeys.pairs r
    refine ⟨fun e' he => ?_, .cons h1 rfl ih.2⟩
    rcases List.mem_cons.mp he with rfl | he
    · exact ⟨k, h1, h2⟩
    · exact ih.1 e' he
theorem IKeys.of_pairs : ∀ {es : List DictEntry} {kvs : List (Int × Value)}, (∀ e ∈ es, ∃ k, (intKind prog w).is k e.key = true ∧ e.hash = (intKind prog w).hash k) → Pairs (intKind prog w) es kvs →
    IKeys (kvs.map (·.1)) es ∧ es.map (·.val) = kvs.map (·.2)
  | _, _, _, .nil => ⟨rfl, rfl⟩
  | e :: es, kv :: kvs, hk, .cons h1 h2 r => by
    have ih := IKeys.of_pairs (fun e' he => hk e' (.tail _ he)) r
    obtain ⟨k, g1, g2⟩ := hk e (.head _)
    have q : kv.1 = k := (intKind prog w).inj _ _ _ h1 g1
    exact ⟨⟨e, es, rfl, h1, by rw [g2, ← q]; rfl, ih.1⟩, by simp [h2, ih.2]⟩

theorem valueAt_getK {K : Type} [DecidableEq K] : ∀ (ks : List K) (vs : List Value) (x : K), valueAt (ks.zip vs) x = getK ks vs x
  | [], _, _ => by simp [valueAt, Mine.getK_cons, Mine.getK_nl, Mine.getK_ln]
  | _ :: _, [], _ => by simp [valueAt, Mine.getK_cons, Mine.getK_nl, Mine.getK_ln]
  | k :: ks, v :: vs, x => by
    have ih := valueAt_getK ks vs x
    simp only [valueAt, Mine.getK_cons, Mine.getK_nl, Mine.getK_ln, List.zip_cons_cons, List.find?_cons] at ih ⊢
    by_cases q : k = x
    · simp [q]
    · simp [q, ih]
theorem any_zip {K : Type} [DecidableEq K] : ∀ (ks : List K) (vs : List Value) (x : K), ks.length = vs.length → ((ks.zip vs).any fun kv => decide (kv.1 = x)) = decide (x ∈ ks)
  | [], _, _, _ => by simp
  | _ :: _, [], _, h => by simp at h
  | k :: ks, v :: vs, x, h => by
    have ih := any_zip ks vs x (by simpa using h)
    simp only [List.zip_cons_cons, List.any_cons, ih, List.mem_cons]
    by_cases q : k = x
    · simp [q]
    · simp [q, Ne.symm q]
theorem map_zip {K : Type} [DecidableEq K] : ∀ (ks : List K) (vs : List Value) (x : K) (v : Value), ks.length = vs.length → (ks.zip vs).map (fun kv => if kv.1 = x then (kv.1, v) else kv) = ks.zip (setK ks vs x v)
  | [], _, _, _, _ => by simp
  | _ :: _, [], _, _, h => by simp at h
  | k :: ks, u :: vs, x, v, h => by
    have ih := map_zip ks vs x v (by simpa using h)
    simp only [List.zip_cons_cons, List.map_cons, Mine.setK_cons, Mine.setK_nl, Mine.setK_ln, ih]
    by_cases q : k = x <;> simp [q]
theorem stored_putK {K : Type} [DecidableEq K] (ks : List K) (vs : List Value) (x : K) (v : Value) (h : ks.length = vs.length) : stored (ks.zip vs) x v = (putK ks vs x v).1.zip (putK ks vs x v).2 := by
  unfold stored putK
  rw [any_zip ks vs x h]
  by_cases q : x ∈ ks
  · simp only [q, decide_true, if_true]; exact map_zip ks vs x v h
  · simp only [q, decide_false, Bool.false_eq_true, if_false]
    rw [List.zip_append h]; rfl
theorem putK_length {K : Type} [DecidableEq K] {ks : List K} {vs : List Value} {x : K} {v : Value} (h : ks.length = vs.length) : (putK ks vs x v).1.length = (putK ks vs x v).2.length := by
  unfold putK; split <;> simp [setK_length, h]
end

/-! ## Keys that are tuples of ints and texts -/
noncomputable def scalKind (prog : Program) (w : World) : KeyKind prog w Scal where
  is := Scal.is
  hash := Scal.hash w
  inj := fun v a b ha hb => by
    cases a <;> cases b
    · simp only [Scal.is] at ha hb; rw [Value.isInt_inj _ _ _ ha hb]
    · simp only [Scal.is] at ha hb
      obtain ⟨t, rfl⟩ := Value.isInt_shape ha
      simp [Value.isStrOf] at hb
    · simp only [Scal.is] at ha hb
      obtain ⟨t, rfl⟩ := Value.isInt_shape hb
      simp [Value.isStrOf] at ha
    · simp only [Scal.is] at ha hb; rw [Value.isStrOf_inj _ _ _ ha hb]
  byValue := fun k v h => by
    cases k
    · exact (intKind prog w).byValue _ _ h
    · exact (strKind prog w).byValue _ _ h
  pyHash := fun {_ _ _ k _ _} hv h => by
    cases k
    · exact (intKind prog w).pyHash hv h
    · exact (strKind prog w).pyHash hv h
  eqBool := fun {_ _ _ a b _ _ _} hu hv h => by
    cases a <;> cases b
    · exact (intKind prog w).eqBool hu hv (by simpa using h)
    · simp only [Scal.is] at hu hv
      obtain ⟨t, rfl⟩ := Value.isInt_shape hu
      obtain ⟨t, rfl⟩ := Value.isStrOf_shape hv
      exact SeqAt.EqAt.int_str _ _ _ _ _ _ _ _ (by simpa using h)
    · simp only [Scal.is] at hu hv
      obtain ⟨t, rfl⟩ := Value.isStrOf_shape hu
      obtain ⟨t, rfl⟩ := Value.isInt_shape hv
      exact SeqAt.EqAt.str_int _ _ _ _ _ _ _ _ (by simpa using h)
    · exact (strKind prog w).eqBool hu hv (by simpa using h)
  «strs» := fun k x t v h => by
    cases k
    · simp [Scal.is, Value.isInt] at h
    · exact (strKind prog w).«strs» _ x t v h

section
variable (prog : Program) (w : World)
noncomputable abbrev tk : HeapKind prog w (List Scal) := tupleKind (scalKind prog w)
variable {prog w}

theorem itemsAre_of : ∀ {ks : List Scal} {vs : List Value}, ScalsAre ks vs → ItemsAre (scalKind prog w) ks vs
  | [], _, x => by subst x; exact .nil
  | _ :: _, _, ⟨_, _, e, h, r⟩ => by subst e; exact .cons h (itemsAre_of r)
theorem KeyAt.is {g : Part} {h : Heap} (hg : Le g h.get?) {ks : List Scal} {v : Value} (x : KeyAt g ks v) : ∃ a, v = .ref a ∧ (tk prog w).is h ks a :=
  let ⟨a, o, vs, n, e, q, c, d, _, r⟩ := x
  ⟨a, e, o, vs, n, hg _ _ q, c, d, itemsAre_of r⟩

theorem TKeys.length {g : Part} : ∀ {ks : List (List Scal)} {es : List DictEntry}, TKeys w g ks es → es.length = ks.length
  | [], _, x => by subst x; rfl
  | _ :: _, _, ⟨_, _, e, _, _, r⟩ => by subst e; simp [TKeys.length r]
theorem TKeys.lib {g : Part} {h : Heap} (hg : Le g h.get?) : ∀ {ks : List (List Scal)} {es : List DictEntry}, TKeys w g ks es →
    ∃ xs : List (List Scal × Addr × Value), es = xs.map (entryOfKey (tk prog w)) ∧ xs.map (·.1) = ks ∧ (∀ x ∈ xs, (tk prog w).is h x.1 x.2.1) ∧ (∀ x ∈ xs, KeyAt g x.1 (.ref x.2.1))
  | [], _, x => ⟨[], x, rfl, (fun _ h => nomatch h), (fun _ h => nomatch h)⟩
  | k :: ks, _, ⟨e, es', q, h1, h2, r⟩ => by
    obtain ⟨xs, e1, e2, e3, e4⟩ := TKeys.lib hg r
    obtain ⟨a, ha, hi⟩ := KeyAt.is (prog := prog) (w := w) hg h1
    obtain ⟨hh, kk, vv⟩ := e
    simp only at ha h2
    subst ha h2
    refine ⟨(k, a, vv) :: xs, by rw [q, e1]; rfl, by simp [e2], fun x hx => ?_, fun x hx => ?_⟩
    · rcases List.mem_cons.mp hx with rfl | hx
      · exact hi
      · exact e3 x hx
    · rcases List.mem_cons.mp hx with rfl | hx
      · exact h1
      · exact e4 x hx
theorem TKeys.of_lib {g : Part} : ∀ (xs : List (List Scal × Addr × Value)), (∀ x ∈ xs, KeyAt g x.1 (.ref x.2.1)) → TKeys w g (xs.map (·.1)) (xs.map (entryOfKey (tk prog w)))
  | [], _ => rfl
  | x :: xs, h => ⟨entryOfKey (tk prog w) x, _, rfl, h x (.head _), rfl, TKeys.of_lib xs fun y hy => h y (.tail _ hy)⟩
theorem vals_lib : ∀ (xs : List (List Scal × Addr × Value)), (xs.map (entryOfKey (tk prog w))).map (·.val) = xs.map (·.2.2)
  | [] => rfl
  | _ :: xs => by simp only [List.map_cons, vals_lib xs]; rfl

theorem atKey_getK : ∀ (xs : List (List Scal × Addr × Value)) (k : List Scal), (atKey xs k).map (·.2) = getK (xs.map (·.1)) (xs.map (·.2.2)) k
  | [], _ => rfl
  | x :: xs, k => by
    have ih := atKey_getK xs k
    simp only [atKey, List.find?_cons, List.map_cons, Mine.getK_cons, Mine.getK_nl, Mine.getK_ln] at ih ⊢
    by_cases q : x.1 = k
    · simp [q]
    · simp [q, ih]
theorem storedH_putK (xs : List (List Scal × Addr × Value)) (k : List Scal) (a : Addr) (v : Value) :
    (storedH xs k a v).map (·.1) = (putK (xs.map (·.1)) (xs.map (·.2.2)) k v).1 ∧ (storedH xs k a v).map (·.2.2) = (putK (xs.map (·.1)) (xs.map (·.2.2)) k v).2 := by
  have hs : (atKey xs k).isSome = true ↔ k ∈ xs.map (·.1) := by
    have h1 := getK_isSome (ks := xs.map (·.1)) (ds := xs.map (·.2.2)) (x := k) (by simp)
    rw [← atKey_getK, Option.isSome_map] at h1
    exact h1
  unfold storedH putK
  by_cases q : k ∈ xs.map (·.1)
  · rw [if_pos (hs.mpr q), if_pos q]
    refine ⟨keys_map_putAt xs k v, ?_⟩
    clear q hs
    simp only
    induction xs with
    | nil => rfl
    | cons x xs ih =>
      simp only [List.map_cons, Mine.setK_cons, Mine.setK_nl, Mine.setK_ln, ih, putAt]
      by_cases q : x.1 = k <;> simp [q]
  · rw [if_neg (fun e => q (hs.mp e)), if_neg q]; simp
theorem storedH_keyAt {g : Part} {xs : List (List Scal × Addr × Value)} {k : List Scal} {a : Addr} {v : Value} (h : ∀ x ∈ xs, KeyAt g x.1 (.ref x.2.1)) (hk : KeyAt g k (.ref a)) :
    ∀ x ∈ storedH xs k a v, KeyAt g x.1 (.ref x.2.1) := by
  unfold storedH
  split
  · intro x hx
    obtain ⟨y, hy, rfl⟩ := List.mem_map.mp hx
    unfold putAt
    split <;> exact h y hy
  · intro x hx
    rcases List.mem_append.mp hx with hx | hx
    · exact h x hx
    · simp only [List.mem_singleton] at hx; subst hx; exact hk
end

end Mine
end
section
open PySem PySem.W PyProof.Rows PySem.Spec
namespace Mine

/-! ## Keys from data -/
noncomputable def Scal.d : Scal → D
  | .int i => .int i
  | .str s => .str s
noncomputable def scB : (d : D) → { o : Option Scal // ∀ k, o = some k → d = k.d }
  | .int i => ⟨some (.int i), fun k h => by cases h; rfl⟩
  | .str s => ⟨some (.str s), fun k h => by cases h; rfl⟩
  | _ => ⟨none, fun _ h => (nomatch h)⟩
noncomputable def scalOf (d : D) : Option Scal := (scB d).1
noncomputable def scalsOf : List D → Option (List Scal)
  | [] => some []
  | d :: ds => (scalOf d).bind fun k => (scalsOf ds).map fun ks => k :: ks
noncomputable def kyB : (d : D) → { o : Option (List Scal) // ∀ ks, o = some ks → ∃ ds, d = .tup ds ∧ scalsOf ds = some ks }
  | .tup ds => ⟨scalsOf ds, fun _ h => ⟨ds, rfl, h⟩⟩
  | _ => ⟨none, fun _ h => (nomatch h)⟩
noncomputable def keyOf (d : D) : Option (List Scal) := (kyB d).1
noncomputable def keyD (ks : List Scal) : D := .tup (ks.map Scal.d)

section
variable {w : World} {g : Part}
theorem scal_is {d : D} {k : Scal} {v : Value} (e : scalOf d = some k) (x : Rep w g d v) : k.is v = true := by
  rw [(scB d).2 k e] at x
  cases k with
  | int i => obtain ⟨t, rfl⟩ : ∃ t, v = .int i t := by simpa only [Scal.d, Rep] using x
             simp [Scal.is, Value.isInt]
  | str s => obtain ⟨t, rfl⟩ : ∃ t, v = .str s t := by simpa only [Scal.d, Rep] using x
             simp [Scal.is, Value.isStrOf]
theorem scals_are : ∀ {ds : List D} {ks : List Scal} {vs : List Value}, scalsOf ds = some ks → Reps w g ds vs → ScalsAre ks vs ∧ ks.length = ds.length
  | [], _, _, e, x => by cases e; simp only [Reps] at x; exact ⟨x, rfl⟩
  | d :: ds, ks, vs, e, x => by
    obtain ⟨k, h1, e⟩ := Option.bind_eq_some_iff.mp e
    obtain ⟨ks', h2, rfl⟩ := Option.map_eq_some_iff.mp e
    simp only [Reps] at x
    obtain ⟨v, vs', rfl, q, r⟩ := x
    have ih := scals_are h2 r
    exact ⟨⟨v, vs', rfl, scal_is h1 q, ih.1⟩, congrArg Nat.succ ih.2⟩
theorem Rep.key {d : D} {ks : List Scal} {v : Value} (e : keyOf d = some ks) (x : Rep w g d v) : KeyAt g ks v := by
  obtain ⟨ds, rfl, e⟩ := (kyB d).2 ks e
  simp only [Rep] at x
  obtain ⟨a, o, vs, n, rfl, q, c, dd, l, r⟩ := x
  have := scals_are e r
  exact ⟨a, o, vs, n, rfl, q, c, dd, by rw [this.2]; exact l, this.1⟩
theorem Scal.rep : ∀ {k : Scal} {v : Value}, k.is v = true → Rep w g k.d v
  | .int i, v, h => by simp only [Scal.is] at h; obtain ⟨t, rfl⟩ := Value.isInt_shape h; simp only [Scal.d, Rep]; exact ⟨t, rfl⟩
  | .str s, v, h => by simp only [Scal.is] at h; obtain ⟨t, rfl⟩ := Value.isStrOf_shape h; simp only [Scal.d, Rep]; exact ⟨t, rfl⟩
theorem Scals.reps : ∀ {ks : List Scal} {vs : List Value}, ScalsAre ks vs → Reps w g (ks.map Scal.d) vs
  | [], _, x => by subst x; simp [Reps]
  | _ :: _, _, ⟨v, vs', e, h, r⟩ => by
    subst e; simp only [List.map_cons, Reps]; exact ⟨v, vs', rfl, Scal.rep h, Scals.reps r⟩
theorem KeyAt.rep {ks : List Scal} {v : Value} (x : KeyAt g ks v) : Rep w g (keyD ks) v := by
  obtain ⟨a, o, vs, n, rfl, q, c, dd, l, r⟩ := x
  simp only [keyD, Rep]
  exact ⟨a, o, vs, n, rfl, q, c, dd, by simpa using l, Scals.reps r⟩
end

theorem cap_lt : cap ≤ sizeLine := by decide
theorem cap_fit : cap + cap ≤ sizeLine := by decide

section
variable {prog : Program} {w : World} {A : Around} {E : Value → Shared → Prop} {s : Shared} {n : Nat} {g : Part}

/-! ## Items -/
/-- the four ways to an item -/
def ItemV (d e f : D) : Prop := (∃ ds k, d = .lst ds ∧ e = .int k ∧ (0 ≤ k ∧ k < 300) ∧ ds[k.toNat]? = some f) ∨ (∃ ds k, d = .tup ds ∧ e = .int k ∧ (0 ≤ k ∧ k < 300) ∧ ds[k.toNat]? = some f) ∨
  (∃ ks ds k, d = .idict ks ds ∧ e = .int k ∧ getK ks ds k = some f) ∨ (∃ ks ds k, d = .tdict ks ds ∧ keyOf e = some k ∧ getK ks ds k = some f)
theorem if_of {p : Prop} [Decidable p] {α : Type} {r : Option α} {f : α} (h : (if p then r else none) = some f) : p ∧ r = some f := by
  by_cases q : p
  · exact ⟨q, (if_pos q).symm.trans h⟩
  · cases (if_neg q).symm.trans h
noncomputable def itemB : (d e : D) → { r : Option D // ∀ f, r = some f → ItemV d e f }
  | .lst ds, .int k => ⟨if 0 ≤ k ∧ k < 300 then ds[k.toNat]? else none, fun f h => .inl ⟨ds, k, rfl, rfl, if_of h⟩⟩
  | .tup ds, .int k => ⟨if 0 ≤ k ∧ k < 300 then ds[k.toNat]? else none, fun f h => .inr (.inl ⟨ds, k, rfl, rfl, if_of h⟩)⟩
  | .idict ks ds, .int k => ⟨getK ks ds k, fun f h => .inr (.inr (.inl ⟨ks, ds, k, rfl, rfl, h⟩))⟩
  | .tdict ks ds, d => ⟨(keyOf d).bind fun k => getK ks ds k, fun f h => by obtain ⟨k, h1, h2⟩ := Option.bind_eq_some_iff.mp h; exact .inr (.inr (.inr ⟨ks, ds, k, rfl, h1, h2⟩))⟩
  | _, _ => ⟨none, fun _ h => (nomatch h)⟩
noncomputable def itemD (d e : D) : Option D := (itemB d e).1
theorem itemD_lst (ds : List D) (k : Int) : itemD (.lst ds) (.int k) = if 0 ≤ k ∧ k < 300 then ds[k.toNat]? else none := rfl
theorem itemD_tup (ds : List D) (k : Int) : itemD (.tup ds) (.int k) = if 0 ≤ k ∧ k < 300 then ds[k.toNat]? else none := rfl
theorem itemD_idict (ks : List Int) (ds : List D) (k : Int) : itemD (.idict ks ds) (.int k) = getK ks ds k := rfl
theorem itemD_tdict (ks : List (List Scal)) (ds : List D) (e : D) : itemD (.tdict ks ds) e = (keyOf e).bind fun k => getK ks ds k := rfl

theorem idict_of {h : Heap} {a : Addr} {o : Obj} {ks : List Int} {ds : List D} (ho : h.get? a = some o) (x : ORep w g a o (.idict ks ds)) :
    ∃ vs, h.DictOf (intKind prog w) a (ks.zip vs) ∧ Reps w g ds vs ∧ ks.length = vs.length ∧ (a == sysModules) = false ∧ ks.length ≤ cap ∧ ∃ es n, o.data = .dict es n ∧ es.toList.map (·.val) = vs := by
  simp only [ORep] at x
  obtain ⟨c, es, k, dd, l, kk, r⟩ := x
  have hp := IKeys.pairs (prog := prog) (w := w) kk
  have hl : ks.length = (es.toList.map (·.val)).length := by rw [List.length_map, kk.length]
  refine ⟨es.toList.map (·.val), ⟨o, es, k, ho, c.2, dd, fun e he => hp.1 e (Array.mem_toList_iff.mpr he), hp.2, ?_⟩, r, hl, by simpa using c.1, l.1, es, k, dd, rfl⟩
  rw [List.map_fst_zip (by exact om_11 hl)]; exact l.2

theorem idict_back {g' : Part} {h : Heap} {a : Addr} {ks : List Int} {ds : List D} {vs : List Value} (x : h.DictOf (intKind prog w) a (ks.zip vs)) (hl : ks.length = vs.length) (r : Reps w g' ds vs) (hc : ks.length ≤ cap)
    (ha : a ≠ sysModules) : ∃ o, h.get? a = some o ∧ ORep w g' a o (.idict ks ds) := by
  obtain ⟨o, es, n, ho, c, dd, kk, p, nd⟩ := x
  rw [List.map_fst_zip (by exact om_11 hl)] at nd
  have q := IKeys.of_pairs (prog := prog) (w := w) (fun e he => kk e (Array.mem_toList_iff.mp he)) p
  rw [List.map_fst_zip (by exact om_11 hl), List.map_snd_zip (by exact om_12 hl)] at q
  refine ⟨o, ho, ?_⟩
  simp only [ORep]
  exact ⟨⟨ha, c⟩, es, n, dd, ⟨hc, nd⟩, q.1, by rw [q.2]; exact r⟩

theorem tdict_of {h : Heap} {a : Addr} {o : Obj} {ks : List (List Scal)} {ds : List D} (hg : Le g h.get?) (ho : h.get? a = some o) (x : ORep w g a o (.tdict ks ds)) :
    ∃ xs, h.DictOfH (tk prog w) a xs ∧ xs.map (·.1) = ks ∧ Reps w g ds (xs.map (·.2.2)) ∧ (∀ x ∈ xs, KeyAt g x.1 (.ref x.2.1)) ∧ (a == sysModules) = false ∧ ks.length ≤ cap := by
  simp only [ORep] at x
  obtain ⟨c, es, k, dd, l, kk, r⟩ := x
  obtain ⟨xs, e1, e2, e3, e4⟩ := TKeys.lib (prog := prog) hg kk
  refine ⟨xs, ⟨o, es, k, ho, c.2, dd, e1, e3, by rw [e2]; exact l.2⟩, e2, by rw [← vals_lib (prog := prog) (w := w), ← e1]; exact r, e4, by simpa using c.1, l.1⟩

theorem tdict_back {g' : Part} {h : Heap} {a : Addr} {xs : List (List Scal × Addr × Value)} {ds : List D} (x : h.DictOfH (tk prog w) a xs) (r : Reps w g' ds (xs.map (·.2.2))) (hk : ∀ x ∈ xs, KeyAt g' x.1 (.ref x.2.1)) (hc : xs.length ≤ cap)
    (ha : a ≠ sysModules) : ∃ o, h.get? a = some o ∧ ORep w g' a o (.tdict (xs.map (·.1)) ds) := by
  obtain ⟨o, es, n, ho, c, dd, e, _, nd⟩ := x
  refine ⟨o, ho, ?_⟩
  simp only [ORep]
  exact ⟨⟨ha, c⟩, es, n, dd, ⟨by simpa using hc, nd⟩, by rw [e]; exact TKeys.of_lib (prog := prog) xs hk, by rw [e, vals_lib]; exact r⟩

theorem op_item {a : Addr} {o : Obj} {d e f : D} {u : Value} {Q : Value → Shared → Prop} (r : Room A n) (hg : Le g s.heap.get?) (ho : s.heap.get? a = some o) (x : ORep w g a o d) (y : Rep w s.heap.get? e u)
    (hf : itemD d e = some f) (h : ∀ v tk, Rep w g f v → Q v { s with toks := tk }) :
    ∃ T id, s.TypeIs (.ref a) T ∧ typeLookup (.type T) "__getitem__" = pure (some (.builtin id)) ∧ wpAny (model prog w) A (getItem (.ref a) u) Q E s := by
  rcases (itemB d e).2 f hf with ⟨ds, k, rfl, rfl, hk, hf⟩ | ⟨ds, k, rfl, rfl, hk, hf⟩ | ⟨ks, ds, k, rfl, rfl, hf⟩ | ⟨ks, ds, k, rfl, hk, hf⟩
  · ·
      simp only [Rep] at y
      obtain ⟨t, rfl⟩ := y
      simp only [ORep] at x
      obtain ⟨c, vs, m, dd, l, rr⟩ := x
      obtain ⟨v, h1, h2⟩ := rr.get hf
      have hL : s.heap.IsList a vs := ⟨o, ho, c.1, m, dd⟩
      exact ⟨_, _, hL.typeIs, slot_list_getitem.lookup, wpAny_getItem_list hL hk.1 (by omega) (by simpa using h1) (h v s.toks h2)⟩
  · ·
      simp only [Rep] at y
      obtain ⟨t, rfl⟩ := y
      simp only [ORep] at x
      obtain ⟨c, vs, m, dd, l, rr⟩ := x
      obtain ⟨v, h1, h2⟩ := rr.get hf
      have hT : IsTup s.heap a vs := ⟨o, ho, c, m, dd⟩
      have hlt : k.toNat < vs.size := by
        have := List.getElem?_eq_some_iff.mp h1
        obtain ⟨q, _⟩ := this; simpa using q
      have hj : seqIndex? k vs.size = some k.toNat := PySem.seqIndex_of hk.1 (by exact om_13 hlt)
      exact ⟨_, _, hT.typeIs, slot_tuple_getitem.lookup, getItem_tuple hT (by omega) (by omega) hj (by simpa using h1) (h v s.toks h2)⟩
  · skip
    simp only [Rep] at y
    obtain ⟨t, rfl⟩ := y
    obtain ⟨vs, hm, rr, hl, _, _⟩ := idict_of (prog := prog) ho x
    obtain ⟨v, h1, h2⟩ := rr.getK hf
    have hm' := hm.mapOf
    exact ⟨_, _, hm'.typeIs, slot_dict_getitem.lookup, wpAny_getItem_of (k := k) (by simp [intKind, Value.isInt]) hm' (by rw [valueAt_getK]; exact h1) (h v _ h2)⟩
  · skip
    have ky := y.key hk
    obtain ⟨b, rfl, hi⟩ := KeyAt.is (prog := prog) (w := w) (h := s.heap) (Le.refl _) ky
    obtain ⟨xs, hm, rfl, rr, hke, _, _⟩ := tdict_of (prog := prog) hg ho x
    obtain ⟨v, h1, h2⟩ := rr.getK hf
    rw [← atKey_getK] at h1
    obtain ⟨p, hp, rfl⟩ := Option.map_eq_some_iff.mp h1
    exact ⟨_, _, hm.typeIs, slot_dict_getitem.lookup, wpAny_getItem_heap (tupleKind_room_in1 (by have := r.un; exact om_6 this)) hi hm hp (h _ _ h2)⟩

/-! ## in, not in -/
/-- an empty dict takes keys of either kind -/
noncomputable def fitB : (d e : D) → { r : D // r = d ∨ (d = .idict [] [] ∧ r = .tdict [] []) }
  | .idict [] [], .tup _ => ⟨.tdict [] [], .inr ⟨rfl, rfl⟩⟩
  | d, _ => ⟨d, .inl rfl⟩
noncomputable def fitD (d e : D) : D := (fitB d e).1
theorem fitD_nil (ds : List D) : fitD (.idict [] []) (.tup ds) = .tdict [] [] := rfl
theorem fitD_int (d : D) (k : Int) : fitD d (.int k) = d := by cases d <;> first | rfl | (rename_i ks ds; cases ks <;> cases ds <;> rfl)
theorem fitD_lst (ds : List D) (e : D) : fitD (.lst ds) e = .lst ds := rfl
theorem fitD_tdict (ks : List (List Scal)) (ds : List D) (e : D) : fitD (.tdict ks ds) e = .tdict ks ds := rfl
theorem ORep.fit {g : Part} {w : World} {a : Addr} {o : Obj} {d e : D} (x : ORep w g a o d) : ORep w g a o (fitD d e) := by
  rcases (fitB d e).2 with h | ⟨h1, h2⟩
  · rw [show fitD d e = d from h]; exact x
  · rw [show fitD d e = .tdict [] [] from h2]
    subst h1
    simp only [ORep] at x ⊢
    obtain ⟨c, es, n, dd, _, kk, r⟩ := x
    simp only [IKeys] at kk
    exact ⟨c, es, n, dd, ⟨Nat.zero_le _, List.nodup_nil⟩, by simp only [TKeys]; exact kk, r⟩
def InV (d e : D) (b : Bool) : Prop := (∃ ds, d = .lst ds ∧ (okPys 8 ds && okPy 8 e) = true ∧ b = ds.any fun y => eqD y e) ∨ (∃ ks ds k, d = .idict ks ds ∧ e = .int k ∧ b = decide (k ∈ ks)) ∨ (∃ ks ds k, d = .tdict ks ds ∧ keyOf e = some k ∧ b = decide (k ∈ ks))
noncomputable def inB : (d e : D) → { r : Option Bool // ∀ b, r = some b → InV d e b }
  | .lst ds, e => ⟨if (okPys 8 ds && okPy 8 e) = true then some (ds.any fun y => eqD y e) else none, fun b h => .inl ⟨ds, rfl, (if_of h).1, (Option.some.inj (if_of h).2).symm⟩⟩
  | .idict ks ds, .int k => ⟨some (decide (k ∈ ks)), fun b h => .inr (.inl ⟨ks, ds, k, rfl, rfl, (Option.some.inj h).symm⟩)⟩
  | .tdict ks ds, e => ⟨(keyOf e).map fun k => decide (k ∈ ks), fun b h => by obtain ⟨k, h1, h2⟩ := Option.map_eq_some_iff.mp h; exact .inr (.inr ⟨ks, ds, k, rfl, h1, h2.symm⟩)⟩
  | _, _ => ⟨none, fun _ h => (nomatch h)⟩
noncomputable def inD (d e : D) : Option Bool := (inB d e).1
theorem inD_lst (ds : List D) (e : D) : inD (.lst ds) e = if (okPys 8 ds && okPy 8 e) = true then some (ds.any fun y => eqD y e) else none := rfl
theorem inD_idict (ks : List Int) (ds : List D) (k : Int) : inD (.idict ks ds) (.int k) = some (decide (k ∈ ks)) := rfl
theorem inD_tdict (ks : List (List Scal)) (ds : List D) (e : D) : inD (.tdict ks ds) e = (keyOf e).map fun k => decide (k ∈ ks) := rfl

theorem op_in {a : Addr} {o : Obj} {d e : D} {b : Bool} {u : Value} {Q : Value → Shared → Prop} (r : Room A n) (hg : Le g s.heap.get?) (ho : s.heap.get? a = some o) (x : ORep w g a o d) (y : Rep w s.heap.get? e u)
    (hf : inD d e = some b) (h : ∀ tk, Q (.bool b) { s with toks := tk }) : wpAny (model prog w) A (compareOp .In u (.ref a)) Q E s := by
  rcases (inB d e).2 b hf with ⟨ds, rfl, hk, rfl⟩ | ⟨ks, ds, k, rfl, rfl, rfl⟩ | ⟨ks, ds, k, rfl, hk, rfl⟩
  · ·
      simp only [Bool.and_eq_true] at hk
      exact op_inList r hk.1 hk.2 (Rep.of_obj ho (x.mono hg)) y (h s.toks)
  · skip
    simp only [Rep] at y
    obtain ⟨t, rfl⟩ := y
    obtain ⟨vs, hm, rr, hl, hs, _⟩ := idict_of (prog := prog) ho x
    refine wpAny_in_of (k := k) (by simp [intKind, Value.isInt]) hs hm.mapOf ?_
    have : (valueAt (ks.zip vs) k).isSome = decide (k ∈ ks) := by
      rw [valueAt_getK]
      have := getK_isSome (x := k) hl
      by_cases q : k ∈ ks
      · simp [this.mpr q, q]
      · simp only [q, decide_false]; exact Bool.eq_false_iff.mpr fun z => q (this.mp z)
    rw [this]; exact h _
  · skip
    have ky := y.key hk
    obtain ⟨c, rfl, hi⟩ := KeyAt.is (prog := prog) (w := w) (h := s.heap) (Le.refl _) ky
    obtain ⟨xs, hm, rfl, rr, hke, hs, _⟩ := tdict_of (prog := prog) hg ho x
    refine wpAny_in_heap (tupleKind_room_in1 (by have := r.un; exact om_6 this)) hi hs hm ?_
    have : (atKey xs k).isSome = decide (k ∈ xs.map (·.1)) := by
      have := getK_isSome (ks := xs.map (·.1)) (ds := xs.map (·.2.2)) (x := k) (by simp)
      rw [← atKey_getK, Option.isSome_map] at this
      by_cases q : k ∈ xs.map (·.1)
      · rw [this.mpr q]; simp only [q, decide_true]
      · simp only [q, decide_false]; exact Bool.eq_false_iff.mpr fun z => q (this.mp z)
    rw [this]; exact h _

theorem unbind_in {c u : Value} {Q : Bool → Shared → Prop} (h : wpAny (model prog w) A (compareOp .In u c) (fun v s' => ∃ b, v = .bool b ∧ Q b s') E s) : wpAny (model prog w) A (contains c u) Q E s := by
  intro Γ p hΓ
  have h' : Sem.wp (model prog w) Γ ((contains c u) >>= fun b => (pure (.bool b) : Sem Value)) _ _ p s := h Γ p hΓ
  rw [Sem.wp_bind'] at h'
  refine Sem.wp_mono _ Γ _ (fun b p' s' hb => ?_) (fun _ _ _ e => e) p s h'
  obtain ⟨b', e, q⟩ := hb
  cases e; exact q

theorem op_notIn {a : Addr} {o : Obj} {d e : D} {b : Bool} {u : Value} {Q : Value → Shared → Prop} (r : Room A n) (hg : Le g s.heap.get?) (ho : s.heap.get? a = some o) (x : ORep w g a o d) (y : Rep w s.heap.get? e u)
    (hf : inD d e = some b) (h : ∀ tk, Q (.bool (!b)) { s with toks := tk }) : wpAny (model prog w) A (compareOp .NotIn u (.ref a)) Q E s := by
  show wpAny _ _ (do return .bool (!(← contains (.ref a) u))) Q E s
  exact wpAny_bind (unbind_in (op_in r hg ho x y hf fun tk => ⟨b, rfl, wpAny_pure (h tk)⟩))
end

end Mine
end
section
open PySem PySem.W PyProof.Rows PySem.Spec
namespace Mine

abbrev Den := Rho → Option (Fl × D)
abbrev DenB := Rho → Option Bool

/-- is it more than a letter: an object -/
noncomputable def D.comp : D → Bool
  | .tup _ => true
  | .lst _ => true
  | .idict _ _ => true
  | .tdict _ _ => true
  | .none => false
  | .bool _ => false
  | .int _ => false
  | .str _ => false

section
variable {w : World} {own : List Addr} {h₀ : Heap} {h h' : Heap} {fl : Fl} {d : D} {v : Value}
/-- a composite value's object, its parts frozen -/
theorem VRep.obj (hd : d.comp = true) (x : VRep w own h₀ h fl d v) : ∃ a o, v = .ref a ∧ h.get? a = some o ∧ ORep w (Fz own h) a o d := by
  cases fl with
  | frozen =>
    obtain ⟨a, o, rfl, q, r⟩ := Rep.obj (by cases d <;> first | trivial | cases hd) (show Rep w (Fz own h) d v from x)
    exact ⟨a, o, rfl, (Fz.get q).2, r⟩
  | loose => exact x
  | fresh =>
    obtain ⟨a, o, rfl, h2, h3, h4⟩ := x
    exact ⟨a, o, rfl, h3, h4.mono (Fz.fewer fun b hb => List.mem_cons_of_mem _ hb)⟩
/-- a letter hangs on no heap -/
theorem VRep.flat (hd : d.comp = false) {own' : List Addr} {k₀ k : Heap} (x : VRep w own h₀ h fl d v) : VRep w own' k₀ k .frozen d v := by
  have y := x.any
  show Rep w (Fz own' k) d v
  cases d <;> first | (simp only [Rep] at y ⊢; exact y) | cases hd
theorem VRep.flat_any (hd : d.comp = false) {g : Part} (x : VRep w own h₀ h fl d v) : Rep w g d v := by
  have y := x.any
  cases d <;> first | (simp only [Rep] at y ⊢; exact y) | cases hd
theorem vrep_int {i : Int} {t : Tok} : VRep w own h₀ h .frozen (.int i) (.int i t) := by show Rep w _ _ _; simp only [Rep]; exact ⟨t, rfl⟩
theorem vrep_bool {b : Bool} : VRep w own h₀ h .frozen (.bool b) (.bool b) := by show Rep w _ _ _; simp only [Rep]
theorem VRep.lower {h₁ : Heap} (hn : Ext h₁ h₀) (x : VRep w own h₀ h fl d v) : VRep w own h₁ h fl d v := by
  cases fl with
  | frozen => exact x
  | loose => exact x
  | fresh => obtain ⟨a, o, q1, q2, q3⟩ := x; exact ⟨a, o, q1, hn.none q2, q3⟩
/-- the newest object -/
theorem vrep_new {o : Obj} (hn : Ext h₀ h) (hf : o.isFreed = false) (x : ORep w (Fz own h) h.objs.size o d) : VRep w own h₀ (h.push o) .fresh d (.ref h.objs.size) :=
  ⟨_, o, rfl, hn.none (get_size h), Heap.get?_push_size _ hf, x.mono ((Ext.push h o).fzNew fun a ha => (List.mem_cons.mp ha).elim (fun e => .inr (e ▸ get_size h)) .inl)⟩
end

section
variable {prog : Program} {w : World} {G : Str → Option Value} {hb : Heap} {n : Nat} {κ : Str → Option NameKind}

/-! ## Letters -/
theorem ev_int (i : Int) (k : Nat) (pos : Pos) : Ev prog w G hb n κ (.Constant (.int i) k pos) (fun _ => some (.frozen, .int i)) :=
  fun _ _ _ _ _ _ _ _ _ _ e _ hQ => by cases e; exact wpAny_Constant_int (hQ _ _ _ (Ext.refl _) vrep_int)
theorem ev_str (x : Str) (k : Nat) (pos : Pos) : Ev prog w G hb n κ (.Constant (.str x) k pos) (fun _ => some (.frozen, .str x)) :=
  fun _ _ _ _ _ _ _ _ _ _ e _ hQ => by cases e; exact Calls.Constant_str (hQ _ _ _ (Ext.refl _) (by show Rep w _ _ _; simp only [Rep]; exact ⟨_, rfl⟩))
theorem ev_bool (b : Bool) (k : Nat) (pos : Pos) : Ev prog w G hb n κ (.Constant (.bool b) k pos) (fun _ => some (.frozen, .bool b)) :=
  fun _ _ _ _ _ s _ _ _ _ e _ hQ => by cases e; exact wpAny_pure (hQ _ s.heap s.toks (Ext.refl _) vrep_bool)
theorem ev_none (k : Nat) (pos : Pos) : Ev prog w G hb n κ (.Constant .none k pos) (fun _ => some (.frozen, .none)) :=
  fun _ _ _ _ _ s _ _ _ _ e _ hQ => by cases e; exact wpAny_pure (hQ _ s.heap s.toks (Ext.refl _) (by show Rep w _ _ _; simp only [Rep]))

noncomputable def dName (κ : Str → Option NameKind) (x : Str) : Den := fun ρ =>
  if isV (κ x) && okName x then match ρ x with
    | some (.frz d) => some (.frozen, d)
    | some (.own d) => some (.loose, d)
    | none => none
  else none
theorem ev_name (x : Str) (pos : Pos) : Ev prog w G hb n κ (.Name x pos) (dName κ x) :=
  fun A env own ov ρ s fl d _ S e Q hQ => by
    unfold dName at e
    split at e
    · rename_i hk
      simp only [Bool.and_eq_true] at hk
      obtain ⟨vm, S⟩ := S
      cases hb : ρ x with
      | none => rw [hb] at e; cases e
      | some b =>
        obtain ⟨k, v, h1, h2⟩ := S.vars x b hb
        rw [hb] at e
        refine S.eo.name (by rw [S.kap]; exact k) hk.2 h1 (hQ v s.heap s.toks (Ext.refl _) ?_)
        cases b with
        | frz d' => cases e; exact h2
        | own d' => cases e; obtain ⟨a, o, q1, q2, q3, q4⟩ := h2; exact ⟨a, o, q1, q3, q4⟩
    · cases e

/-! ## Arithmetic -/
theorem add_lists' {A : Around} {E : Value → Shared → Prop} {s : Shared} {l b : Addr} {vs ws : Array Value} {Q : Value → Shared → Prop} (hl : s.heap.IsList l vs) (hb : s.heap.IsList b ws)
    (h : Q (.ref s.heap.objs.size) { s with heap := s.heap.push { cls := .type "list", data := .seq (vs ++ ws) } }) (hsz : vs.size + ws.size ≤ sizeLine) :
    wpAny (model prog w) A (binaryOp .Add (.ref l) (.ref b)) Q E s := by
  obtain ⟨⟨cls, dd, data, sl⟩, ho, hc, n, hd⟩ := id hl
  obtain ⟨⟨cls2, dd2, data2, sl2⟩, ho2, hc2, n2, hd2⟩ := id hb
  simp only at hc hd hc2 hd2
  subst hc hd hc2 hd2
  exact concat_meets ⟨_, ho, rfl⟩ ⟨_, ho2, rfl⟩ noFill_list_add seq_list_add PySem.F.slot_list_add PySem.F.entry_list_add (PySem.F.args_list_add_2 _ _) (list_addW l b vs ws n n2 dd dd2 sl sl2 hsz) ⟨ho, ho2, h⟩

/-- what a sum, a product .. of two values gives -/
def BinOk (op : Operator) (a b : D) (r : Option (Fl × D)) : Prop := ∀ (prog : Program) (w : World) (A : Around) (E : Value → Shared → Prop) (s : Shared) (own : List Addr) (h₀ : Heap) (fa fb f : Fl) (d : D) (v u : Value) (Q : Value → Shared → Prop), Ext h₀ s.heap →
    VRep w own h₀ s.heap fa a v → VRep w own h₀ s.heap fb b u → r = some (f, d) → (∀ v h' tk, Ext s.heap h' → VRep w own h₀ h' f d v → Q v { s with heap := h', toks := tk }) → wpAny (model prog w) A (binaryOp op v u) Q E s
theorem two_ints {w : World} {own : List Addr} {h₀ h : Heap} {fa fb : Fl} {i j : Int} {v u : Value} (x : VRep w own h₀ h fa (.int i) v) (y : VRep w own h₀ h fb (.int j) u) : ∃ t t', v = .int i t ∧ u = .int j t' := by
  have x := x.any
  have y := y.any
  simp only [Rep] at x y
  obtain ⟨t, rfl⟩ := x
  obtain ⟨t', rfl⟩ := y
  exact ⟨t, t', rfl, rfl⟩
theorem bin_of_ints {op : Operator} {a b c : Int} {p : Prop} [Decidable p] (H : p → ∀ (prog : Program) (w : World) (A : Around) (E : Value → Shared → Prop) (s : Shared) (t t' : Tok) (Q : Value → Shared → Prop), (∀ (t : Tok) tk, Q (.int c t) { s with toks := tk }) → wpAny (model prog w) A (binaryOp op (.int a t) (.int b t')) Q E s) :
    BinOk op (.int a) (.int b) (if p then some (.frozen, .int c) else none) := fun prog w A E s own h₀ fa fb f d v u Q hn x y e h => by
  obtain ⟨t, t', rfl, rfl⟩ := two_ints x y
  by_cases hp : p
  · rw [if_pos hp] at e; cases e; exact H hp prog w A E s t t' Q fun t tk => h _ _ _ (Ext.refl _) vrep_int
  · rw [if_neg hp] at e; cases e
theorem bin_of_ints0 {op : Operator} {a b c : Int} (H : ∀ (prog : Program) (w : World) (A : Around) (E : Value → Shared → Prop) (s : Shared) (t t' : Tok) (Q : Value → Shared → Prop), (∀ (t : Tok) tk, Q (.int c t) { s with toks := tk }) → wpAny (model prog w) A (binaryOp op (.int a t) (.int b t')) Q E s) :
    BinOk op (.int a) (.int b) (some (.frozen, .int c)) := fun prog w A E s own h₀ fa fb f d v u Q hn x y e h => by
  obtain ⟨t, t', rfl, rfl⟩ := two_ints x y
  cases e
  exact H prog w A E s t t' Q fun t tk => h _ _ _ (Ext.refl _) vrep_int
theorem bin_no {op : Operator} {a b : D} : BinOk op a b none := fun _ _ _ _ _ _ _ _ _ _ _ _ _ _ _ _ _ e => (nomatch e)
theorem bin_app {as bs : List D} : BinOk .Add (.lst as) (.lst bs) (if as.length + bs.length ≤ cap then some (.fresh, .lst (as ++ bs)) else none) := fun prog w A E s own h₀ fa fb f d v u Q hn x y e h => by
  by_cases hc : as.length + bs.length ≤ cap
  · rw [if_pos hc] at e
    cases e
    obtain ⟨a1, o1, rfl, p1, r1⟩ := x.obj rfl
    obtain ⟨a2, o2, rfl, p2, r2⟩ := y.obj rfl
    simp only [ORep] at r1 r2
    obtain ⟨c1, vs, m1, d1, l1, q1⟩ := r1
    obtain ⟨c2, us, m2, d2, l2, q2⟩ := r2
    have z1 := q1.length
    have z2 := q2.length
    refine add_lists' ⟨_, p1, c1.1, _, d1⟩ ⟨_, p2, c2.1, _, d2⟩ (h _ _ _ (Ext.push _ _) (vrep_new hn rfl ?_)) (by simp at z1 z2; have := cap_lt; exact om_14 hc z1 z2 this)
    simp only [ORep]
    exact ⟨⟨trivial, trivial, trivial⟩, _, _, rfl, by simpa using hc, by simpa using q1.append q2⟩
  · rw [if_neg hc] at e; cases e
noncomputable def binB : (op : Operator) → (a b : D) → { r : Option (Fl × D) // BinOk op a b r }
  | .Add, .int a, .int b => ⟨some (.frozen, .int (a + b)), bin_of_ints0 fun _ _ _ _ _ _ _ _ h => P.add_int (h _ _)⟩
  | .Sub, .int a, .int b => ⟨some (.frozen, .int (a - b)), bin_of_ints0 fun _ _ _ _ _ _ _ _ h => P.sub_int (h _ _)⟩
  | .Mult, .int a, .int b => ⟨if -300 ≤ a ∧ a ≤ 300 then some (.frozen, .int (a * b)) else none, bin_of_ints fun hp _ _ _ _ _ _ _ _ h => P.mul_int (hm := .of_left (intBits_le_64 (by omega) (by omega))) (h _ _)⟩
  | .Mod, .int a, .int b => ⟨if b ≠ 0 then some (.frozen, .int (a.fmod b)) else none, bin_of_ints fun hp _ _ _ _ _ _ _ _ h => mod_int' hp (h _ _)⟩
  | .FloorDiv, .int a, .int b => ⟨if b ≠ 0 ∧ b.natAbs < 300 then some (.frozen, .int (a.fdiv b)) else none, bin_of_ints fun hp _ _ _ _ _ _ _ _ h => floordiv_int hp.1 (h _ _) (.inl (PyProof.noPylong_small (by exact om_15 hp)))⟩
  | .Add, .lst as, .lst bs => ⟨if as.length + bs.length ≤ cap then some (.fresh, .lst (as ++ bs)) else none, bin_app⟩
  | _, _, _ => ⟨none, bin_no⟩
noncomputable def binD (op : Operator) (a b : D) : Option (Fl × D) := (binB op a b).1
theorem binD_add (a b : Int) : binD .Add (.int a) (.int b) = some (.frozen, .int (a + b)) := rfl
theorem binD_sub (a b : Int) : binD .Sub (.int a) (.int b) = some (.frozen, .int (a - b)) := rfl
theorem binD_mul (a b : Int) : binD .Mult (.int a) (.int b) = if -300 ≤ a ∧ a ≤ 300 then some (.frozen, .int (a * b)) else none := rfl
theorem binD_mod (a b : Int) : binD .Mod (.int a) (.int b) = if b ≠ 0 then some (.frozen, .int (a.fmod b)) else none := rfl
theorem binD_fdiv (a b : Int) : binD .FloorDiv (.int a) (.int b) = if b ≠ 0 ∧ b.natAbs < 300 then some (.frozen, .int (a.fdiv b)) else none := rfl
theorem binD_app (as bs : List D) : binD .Add (.lst as) (.lst bs) = if as.length + bs.length ≤ cap then some (.fresh, .lst (as ++ bs)) else none := rfl

noncomputable def dBin (op : Operator) (fl fr : Den) : Den := fun ρ => (fl ρ).bind fun x => (fr ρ).bind fun y => binD op x.2 y.2
theorem ev_bin {l r : Expr} {op : Operator} {pos : Pos} {fl fr : Den} (hl : Ev prog w G hb n κ l fl) (hr : Ev prog w G hb n κ r fr) : Ev prog w G hb n κ (.BinOp l op r pos) (dBin op fl fr) :=
  fun A env own ov ρ s f d R S e Q hQ => by
    obtain ⟨⟨f1, d1⟩, e1, e⟩ := Option.bind_eq_some_iff.mp e
    obtain ⟨⟨f2, d2⟩, e2, e⟩ := Option.bind_eq_some_iff.mp e
    refine wpAny_BinOp (hl A env own ov ρ s f1 d1 R S e1 _ fun v h1 tk1 x1 r1 => hr A env own ov ρ _ f2 d2 R (S.ext x1) e2 _ fun u h2 tk2 x2 r2 => ?_)
    exact (binB op d1 d2).2 prog w A NoE { s with heap := h2, toks := tk2 } own s.heap f1 f2 f d v u Q (x1.trans x2) (r1.ext x2) (r2.lower x1) e
      fun v' h' tk' x' r' => hQ _ _ _ ((x1.trans x2).trans x') r'
end

end Mine
end
section
open PySem PySem.W PyProof.Rows PySem.Spec
namespace Mine

section
variable {prog : Program} {w : World} {A : Around} {E : Value → Shared → Prop} {s : Shared} {n : Nat}

/-! ## Comparisons -/
noncomputable def D.isNone (d : D) : Bool := match d with
  | .none => true
  | _ => false
/-- what a comparison of two values gives -/
def CmpOk (op : CmpOp) (a b : D) (r : Option Bool) : Prop := ∀ (prog : Program) (w : World) (A : Around) (E : Value → Shared → Prop) (s : Shared) (n : Nat) (own : List Addr) (h₀ : Heap) (fa fb : Fl) (c : Bool) (v u : Value) (Q : Value → Shared → Prop), Room A n →
    VRep w own h₀ s.heap fa a v → VRep w own h₀ s.heap fb b u → r = some c → (∀ tk, Q (.bool c) { s with toks := tk }) → wpAny (model prog w) A (compareOp op v u) Q E s
theorem cmp_no {op : CmpOp} {a b : D} : CmpOk op a b none := fun _ _ _ _ _ _ _ _ _ _ _ _ _ _ _ _ _ e => (nomatch e)
theorem cmp_ok_if {op : CmpOp} {a b : D} {p : Prop} [Decidable p] {r : Option Bool} (H : p → CmpOk op a b r) : CmpOk op a b (if p then r else none) := by
  by_cases hp : p
  · rw [if_pos hp]; exact H hp
  · rw [if_neg hp]; exact cmp_no
theorem cmp_ok_none {a : D} : CmpOk .Is a .none (some a.isNone) := fun prog w A E s n own h₀ fa fb c v u Q r x y e h => by
  cases e
  have y := y.any
  simp only [Rep] at y
  subst y
  refine is_none_gen ?_
  have x := x.any
  cases a <;> simp only [Rep] at x <;> first
    | (subst x; exact h s.toks)
    | (obtain ⟨t, rfl⟩ := x; exact h s.toks)
    | (obtain ⟨t, o, vs, n, rfl, _⟩ := x; exact h s.toks)
noncomputable def cmpB : (op : CmpOp) → (a b : D) → { r : Option Bool // CmpOk op a b r }
  | .Eq, a, b => ⟨if (okPy 8 a && okPy 8 b) = true then some (eqD a b) else none, cmp_ok_if fun hk _ _ _ _ s _ _ _ _ _ _ _ _ _ r x y e h => by
      simp only [Bool.and_eq_true] at hk; cases e; exact op_eq r hk.1 hk.2 x.any y.any (h s.toks)⟩
  | .NotEq, a, b => ⟨if (okPy 8 a && okPy 8 b) = true then some (!eqD a b) else none, cmp_ok_if fun hk _ _ _ _ s _ _ _ _ _ _ _ _ _ r x y e h => by
      simp only [Bool.and_eq_true] at hk; cases e; exact op_ne r hk.1 hk.2 x.any y.any (h s.toks)⟩
  | .Lt, .int a, .int b => ⟨some (decide (a < b)), fun _ _ _ _ s _ _ _ _ _ _ _ _ _ _ x y e h => by
      obtain ⟨t, t', rfl, rfl⟩ := two_ints x y; cases e; exact P.lt_int (h s.toks)⟩
  | .Gt, .int a, .int b => ⟨some (decide (b < a)), fun _ _ _ _ s _ _ _ _ _ _ _ _ _ _ x y e h => by
      obtain ⟨t, t', rfl, rfl⟩ := two_ints x y; cases e; exact P.gt_int (h s.toks)⟩
  | .In, a, c => ⟨if c.comp = true then inD (fitD c a) a else none, cmp_ok_if fun hc _ _ _ _ _ _ _ _ _ _ _ _ _ _ r x y e h => by
      obtain ⟨a1, o1, rfl, p1, q1⟩ := y.obj hc
      exact op_in r (Fz.le _ _) p1 q1.fit x.any e h⟩
  | .NotIn, a, c => ⟨if c.comp = true then (inD (fitD c a) a).map (!·) else none, cmp_ok_if fun hc _ _ _ _ _ _ _ _ _ _ _ _ _ _ r x y e h => by
      obtain ⟨a1, o1, rfl, p1, q1⟩ := y.obj hc
      obtain ⟨b', e', rfl⟩ := Option.map_eq_some_iff.mp e
      exact op_notIn r (Fz.le _ _) p1 q1.fit x.any e' h⟩
  | .Is, a, .none => ⟨some a.isNone, cmp_ok_none⟩
  | _, _, _ => ⟨none, cmp_no⟩
noncomputable def cmpD (op : CmpOp) (a b : D) : Option Bool := (cmpB op a b).1
theorem cmpD_eq (a b : D) : cmpD .Eq a b = if (okPy 8 a && okPy 8 b) = true then some (eqD a b) else none := rfl
theorem cmpD_ne (a b : D) : cmpD .NotEq a b = if (okPy 8 a && okPy 8 b) = true then some (!eqD a b) else none := rfl
theorem cmpD_lt (a b : Int) : cmpD .Lt (.int a) (.int b) = some (decide (a < b)) := rfl
theorem cmpD_gt (a b : Int) : cmpD .Gt (.int a) (.int b) = some (decide (b < a)) := rfl
theorem cmpD_in (a c : D) : cmpD .In a c = if c.comp = true then inD (fitD c a) a else none := rfl
theorem cmpD_notIn (a c : D) : cmpD .NotIn a c = if c.comp = true then (inD (fitD c a) a).map (!·) else none := rfl
theorem cmpD_is (a : D) : cmpD .Is a .none = some a.isNone := rfl
end

section
variable {prog : Program} {w : World} {G : Str → Option Value} {hb : Heap} {n : Nat} {κ : Str → Option NameKind}

noncomputable def dCmp (op : CmpOp) (r : Expr) (fl fr : Den) : DenB := fun ρ => if behindInMarks op r then none else (fl ρ).bind fun x => (fr ρ).bind fun y => cmpD op x.2 y.2
noncomputable def dVal (f : DenB) : Den := fun ρ => (f ρ).map fun b => (.frozen, .bool b)

theorem cmp_core {l r : Expr} {op : CmpOp} {fl fr : Den} (hl : Ev prog w G hb n κ l fl) (hr : Ev prog w G hb n κ r fr) {A : Around} {env : Env} {own : List Addr} {ov : List (Str × Addr)} {ρ : Rho} {s : Shared} {b : Bool}
    (R : Room A n) (S : Sim w G hb κ env own ov ρ s.heap) (e : dCmp op r fl fr ρ = some b) {Q : Value → Shared → Prop} (hQ : ∀ h' tk, Ext s.heap h' → Q (.bool b) { s with heap := h', toks := tk }) :
    behindInMarks op r = false ∧ wpAny (model prog w) A (eval l env) (fun a s₁ => wpAny (model prog w) A (eval r env) (fun b s₂ => wpAny (model prog w) A (compareOp op a b) Q NoE s₂) NoE s₁) NoE s := by
  unfold dCmp at e
  split at e
  · cases e
  · rename_i hm
    obtain ⟨⟨f1, d1⟩, e1, e⟩ := Option.bind_eq_some_iff.mp e
    obtain ⟨⟨f2, d2⟩, e2, e⟩ := Option.bind_eq_some_iff.mp e
    refine ⟨by simpa using hm, hl A env own ov ρ s f1 d1 R S e1 _ fun v h1 tk1 x1 r1 => hr A env own ov ρ _ f2 d2 R (S.ext x1) e2 _ fun u h2 tk2 x2 r2 => ?_⟩
    exact (cmpB op d1 d2).2 prog w A NoE { s with heap := h2, toks := tk2 } n own s.heap f1 f2 b v u Q R (r1.ext x2) (r2.lower x1) e fun tk => hQ _ _ (x1.trans x2)

theorem ev_cmp {l r : Expr} {op : CmpOp} {pos : Pos} {fl fr : Den} (hl : Ev prog w G hb n κ l fl) (hr : Ev prog w G hb n κ r fr) : Ev prog w G hb n κ (.Compare l [op] [r] pos) (dVal (dCmp op r fl fr)) :=
  fun A env own ov ρ s f d R S e Q hQ => by
    obtain ⟨b, e', q⟩ := Option.map_eq_some_iff.mp e
    cases q
    have h := cmp_core hl hr R S e' (Q := Q) fun h' tk x => hQ _ _ _ x vrep_bool
    exact wpAny_Compare1 h.2 h.1
theorem evb_cmp {l r : Expr} {op : CmpOp} {pos : Pos} {fl fr : Den} (hl : Ev prog w G hb n κ l fl) (hr : Ev prog w G hb n κ r fr) : EvB prog w G hb n κ (.Compare l [op] [r] pos) (dCmp op r fl fr) :=
  fun A env own ov ρ s b R S e Q hQ => by
    have h := cmp_core hl hr R S e (Q := fun c s₃ => wpAny (model prog w) A (truthy c) Q NoE s₃) fun h' tk x => wpAny_truthy_bool (hQ _ _ x)
    exact wpAny_isTrue_Compare1 h.2 h.1

/-! ## and, or, if -/
noncomputable def dAnd (fx fr : DenB) : DenB := fun ρ => (fx ρ).bind fun b => if b then fr ρ else some false
noncomputable def dOr (fx fr : DenB) : DenB := fun ρ => (fx ρ).bind fun b => if b then some true else fr ρ
theorem evb_and_nil {pos : Pos} : EvB prog w G hb n κ (.BoolOp .And [] pos) (fun _ => some true) := fun _ _ _ _ _ s _ _ _ e _ hQ => by cases e; exact isTrue_and_nil (hQ s.heap s.toks (Ext.refl _))
theorem evb_or_nil {pos : Pos} : EvB prog w G hb n κ (.BoolOp .Or [] pos) (fun _ => some false) := fun _ _ _ _ _ s _ _ _ e _ hQ => by cases e; exact isTrue_or_nil (hQ s.heap s.toks (Ext.refl _))
theorem evb_and {x : Expr} {rest : List Expr} {pos : Pos} {fx fr : DenB} (hx : EvB prog w G hb n κ x fx) (hr : EvB prog w G hb n κ (.BoolOp .And rest pos) fr) : EvB prog w G hb n κ (.BoolOp .And (x :: rest) pos) (dAnd fx fr) :=
  fun A env own ov ρ s b R S e Q hQ => by
    obtain ⟨b1, e1, e⟩ := Option.bind_eq_some_iff.mp e
    refine isTrue_and (hx A env own ov ρ s b1 R S e1 _ fun h1 tk1 x1 => ?_)
    cases b1 with
    | true => exact hr A env own ov ρ _ b R (S.ext x1) e _ fun h2 tk2 x2 => hQ _ _ (x1.trans x2)
    | false => cases e; exact hQ _ _ x1
theorem evb_or {x : Expr} {rest : List Expr} {pos : Pos} {fx fr : DenB} (hx : EvB prog w G hb n κ x fx) (hr : EvB prog w G hb n κ (.BoolOp .Or rest pos) fr) : EvB prog w G hb n κ (.BoolOp .Or (x :: rest) pos) (dOr fx fr) :=
  fun A env own ov ρ s b R S e Q hQ => by
    obtain ⟨b1, e1, e⟩ := Option.bind_eq_some_iff.mp e
    refine isTrue_or (hx A env own ov ρ s b1 R S e1 _ fun h1 tk1 x1 => ?_)
    cases b1 with
    | true => cases e; exact hQ _ _ x1
    | false => exact hr A env own ov ρ _ b R (S.ext x1) e _ fun h2 tk2 x2 => hQ _ _ (x1.trans x2)

/-- the truth of a bool -/
noncomputable def dTruth (f : Den) : DenB := fun ρ => (f ρ).bind fun x => blOf x.2
theorem evb_plain {e : Expr} {f : Den} (h : Ev prog w G hb n κ e f) (he : ∀ env whole, isTrue e env whole = (do let v ← whole; standAt e.pos; holding [v] (truthy v))) : EvB prog w G hb n κ e (dTruth f) :=
  fun A env own ov ρ s b R S q Q hQ => by
    obtain ⟨⟨f1, d1⟩, e1, q⟩ := Option.bind_eq_some_iff.mp q
    refine wpAny_isTrue_value (h A env own ov ρ s f1 d1 R S e1 _ fun v h1 tk1 x1 r1 => ?_) (he _ _)
    obtain rfl := blOf_some q
    have y := r1.any
    simp only [Rep] at y
    subst y
    exact wpAny_truthy_bool (hQ _ _ x1)

end

end Mine
end
section
open PySem PySem.W PyProof.Rows PySem.Spec
namespace Mine

section
variable {prog : Program} {w : World} {G : Str → Option Value} {hb : Heap} {n : Nat} {κ : Str → Option NameKind}

/-! ## Several values -/
noncomputable def VReps (w : World) (own : List Addr) (h₀ : Heap) (h : Heap) : List (Fl × D) → List Value → Prop
  | [], vs => vs = []
  | x :: xs, vs => ∃ v vs', vs = v :: vs' ∧ VRep w own h₀ h x.1 x.2 v ∧ VReps w own h₀ h xs vs'
theorem VReps.reps {own : List Addr} {h₀ : Heap} {h : Heap} (hlt : ∀ a ∈ own, (h₀.get? a).isSome = true) : ∀ {xs : List (Fl × D)} {vs : List Value}, (xs.all fun x => x.1 != .loose) = true → VReps w own h₀ h xs vs → Reps w (Fz own h) (xs.map (·.2)) vs
  | [], _, _, x => by simp only [VReps] at x; subst x; simp [Reps]
  | y :: ys, _, ha, x => by
    simp only [VReps] at x
    obtain ⟨v, vs', rfl, q, r⟩ := x
    simp only [List.all_cons, Bool.and_eq_true, bne_iff_ne, ne_eq] at ha
    simp only [List.map_cons, Reps]
    exact ⟨v, vs', rfl, q.frz ha.1 hlt, VReps.reps hlt (by simpa using ha.2) r⟩
theorem VReps.any {own : List Addr} {h₀ : Heap} {h : Heap} : ∀ {xs : List (Fl × D)} {vs : List Value}, VReps w own h₀ h xs vs → Reps w h.get? (xs.map (·.2)) vs
  | [], _, x => by simp only [VReps] at x; subst x; simp [Reps]
  | y :: ys, _, x => by
    simp only [VReps] at x
    obtain ⟨v, vs', rfl, q, r⟩ := x
    simp only [List.map_cons, Reps]
    exact ⟨v, vs', rfl, q.any, VReps.any r⟩

theorem VReps.lower {own : List Addr} {h₀ h₁ : Heap} {h : Heap} (hn : Ext h₁ h₀) : ∀ {xs : List (Fl × D)} {vs : List Value}, VReps w own h₀ h xs vs → VReps w own h₁ h xs vs
  | [], _, x => x
  | y :: ys, _, x => by
    simp only [VReps] at x ⊢
    obtain ⟨v, vs', e, q, r⟩ := x
    exact ⟨v, vs', e, q.lower hn, VReps.lower hn r⟩
theorem VReps.ext {own : List Addr} {h₀ : Heap} {h h' : Heap} (he : Ext h h') : ∀ {xs : List (Fl × D)} {vs : List Value}, VReps w own h₀ h xs vs → VReps w own h₀ h' xs vs
  | [], _, x => x
  | y :: ys, _, x => by
    simp only [VReps] at x ⊢
    obtain ⟨v, vs', e, q, r⟩ := x
    exact ⟨v, vs', e, q.ext he, VReps.ext he r⟩

abbrev DenL := Rho → Option (List (Fl × D))
noncomputable def EvL (prog : Program) (w : World) (G : Str → Option Value) (hb : Heap) (n : Nat) (κ : Str → Option NameKind) (es : List Expr) (f : DenL) : Prop :=
  ∀ (A : Around) (env : Env) (own : List Addr) (ov : List (Str × Addr)) (ρ : Rho) (s : Shared) (pos : Pos) (xs : List (Fl × D)), Room A n → Sim w G hb κ env own ov ρ s.heap → f ρ = some xs →
    ∀ Q : List Value → Shared → Prop, (∀ vs h' tk, Ext s.heap h' → VReps w own s.heap h' xs vs → Q vs { s with heap := h', toks := tk }) → wpAny (model prog w) A (spliced (backTo pos (starEach es env))) Q NoE s

theorem starEach_plain {e : Expr} (h : isStarred e = false) (es : List Expr) (env : Env) : starEach (e :: es) env = (false, eval e env) :: starEach es env := by
  cases e <;> first | rfl | cases h

theorem st_name (x : Str) (p0 : Pos) : isStarred (.Name x p0) = false := rfl
theorem st_con (x : Const) (c0 : Nat) (p0 : Pos) : isStarred (.Constant x c0 p0) = false := rfl
theorem st_bin (a0 b0 : Expr) (op0 : Operator) (p0 : Pos) : isStarred (.BinOp a0 op0 b0 p0) = false := rfl
theorem st_call (f0 : Expr) (es0 : List Expr) (kw0 : List Keyword) (p0 : Pos) : isStarred (.Call f0 es0 kw0 p0) = false := rfl
theorem st_sub (a0 b0 : Expr) (p0 : Pos) : isStarred (.Subscript a0 b0 p0) = false := rfl
theorem st_cmp (a0 : Expr) (ops0 : List CmpOp) (es0 : List Expr) (p0 : Pos) : isStarred (.Compare a0 ops0 es0 p0) = false := rfl
theorem st_ifx (a0 b0 c0 : Expr) (p0 : Pos) : isStarred (.IfExp a0 b0 c0 p0) = false := rfl
theorem st_lst (es0 : List Expr) (p0 : Pos) : isStarred (.List es0 p0) = false := rfl
theorem st_tup (es0 : List Expr) (c0 : Nat) (p0 : Pos) : isStarred (.Tuple es0 c0 p0) = false := rfl
theorem st_dict (ks0 : List (Option Expr)) (es0 : List Expr) (p0 : Pos) : isStarred (.Dict ks0 es0 p0) = false := rfl
theorem st_boo (o0 : BoolOp) (es0 : List Expr) (p0 : Pos) : isStarred (.BoolOp o0 es0 p0) = false := rfl
theorem st_comp (e0 : Expr) (g0 : List Comprehension) (s0 : Scope) (p0 : Pos) : isStarred (.ListComp e0 g0 s0 p0) = false := rfl
noncomputable def dNil : DenL := fun _ => some []
noncomputable def dCons (e : Expr) (f : Den) (fs : DenL) : DenL := fun ρ => if isStarred e then none else (f ρ).bind fun x => (fs ρ).map fun xs => x :: xs
theorem evl_nil : EvL prog w G hb n κ [] dNil := fun _ _ _ _ _ s _ _ _ _ e _ hQ => by cases e; exact wpAny_pure (hQ [] s.heap s.toks (Ext.refl _) (by simp [VReps]))
theorem evl_cons {e : Expr} {es : List Expr} {f : Den} {fs : DenL} (h : Ev prog w G hb n κ e f) (hs : EvL prog w G hb n κ es fs) : EvL prog w G hb n κ (e :: es) (dCons e f fs) :=
  fun A env own ov ρ s pos xs R S q Q hQ => by
    unfold dCons at q
    split at q
    · cases q
    · rename_i hst
      obtain ⟨⟨f1, d1⟩, e1, q⟩ := Option.bind_eq_some_iff.mp q
      obtain ⟨ys, e2, rfl⟩ := Option.map_eq_some_iff.mp q
      rw [starEach_plain (by simpa using hst)]
      show wpAny _ _ (spliced ((false, eval e env) :: backTo pos (starEach es env))) _ _ _
      refine Calls.spliced_cons (h A env own ov ρ s f1 d1 R S e1 _ fun v h1 tk1 x1 r1 => hs A env own ov ρ _ pos ys R (S.ext x1) e2 _ fun vs h2 tk2 x2 r2 => hQ _ _ _ (x1.trans x2) ?_)
      simp only [VReps]
      refine ⟨v, vs, rfl, r1.ext x2, ?_⟩
      exact r2.lower x1

theorem Sim.ltAll {env : Env} {own : List Addr} {ov : List (Str × Addr)} {ρ : Rho} {h : Heap} (S : Sim w G hb κ env own ov ρ h) : ∀ a ∈ own, (h.get? a).isSome = true := let ⟨_, S⟩ := S; S.lt

noncomputable def dTup (fs : DenL) : Den := fun ρ => (fs ρ).bind fun xs => if (xs.all fun x => x.1 != .loose) = true ∧ xs.length ≤ cap then some (.fresh, .tup (xs.map (·.2))) else none
noncomputable def dLst (fs : DenL) : Den := fun ρ => (fs ρ).bind fun xs => if (xs.all fun x => x.1 != .loose) = true ∧ xs.length ≤ cap then some (.fresh, .lst (xs.map (·.2))) else none
theorem ev_tup {es : List Expr} {k : Nat} {pos : Pos} {fs : DenL} (hs : EvL prog w G hb n κ es fs) : Ev prog w G hb n κ (.Tuple es k pos) (dTup fs) :=
  fun A env own ov ρ s f d R S q Q hQ => by
    obtain ⟨xs, e1, q⟩ := Option.bind_eq_some_iff.mp q
    split at q
    · rename_i hc
      cases q
      refine Tuple_ (hs A env own ov ρ s pos xs R S e1 _ fun vs h1 tk1 x1 r1 => ?_)
      have rr := r1.reps S.ltAll hc.1
      have hl := rr.length
      refine wpAny_newTuple (hQ _ _ _ (x1.trans (Ext.push _ _)) (vrep_new x1 rfl ?_)) (by simp at hl; have := cap_lt; omega)
      simp only [ORep]
      exact ⟨trivial, _, _, rfl, by simpa using hc.2, by simpa using rr⟩
    · cases q
theorem ev_lst {es : List Expr} {pos : Pos} {fs : DenL} (hs : EvL prog w G hb n κ es fs) : Ev prog w G hb n κ (.List es pos) (dLst fs) :=
  fun A env own ov ρ s f d R S q Q hQ => by
    obtain ⟨xs, e1, q⟩ := Option.bind_eq_some_iff.mp q
    split at q
    · rename_i hc
      cases q
      refine List_ (hs A env own ov ρ s pos xs R S e1 _ fun vs h1 tk1 x1 r1 => ?_)
      have rr := r1.reps S.ltAll hc.1
      have hl := rr.length
      refine wpAny_newList (hQ _ _ _ (x1.trans (Ext.push _ _)) (vrep_new x1 rfl ?_)) (by simp at hl; have := cap_lt; omega)
      simp only [ORep]
      exact ⟨⟨trivial, trivial, trivial⟩, _, _, rfl, by simpa using hc.2, by simpa using rr⟩
    · cases q

/-! ## Subscripts -/
noncomputable def dSub (fo fi : Den) : Den := fun ρ => (fo ρ).bind fun x => (fi ρ).bind fun y => if x.2.comp then (itemD x.2 y.2).map fun d => (.frozen, d) else none
theorem ev_sub {o i : Expr} {pos : Pos} {fo fi : Den} (hsub : ∀ o u, ∃ ops, subscripted i false o u = operate ops (getItem o u)) (ho : Ev prog w G hb n κ o fo) (hi : Ev prog w G hb n κ i fi) : Ev prog w G hb n κ (.Subscript o i pos) (dSub fo fi) :=
  fun A env own ov ρ s f d R S q Q hQ => by
    obtain ⟨⟨f1, d1⟩, e1, q⟩ := Option.bind_eq_some_iff.mp q
    obtain ⟨⟨f2, d2⟩, e2, q⟩ := Option.bind_eq_some_iff.mp q
    split at q
    · rename_i hc
      obtain ⟨d', e3, q⟩ := Option.map_eq_some_iff.mp q
      cases q
      refine Subscript_ (ho A env own ov ρ s f1 d1 R S e1 _ fun v h1 tk1 x1 r1 => hi A env own ov ρ _ f2 d2 R (S.ext x1) e2 _ fun u h2 tk2 x2 r2 => ?_)
      obtain ⟨a, ob, rfl, p1, q1⟩ := (r1.ext x2).obj hc
      obtain ⟨T, id, hT, hl, hg⟩ := op_item (s := { s with heap := h2, toks := tk2 }) (E := NoE) R (Fz.le own h2) p1 q1 r2.any e3 (Q := Q) fun v' tk' r' => hQ v' h2 tk' (x1.trans x2) r'
      obtain ⟨ops, hs⟩ := hsub (.ref a) u
      exact tail_any hT hl hg hs
    · cases q

noncomputable def dUpto (fo : Den) (k : Int) : Den := fun ρ => (fo ρ).bind fun x => (lsOf x.2).bind fun ds => if 0 ≤ k then some (.fresh, .lst (ds.take k.toNat)) else none
theorem ev_upto {x : Str} {p0 : Pos} {k : Int} {j : Nat} {p1 p pos : Pos} {fo : Den} (ho : Ev prog w G hb n κ (.Name x p0) fo) :
    Ev prog w G hb n κ (.Subscript (.Name x p0) (.Slice none (some (.Constant (.int k) j p1)) none p) pos) (dUpto fo k) :=
  fun A env own ov ρ s f d R S q Q hQ => by
    obtain ⟨⟨f1, d1⟩, e1, q⟩ := Option.bind_eq_some_iff.mp q
    obtain ⟨ds, hl, z⟩ := Option.bind_eq_some_iff.mp q
    clear q
    have q := z
    clear z
    obtain rfl := lsOf_some hl
    split at q
    · rename_i hk
      cases q
      refine wpAny_Subscript_list_slice (ho A env own ov ρ s f1 _ R S e1 _ fun v h1 tk1 x1 r1 => ?_)
      obtain ⟨a, o, rfl, p1', q1⟩ := r1.obj rfl
      simp only [ORep] at q1
      obtain ⟨c, vs, m, dd, l, rr⟩ := q1
      have hz := rr.length
      refine wpAny_of_eq (a := Value.none) (by rfl) ?_
      refine wpAny_Constant_int (k := j) (pos := p1) ⟨a, vs, none, some k, rfl, ⟨o, p1', c.1, m, dd⟩, by simp at hz; have := cap_lt; exact om_16 l hz this, .none, .int _ _, ?_⟩
      have e : slicePick vs none (some k) none = (vs.toList.take k.toNat).toArray := by
        have ek : ((k.toNat : Nat) : Int) = k := by exact om_17 hk
        have := slicePick_upto' vs k.toNat
        rw [ek] at this
        exact this
      rw [e]
      have hsz : ((h1.push { cls := .type "slice", data := .fields #[.none, .int k tk1, .none] }).objs.size) = h1.objs.size + 1 := Heap.size_push ..
      refine hQ _ _ _ (x1.trans ((Ext.push _ _).trans (Ext.push _ _))) ?_
      show VRep w own _ _ _ _ (.ref (h1.objs.size + 1))
      rw [← hsz]
      refine vrep_new (x1.trans (Ext.push _ _)) rfl ?_
      simp only [ORep]
      refine ⟨⟨trivial, trivial, trivial⟩, _, _, rfl, by simp; exact om_18 l, by simpa using Reps.mono (Ext.push _ _).fz _ (rr.take k.toNat)⟩
    · cases q
end

end Mine
end
section
open PySem PySem.W PyProof.Rows PySem.Spec
namespace Mine

/-! ## Lists of ints -/
noncomputable def intsOf : List D → Option (List Int)
  | [] => some []
  | d :: ds => (itOf d).bind fun k => (intsOf ds).map fun ks => k :: ks
theorem intsOf_map : ∀ ns : List Int, intsOf (ns.map .int) = some ns
  | [] => rfl
  | n :: ns => congrArg (Option.map fun ks => n :: ks) (intsOf_map ns)
theorem of_intsOf : ∀ {ds : List D} {ns : List Int}, intsOf ds = some ns → ds = ns.map .int
  | [], ns, e => by cases e; rfl
  | d :: ds, ns, e => by
    obtain ⟨k, h1, e⟩ := Option.bind_eq_some_iff.mp e
    obtain ⟨ks, h2, rfl⟩ := Option.map_eq_some_iff.mp e
    rw [itOf_some h1, of_intsOf h2]; rfl

section
variable {w : World} {g : Part}
theorem Reps.intItems : ∀ {ns : List Int} {vs : List Value}, Reps w g (ns.map .int) vs → ∃ xs : List (Int × Tok), vs = xs.map (fun p => .int p.1 p.2) ∧ xs.map (·.1) = ns
  | [], _, x => by simp only [List.map_nil, Reps] at x; subst x; exact ⟨[], rfl, rfl⟩
  | n :: ns, _, x => by
    simp only [List.map_cons, Reps, Rep] at x
    obtain ⟨v, vs', rfl, ⟨t, rfl⟩, r⟩ := x
    obtain ⟨xs, rfl, rfl⟩ := Reps.intItems r
    exact ⟨(n, t) :: xs, rfl, rfl⟩
theorem Reps.intsAre : ∀ {ns : List Int} {vs : List Value}, Reps w g (ns.map .int) vs → IntsAre vs ns
  | [], _, x => by simp only [List.map_nil, Reps] at x; subst x; exact .nil
  | n :: ns, _, x => by
    simp only [List.map_cons, Reps, Rep] at x
    obtain ⟨v, vs', rfl, ⟨t, rfl⟩, r⟩ := x
    exact .cons n t (Reps.intsAre r)
theorem Reps.of_intsAre : ∀ {ns : List Int} {vs : List Value}, IntsAre vs ns → Reps w g (ns.map .int) vs
  | _, _, .nil => by simp [Reps]
  | _, _, .cons n t r => by simp only [List.map_cons, Reps, Rep]; exact ⟨_, _, rfl, ⟨t, rfl⟩, Reps.of_intsAre r⟩
end

/-- max and min as the built-ins reckon them -/
noncomputable def maxL : Int → List Int → Int
  | m, [] => m
  | m, x :: xs => maxL (if x > m then x else m) xs
noncomputable def minL : Int → List Int → Int
  | m, [] => m
  | m, x :: xs => minL (if x < m then x else m) xs

theorem numAt_val (xs : List (Int × Tok)) (i : Nat) (h : i < xs.length) : numAt xs.toArray i = (xs.map (·.1))[i]'(by simpa using h) := by
  simp [numAt, h]
theorem maxL_snoc (l : List Int) : ∀ (m x : Int), maxL m (l ++ [x]) = if x > maxL m l then x else maxL m l := by
  induction l with
  | nil => intro m x; rfl
  | cons y l ih => intro m x; exact ih _ x
theorem minL_snoc (l : List Int) : ∀ (m x : Int), minL m (l ++ [x]) = if x < minL m l then x else minL m l := by
  induction l with
  | nil => intro m x; rfl
  | cons y l ih => intro m x; exact ih _ x

theorem best_max (val : Nat → Int) (l : List Int) : ∀ (k : Nat), (∀ j, j < k → l[j]? = some (val (j + 1))) → val (argBest (fun i j => decide (val i > val j)) k) = maxL (val 0) (l.take k)
  | 0, _ => by simp [argBest, maxL]
  | k + 1, h => by
    have ih := best_max val l k fun j hj => h j (Nat.lt_succ_of_lt hj)
    have hk := h k (Nat.lt_succ_self k)
    rw [List.take_add_one, hk, Option.toList_some, maxL_snoc, ← ih]
    simp only [argBest, decide_eq_true_eq]
    split <;> rfl
theorem best_min (val : Nat → Int) (l : List Int) : ∀ (k : Nat), (∀ j, j < k → l[j]? = some (val (j + 1))) → val (argBest (fun i j => decide (val i < val j)) k) = minL (val 0) (l.take k)
  | 0, _ => by simp [argBest, minL]
  | k + 1, h => by
    have ih := best_min val l k fun j hj => h j (Nat.lt_succ_of_lt hj)
    have hk := h k (Nat.lt_succ_self k)
    rw [List.take_add_one, hk, Option.toList_some, minL_snoc, ← ih]
    simp only [argBest, decide_eq_true_eq]
    split <;> rfl

theorem preSum_val (xs : List (Int × Tok)) : ∀ k, k ≤ xs.length → preSum (numAt xs.toArray) k = ((xs.map (·.1)).take k).sum
  | 0, _ => by simp [preSum]
  | k + 1, h => by
    have hk : k < (xs.map (·.1)).length := by simp; exact om_19 h
    rw [preSum, preSum_val xs k (Nat.le_of_succ_le h), numAt_val xs k h, List.take_add_one, List.getElem?_eq_getElem hk]
    simp
theorem sum_bound (B : Int) : ∀ (l : List Int), (∀ x ∈ l, -B ≤ x ∧ x ≤ B) → -(B * l.length) ≤ l.sum ∧ l.sum ≤ B * l.length
  | [], _ => by simp
  | x :: l, h => by
    have h1 := h x (.head _)
    have h2 := sum_bound B l fun y hy => h y (.tail _ hy)
    simp only [List.sum_cons, List.length_cons, Int.natCast_add, Int.natCast_one, Int.mul_add, Int.mul_one]
    exact om_20 h1 h2

/-- a sort -/
noncomputable def ins (x : Int) : List Int → List Int
  | [] => [x]
  | y :: l => if x ≤ y then x :: y :: l else y :: ins x l
noncomputable def isort : List Int → List Int
  | [] => []
  | x :: l => ins x (isort l)
theorem ins_perm (x : Int) : ∀ l : List Int, (ins x l).Perm (x :: l)
  | [] => .refl _
  | y :: l => by
    unfold ins; split
    · exact .refl _
    · exact ((ins_perm x l).cons y).trans (.swap x y l)
theorem isort_perm : ∀ l : List Int, (isort l).Perm l
  | [] => .refl _
  | x :: l => (ins_perm x (isort l)).trans ((isort_perm l).cons x)
theorem ins_sorted (x : Int) : ∀ l : List Int, l.Pairwise (· ≤ ·) → (ins x l).Pairwise (· ≤ ·)
  | [], _ => by simp [ins]
  | y :: l, h => by
    unfold ins; split
    · rename_i q
      refine List.pairwise_cons.mpr ⟨fun z hz => ?_, h⟩
      rcases List.mem_cons.mp hz with rfl | hz
      · exact q
      · exact Int.le_trans q ((List.pairwise_cons.mp h).1 z hz)
    · rename_i q
      obtain ⟨h1, h2⟩ := List.pairwise_cons.mp h
      refine List.pairwise_cons.mpr ⟨fun z hz => ?_, ins_sorted x l h2⟩
      rcases List.mem_cons.mp ((ins_perm x l).mem_iff.mp hz) with rfl | hz
      · exact om_21 q
      · exact h1 z hz
theorem isort_sorted : ∀ l : List Int, (isort l).Pairwise (· ≤ ·)
  | [] => .nil
  | x :: l => ins_sorted x _ (isort_sorted l)
theorem sorted_unique : ∀ {l l' : List Int}, l.Perm l' → l.Pairwise (· ≤ ·) → l'.Pairwise (· ≤ ·) → l = l'
  | [], l', p, _, _ => by rw [List.nil_perm] at p; exact p.symm
  | x :: l, [], p, _, _ => by rw [List.perm_nil] at p; cases p
  | x :: l, y :: l', p, h, h' => by
    obtain ⟨h1, h2⟩ := List.pairwise_cons.mp h
    obtain ⟨h1', h2'⟩ := List.pairwise_cons.mp h'
    have e : x = y := by
      have hx := p.mem_iff.mp (List.mem_cons_self (a := x) (l := l))
      have hy := p.mem_iff.mpr (List.mem_cons_self (a := y) (l := l'))
      rcases List.mem_cons.mp hx with rfl | hx
      · rfl
      · rcases List.mem_cons.mp hy with rfl | hy
        · rfl
        · have := h1 y hy; have := h1' x hx; omega
    subst e
    rw [sorted_unique (List.perm_cons x |>.mp p) h2 h2']
theorem isort_eq {l l' : List Int} (p : l.Perm l') (h : l.Pairwise (· ≤ ·)) : l = isort l' := sorted_unique (p.trans (isort_perm l').symm) h (isort_sorted l')

section
variable {prog : Program} {w : World} {A : Around} {E : Value → Shared → Prop} {s : Shared} {n : Nat} {own : List Addr} {h₀ : Heap} {fl : Fl} {v : Value} {Q : Value → Shared → Prop}

theorem VRep.lst {ds : List D} {h : Heap} (x : VRep w own h₀ h fl (.lst ds) v) : ∃ a vs m, v = .ref a ∧ h.get? a = some { cls := .type "list", dict := none, data := .seq vs m, slots := #[] } ∧ ds.length ≤ cap ∧ Reps w (Fz own h) ds vs.toList := by
  obtain ⟨a, o, rfl, p, q⟩ := x.obj rfl
  simp only [ORep] at q
  obtain ⟨c, vs, m, dd, l, r⟩ := q
  obtain ⟨oc, od, odt, os⟩ := o
  simp only at c dd
  obtain ⟨rfl, rfl, rfl⟩ := c
  subst dd
  exact ⟨a, vs, m, rfl, p, l, r⟩

theorem op_len {ds : List D} (x : VRep w own h₀ s.heap fl (.lst ds) v) (h : ∀ t tk, Q (.int ds.length t) { s with toks := tk }) : wpAny (model prog w) A (call (.builtin "len") [v]) Q E s := by
  obtain ⟨a, vs, m, rfl, p, l, r⟩ := x.lst
  have hz := r.length
  refine Calls.call_len_list ⟨_, p, rfl, m, rfl⟩ (by simp at hz; have : cap = 200 := rfl; omega) ?_
  rw [← Array.length_toList, hz]
  exact h _ _

theorem items_arr (xs : List (Int × Tok)) {vs : Array Value} (h : vs.toList = xs.map (fun p => .int p.1 p.2)) : vs = intItems xs.toArray := by
  apply Array.toList_inj.mp
  rw [h]; simp [intItems]

theorem op_max {ds : List D} {x : Int} {ns : List Int} (R : Room A n) (y : VRep w own h₀ s.heap fl (.lst ds) v) (hi : intsOf ds = some (x :: ns))
    (h : ∀ t h' tk, Ext s.heap h' → Q (.int (maxL x ns) t) { s with heap := h', toks := tk }) : wpAny (model prog w) A (call (.builtin "max") [v]) Q E s := by
  obtain ⟨a, vs, m, rfl, p, l, r⟩ := y.lst
  rw [of_intsOf hi] at r
  obtain ⟨xs, e1, e2⟩ := r.intItems
  obtain rfl := items_arr xs e1
  have hlen : xs.length = ns.length + 1 := by have := congrArg List.length e2; simpa using this
  refine max_intList R.hd ⟨_, p, rfl, m, rfl⟩ (by simp; exact om_22 hlen) fun u h' tk hu hk => ?_
  obtain ⟨t, rfl⟩ := intItems_at hu
  have hv : ∀ j, j < xs.length → (x :: ns)[j]? = some (numAt xs.toArray j) := fun j hj => by
    rw [numAt_val xs j hj]; simp only [e2]; exact List.getElem?_eq_getElem _
  have e3 := best_max (numAt xs.toArray) ns (xs.length - 1) fun j hj => by have := hv (j + 1) (by exact om_23 hj); simpa using this
  rw [List.take_of_length_le (by exact om_24 hlen)] at e3
  have e4 : numAt xs.toArray 0 = x := by have := hv 0 (by exact om_22 hlen); simpa using this.symm
  rw [e4] at e3
  simp only [List.size_toArray] at hu ⊢
  rw [e3]
  exact h t h' tk hk
theorem op_min {ds : List D} {x : Int} {ns : List Int} (R : Room A n) (y : VRep w own h₀ s.heap fl (.lst ds) v) (hi : intsOf ds = some (x :: ns))
    (h : ∀ t h' tk, Ext s.heap h' → Q (.int (minL x ns) t) { s with heap := h', toks := tk }) : wpAny (model prog w) A (call (.builtin "min") [v]) Q E s := by
  obtain ⟨a, vs, m, rfl, p, l, r⟩ := y.lst
  rw [of_intsOf hi] at r
  obtain ⟨xs, e1, e2⟩ := r.intItems
  obtain rfl := items_arr xs e1
  have hlen : xs.length = ns.length + 1 := by have := congrArg List.length e2; simpa using this
  refine min_intList R.hd ⟨_, p, rfl, m, rfl⟩ (by simp; exact om_22 hlen) fun u h' tk hu hk => ?_
  obtain ⟨t, rfl⟩ := intItems_at hu
  have hv : ∀ j, j < xs.length → (x :: ns)[j]? = some (numAt xs.toArray j) := fun j hj => by
    rw [numAt_val xs j hj]; simp only [e2]; exact List.getElem?_eq_getElem _
  have e3 := best_min (numAt xs.toArray) ns (xs.length - 1) fun j hj => by have := hv (j + 1) (by exact om_23 hj); simpa using this
  rw [List.take_of_length_le (by exact om_24 hlen)] at e3
  have e4 : numAt xs.toArray 0 = x := by have := hv 0 (by exact om_22 hlen); simpa using this.symm
  rw [e4] at e3
  simp only [List.size_toArray] at hu ⊢
  rw [e3]
  exact h t h' tk hk
theorem op_sum {ds : List D} {ns : List Int} (R : Room A n) (y : VRep w own h₀ s.heap fl (.lst ds) v) (hi : intsOf ds = some ns) (hb : (ns.all fun x => decide (-300 ≤ x ∧ x ≤ 300)) = true)
    (h : ∀ t h' tk, Ext s.heap h' → Q (.int ns.sum t) { s with heap := h', toks := tk }) : wpAny (model prog w) A (call (.builtin "sum") [v]) Q E s := by
  obtain ⟨a, vs, m, rfl, p, l, r⟩ := y.lst
  rw [of_intsOf hi] at r l
  obtain ⟨xs, e1, e2⟩ := r.intItems
  obtain rfl := items_arr xs e1
  have hlen : xs.length = ns.length := by have := congrArg List.length e2; simpa using this
  have hc : ns.length ≤ 200 := by simpa [cap] using l
  have hall : ∀ x ∈ ns, -300 ≤ x ∧ x ≤ 300 := fun x hx => of_decide_eq_true (List.all_eq_true.mp hb x hx)
  refine sum_intList R.hd ⟨_, p, rfl, m, rfl⟩ (fun j hj => ?_) fun h' tk t' hk => ?_
  · simp only [List.size_toArray] at hj
    constructor
    · rw [numAt_val xs j hj]
      have := hall ((xs.map (·.1))[j]'(by simpa using hj)) (by rw [← e2]; exact List.getElem_mem _)
      constructor <;> omega
    · rw [preSum_val xs (j + 1) hj, e2]
      have := sum_bound 300 (ns.take (j + 1)) fun x hx => hall x (List.mem_of_mem_take hx)
      have hl : (ns.take (j + 1)).length ≤ 200 := Nat.le_trans (List.length_take_le _ _) (by exact om_25 hlen hc hj)
      constructor <;> omega
  · simp only [List.size_toArray]
    rw [preSum_val xs xs.length (Nat.le_refl _), e2, List.take_of_length_le (by exact om_12 hlen)]
    exact h t' h' tk hk
theorem op_min2 {a b : Int} {u : Value} {h₁ : Heap} {fl' : Fl} (R : Room A n) (x : VRep w own h₀ s.heap fl (.int a) v) (y : VRep w own h₁ s.heap fl' (.int b) u)
    (h : ∀ t h' tk, Ext s.heap h' → Q (.int (if b < a then b else a) t) { s with heap := h', toks := tk }) : wpAny (model prog w) A (call (.builtin "min") [v, u]) Q E s := by
  have x := x.any
  have y := y.any
  simp only [Rep] at x y
  obtain ⟨t, rfl⟩ := x
  obtain ⟨t', rfl⟩ := y
  refine min_two_ints R.hd fun h' tk hk => ?_
  split
  · rename_i q; have := h t' h' tk hk; rwa [if_pos q] at this
  · rename_i q; have := h t h' tk hk; rwa [if_neg q] at this

theorem op_max2 {a b : Int} {u : Value} {h₁ : Heap} {fl' : Fl} (R : Room A n) (x : VRep w own h₀ s.heap fl (.int a) v) (y : VRep w own h₁ s.heap fl' (.int b) u)
    (h : ∀ t h' tk, Ext s.heap h' → Q (.int (if a < b then b else a) t) { s with heap := h', toks := tk }) : wpAny (model prog w) A (call (.builtin "max") [v, u]) Q E s := by
  have x := x.any
  have y := y.any
  simp only [Rep] at x y
  obtain ⟨t, rfl⟩ := x
  obtain ⟨t', rfl⟩ := y
  refine max_two_ints R.hd fun h' tk hk => ?_
  split
  · rename_i q; have := h t' h' tk hk; rwa [if_pos q] at this
  · rename_i q; have := h t h' tk hk; rwa [if_neg q] at this

theorem op_sorted {ds : List D} {ns : List Int} (y : VRep w own h₀ s.heap fl (.lst ds) v) (hx : Ext h₀ s.heap) (hi : intsOf ds = some ns) (h64 : ns.length < 64)
    (h : ∀ u h' tk, Ext s.heap h' → VRep w own h₀ h' .fresh (.lst ((isort ns).map .int)) u → Q u { s with heap := h', toks := tk }) : wpAny (model prog w) A (call (.builtin "sorted") [v]) Q E s := by
  obtain ⟨a, vs, m, rfl, p, l, r⟩ := y.lst
  rw [of_intsOf hi] at r l
  have hI := r.intsAre
  have hl := hI.length
  refine sorted_ints ⟨_, p, rfl, m, by simp⟩ hI (by exact om_26 h64 hl) fun out ns' hI' hp hs => ?_
  have e : ns' = isort ns := isort_eq hp hs
  subst e
  have hn1 : s.heap.get? (s.heap.objs.size + 1) = none := by
    cases q : s.heap.get? (s.heap.objs.size + 1) with
    | none => rfl
    | some o => exact absurd (Heap.lt_size q) (Nat.not_lt.mpr (Nat.le_succ _))
  have hext : Ext s.heap (sortedAll s.heap vs.toList out) := fun b o q => sortedAll_old q
  obtain ⟨k, hk⟩ := sortedAll_at s.heap vs.toList out
  refine h _ _ s.toks hext ⟨_, _, rfl, hx.none hn1, hk, ?_⟩
  simp only [ORep]
  refine ⟨⟨trivial, trivial, trivial⟩, out, k, rfl, ?_, Reps.of_intsAre hI'⟩
  rw [List.length_map, (isort_perm ns).length_eq]
  have : cap = 200 := rfl
  exact om_27 h64 this
end

end Mine
end
section
open PySem PySem.W PyProof.Rows PySem.Spec
namespace Mine

theorem boot_len : bootBuiltins "len" = some (.builtin "len") := by decide +kernel
theorem boot_list : bootBuiltins "list" = some (.type "list") := by decide +kernel
theorem boot_min : bootBuiltins "min" = some (.builtin "min") := by decide +kernel
theorem boot_max : bootBuiltins "max" = some (.builtin "max") := by decide +kernel
theorem boot_sum : bootBuiltins "sum" = some (.builtin "sum") := by decide +kernel
theorem boot_sorted : bootBuiltins "sorted" = some (.builtin "sorted") := by decide +kernel
theorem boot_isinstance : bootBuiltins "isinstance" = some (.builtin "isinstance") := by decide +kernel
theorem boot_range : bootBuiltins "range" = some (.type "range") := by decide +kernel
theorem boot_enumerate : bootBuiltins "enumerate" = some (.type "enumerate") := by decide +kernel
theorem boot_tuple : bootBuiltins "tuple" = some (.type "tuple") := by decide +kernel

noncomputable def plainL (es : List Expr) : Bool := es.all fun e => !isStarred e
theorem plain_any : ∀ (es : List Expr) (pos : Pos) (env : Env), plainL es = true → (backTo pos (starEach es env)).any (·.1) = false
  | [], _, _, _ => rfl
  | e :: es, pos, env, h => by
    simp only [plainL, List.all_cons, Bool.and_eq_true, Bool.not_eq_true'] at h
    rw [starEach_plain h.1]
    show (false || (backTo pos (starEach es env)).any (·.1)) = false
    rw [plain_any es pos env h.2]; rfl

section
variable {prog : Program} {w : World} {G : Str → Option Value} {hb : Heap} {n : Nat} {κ : Str → Option NameKind}

/-- a built-in's name -/
noncomputable def isB (κ : Str → Option NameKind) (x : Str) : Bool := κ x == some .globalImplicit && biN x && x != ("__name__" : Str) && okName x

theorem Sim.builtin {A : Around} {E : Value → Shared → Prop} {s : Shared} {env : Env} {own : List Addr} {ov : List (Str × Addr)} {ρ : Rho} {x : Str} {p : Pos} {v : Value} {Q : Value → Shared → Prop}
    (S : Sim w G hb κ env own ov ρ s.heap) (hx : isB κ x = true) (hv : bootBuiltins x = some v) (h : Q v s) : wpAny (model prog w) A (eval (.Name x p) env) Q E s := by
  obtain ⟨vm, S⟩ := S
  simp only [isB, Bool.and_eq_true, beq_iff_eq, bne_iff_ne, ne_eq] at hx
  obtain ⟨⟨⟨h1, h2⟩, h3⟩, h4⟩ := hx
  obtain ⟨mb, hm, hbb⟩ := S.bas.b
  refine Calls.Name_function_global S.eo.fn ((S.kap x).trans h1) (Calls.loadGlobal_builtin (by rw [S.eo.gl]; exact S.bas.g.keeps S.ext) (S.bas.free x h2) (by rw [S.eo.bl]; exact hm.keeps S.ext) ((hbb x h3).trans hv) h) ?_
  simp only [okName, Bool.and_eq_true, Bool.not_eq_true'] at h4; exact h4.1

/-- a call of a built-in function -/
theorem callB {A : Around} {s : Shared} {env : Env} {own : List Addr} {ov : List (Str × Addr)} {ρ : Rho} {x : Str} {id : String} {e : Expr} {es : List Expr} {p pos : Pos} {fs : DenL} {xs : List (Fl × D)} {Q : Value → Shared → Prop}
    (R : Room A n) (S : Sim w G hb κ env own ov ρ s.heap) (hx : isB κ x = true) (hv : bootBuiltins x = some (.builtin id)) (hp : plainL (e :: es) = true) (hs : EvL prog w G hb n κ (e :: es) fs) (hf : fs ρ = some xs)
    (h : ∀ vs h' tk, Ext s.heap h' → VReps w own s.heap h' xs vs → wpAny (model prog w) A (call (.builtin id) vs) Q NoE { s with heap := h', toks := tk }) :
    wpAny (model prog w) A (eval (.Call (.Name x p) (e :: es) [] pos) env) Q NoE s := by
  refine wpAny_Call_NameR (S.builtin hx hv ?_)
  have hp' := hp
  simp only [plainL, List.all_cons, Bool.and_eq_true, Bool.not_eq_true'] at hp'
  have hsp := hs A env own ov ρ s pos xs R S hf (fun vs s₁ => wpAny (model prog w) A (call (.builtin id) vs) Q NoE s₁) h
  refine callWith_builtin1 hsp (starEach_plain hp'.1 es env) (plain_any es pos env hp'.2)
theorem callT {A : Around} {s : Shared} {env : Env} {own : List Addr} {ov : List (Str × Addr)} {ρ : Rho} {x : Str} {id : String} {e : Expr} {es : List Expr} {p pos : Pos} {fs : DenL} {xs : List (Fl × D)} {Q : Value → Shared → Prop}
    (R : Room A n) (S : Sim w G hb κ env own ov ρ s.heap) (hx : isB κ x = true) (hv : bootBuiltins x = some (.type id)) (hp : plainL (e :: es) = true) (hs : EvL prog w G hb n κ (e :: es) fs) (hf : fs ρ = some xs)
    (h : ∀ vs h' tk, Ext s.heap h' → VReps w own s.heap h' xs vs → wpAny (model prog w) A (call (.type id) vs) Q NoE { s with heap := h', toks := tk }) :
    wpAny (model prog w) A (eval (.Call (.Name x p) (e :: es) [] pos) env) Q NoE s := by
  refine wpAny_Call_NameR (S.builtin hx hv ?_)
  have hp' := hp
  simp only [plainL, List.all_cons, Bool.and_eq_true, Bool.not_eq_true'] at hp'
  have hsp := hs A env own ov ρ s pos xs R S hf (fun vs s₁ => wpAny (model prog w) A (call (.type id) vs) Q NoE s₁) h
  exact PyProof.Rows.callWith_type1 hsp (starEach_plain hp'.1 es env) (plain_any es pos env hp'.2)

theorem vreps1 {own : List Addr} {h₀ h : Heap} {x : Fl × D} {vs : List Value} (r : VReps w own h₀ h [x] vs) : ∃ v, vs = [v] ∧ VRep w own h₀ h x.1 x.2 v := by
  simp only [VReps] at r
  obtain ⟨v, vs', rfl, q, rfl⟩ := r
  exact ⟨v, rfl, q⟩
theorem vreps2 {own : List Addr} {h₀ h : Heap} {x y : Fl × D} {vs : List Value} (r : VReps w own h₀ h [x, y] vs) : ∃ v u, vs = [v, u] ∧ VRep w own h₀ h x.1 x.2 v ∧ VRep w own h₀ h y.1 y.2 u := by
  simp only [VReps] at r
  obtain ⟨v, vs', rfl, q, u, vs'', rfl, q', rfl⟩ := r
  exact ⟨v, u, rfl, q, q'⟩

/-- what a built-in function answers -/
def BfnOk (x : Str) (xs : List (Fl × D)) (r : Option (Fl × D)) : Prop := ∀ (f : Fl) (d : D), r = some (f, d) → ∃ id, bootBuiltins x = some (.builtin id) ∧ ∀ (prog : Program) (w : World) (A : Around) (s : Shared) (n : Nat) (own : List Addr) (h₀ : Heap) (vs : List Value) (Q : Value → Shared → Prop),
    Room A n → Ext h₀ s.heap → VReps w own h₀ s.heap xs vs → (∀ v h' tk, Ext s.heap h' → VRep w own h₀ h' f d v → Q v { s with heap := h', toks := tk }) → wpAny (model prog w) A (call (.builtin id) vs) Q NoE s
theorem bfn_no {x : Str} {xs : List (Fl × D)} : BfnOk x xs none := fun _ _ e => (nomatch e)
theorem bfn_if {x : Str} {xs : List (Fl × D)} {p : Prop} [Decidable p] {r r' : Option (Fl × D)} (h1 : p → BfnOk x xs r) (h2 : BfnOk x xs r') : BfnOk x xs (if p then r else r') := by
  by_cases hp : p
  · rw [if_pos hp]; exact h1 hp
  · rw [if_neg hp]; exact h2
noncomputable def bfnInts (x : Str) (ns : List Int) : Option (Fl × D) :=
  if x = "sum" then (if (ns.all fun x => decide (-300 ≤ x ∧ x ≤ 300)) = true then some (.frozen, .int ns.sum) else none)
  else if x = "sorted" then (if ns.length < 64 then some (.fresh, .lst ((isort ns).map .int)) else none)
  else if x = "max" then ns.head?.map fun m => (.frozen, .int (maxL m ns.tail))
  else if x = "min" then ns.head?.map fun m => (.frozen, .int (minL m ns.tail))
  else none
theorem bfn_ints {x : Str} {f1 : Fl} {ds : List D} {ns : List Int} (hi : intsOf ds = some ns) : BfnOk x [(f1, .lst ds)] (bfnInts x ns) := by
  refine bfn_if (fun hx => bfn_if (fun hall => ?_) bfn_no) (bfn_if (fun hx => bfn_if (fun h64 => ?_) bfn_no) (bfn_if (fun hx => ?_) (bfn_if (fun hx => ?_) bfn_no)))
  · subst hx
    rintro f d e
    cases e
    refine ⟨_, boot_sum, fun prog w A s n own h₀ vs Q R hx r h => ?_⟩
    obtain ⟨v, rfl, r1⟩ := vreps1 r
    exact op_sum R r1 hi hall fun t h2 tk' x2 => h _ _ _ x2 vrep_int
  · subst hx
    rintro f d e
    cases e
    refine ⟨_, boot_sorted, fun prog w A s n own h₀ vs Q R hx r h => ?_⟩
    obtain ⟨v, rfl, r1⟩ := vreps1 r
    exact op_sorted r1 hx hi h64 fun u h2 tk' x2 r2 => h _ _ _ x2 r2
  · subst hx
    rintro f d e
    cases ns with
    | nil => cases e
    | cons m ms =>
      cases e
      refine ⟨_, boot_max, fun prog w A s n own h₀ vs Q R hx r h => ?_⟩
      obtain ⟨v, rfl, r1⟩ := vreps1 r
      exact op_max R r1 hi fun t h2 tk' x2 => h _ _ _ x2 vrep_int
  · subst hx
    rintro f d e
    cases ns with
    | nil => cases e
    | cons m ms =>
      cases e
      refine ⟨_, boot_min, fun prog w A s n own h₀ vs Q R hx r h => ?_⟩
      obtain ⟨v, rfl, r1⟩ := vreps1 r
      exact op_min R r1 hi fun t h2 tk' x2 => h _ _ _ x2 vrep_int
noncomputable def bfnL (x : Str) (ds : List D) : Option (Fl × D) := if x = "len" then some (.frozen, .int ds.length) else (intsOf ds).bind fun ns => bfnInts x ns
theorem bfnL_ok {x : Str} {f1 : Fl} {ds : List D} : BfnOk x [(f1, .lst ds)] (bfnL x ds) := by
  refine bfn_if (fun hx => ?_) ?_
  · subst hx
    rintro f d e
    cases e
    refine ⟨_, boot_len, fun prog w A s n own h₀ vs Q R hx r h => ?_⟩
    obtain ⟨v, rfl, r1⟩ := vreps1 r
    exact op_len r1 fun t tk' => h _ _ _ (Ext.refl _) vrep_int
  · cases hi : intsOf ds with
    | none => exact bfn_no
    | some ns => exact bfn_ints hi
noncomputable def bfnT (x : Str) (a b : Int) : Option (Fl × D) := if x = "min" then some (.frozen, .int (if b < a then b else a)) else if x = "max" then some (.frozen, .int (if a < b then b else a)) else none
theorem bfnT_ok {x : Str} {f1 f2 : Fl} {a b : Int} : BfnOk x [(f1, .int a), (f2, .int b)] (bfnT x a b) := by
  refine bfn_if (fun hx => ?_) (bfn_if (fun hx => ?_) bfn_no)
  · subst hx
    rintro f d e
    cases e
    refine ⟨_, boot_min, fun prog w A s n own h₀ vs Q R hx r h => ?_⟩
    obtain ⟨v, u, rfl, r1, r2⟩ := vreps2 r
    exact op_min2 R r1 r2 fun t h2 tk' x2 => h _ _ _ x2 vrep_int
  · subst hx
    rintro f d e
    cases e
    refine ⟨_, boot_max, fun prog w A s n own h₀ vs Q R hx r h => ?_⟩
    obtain ⟨v, u, rfl, r1, r2⟩ := vreps2 r
    exact op_max2 R r1 r2 fun t h2 tk' x2 => h _ _ _ x2 vrep_int
/-- the built-in functions served -/
noncomputable def bfnB (x : Str) : (xs : List (Fl × D)) → { r : Option (Fl × D) // BfnOk x xs r }
  | [(_, .lst ds)] => ⟨bfnL x ds, bfnL_ok⟩
  | [(_, .int a), (_, .int b)] => ⟨bfnT x a b, bfnT_ok⟩
  | _ => ⟨none, bfn_no⟩
noncomputable def bfnD (x : Str) (xs : List (Fl × D)) : Option (Fl × D) := (bfnB x xs).1
theorem bfnD_one (x : Str) (f : Fl) (ds : List D) : bfnD x [(f, .lst ds)] = bfnL x ds := rfl
theorem bfnD_two (x : Str) (f g : Fl) (a b : Int) : bfnD x [(f, .int a), (g, .int b)] = bfnT x a b := rfl

noncomputable def dBfn (κ : Str → Option NameKind) (x : Str) (es : List Expr) (fs : DenL) : Den := fun ρ => if isB κ x && plainL es then (fs ρ).bind fun xs => bfnD x xs else none

theorem ev_bfn {x : Str} {p pos : Pos} {e : Expr} {es : List Expr} {fs : DenL} (hs : EvL prog w G hb n κ (e :: es) fs) : Ev prog w G hb n κ (.Call (.Name x p) (e :: es) [] pos) (dBfn κ x (e :: es) fs) :=
  fun A env own ov ρ s f d R S q Q hQ => by
    by_cases hc : (isB κ x && plainL (e :: es)) = true
    · obtain ⟨xs, e1, q'⟩ := Option.bind_eq_some_iff.mp ((if_pos hc).symm.trans q)
      simp only [Bool.and_eq_true] at hc
      obtain ⟨id, hb, h⟩ := (bfnB x xs).2 f d q'
      exact callB R S hc.1 hb hc.2 hs e1 fun vs h' tk x r => h prog w A { s with heap := h', toks := tk } n own s.heap vs Q R x r fun v h2 tk2 x2 r2 => hQ _ _ _ (x.trans x2) r2
    · cases (if_neg hc).symm.trans q

/-- isinstance(x, tuple), x an int -/
noncomputable def dIsTup (κ : Str → Option NameKind) (y : Str) (e : Expr) (f : Den) : Den := fun ρ =>
  if isB κ "isinstance" && isB κ y && decide (y = "tuple") && !isStarred e then (f ρ).bind fun x => (itOf x.2).map fun _ => (.frozen, .bool false)
  else none
theorem ev_isTup {y : Str} {p p' pos : Pos} {e : Expr} {f : Den} (he : Ev prog w G hb n κ e f) : Ev prog w G hb n κ (.Call (.Name "isinstance" p) [e, .Name y p'] [] pos) (dIsTup κ y e f) :=
  fun A env own ov ρ s fl d R S q Q hQ => by
    unfold dIsTup at q
    split at q
    · rename_i hc
      simp only [Bool.and_eq_true, decide_eq_true_eq, Bool.not_eq_true'] at hc
      obtain ⟨⟨⟨h1, h2⟩, rfl⟩, h3⟩ := hc
      obtain ⟨⟨f1, d1⟩, e1, q⟩ := Option.bind_eq_some_iff.mp q
      obtain ⟨i0, hl, z⟩ := Option.map_eq_some_iff.mp q
      clear q
      have q := z
      clear z
      obtain rfl := itOf_some hl
      cases q
      refine wpAny_Call_NameR (S.builtin h1 boot_isinstance ?_)
      refine callWith_builtin1 ?_ (starEach_plain h3 _ env) rfl
      rw [starEach_plain h3]
      refine Calls.spliced_cons (he A env own ov ρ s f1 _ R S e1 _ fun v h' tk x1 r => ?_)
      refine Calls.spliced_cons (Sim.builtin (S.ext x1) h2 boot_tuple (Calls.spliced_nil ?_))
      have r := r.any
      simp only [Rep] at r
      obtain ⟨t, rfl⟩ := r
      exact IsiPair.int_tuple (hQ _ _ _ x1 vrep_bool)
    · cases q

end

end Mine
end
section
open PySem PySem.W PyProof.Rows PySem.Spec
namespace Mine

/-! ## Steps of a frame -/
noncomputable def Kept (wr : List Addr) (h h' : Heap) : Prop := ∀ a o, a ∉ wr → h.get? a = some o → h'.get? a = some o

structure Step (own wr : List Addr) (h : Heap) (own' wr' : List Addr) (h' : Heap) : Prop where
  keep : Kept wr h h'
  live : ∀ a, (h.get? a).isSome = true → (h'.get? a).isSome = true
  ownNew : ∀ a ∈ own', a ∈ own ∨ h.get? a = none
  wrNew : ∀ a ∈ wr', a ∈ wr ∨ h.get? a = none
  stay : ∀ a ∈ own, a ∈ own' ∨ a ∈ wr

theorem isSome_none {α : Type} {x : Option α} (h : x.isSome = true) (e : x = none) : False := by rw [e] at h; cases h

theorem Step.refl (own wr : List Addr) (h : Heap) : Step own wr h own wr h := ⟨fun _ _ _ e => e, fun _ e => e, fun _ e => .inl e, fun _ e => .inl e, fun _ e => .inl e⟩
theorem Step.of_ext {own wr : List Addr} {h h' : Heap} (x : Ext h h') : Step own wr h own wr h' := ⟨fun a o _ e => x a o e, fun _ e => x.some e, fun _ e => .inl e, fun _ e => .inl e, fun _ e => .inl e⟩
theorem Step.trans {o₁ o₂ o₃ w₁ w₂ w₃ : List Addr} {h₁ h₂ h₃ : Heap} (hlt : ∀ a ∈ o₁, (h₁.get? a).isSome = true) (x : Step o₁ w₁ h₁ o₂ w₂ h₂) (y : Step o₂ w₂ h₂ o₃ w₃ h₃) : Step o₁ w₁ h₁ o₃ w₃ h₃ where
  keep := fun a o ha e => y.keep a o (fun hm => (x.wrNew a hm).elim ha fun q => by rw [q] at e; cases e) (x.keep a o ha e)
  live := fun a e => y.live a (x.live a e)
  ownNew := fun a ha => (y.ownNew a ha).elim (x.ownNew a) fun q => .inr (by
    cases e : h₁.get? a with
    | none => rfl
    | some o => exact (isSome_none (x.live a (by rw [e]; rfl)) q).elim)
  wrNew := fun a ha => (y.wrNew a ha).elim (x.wrNew a) fun q => .inr (by
    cases e : h₁.get? a with
    | none => rfl
    | some o => exact (isSome_none (x.live a (by rw [e]; rfl)) q).elim)
  stay := fun a ha => (x.stay a ha).elim (fun q => (y.stay a q).elim .inl fun q => (x.wrNew a q).elim .inr fun e => (isSome_none (hlt a ha) e).elim) .inr
theorem Step.le {own wr own' wr' : List Addr} {h h' : Heap} (x : Step own wr h own' wr' h') (hs : ∀ a ∈ wr, a ∈ own) : Le (Fz own h) (Fz own' h') := fun a o e => by
  have q := Fz.get e
  refine Fz.of (fun hm => ?_) (x.keep a o (fun hw => q.1 (hs a hw)) q.2)
  rcases x.ownNew a hm with h1 | h1
  · exact q.1 h1
  · rw [h1] at q; exact absurd q.2 (by simp)

/-- what the frame may write -/
structure Wr (env : Env) (own wr : List Addr) (sto : Str → Bool) : Prop where
  sub : ∀ a ∈ wr, a ∈ own
  loc : env.locals ∈ wr
  cel : ∀ x c, sto x = true → env.cells.lookup x = some c → c ∈ wr

inductive Flo where
  | next
  | cont
  | brk
  | ret (d : D)

/-- names that are not stored to keep their objects -/
noncomputable def Pin (sto : Str → Bool) (ov ov' : List (Str × Addr)) : Prop := ∀ y, sto y = false → ov'.lookup y = ov.lookup y
theorem Pin.refl (sto : Str → Bool) (ov : List (Str × Addr)) : Pin sto ov ov := fun _ _ => rfl
theorem Pin.trans {sto : Str → Bool} {o₁ o₂ o₃ : List (Str × Addr)} (x : Pin sto o₁ o₂) (y : Pin sto o₂ o₃) : Pin sto o₁ o₃ := fun z h => (y z h).trans (x z h)
theorem Pin.cons {sto : Str → Bool} {ov : List (Str × Addr)} {x : Str} {a : Addr} (h : sto x = true) : Pin sto ov ((x, a) :: ov) := fun y hy => by
  have : (y == x) = false := by
    simp only [beq_eq_false_iff_ne, ne_eq]
    intro e; rw [e, h] at hy; cases hy
  rw [List.lookup_cons, this]

noncomputable def FloOk (w : World) (own : List Addr) (h : Heap) (sto : Str → Bool) (ov ov' : List (Str × Addr)) : Flo → Flow → Prop
  | .next, r => r = .next ∧ Pin sto ov ov'
  | .cont, r => r = .cont ∧ Pin sto ov ov'
  | .brk, r => r = .brk ∧ Pin sto ov ov'
  | .ret d, r => ∃ v, r = .ret v ∧ Rep w (Fz own h) d v
theorem FloOk.pin {w : World} {own : List Addr} {h : Heap} {sto : Str → Bool} {ov ov' ov'' : List (Str × Addr)} {fl : Flo} {r : Flow} (x : FloOk w own h sto ov' ov'' fl r) (p : Pin sto ov ov') : FloOk w own h sto ov ov'' fl r := by
  cases fl with
  | next => exact ⟨x.1, p.trans x.2⟩
  | cont => exact ⟨x.1, p.trans x.2⟩
  | brk => exact ⟨x.1, p.trans x.2⟩
  | ret d => exact x

abbrev DenS := Rho → Option (Flo × Rho)
noncomputable def upd (ρ : Rho) (x : Str) (b : Bd) : Rho := fun y => if y = x then some b else ρ y

noncomputable def After (w : World) (G : Str → Option Value) (hb : Heap) (κ : Str → Option NameKind) (sto : Str → Bool) (env : Env) (own wr : List Addr) (ov : List (Str × Addr)) (fl : Flo) (ρ' : Rho) (s : Shared) (Q : Flow → Shared → Prop) : Prop :=
  ∀ r h' tk own' wr' ov', Step own wr s.heap own' wr' h' → Sim w G hb κ env own' ov' ρ' h' → Wr env own' wr' sto → (∀ p ∈ ov', p.2 ∈ wr') → FloOk w own' h' sto ov ov' fl r → Q r { s with heap := h', toks := tk }

noncomputable def Ex (prog : Program) (w : World) (G : Str → Option Value) (hb : Heap) (n : Nat) (κ : Str → Option NameKind) (sto : Str → Bool) (st : Stmt) (f : DenS) : Prop :=
  ∀ (A : Around) (env : Env) (own wr : List Addr) (ov : List (Str × Addr)) (ρ : Rho) (s : Shared) (E : Value → Shared → Prop) (fl : Flo) (ρ' : Rho), Room A n → Sim w G hb κ env own ov ρ s.heap → Wr env own wr sto → (∀ p ∈ ov, p.2 ∈ wr) →
    f ρ = some (fl, ρ') → ∀ Q, After w G hb κ sto env own wr ov fl ρ' s Q → wpAny (model prog w) A (exec st env) Q E s
noncomputable def Exs (prog : Program) (w : World) (G : Str → Option Value) (hb : Heap) (n : Nat) (κ : Str → Option NameKind) (sto : Str → Bool) (st : List Stmt) (f : DenS) : Prop :=
  ∀ (A : Around) (env : Env) (own wr : List Addr) (ov : List (Str × Addr)) (ρ : Rho) (s : Shared) (E : Value → Shared → Prop) (fl : Flo) (ρ' : Rho), Room A n → Sim w G hb κ env own ov ρ s.heap → Wr env own wr sto → (∀ p ∈ ov, p.2 ∈ wr) →
    f ρ = some (fl, ρ') → ∀ Q, After w G hb κ sto env own wr ov fl ρ' s Q → wpAny (model prog w) A (execs st env) Q E s

section
variable {prog : Program} {w : World} {G : Str → Option Value} {hb : Heap} {n : Nat} {κ : Str → Option NameKind} {sto : Str → Bool}

theorem anyE {α : Type} {M : Model} {A : Around} {x : Sem α} {Q : α → Shared → Prop} {E : Value → Shared → Prop} {s : Shared} (h : wpAny M A x Q NoE s) : wpAny M A x Q E s := wpAny_mono h (fun _ _ q => q) fun _ _ q => q.elim

noncomputable def dSeq (f g : DenS) : DenS := fun ρ => (f ρ).bind fun x => match x.1 with
  | .next => g x.2
  | fl => some (fl, x.2)
theorem exs_nil : Exs prog w G hb n κ sto [] (fun ρ => some (.next, ρ)) :=
  fun A env own wr ov ρ s E fl ρ' R S W O e Q hQ => by
    cases e
    exact wpAny_execs_nil (hQ .next s.heap s.toks own wr ov (Step.refl _ _ _) S W O ⟨rfl, Pin.refl _ _⟩)
theorem exs_cons {st : Stmt} {rest : List Stmt} {f g : DenS} (h : Ex prog w G hb n κ sto st f) (hr : Exs prog w G hb n κ sto rest g) : Exs prog w G hb n κ sto (st :: rest) (dSeq f g) :=
  fun A env own wr ov ρ s E fl ρ' R S W O e Q hQ => by
    obtain ⟨⟨fl1, ρ1⟩, e1, e⟩ := Option.bind_eq_some_iff.mp e
    refine wpAny_execs_cons (h A env own wr ov ρ s E fl1 ρ1 R S W O e1 _ fun r h1 tk1 own1 wr1 ov1 st1 S1 W1 O1 F1 => ?_)
    cases fl1 with
    | next =>
      obtain ⟨rfl, P1⟩ := F1
      exact hr A env own1 wr1 ov1 ρ1 _ E fl ρ' R S1 W1 O1 e _ fun r2 h2 tk2 own2 wr2 ov2 st2 S2 W2 O2 F2 => hQ r2 h2 tk2 own2 wr2 ov2 (st1.trans S.ltAll st2) S2 W2 O2 (F2.pin P1)
    | cont => obtain ⟨rfl, P1⟩ := F1; cases e; exact hQ .cont h1 tk1 own1 wr1 ov1 st1 S1 W1 O1 ⟨rfl, P1⟩
    | brk => obtain ⟨rfl, P1⟩ := F1; cases e; exact hQ .brk h1 tk1 own1 wr1 ov1 st1 S1 W1 O1 ⟨rfl, P1⟩
    | ret d => obtain ⟨v, rfl, q⟩ := F1; cases e; exact hQ (.ret v) h1 tk1 own1 wr1 ov1 st1 S1 W1 O1 ⟨v, rfl, q⟩

/-! ## Stores -/
theorem SameBut.live {p : Addr} {h h' : Heap} (x : Heap.SameBut p h h') (hp : (h'.get? p).isSome = true) {a : Addr} (e : (h.get? a).isSome = true) : (h'.get? a).isSome = true := by
  by_cases q : a = p
  · rw [q]; exact hp
  · rw [x.2 a q]; exact e

theorem EnvOk.placeLive {env : Env} {own : List Addr} {vm : Str → Option Value} {h : Heap} (x : EnvOk env own vm h) : (h.get? env.locals).isSome = true := by
  obtain ⟨m, ⟨o, es, ep, q, _⟩, _⟩ := x.loc
  rw [q]; rfl

/-- bind a name -/
theorem Sim.bind {A : Around} {E : Value → Shared → Prop} {s : Shared} {env : Env} {own : List Addr} {ov ov' : List (Str × Addr)} {ρ : Rho} {x : Str} {v : Value} {b : Bd} {Q : Unit → Shared → Prop}
    (S : Sim w G hb κ env own ov ρ s.heap) (hk : κ x = some .local ∨ κ x = some .cell) (hov : ∀ p ∈ ov', p.2 ∈ own ∧ ¬ isPlace env p.2) (hinj : (ov'.map (·.2)).Nodup) (hother : ∀ y, y ≠ x → ov'.lookup y = ov.lookup y)
    (hB : BdOk w own ov' s.heap x v b)
    (h : ∀ h' tk p, (p = env.locals ∨ env.cells.lookup x = some p) → p ∈ own → Heap.SameBut p s.heap h' → (∀ a, (s.heap.get? a).isSome = true → (h'.get? a).isSome = true) → Sim w G hb κ env own ov' (upd ρ x b) h' → Q () { s with heap := h', toks := tk }) :
    wpAny (model prog w) A (storeName env x v) Q E s := by
  obtain ⟨vm, S⟩ := S
  refine S.eo.store (by rw [S.kap]; exact hk) fun h' tk p hp hpo live eo' sb => ?_
  have hpp : isPlace env p := hp.elim .inl fun q => .inr ⟨x, q⟩
  have lv : ∀ a, (s.heap.get? a).isSome = true → (h'.get? a).isSome = true := fun a e => SameBut.live sb live e
  have lef : Le (Fz own s.heap) (Fz own h') := fun a o e => Fz.of (Fz.get e).1 (by rw [sb.2 a (fun q => (Fz.get e).1 (q ▸ hpo))]; exact (Fz.get e).2)
  refine h h' tk p hp hpo sb lv ⟨_, eo', S.kap, S.bas, fun a o e => ?_, S.high, fun a ha => lv a (S.lt a ha), fun y b' hy => ?_, hov, hinj⟩
  · have : a ≠ p := fun q => by subst q; have := S.high _ hpo; rw [this] at e; cases e
    rw [sb.2 a this]; exact S.ext a o e
  · have up : ∀ {z : Str} {u : Value} {c : Bd}, BdOk w own ov' s.heap z u c → BdOk w own ov' h' z u c := by
      intro z u c hc
      cases c with
      | frz d => exact Rep.mono lef d hc
      | own d =>
        obtain ⟨a, o, h1, h2, h3, h4⟩ := hc
        refine ⟨a, o, h1, h2, ?_, h4.mono lef⟩
        have hm := hov _ (mem_of_lookup h2)
        rw [sb.2 a (fun q => hm.2 (q ▸ hpp))]; exact h3
    unfold upd at hy
    split at hy
    · rename_i e; subst e; cases hy
      exact ⟨by rcases hk with k | k <;> simp [isV, k], v, by simp, up hB⟩
    · rename_i e
      obtain ⟨k, u, h1, h2⟩ := S.vars y b' hy
      refine ⟨k, u, by rw [if_neg e]; exact h1, up ?_⟩
      cases b' with
      | frz d => exact h2
      | own d => obtain ⟨a, o, q1, q2, q3, q4⟩ := h2; exact ⟨a, o, q1, (hother y e).trans q2, q3, q4⟩

noncomputable def dPut (κ : Str → Option NameKind) (sto mu : Str → Bool) (x : Str) (y : Fl × D) (ρ : Rho) : Option Rho :=
  if (κ x = some .local ∨ κ x = some .cell) ∧ sto x = true then
    match y.1 with
    | .fresh => if mu x then some (upd ρ x (.own y.2)) else some (upd ρ x (.frz y.2))
    | .frozen => some (upd ρ x (.frz y.2))
    | .loose => none
  else none

theorem SimV.place {env : Env} {own : List Addr} {ov : List (Str × Addr)} {ρ : Rho} {h : Heap} {vm : Str → Option Value} (S : SimV w G hb κ env own ov ρ vm h) {a : Addr} (ha : isPlace env a) : a ∈ own := by
  rcases ha with rfl | ⟨y, q⟩
  · exact S.eo.locIn
  · exact S.eo.celIn y a q

theorem Wr.step {env : Env} {own wr : List Addr} {p : Addr} {x : Str} {h h' : Heap} (W : Wr env own wr sto) (hs : sto x = true) (hp : p = env.locals ∨ env.cells.lookup x = some p) (sb : Heap.SameBut p h h') (lv : ∀ a, (h.get? a).isSome = true → (h'.get? a).isSome = true) :
    Step own wr h own wr h' := by
  have hpw : p ∈ wr := hp.elim (fun q => q ▸ W.loc) fun q => W.cel x p hs q
  exact ⟨fun a o ha e => by rw [sb.2 a (fun q => ha (q ▸ hpw))]; exact e, lv, fun _ q => .inl q, fun _ q => .inl q, fun _ q => .inl q⟩

theorem Sim.put {A : Around} {E : Value → Shared → Prop} {s : Shared} {env : Env} {own wr : List Addr} {ov : List (Str × Addr)} {ρ ρ' : Rho} {x : Str} {v : Value} {fl : Fl} {d : D} {mu : Str → Bool} {h₀ : Heap} {Q : Unit → Shared → Prop}
    (S : Sim w G hb κ env own ov ρ h₀) (W : Wr env own wr sto) (O : ∀ p ∈ ov, p.2 ∈ wr) (hx : Ext h₀ s.heap) (r : VRep w own h₀ s.heap fl d v) (e : dPut κ sto mu x (fl, d) ρ = some ρ')
    (h : ∀ h' tk own' wr' ov', Step own wr h₀ own' wr' h' → Sim w G hb κ env own' ov' ρ' h' → Wr env own' wr' sto → (∀ p ∈ ov', p.2 ∈ wr') → Pin sto ov ov' → Q () { s with heap := h', toks := tk }) :
    wpAny (model prog w) A (storeName env x v) Q E s := by
  unfold dPut at e
  split at e
  · rename_i hk
    have frozen : ∀ ρ'', Rep w (Fz own s.heap) d v → upd ρ x (.frz d) = ρ'' → (∀ h' tk own' wr' ov', Step own wr h₀ own' wr' h' → Sim w G hb κ env own' ov' ρ'' h' → Wr env own' wr' sto → (∀ p ∈ ov', p.2 ∈ wr') → Pin sto ov ov' → Q () { s with heap := h', toks := tk }) →
        wpAny (model prog w) A (storeName env x v) Q E s := by
      intro ρ'' rr e2 h
      subst e2
      have S' := S.ext hx
      refine S'.bind (ov' := ov) (b := .frz d) hk.1 (let ⟨vm, S'⟩ := S'; S'.ovIn) (let ⟨vm, S'⟩ := S'; S'.ovInj) (fun _ _ => rfl) rr fun h' tk p hp hpo sb lv S2 => ?_
      exact h h' tk own wr ov ((Step.of_ext hx).trans S.ltAll (W.step hk.2 hp sb lv)) S2 W O (Pin.refl _ _)
    cases fl with
    | loose => cases e
    | frozen => cases e; exact frozen _ r rfl h
    | fresh =>
      simp only at e
      split at e
      · cases e
        obtain ⟨a, o, rfl, h2, h3, h4⟩ := r
        have ha : a ∉ own := fun q => isSome_none (S.ltAll a q) h2
        have S' := S.more (new := [a]) hx (fun b hb => by rw [List.mem_singleton.mp hb]; exact ⟨h2, by rw [h3]; rfl⟩)
        have W' : Wr env (a :: own) (a :: wr) sto := ⟨fun b hb => (List.mem_cons.mp hb).elim (fun q => q ▸ List.mem_cons_self) fun q => List.mem_cons_of_mem _ (W.sub b q), List.mem_cons_of_mem _ W.loc, fun y c hy q => List.mem_cons_of_mem _ (W.cel y c hy q)⟩
        have hpl : ¬ isPlace env a := fun q => ha (let ⟨vm, S⟩ := S; S.place q)
        have hov := (let ⟨vm, S'⟩ := S'; S'.ovIn : ∀ p ∈ ov, p.2 ∈ [a] ++ own ∧ ¬ isPlace env p.2)
        have hov0 := (let ⟨vm, S⟩ := S; S.ovIn : ∀ p ∈ ov, p.2 ∈ own ∧ ¬ isPlace env p.2)
        refine S'.bind (ov' := (x, a) :: ov) (b := .own d) hk.1 (fun p hp => ?_) ?_ (fun y hy => ?_) ⟨a, o, rfl, by simp, h3, h4⟩ fun h' tk p hp hpo sb lv S2 => ?_
        · rcases List.mem_cons.mp hp with rfl | hp
          · exact ⟨by simp, hpl⟩
          · exact hov p hp
        · rw [List.map_cons, List.nodup_cons]
          refine ⟨fun hm => ?_, let ⟨vm, S'⟩ := S'; S'.ovInj⟩
          obtain ⟨p, hp, q⟩ := List.mem_map.mp hm
          exact ha (by have q' := (hov0 p hp).1; rw [q] at q'; exact q')
        · have : (y == x) = false := by simpa using hy
          rw [List.lookup_cons, this]
        · have st1 : Step own wr h₀ (a :: own) (a :: wr) s.heap := ⟨fun b o' _ q => hx b o' q, fun b q => hx.some q, fun b hb => (List.mem_cons.mp hb).elim (fun q => .inr (q ▸ h2)) .inl, fun b hb => (List.mem_cons.mp hb).elim (fun q => .inr (q ▸ h2)) .inl, fun b hb => .inl (List.mem_cons_of_mem _ hb)⟩
          exact h h' tk (a :: own) (a :: wr) ((x, a) :: ov) (st1.trans S.ltAll (W'.step hk.2 hp sb lv)) S2 W' (fun p hp => (List.mem_cons.mp hp).elim (fun q => q ▸ List.mem_cons_self) fun q => List.mem_cons_of_mem _ (O p q)) (Pin.cons hk.2)
      · cases e; exact frozen _ (r.frz (by simp) S.ltAll) rfl h
  · cases e

/-! ## Simple statements -/
noncomputable def ncB : (e : Expr) → { b : Bool // b = true → ∀ (t : Option Expr) (l : Nat) (env : Env), swapsWith e t l env = pure false }
  | .Constant c0 k0 p0 => ⟨true, fun _ _ _ _ => rfl⟩
  | .Name x0 p0 => ⟨true, fun _ _ _ _ => rfl⟩
  | .BinOp a0 o0 b0 p0 => ⟨true, fun _ _ _ _ => rfl⟩
  | .Call f0 es0 kw0 p0 => ⟨true, fun _ _ _ _ => rfl⟩
  | .Compare a0 os0 es0 p0 => ⟨true, fun _ _ _ _ => rfl⟩
  | .IfExp a0 b0 c0 p0 => ⟨true, fun _ _ _ _ => rfl⟩
  | .Dict ks0 vs0 p0 => ⟨true, fun _ _ _ _ => rfl⟩
  | .List es0 p0 => ⟨true, fun _ _ _ _ => rfl⟩
  | .Tuple es0 k0 p0 => ⟨true, fun _ _ _ _ => rfl⟩
  | .Subscript a0 b0 p0 => ⟨true, fun _ _ _ _ => rfl⟩
  | .BoolOp o0 es0 p0 => ⟨true, fun _ _ _ _ => rfl⟩
  | _ => ⟨false, fun h => (nomatch h)⟩
noncomputable def notComp (e : Expr) : Bool := (ncB e).1
theorem swaps_not {value : Expr} {t : Option Expr} {l : Nat} {env : Env} (h : notComp value = true) : swapsWith value t l env = pure false := (ncB value).2 h t l env

noncomputable def dAssign (κ : Str → Option NameKind) (sto mu : Str → Bool) (x : Str) (value : Expr) (f : Den) : DenS := fun ρ =>
  if notComp value then (f ρ).bind fun y => (dPut κ sto mu x y ρ).map fun ρ' => (.next, ρ') else none
theorem ex_assign {x : Str} {value : Expr} {p pos : Pos} {f : Den} {mu : Str → Bool} (hv : Ev prog w G hb n κ value f) : Ex prog w G hb n κ sto (.Assign [.Name x p] value pos) (dAssign κ sto mu x value f) :=
  fun A env own wr ov ρ s E fl ρ' R S W O e Q hQ => by
    unfold dAssign at e
    split at e
    · rename_i hn
      obtain ⟨⟨f1, d1⟩, e1, e⟩ := Option.bind_eq_some_iff.mp e
      obtain ⟨ρ1, e2, e⟩ := Option.map_eq_some_iff.mp e
      cases e
      refine anyE (wpAny_Assign_Name (hv A env own ov ρ s f1 d1 R S e1 _ fun v h1 tk1 x1 r1 => ?_) (swaps_not hn))
      exact S.put (s := { s with heap := h1, toks := tk1 }) W O x1 r1 e2 fun h' tk own' wr' ov' st S' W' O' P' => hQ .next h' tk own' wr' ov' st S' W' O' ⟨rfl, P'⟩
    · cases e

noncomputable def dIfS (ft : DenB) (fb fo : DenS) : DenS := fun ρ => (ft ρ).bind fun b => if b then fb ρ else fo ρ
theorem ex_if {t : Expr} {b o : List Stmt} {pos : Pos} {ft : DenB} {fb fo : DenS} (ht : EvB prog w G hb n κ t ft) (hbd : Exs prog w G hb n κ sto b fb) (ho : Exs prog w G hb n κ sto o fo) : Ex prog w G hb n κ sto (.If t b o pos) (dIfS ft fb fo) :=
  fun A env own wr ov ρ s E fl ρ' R S W O e Q hQ => by
    obtain ⟨b1, e1, e⟩ := Option.bind_eq_some_iff.mp e
    refine wpAny_If (anyE (ht A env own ov ρ s b1 R S e1 _ fun h1 tk1 x1 => ?_))
    have go : ∀ r h' tk own' wr' ov', Step own wr h1 own' wr' h' → Sim w G hb κ env own' ov' ρ' h' → Wr env own' wr' sto → (∀ p ∈ ov', p.2 ∈ wr') → FloOk w own' h' sto ov ov' fl r → Q r { s with heap := h', toks := tk } :=
      fun r h' tk own' wr' ov' st S' W' O' F => hQ r h' tk own' wr' ov' ((Step.of_ext x1).trans S.ltAll st) S' W' O' F
    cases b1 with
    | true => exact hbd A env own wr ov ρ { s with heap := h1, toks := tk1 } E fl ρ' R (S.ext x1) W O e Q go
    | false => exact ho A env own wr ov ρ { s with heap := h1, toks := tk1 } E fl ρ' R (S.ext x1) W O e Q go

/-- all that is one's own is laid down -/
noncomputable def layB : Bd → Bd
  | .own d => .frz d
  | .frz d => .frz d
noncomputable def lay (ρ : Rho) : Rho := fun x => (ρ x).map layB
theorem lay_frz {ρ : Rho} {x : Str} {d : D} (h : ρ x = some (.frz d)) : Mine.lay ρ x = some (.frz d) := by unfold Mine.lay; rw [h]; rfl
theorem lay_own {ρ : Rho} {x : Str} {d : D} (h : ρ x = some (.own d)) : Mine.lay ρ x = some (.frz d) := by unfold Mine.lay; rw [h]; rfl
theorem Sim.lay {env : Env} {own wr : List Addr} {ov : List (Str × Addr)} {ρ : Rho} {h : Heap} (S : Sim w G hb κ env own ov ρ h) (W : Wr env own wr sto) (O : ∀ p ∈ ov, p.2 ∈ wr) :
    ∃ own' wr', Step own wr h own' wr' h ∧ Sim w G hb κ env own' [] (lay ρ) h ∧ Wr env own' wr' sto := by
  obtain ⟨vm, S⟩ := S
  let keep : Addr → Bool := fun a => !(ov.map (·.2)).contains a
  have hk : ∀ a, isPlace env a → keep a = true := fun a ha => by
    simp only [keep, Bool.not_eq_true', List.contains_eq_mem, decide_eq_false_iff_not]
    intro hm
    obtain ⟨p, hp, rfl⟩ := List.mem_map.mp hm
    exact (S.ovIn p hp).2 ha
  have hfew : ∀ a ∈ own.filter keep, a ∈ own := fun a ha => (List.mem_filter.mp ha).1
  refine ⟨own.filter keep, wr.filter keep, ⟨fun _ _ _ e => e, fun _ e => e, fun a ha => .inl (hfew a ha), fun a ha => .inl (List.mem_filter.mp ha).1, fun a ha => ?_⟩, ⟨vm, S.eo.keep (fun a ha hp => List.mem_filter.mpr ⟨ha, hk a hp⟩) (fun _ _ _ e => e), S.kap, S.bas, S.ext, fun a ha => S.high a (hfew a ha), fun a ha => S.lt a (hfew a ha), fun x b hb => ?_, fun p hp => (nomatch hp), by simp⟩, fun a ha => List.mem_filter.mpr ⟨W.sub a (List.mem_filter.mp ha).1, (List.mem_filter.mp ha).2⟩, List.mem_filter.mpr ⟨W.loc, hk _ (.inl rfl)⟩, fun x c hs hc => List.mem_filter.mpr ⟨W.cel x c hs hc, hk c (.inr ⟨x, hc⟩)⟩⟩
  · by_cases q : keep a = true
    · exact .inl (List.mem_filter.mpr ⟨ha, q⟩)
    · simp only [keep, Bool.not_eq_true', List.contains_eq_mem, decide_eq_false_iff_not, Classical.not_not] at q
      obtain ⟨p, hp, rfl⟩ := List.mem_map.mp q
      exact .inr (O p hp)
  · obtain ⟨b0, hd, rfl⟩ := Option.map_eq_some_iff.mp hb
    cases b0 with
    | own d =>
      obtain ⟨k, v, h1, a, o, rfl, h2, h3, h4⟩ := S.vars x _ hd
      refine ⟨k, .ref a, h1, ?_⟩
      refine Rep.of_obj (Fz.of (fun hm => ?_) h3) (h4.mono (Fz.fewer hfew))
      have := (List.mem_filter.mp hm).2
      simp only [keep, Bool.not_eq_true', List.contains_eq_mem, decide_eq_false_iff_not] at this
      exact this (List.mem_map.mpr ⟨_, mem_of_lookup h2, rfl⟩)
    | frz d =>
      obtain ⟨k, v, h1, h2⟩ := S.vars x _ hd
      exact ⟨k, v, h1, Rep.mono (Fz.fewer hfew) d h2⟩

/-- a return after all is laid down -/
noncomputable def retOf : Flo → Option D
  | .ret d => some d
  | .next => none
  | .cont => none
  | .brk => none
noncomputable def dLay (f : DenS) : DenS := fun ρ => (f (Mine.lay ρ)).bind fun x => (retOf x.1).map fun d => (.ret d, x.2)
theorem ex_lay {st : Stmt} {f : DenS} (h : Ex prog w G hb n κ sto st f) : Ex prog w G hb n κ sto st (dLay f) :=
  fun A env own wr ov ρ s E fl ρ' R S W O e Q hQ => by
    obtain ⟨own1, wr1, st1, S1, W1⟩ := S.lay W O
    obtain ⟨⟨f1, ρ1⟩, e1, e⟩ := Option.bind_eq_some_iff.mp e
    cases f1 with
    | ret d =>
      cases e
      exact h A env own1 wr1 [] _ s E (.ret d) _ R S1 W1 (fun p hp => (nomatch hp)) e1 Q fun r h' tk own' wr' ov' st S' W' O' F => hQ r h' tk own' wr' ov' (st1.trans S.ltAll st) S' W' O' F
    | next => cases e
    | cont => cases e
    | brk => cases e

noncomputable def dRet (f : Den) : DenS := fun ρ => (f ρ).bind fun x => if x.1 = .loose then none else some (.ret x.2, ρ)
theorem ex_ret {e : Expr} {pos : Pos} {f : Den} (he : Ev prog w G hb n κ e f) : Ex prog w G hb n κ sto (.Return (some e) pos) (dLay (dRet f)) :=
  ex_lay fun A env own wr ov ρ s E fl ρ' R S W O e Q hQ => by
    obtain ⟨⟨f1, d1⟩, e1, e⟩ := Option.bind_eq_some_iff.mp e
    split at e
    · cases e
    · rename_i hl
      cases e
      refine wpAny_Return_some (anyE (he A env own ov ρ s f1 d1 R S e1 _ fun v h1 tk1 x1 r1 => ?_))
      exact hQ (.ret v) h1 tk1 own wr ov (Step.of_ext x1) (S.ext x1) W O ⟨v, rfl, r1.frz hl S.ltAll⟩
theorem ex_retNone {pos : Pos} : Ex prog w G hb n κ sto (.Return none pos) (fun ρ => some (.ret .none, ρ)) :=
  fun A env own wr ov ρ s E fl ρ' R S W O e Q hQ => by
    cases e
    exact wpAny_Return_none (hQ (.ret .none) s.heap s.toks own wr ov (Step.refl _ _ _) S W O ⟨_, rfl, by simp only [Rep]⟩)
end
end Mine
end
section
open PySem PySem.W PyProof.Rows PySem.Spec
set_option maxRecDepth 100000
namespace Mine

/-! ## Walks over a dict whatever its keys -/
section
variable {prog : Program} {w : World} {A : Around} {E : Value → Shared → Prop} {s : Shared}

theorem itemsView_iter {v d : Addr} {o : Obj} {es : Array DictEntry} {ep : Nat} {Q : Value → Shared → Prop} (hv : s.heap.IsItemsView v d) (ho : s.heap.get? d = some o) (hdat : o.data = .dict es ep)
    (hQ : Q (.ref s.heap.objs.size) { s with heap := s.heap.push { cls := .type "dict_itemiterator", data := .fields #[.none, .bool false, .ref d, .int 0 0, .int es.size 0, .int ep 0, .none, .none] } }) :
    wpAny (model prog w) A (pyIter (.ref v)) Q E s := by
  obtain ⟨ov, hov, hcv, hdv⟩ := id hv
  refine wpAny_pyIter_slot hv.typeIs F.slot_dict_items_iter (wpAny_call_entry F.slot_dict_items_iter hv.typeIs F.entry_dict_items_iter ?_ (F.args_dict_items_iter_1 _))
  unfold Builtin.«dict_items.__iter__»
  refine wpAny_bind (wpAny_pure (wpAny_bind ?_))
  unfold Builtin.Dict_items.dictOf
  refine wpAny_bind (wpAny_field hov hdv (x := .ref d) rfl (wpAny_pure (wpAny_bind ?_)))
  unfold Builtin.Dict_items.newIterator
  refine wpAny_bind (wpAny_dictEntries ho hdat (wpAny_bind (wpAny_dictEpoch ho hdat ?_)))
  have hown : Builtin.Dict_items.ownsTuple "dict_itemiterator" = true := by decide
  simp -iota only [hown, if_true]
  refine wpAny_newObj_type (wpAny_pure ⟨_, rfl, "dict_itemiterator", _, ⟨_, Heap.get?_push_size _ rfl, rfl⟩, F.slot_dict_itemiterator_next.lookup, ?_⟩)
    (by simp only [sizeOk, Builtin.Dict_items.ownedTupleFields, List.size_toArray, List.length_append, List.length_cons, List.length_nil, sizeLine_eq]; exact om_28)
  simpa [rawInt, Builtin.Dict_items.ownedTupleFields] using hQ

theorem idx_at {es : Array DictEntry} {i : Nat} {x : Option DictEntry} (h : es[i]? = x) : (if (i : Int) < 0 then none else es[(i : Int).toNat]?) = x := by
  rw [if_neg (Int.not_lt.mpr (Int.natCast_nonneg i))]; exact h
theorem stop_exc {Q1 : PySem.Fin → Shared → Prop} {Q : Option Value → Shared → Prop} (hh : A.handled = none) (hQ : ∀ h', Ext s.heap h' → Q none { s with heap := h' }) :
    wpAny (model prog w) A.in1 (newExc (.type "StopIteration") [] >>= fun e => raiseNew e) Q1 (fun e s' => wpAny (model prog w) A (isInstance e (.type "StopIteration") >>= fun b => if b = true then pure none else throw e) Q E s') s := by
  refine wpAny_bind ?_
  simp -iota only [newExc, newTuple]
  refine wpAny_bind (wpAny_newObj_type ?_ (by size_fits))
  refine wpAny_bind (m := firstArgMember _ _) (wpAny_of_eq (a := Value.none) (by first | rfl | (simp only [firstArgMember]; rfl)) ?_)
  refine wpAny_newObj_type ?_ (by size_fits)
  refine wpAny_bind (wpAny_handled ?_)
  rw [show A.in1.handled = none from hh]
  refine wpAny_bind (wpAny_pure (wpAny_throw ?_))
  refine wpAny_bind (wpAny_isInstance (T := "StopIteration") (b := true) ⟨_, Heap.get?_push_size _ rfl, rfl⟩ isSubtype_stop ?_)
  exact wpAny_pure (hQ _ ((Ext.push _ _).trans (Ext.push _ _)))

theorem items_turn {it d : Addr} {i : Nat} {od : Obj} {es : Array DictEntry} {ep : Nat} {ok ov : Value} {en : DictEntry} {Q : Option Value → Shared → Prop} (hit : IsItemIter s.heap it d i es.size ep ok ov)
    (hod : s.heap.get? d = some od) (hdd : od.data = .dict es ep) (hx : es[i]? = some en)
    (hQ : ∀ h', IsItemIterOut h' it d (i + 1) es.size ep en.key en.val s.heap.objs.size →
      h'.get? s.heap.objs.size = some { cls := .type "tuple", data := .seq #[en.key, en.val] } →
      (∀ b o, b ≠ it → s.heap.get? b = some o → h'.get? b = some o) → Q (some (.ref s.heap.objs.size)) { s with heap := h' }) :
    wpAny (model prog w) A (pyNext (.ref it)) Q E s := by
  obtain ⟨hp, g, dr, tk, os⟩ := s
  have hT : Shared.TypeIs ⟨hp, g, dr, tk, os⟩ (.ref it) "dict_itemiterator" := ⟨_, hit, rfl⟩
  obtain ⟨hlt, hxe⟩ := Array.getElem?_eq_some_iff.mp hx
  have hown : Builtin.Dict_items.ownsTuple "dict_itemiterator" = true := by decide
  unfold pyNext
  refine wpAny_bind (wpAny_attempt (wpAny_callSpecial?_slot (name := Str.ofString "__next__") hT F.slot_dict_itemiterator_next
    (wpAny_call_entry F.slot_dict_itemiterator_next hT F.entry_dict_itemiterator_next ?_ (F.args_dict_itemiterator_next_1 _))))
  refine wpAny_bind (wpAny_pure (wpAny_bind (wpAny_bind ?_)))
  first | refine wpAny_bind (wpAny_typeNameOfWhole_itemiter hT (wpAny_pure ?_)) | refine wpAny_bind (wpAny_typeNameOf_itemiter hT (wpAny_pure ?_))
  refine wpAny_bind (wpAny_fieldsOf hit rfl ?_)
  simp -iota only [hown, if_true]
  show wpAny _ _ (if (Value.ref d == Value.none) = true then _ else _) _ _ _
  rw [if_neg (show ¬ ((Value.ref d == Value.none) = true) from Bool.false_ne_true)]
  refine wpAny_bind (wpAny_pure (wpAny_bind (wpAny_dictEntries hod hdd ?_)))
  rw [if_neg (by simp)]
  refine wpAny_bind (wpAny_pure (wpAny_bind (wpAny_dictEpoch hod hdd ?_)))
  rw [if_neg (by simp)]
  refine wpAny_pure ?_
  dsimp only
  rw [idx_at hx]
  refine wpAny_bind ?_
  first | refine wpAny_bind (wpAny_typeNameOfWhole_itemiter hT (wpAny_pure ?_)) | refine wpAny_bind (wpAny_typeNameOf_itemiter hT (wpAny_pure ?_))
  refine wpAny_bind (wpAny_isOneOf_itemiter hT ?_)
  show wpAny _ _ (setField (.ref it) 3 (rawInt ((i : Int) + 1)) >>= _) _ _ ⟨hp, g, dr, tk, os⟩
  refine wpAny_bind (wpAny_setField_rec hit (by simp) fun h₁ he₁ hs₁ => ?_)
  replace hs₁ : Heap.SameBut it hp h₁ := hs₁
  replace he₁ : IsItemIter h₁ it d (i + 1) es.size ep ok ov := by
    have e : ((i + 1 : Nat) : Int) = (i : Int) + 1 := by exact om_30
    unfold IsItemIter; rw [e]; simpa [rawInt] using he₁
  have hT₁ : Shared.TypeIs ⟨h₁, g, dr, tk, os⟩ (.ref it) "dict_itemiterator" := ⟨_, he₁, rfl⟩
  refine wpAny_bind (wpAny_holding (wpAny_bind (wpAny_isOneOf_itemiter hT₁ ?_)))
  refine wpAny_bind (wpAny_isOneOf_itemiter hT₁ ?_)
  show wpAny _ _ (Builtin.Dict_items.pairFromOwner (.ref it) 6 en.key en.val) _ _ ⟨h₁, g, dr, tk, os⟩
  unfold Builtin.Dict_items.pairFromOwner
  refine wpAny_bind (wpAny_newTuple ?_)
  have he₂ : IsItemIter (h₁.push { cls := .type "tuple", data := .seq #[en.key, en.val] }) it d (i + 1) es.size ep ok ov := Heap.get?_push_of_some _ he₁
  generalize hh₂ : h₁.push { cls := .type "tuple", data := .seq #[en.key, en.val] } = h₂ at he₂
  have hz₁ : h₁.objs.size = hp.objs.size := hs₁.1
  have hil : it ≠ hp.objs.size := Nat.ne_of_lt (Heap.lt_size hit)
  have ht₂ : h₂.get? hp.objs.size = some { cls := .type "tuple", data := .seq #[en.key, en.val] } := by rw [← hh₂, ← hz₁]; exact Heap.get?_push_size _ rfl
  have hk₂ : ∀ b o, b ≠ it → hp.get? b = some o → h₂.get? b = some o := fun b o hb e => by rw [← hh₂]; exact Heap.get?_push_of_some _ (hs₁.extBut b o hb e)
  show wpAny _ _ (Builtin.Dict_items.ownedTupleIsFree (.ref it) >>= _) _ _ ⟨h₂, g, dr, tk, os⟩
  rw [hz₁]
  refine wpAny_bind ?_
  unfold Builtin.Dict_items.ownedTupleIsFree
  refine wpAny_bind (wpAny_field he₂ rfl (x := .none) rfl (wpAny_pure ?_))
  simp only [if_true]
  refine wpAny_bind (wpAny_field he₂ rfl (x := ok) rfl (wpAny_bind (wpAny_field he₂ rfl (x := ov) rfl ?_)))
  refine wpAny_bind (wpAny_setField_rec he₂ (by simp) fun h₃ he₃ hs₃ => ?_)
  replace hs₃ : Heap.SameBut it h₂ h₃ := hs₃
  replace he₃ : IsItemIter h₃ it d (i + 1) es.size ep en.key ov := he₃
  refine wpAny_bind (wpAny_setField_rec he₃ (by simp) fun h₄ he₄ hs₄ => ?_)
  replace hs₄ : Heap.SameBut it h₃ h₄ := hs₄
  replace he₄ : IsItemIter h₄ it d (i + 1) es.size ep en.key en.val := he₄
  refine wpAny_bind (wpAny_setField_rec he₄ (by simp) fun h₅ he₅ hs₅ => ?_)
  replace hs₅ : Heap.SameBut it h₄ h₅ := hs₅
  replace he₅ : IsItemIterOut h₅ it d (i + 1) es.size ep en.key en.val hp.objs.size := he₅
  refine wpAny_bind (wpAny_setField_rec he₅ (by simp) fun h₆ he₆ hs₆ => ?_)
  replace hs₆ : Heap.SameBut it h₅ h₆ := hs₆
  replace he₆ : IsItemIterOut h₆ it d (i + 1) es.size ep en.key en.val hp.objs.size := he₆
  have up : ∀ b o, b ≠ it → h₂.get? b = some o → h₆.get? b = some o := fun b o hb e => hs₆.extBut b o hb (hs₅.extBut b o hb (hs₄.extBut b o hb (hs₃.extBut b o hb e)))
  exact wpAny_bind (wpAny_letGo (wpAny_pure (wpAny_pure ⟨_, rfl, wpAny_pure (hQ h₆ he₆ (up _ _ hil.symm ht₂) fun b o hb e => up b o hb (hk₂ b o hb e))⟩)))

theorem items_stop {it d : Addr} {i : Nat} {od : Obj} {es : Array DictEntry} {ep : Nat} {ok ov : Value} {Q : Option Value → Shared → Prop} (hh : A.handled = none) (hit : IsItemIter s.heap it d i es.size ep ok ov)
    (hod : s.heap.get? d = some od) (hdd : od.data = .dict es ep) (hx : es[i]? = none) (hQ : ∀ h', Heap.ExtBut it s.heap h' → Q none { s with heap := h' }) : wpAny (model prog w) A (pyNext (.ref it)) Q E s := by
  have hT : s.TypeIs (.ref it) "dict_itemiterator" := ⟨_, hit, rfl⟩
  have hown : Builtin.Dict_items.ownsTuple "dict_itemiterator" = true := by decide
  unfold pyNext
  refine wpAny_bind (wpAny_attempt (wpAny_callSpecial?_slot (name := Str.ofString "__next__") hT F.slot_dict_itemiterator_next
    (wpAny_call_entry F.slot_dict_itemiterator_next hT F.entry_dict_itemiterator_next ?_ (F.args_dict_itemiterator_next_1 _))))
  refine wpAny_bind (wpAny_pure (wpAny_bind (wpAny_bind ?_)))
  first | refine wpAny_bind (wpAny_typeNameOfWhole_itemiter hT (wpAny_pure ?_)) | refine wpAny_bind (wpAny_typeNameOf_itemiter hT (wpAny_pure ?_))
  refine wpAny_bind (wpAny_fieldsOf hit rfl ?_)
  simp -iota only [hown, if_true]
  show wpAny _ _ (if (Value.ref d == Value.none) = true then _ else _) _ _ s
  rw [if_neg (show ¬ ((Value.ref d == Value.none) = true) from Bool.false_ne_true)]
  refine wpAny_bind (wpAny_pure (wpAny_bind (wpAny_dictEntries hod hdd ?_)))
  rw [if_neg (by simp)]
  refine wpAny_bind (wpAny_pure (wpAny_bind (wpAny_dictEpoch hod hdd ?_)))
  rw [if_neg (by simp)]
  refine wpAny_pure ?_
  dsimp only
  rw [idx_at hx]
  refine wpAny_bind ?_
  first | refine wpAny_bind (wpAny_typeNameOfWhole_itemiter hT (wpAny_pure ?_)) | refine wpAny_bind (wpAny_typeNameOf_itemiter hT (wpAny_pure ?_))
  show wpAny _ _ (setField (.ref it) 2 .none >>= _) _ _ s
  refine wpAny_bind (wpAny_setField hit rfl (by simp) ?_)
  exact stop_exc hh fun h' x => hQ h' fun b o hb e => x b o ((Heap.SameBut.update ..).extBut b o hb e)

theorem valuesView_iter {v d : Addr} {o : Obj} {es : Array DictEntry} {ep : Nat} {Q : Value → Shared → Prop} (hv : s.heap.IsValuesView v d) (ho : s.heap.get? d = some o) (hdat : o.data = .dict es ep)
    (hQ : Q (.ref s.heap.objs.size) { s with heap := s.heap.push { cls := .type "dict_valueiterator", data := .fields #[.ref d, .int 0 0, .int es.size 0, .int ep 0] } }) :
    wpAny (model prog w) A (pyIter (.ref v)) Q E s := by
  obtain ⟨ov, hov, hcv, hdv⟩ := id hv
  refine wpAny_pyIter_slot hv.typeIs F.slot_dict_values_iter (wpAny_call_entry F.slot_dict_values_iter hv.typeIs F.entry_dict_values_iter ?_ (F.args_dict_values_iter_1 _))
  unfold Builtin.«dict_values.__iter__»
  refine wpAny_bind (wpAny_pure (wpAny_bind ?_))
  unfold Builtin.Dict_items.dictOf
  refine wpAny_bind (wpAny_field hov hdv (x := .ref d) rfl (wpAny_pure (wpAny_bind ?_)))
  unfold Builtin.Dict_items.newIterator
  refine wpAny_bind (wpAny_dictEntries ho hdat (wpAny_bind (wpAny_dictEpoch ho hdat ?_)))
  have hown : Builtin.Dict_items.ownsTuple "dict_valueiterator" = false := by decide
  simp -iota only [hown, Bool.false_eq_true, if_false]
  refine wpAny_newObj_type (wpAny_pure ⟨_, rfl, "dict_valueiterator", _, ⟨_, Heap.get?_push_size _ rfl, rfl⟩, F.slot_dict_valueiterator_next.lookup, ?_⟩)
  simpa [rawInt] using hQ

theorem values_turn {it d : Addr} {i : Nat} {od : Obj} {es : Array DictEntry} {ep : Nat} {en : DictEntry} {Q : Option Value → Shared → Prop} (hit : s.heap.IsValIter it d i es.size ep)
    (hod : s.heap.get? d = some od) (hdd : od.data = .dict es ep) (hx : es[i]? = some en)
    (hQ : ∀ h', h'.IsValIter it d (i + 1) es.size ep → Heap.SameBut it s.heap h' → Q (some en.val) { s with heap := h' }) :
    wpAny (model prog w) A (pyNext (.ref it)) Q E s := by
  obtain ⟨o, ho, hc, hd⟩ := id hit
  have hown : Builtin.Dict_items.ownsTuple "dict_valueiterator" = false := by decide
  unfold pyNext
  refine wpAny_bind (wpAny_attempt (wpAny_callSpecial?_slot (name := Str.ofString "__next__") hit.typeIs F.slot_dict_valueiterator_next
    (wpAny_call_entry F.slot_dict_valueiterator_next hit.typeIs F.entry_dict_valueiterator_next ?_ (F.args_dict_valueiterator_next_1 _))))
  refine wpAny_bind (wpAny_pure (wpAny_bind (wpAny_bind ?_)))
  first | refine wpAny_bind (wpAny_typeNameOfWhole_valiter hit.typeIs (wpAny_pure ?_)) | refine wpAny_bind (wpAny_typeNameOf_valiter hit.typeIs (wpAny_pure ?_))
  refine wpAny_bind (wpAny_fieldsOf ho hd ?_)
  simp -iota only [hown, Bool.false_eq_true, if_false]
  show wpAny _ _ (if (Value.ref d == Value.none) = true then _ else _) _ _ s
  rw [if_neg (show ¬ ((Value.ref d == Value.none) = true) from Bool.false_ne_true)]
  refine wpAny_bind (wpAny_pure (wpAny_bind (wpAny_dictEntries hod hdd ?_)))
  rw [if_neg (by simp)]
  refine wpAny_bind (wpAny_pure (wpAny_bind (wpAny_dictEpoch hod hdd ?_)))
  rw [if_neg (by simp)]
  refine wpAny_pure ?_
  dsimp only
  rw [idx_at hx]
  refine wpAny_bind ?_
  first | refine wpAny_bind (wpAny_typeNameOfWhole_valiter hit.typeIs (wpAny_pure ?_)) | refine wpAny_bind (wpAny_typeNameOf_valiter hit.typeIs (wpAny_pure ?_))
  refine wpAny_bind (wpAny_isOneOf_valiter hit.typeIs ?_)
  show wpAny _ _ (setField (.ref it) 1 (rawInt ((i : Int) + 1)) >>= _) _ _ s
  refine wpAny_bind (wpAny_setField ho hd (by simp) ?_)
  have hit' : (s.heap.update it (Obj.mapFields (·.setIfInBounds 1 (rawInt ((i : Int) + 1))))).IsValIter it d (i + 1) es.size ep :=
    ⟨_, Heap.get?_update_self _ ho (Obj.isFreed_of_fields (Obj.data_mapFields hd _)), (Obj.cls_mapFields ..).trans hc, by rw [Obj.data_mapFields hd]; simp [rawInt]⟩
  refine wpAny_bind (wpAny_holding ?_)
  refine wpAny_bind (wpAny_isOneOf_valiter (s := { s with heap := s.heap.update it (Obj.mapFields (·.setIfInBounds 1 (rawInt ((i : Int) + 1)))) }) hit'.typeIs ?_)
  refine wpAny_bind (wpAny_isOneOf_valiter (s := { s with heap := s.heap.update it (Obj.mapFields (·.setIfInBounds 1 (rawInt ((i : Int) + 1)))) }) hit'.typeIs ?_)
  show wpAny _ _ (pure en.val) _ _ _
  exact wpAny_pure (wpAny_pure ⟨_, rfl, wpAny_pure (hQ _ hit' (Heap.SameBut.update ..))⟩)

theorem values_stop {it d : Addr} {i : Nat} {od : Obj} {es : Array DictEntry} {ep : Nat} {Q : Option Value → Shared → Prop} (hh : A.handled = none) (hit : s.heap.IsValIter it d i es.size ep)
    (hod : s.heap.get? d = some od) (hdd : od.data = .dict es ep) (hx : es[i]? = none) (hQ : ∀ h', Heap.ExtBut it s.heap h' → Q none { s with heap := h' }) : wpAny (model prog w) A (pyNext (.ref it)) Q E s := by
  obtain ⟨o, ho, hc, hd⟩ := id hit
  have hown : Builtin.Dict_items.ownsTuple "dict_valueiterator" = false := by decide
  unfold pyNext
  refine wpAny_bind (wpAny_attempt (wpAny_callSpecial?_slot (name := Str.ofString "__next__") hit.typeIs F.slot_dict_valueiterator_next
    (wpAny_call_entry F.slot_dict_valueiterator_next hit.typeIs F.entry_dict_valueiterator_next ?_ (F.args_dict_valueiterator_next_1 _))))
  refine wpAny_bind (wpAny_pure (wpAny_bind (wpAny_bind ?_)))
  first | refine wpAny_bind (wpAny_typeNameOfWhole_valiter hit.typeIs (wpAny_pure ?_)) | refine wpAny_bind (wpAny_typeNameOf_valiter hit.typeIs (wpAny_pure ?_))
  refine wpAny_bind (wpAny_fieldsOf ho hd ?_)
  simp -iota only [hown, Bool.false_eq_true, if_false]
  show wpAny _ _ (if (Value.ref d == Value.none) = true then _ else _) _ _ s
  rw [if_neg (show ¬ ((Value.ref d == Value.none) = true) from Bool.false_ne_true)]
  refine wpAny_bind (wpAny_pure (wpAny_bind (wpAny_dictEntries hod hdd ?_)))
  rw [if_neg (by simp)]
  refine wpAny_bind (wpAny_pure (wpAny_bind (wpAny_dictEpoch hod hdd ?_)))
  rw [if_neg (by simp)]
  refine wpAny_pure ?_
  dsimp only
  rw [idx_at hx]
  refine wpAny_bind ?_
  first | refine wpAny_bind (wpAny_typeNameOfWhole_valiter hit.typeIs (wpAny_pure ?_)) | refine wpAny_bind (wpAny_typeNameOf_valiter hit.typeIs (wpAny_pure ?_))
  show wpAny _ _ (setField (.ref it) 0 .none >>= _) _ _ s
  refine wpAny_bind (wpAny_setField ho hd (by simp) ?_)
  exact stop_exc hh fun h' x => hQ h' fun b o hb e => x b o ((Heap.SameBut.update ..).extBut b o hb e)

/-- d.items(), d.values() -/
theorem view_call {d : Addr} {o : Obj} {id cls : String} {name : Str} {pos : Pos} {Q : Value → Shared → Prop} (hc : (name = "items" ∧ id = "dict.items" ∧ cls = "dict_items") ∨ (name = "values" ∧ id = "dict.values" ∧ cls = "dict_values")) (hd : d ≠ sysModules)
    (ho : s.heap.get? d = some o) (hx : o.ExactDict) (hQ : Q (.ref s.heap.objs.size) { s with heap := s.heap.push { cls := .type cls, data := .fields #[.ref d] } }) :
    MethodOn prog w A name pos (.ref d) [] Q E s := by
  have hT : s.TypeIs (.ref d) "dict" := ⟨o, ho, hx.1⟩
  have hdb : ¬ ((d == sysModules) = true) := by simpa using hd
  have nod : ∀ a, Value.ref d = .ref a → ∃ ob, s.heap.get? a = some ob ∧ ob.dict = none := fun a e => by cases e; exact ⟨o, ho, hx.2.1⟩
  rcases hc with ⟨rfl, rfl, rfl⟩ | ⟨rfl, rfl, rfl⟩
  · refine ⟨"dict", "dict.items", F.plainAttrs_dict, F.slot_dict_items, F.type_dict_items, hT, nod, ?_⟩
    refine Calls.callWith_builtin rfl (PySem.evalArgs_none ?_)
    refine wpAny_call_entry F.slot_dict_items hT F.entry_dict_items ?_ (F.args_dict_items_1 _)
    unfold Builtin.«dict.items»
    refine wpAny_bind ?_
    unfold Builtin.Dict.noArgs
    refine wpAny_bind (wpAny_notOrdered_dict hT ?_)
    refine wpAny_pure (a := d) ?_
    show wpAny _ _ (Builtin.Dict.showsAll d >>= _) _ _ s
    unfold Builtin.Dict.showsAll
    rw [if_neg hdb]
    exact wpAny_bind (wpAny_pure (wpAny_bind (wpAny_newObj_type (wpAny_pure ⟨_, rfl, hQ⟩))))
  · refine ⟨"dict", "dict.values", F.plainAttrs_dict, F.slot_dict_values, F.type_dict_values, hT, nod, ?_⟩
    refine Calls.callWith_builtin rfl (PySem.evalArgs_none ?_)
    refine wpAny_call_entry F.slot_dict_values hT F.entry_dict_values ?_ (F.args_dict_values_1 _)
    unfold Builtin.«dict.values»
    refine wpAny_bind ?_
    unfold Builtin.Dict.noArgs
    refine wpAny_bind (wpAny_notOrdered_dict hT ?_)
    refine wpAny_pure (a := d) ?_
    show wpAny _ _ (Builtin.Dict.showsAll d >>= _) _ _ s
    unfold Builtin.Dict.showsAll
    rw [if_neg hdb]
    exact wpAny_bind (wpAny_pure (wpAny_bind (wpAny_newObj_type (wpAny_pure ⟨_, rfl, hQ⟩))))
end
end Mine
end
section
open PySem PySem.W PyProof.Rows PySem.Spec
set_option maxRecDepth 100000
namespace Mine

structure Turns (prog : Program) (w : World) (A : Around) (target : Expr) (I : Addr) (fp wrI : List Addr) (ds : List D) (own₀ : List Addr) (h₀ : Heap) (St : Nat → Heap → Prop) : Prop where
  sub : ∀ b ∈ wrI, b ∈ fp
  frame : ∀ i h h', St i h → (∀ b ∈ fp, ∀ o, h.get? b = some o → h'.get? b = some o) → St i h'
  lv : ∀ i h, St i h → ∀ b ∈ wrI, (h.get? b).isSome = true
  item : ∀ i d (s : Shared) (own : List Addr) (Q : Value → Shared → Prop) (E : Value → Shared → Prop), ds[i]? = some d → St i s.heap → (∀ a ∈ own, (s.heap.get? a).isSome = true) → Le (Fz own₀ h₀) (Fz own s.heap) → (∀ b ∈ wrI, b ∈ own) →
    (∀ v h' tk, St (i + 1) h' → Rep w (Fz own h') d v → Kept wrI s.heap h' → Q v { s with heap := h', toks := tk }) →
    wpAny (model prog w) A (pyNext (.ref I)) (fun r s₁ => ∃ v, r = some v ∧ wpAny (model prog w) A (letOwnedTupleGo target (.ref I) v) (fun _ s₂ => Q v s₂) E s₁) E s
  done : ∀ (s : Shared) (Q : Option Value → Shared → Prop) (E : Value → Shared → Prop), St ds.length s.heap → (∀ h' tk, Kept wrI s.heap h' → Q none { s with heap := h', toks := tk }) → wpAny (model prog w) A (pyNext (.ref I)) Q E s

noncomputable def ownersOfTuples : List String := ["enumerate", "zip", "dict_itemiterator", "dict_reverseitemiterator", "odict_iterator", "itertools.zip_longest", "itertools.pairwise"]
section
variable {prog : Program} {w : World} {A : Around} {E : Value → Shared → Prop} {s : Shared}

theorem letGo_plain {M : Model} {target : Expr} {I : Addr} {v : Value} {o : Obj} {T : String} {Q : Unit → Shared → Prop} (ho : s.heap.get? I = some o) (hc : o.cls = .type T) (hn : ownersOfTuples.contains T = false) (h : Q () s) :
    wpAny M A (letOwnedTupleGo target (.ref I) v) Q E s := by
  have core : wpAny M A (do
      let (.ref r, .ref a) := (Value.ref I, v) | return
      let o ← load r
      match o.cls, o.data with
      | .type n, .fields vs =>
        if ["enumerate", "zip", "dict_itemiterator", "dict_reverseitemiterator", "odict_iterator", "itertools.zip_longest", "itertools.pairwise"].contains n && vs[0]? == some (rawInt a) then
          rule "for.unpacks-the-owned-tuple"
          updateField r 0 .none
      | _, _ => pure ()) Q E s := by
    cases v <;> first
      | exact wpAny_pure h
      | (refine wpAny_bind (wpAny_load ho ?_)
         rw [hc]
         split
         · rename_i e1 _
           cases e1
           have hn' : (["enumerate", "zip", "dict_itemiterator", "dict_reverseitemiterator", "odict_iterator", "itertools.zip_longest", "itertools.pairwise"] : List String).contains T = false := hn
           rw [hn']
           exact wpAny_pure h
         · exact wpAny_pure h)
  unfold letOwnedTupleGo
  cases target <;> first
    | exact core
    | exact wpAny_pure h

/-! ## A list -/
theorem Turns.list {target : Expr} {I ax : Addr} {items : Array Value} {ds : List D} {own₀ : List Addr} {h₀ : Heap} (hh : A.handled = none) (hne : ax ≠ I) (r : Reps w (Fz own₀ h₀) ds items.toList) :
    Turns prog w A target I [I, ax] [I] ds own₀ h₀ (fun i h => h.IsListIter I ax i ∧ h.IsList ax items) where
  sub := fun b hb => by simp at hb; simp [hb]
  frame := fun _ _ _ st hk => ⟨st.1.at fun o e => hk I (by simp) o e, st.2.at fun o e => hk ax (by simp) o e⟩
  lv := fun i h st b hb => by simp at hb; subst hb; obtain ⟨o, q, _⟩ := st.1; rw [q]; rfl
  item := fun i d s own Q E hi st hlt le hw hQ => by
    obtain ⟨v, hv, rv⟩ := r.get hi
    have hv' : items[i]? = some v := by simpa using hv
    refine wpAny_pyNext_list_item st.1 st.2 hv' fun h' hit' hs' => ⟨v, rfl, ?_⟩
    obtain ⟨o, q, qc, _⟩ := id hit'
    refine letGo_plain q qc (by decide) (hQ v h' s.toks ⟨hit', st.2.extBut hs'.extBut hne⟩ ?_ fun b o hb e => hs'.extBut b o (fun h => hb (by simp [h])) e)
    refine Rep.mono (fun a o e => ?_) d rv
    have e2 := Fz.get (le a o e)
    exact Fz.of e2.1 (hs'.extBut a o (fun h => e2.1 (h ▸ hw I (by simp))) e2.2)
  done := fun s Q E st hQ => wpAny_pyNext_list_end hh st.1 st.2 (by have := r.length; simp at this; simp [this]) fun h' he' => hQ h' s.toks fun b o hb e => he' b o (fun h => hb (by simp [h])) e

/-! ## A range -/
theorem Turns.range {target : Expr} {I : Addr} {n : Nat} {own₀ : List Addr} {h₀ : Heap} (hh : A.handled = none) :
    Turns prog w A target I [I] [I] ((List.range n).map fun i => D.int ((i : Nat) : Int)) own₀ h₀ (fun i h => IsRangeIter h I ((i : Nat) : Int) ((n : Int) - i) 1) where
  sub := fun b hb => hb
  frame := fun _ _ _ st hk => hk I (by simp) _ st
  lv := fun i h st b hb => by simp at hb; subst hb; rw [st]; rfl
  item := fun i d s own Q E hi st hlt le hw hQ => by
    obtain ⟨hlt', e⟩ := List.getElem?_eq_some_iff.mp hi
    simp only [List.length_map, List.length_range] at hlt'
    simp only [List.getElem_map, List.getElem_range] at e
    subst e
    refine wpAny_pyNext_range_item st (by exact om_34 hlt') fun h' hit' hs' => ⟨_, rfl, ?_⟩
    refine letGo_plain hit' rfl (by decide) (hQ _ h' (s.toks + 1) ?_ (by simp only [Rep]; exact ⟨_, rfl⟩) fun b o hb e => hs'.extBut b o (fun h => hb (by simp [h])) e)
    have e1 : ((i + 1 : Nat) : Int) = (i : Int) + 1 := by exact om_30
    have e2 : (n : Int) - ((i + 1 : Nat) : Int) = (n : Int) - i - 1 := by exact om_35
    rw [e2, e1]; exact hit'
  done := fun s Q E st hQ => wpAny_pyNext_range_end hh st (by simp) fun h' he' => hQ h' s.toks fun b o hb e => he' b o (fun h => hb (by simp [h])) e

/-! ## enumerate of a list -/
noncomputable def enumD (ds : List D) : List D := ds.mapIdx fun i d => .tup [.int ((i : Nat) : Int), d]
theorem pair_rep {g : Part} {T : Addr} {o : Obj} {v u : Value} {d e : D} {n : Nat} (h : g T = some o) (c : o.cls = .type "tuple") (dd : o.data = .seq #[v, u] n) (x : Rep w g d v) (y : Rep w g e u) : Rep w g (.tup [d, e]) (.ref T) := by
  simp only [Rep]
  refine ⟨T, o, _, _, rfl, h, c, dd, (by show 2 ≤ cap; decide), ?_⟩
  simp only [Reps]
  exact ⟨v, [u], rfl, x, u, [], rfl, y, rfl⟩
theorem Turns.enum {elts : List Expr} {k : Nat} {pos : Pos} {e it l : Addr} {items : Array Value} {ds : List D} {own₀ : List Addr} {h₀ : Heap} (hh : A.handled = none) (hei : e ≠ it) (hle : l ≠ e) (hli : l ≠ it) (r : Reps w (Fz own₀ h₀) ds items.toList) :
    Turns prog w A (.Tuple elts k pos) e [e, it, l] [e, it] (enumD ds) own₀ h₀ (fun i h => (∃ old, IsEnum h e it i old) ∧ h.IsListIter it l i ∧ h.IsList l items) where
  sub := fun b hb => by simp at hb ⊢; rcases hb with rfl | rfl <;> simp
  frame := fun i h h' st hk => by
    obtain ⟨⟨old, he⟩, hit, hl⟩ := st
    exact ⟨⟨old, hk e (by simp) _ he⟩, hit.at fun o x => hk it (by simp) o x, hl.at fun o x => hk l (by simp) o x⟩
  lv := fun i h st b hb => by
    obtain ⟨⟨old, he⟩, ⟨o, q, _⟩, hl⟩ := st
    simp at hb
    rcases hb with rfl | rfl
    · rw [he]; rfl
    · rw [q]; rfl
  item := fun i d s own Q E hi st hlt le hw hQ => by
    obtain ⟨⟨old, he⟩, hit, hl⟩ := st
    unfold enumD at hi
    rw [List.getElem?_mapIdx] at hi
    obtain ⟨d', hi', rfl⟩ := Option.map_eq_some_iff.mp hi
    obtain ⟨v, hv, rv⟩ := r.get hi'
    have hv' : items[i]? = some v := by simpa using hv
    have hit0 : it < s.heap.objs.size := by obtain ⟨_, x, _⟩ := hit; exact Heap.lt_size x
    have hTe : s.heap.objs.size ≠ e := Nat.ne_of_gt (Heap.lt_size he)
    have hTi : s.heap.objs.size ≠ it := Nat.ne_of_gt hit0
    refine wpAny_pyNext_enum_item he hit hl hv' hei fun h' ho hit' hT hsz hk => ⟨_, rfl, ?_⟩
    refine wpAny_letOwnedTupleGo_enum ho fun h2 he2 hs2 => ?_
    have keep : Kept [e, it] s.heap h2 := fun b o hb x => by
      simp at hb
      exact (hs2.2 b hb.1).trans (hk b o hb.1 hb.2 x)
    refine hQ (.ref s.heap.objs.size) h2 (s.toks + 1) ⟨⟨v, by simpa using he2⟩, hit'.at fun o y => (hs2.2 it hei.symm).trans y, hl.at fun o y => keep l o (by simp [hle, hli]) y⟩ ?_ keep
    have hown : s.heap.objs.size ∉ own := fun hm => isSome_none (hlt _ hm) (get_size _)
    refine pair_rep (Fz.of hown ((hs2.2 _ hTe).trans hT)) rfl rfl (by simp only [Rep]; exact ⟨_, rfl⟩) (Rep.mono (fun a o q => ?_) d' rv)
    have q2 := Fz.get (le a o q)
    exact Fz.of q2.1 (keep a o (fun hm => q2.1 (hw a hm)) q2.2)
  done := fun s Q E st hQ => by
    obtain ⟨⟨old, he⟩, hit, hl⟩ := st
    have hz := r.length
    refine wpAny_pyNext_enum_end hh he hit hl (by simp [enumD]; simp at hz; exact om_11 hz) fun h' hx => hQ h' s.toks fun b o hb y => hx b o (fun e' => hb (by simp [e'])) y

/-! ## The items and the values of a dict -/
noncomputable def zipD : List D → List D → List D
  | k :: ks, d :: ds => .tup [k, d] :: zipD ks ds
  | _, _ => []
theorem zipD_get : ∀ {ks ds : List D} {i : Nat} {x : D}, (zipD ks ds)[i]? = some x → ∃ k d, ks[i]? = some k ∧ ds[i]? = some d ∧ x = .tup [k, d]
  | [], _, _, _, e => by simp [zipD] at e
  | _ :: _, [], _, _, e => by simp [zipD] at e
  | k :: ks, d :: ds, 0, x, e => by simp [zipD] at e; exact ⟨k, d, rfl, rfl, e.symm⟩
  | k :: ks, d :: ds, i + 1, x, e => by
    have e' : (zipD ks ds)[i]? = some x := by simpa [zipD] using e
    obtain ⟨a, b, h1, h2, h3⟩ := zipD_get e'
    exact ⟨a, b, by simpa using h1, by simpa using h2, h3⟩
theorem zipD_length : ∀ {ks ds : List D}, ks.length = ds.length → (zipD ks ds).length = ds.length
  | [], [], _ => rfl
  | k :: ks, d :: ds, h => by simp [zipD]; exact zipD_length (by simpa using h)
  | [], _ :: _, h => by simp at h
  | _ :: _, [], h => by simp at h

theorem Turns.items {elts : List Expr} {k : Nat} {pos : Pos} {I d : Addr} {od : Obj} {es : Array DictEntry} {ep : Nat} {ks ds : List D} {own₀ : List Addr} {h₀ : Heap} (hh : A.handled = none) (hne : d ≠ I) (hdd : od.data = .dict es ep)
    (rk : Reps w (Fz own₀ h₀) ks (es.toList.map (·.key))) (rv : Reps w (Fz own₀ h₀) ds (es.toList.map (·.val))) :
    Turns prog w A (.Tuple elts k pos) I [I, d] [I] (zipD ks ds) own₀ h₀ (fun i h => (∃ ok ov, IsItemIter h I d i es.size ep ok ov) ∧ h.get? d = some od) where
  sub := fun b hb => by simp at hb; simp [hb]
  frame := fun i h h' st hk => by
    obtain ⟨⟨ok, ov, he⟩, hd⟩ := st
    exact ⟨⟨ok, ov, hk I (by simp) _ he⟩, hk d (by simp) _ hd⟩
  lv := fun i h st b hb => by simp at hb; subst hb; obtain ⟨⟨ok, ov, he⟩, _⟩ := st; rw [he]; rfl
  item := fun i x s own Q E hi st hlt le hw hQ => by
    obtain ⟨⟨ok, ov, he⟩, hd⟩ := st
    obtain ⟨dk, dv, h1, h2, rfl⟩ := zipD_get hi
    obtain ⟨vk, g1, r1⟩ := rk.get h1
    obtain ⟨vv, g2, r2⟩ := rv.get h2
    rw [List.getElem?_map] at g1 g2
    obtain ⟨en, e1, rfl⟩ := Option.map_eq_some_iff.mp g1
    rw [e1] at g2
    cases g2
    have hx : es[i]? = some en := by simpa using e1
    have hTI : s.heap.objs.size ≠ I := Nat.ne_of_gt (Heap.lt_size he)
    refine items_turn he hd hdd hx fun h' ho hT hk => ⟨_, rfl, ?_⟩
    refine wpAny_letOwnedTupleGo_items ho fun h2 he2 hs2 => ?_
    have keep : Kept [I] s.heap h2 := fun b o hb x => by
      simp at hb
      exact (hs2.2 b hb).trans (hk b o hb x)
    refine hQ (.ref s.heap.objs.size) h2 s.toks ⟨⟨_, _, he2⟩, keep d _ (by simp [hne]) hd⟩ ?_ keep
    have hown : s.heap.objs.size ∉ own := fun hm => isSome_none (hlt _ hm) (get_size _)
    have le' : Le (Fz own₀ h₀) (Fz own h2) := fun a o q => by
      have q2 := Fz.get (le a o q)
      exact Fz.of q2.1 (keep a o (fun hm => q2.1 (hw a hm)) q2.2)
    exact pair_rep (Fz.of hown ((hs2.2 _ hTI).trans hT)) rfl rfl (Rep.mono le' _ r1) (Rep.mono le' _ r2)
  done := fun s Q E st hQ => by
    obtain ⟨⟨ok, ov, he⟩, hd⟩ := st
    have hz := rv.length
    have hz2 := rk.length
    refine items_stop hh he hd hdd (by rw [zipD_length (by simp at hz hz2; exact om_36 hz hz2)]; simp at hz ⊢; exact om_11 hz) fun h' hx => hQ h' s.toks fun b o hb y => hx b o (fun e' => hb (by simp [e'])) y

theorem Turns.values {target : Expr} {I d : Addr} {od : Obj} {es : Array DictEntry} {ep : Nat} {ds : List D} {own₀ : List Addr} {h₀ : Heap} (hh : A.handled = none) (hne : d ≠ I) (hdd : od.data = .dict es ep)
    (rv : Reps w (Fz own₀ h₀) ds (es.toList.map (·.val))) :
    Turns prog w A target I [I, d] [I] ds own₀ h₀ (fun i h => h.IsValIter I d i es.size ep ∧ h.get? d = some od) where
  sub := fun b hb => by simp at hb; simp [hb]
  frame := fun i h h' st hk => ⟨let ⟨o, q, r⟩ := st.1; ⟨o, hk I (by simp) _ q, r⟩, hk d (by simp) _ st.2⟩
  lv := fun i h st b hb => by simp at hb; subst hb; obtain ⟨⟨o, q, _⟩, _⟩ := st; rw [q]; rfl
  item := fun i x s own Q E hi st hlt le hw hQ => by
    obtain ⟨he, hd⟩ := st
    obtain ⟨vv, g2, r2⟩ := rv.get hi
    rw [List.getElem?_map] at g2
    obtain ⟨en, e1, rfl⟩ := Option.map_eq_some_iff.mp g2
    have hx : es[i]? = some en := by simpa using e1
    refine values_turn he hd hdd hx fun h' ho hs => ⟨_, rfl, ?_⟩
    obtain ⟨o, q, qc, _⟩ := id ho
    have keep : Kept [I] s.heap h' := fun b o hb x => (hs.2 b (by simpa using hb)).trans x
    refine letGo_plain q qc (by decide) (hQ _ h' s.toks ⟨ho, keep d _ (by simp [hne]) hd⟩ ?_ keep)
    refine Rep.mono (fun a o q => ?_) x r2
    have q2 := Fz.get (le a o q)
    exact Fz.of q2.1 (keep a o (fun hm => q2.1 (hw a hm)) q2.2)
  done := fun s Q E st hQ => by
    obtain ⟨he, hd⟩ := st
    have hz := rv.length
    refine values_stop hh he hd hdd (by simp at hz ⊢; exact om_11 hz) fun h' hx => hQ h' s.toks fun b o hb y => hx b o (fun e' => hb (by simp [e'])) y
end

/-! ## What is walked over -/
noncomputable def EvIt (prog : Program) (w : World) (G : Str → Option Value) (hb : Heap) (n : Nat) (κ : Str → Option NameKind) (target : Expr) (e : Expr) (fc lo : Bool) (f : Rho → Option (List D)) : Prop :=
  ∀ (A : Around) (env : Env) (own : List Addr) (ov : List (Str × Addr)) (ρ : Rho) (s : Shared) (ds : List D), Room A n → Sim w G hb κ env own ov ρ s.heap → f ρ = some ds → ∀ Q : Value → Shared → Prop,
    (∀ I fp wrI St h' tk, Ext s.heap h' → Turns prog w A target I fp wrI ds (wrI ++ own) h' St → St 0 h' → (∀ b ∈ wrI, s.heap.get? b = none) → (∀ b ∈ fp, (h'.get? b).isSome = true) → (lo = false → ∀ b ∈ fp, b ∉ own) →
      (fc = true → ∀ i (s : Shared) (Q : Value → Shared → Prop) (E : Value → Shared → Prop), St i s.heap → Q (.ref I) s → wpAny (model prog w) A (pyIter (.ref I)) Q E s) → Q (.ref I) { s with heap := h', toks := tk }) →
    wpAny (model prog w) A (eval e env) (fun x s₁ => wpAny (model prog w) A (pyIter x) Q NoE s₁) NoE s

section
variable {prog : Program} {w : World} {G : Str → Option Value} {hb : Heap} {n : Nat} {κ : Str → Option NameKind} {target : Expr} {fc lo : Bool}

theorem VRep.apart {own : List Addr} {h₀ h : Heap} {fl : Fl} {d : D} {a : Addr} (hlt : ∀ a ∈ own, (h₀.get? a).isSome = true) (hd : d.comp = true) (hf : fl ≠ .loose) (x : VRep w own h₀ h fl d (.ref a)) : a ∉ own := by
  cases fl with
  | loose => exact absurd rfl hf
  | frozen =>
    obtain ⟨a', o, e, q, _⟩ := Rep.obj (by cases d <;> first | trivial | cases hd) (show Rep w (Fz own h) d (.ref a) from x)
    cases e; exact (Fz.get q).1
  | fresh => obtain ⟨a', o, e, q, _⟩ := x; cases e; exact fun hm => isSome_none (hlt a hm) q

noncomputable def dItList (lo : Bool) (f : Den) : Rho → Option (List D) := fun ρ => (f ρ).bind fun x => (lsOf x.2).bind fun ds => if lo = true ∨ x.1 ≠ .loose then some ds else none
theorem evit_list {e : Expr} {f : Den} (he : Ev prog w G hb n κ e f) : EvIt prog w G hb n κ target e fc lo (dItList lo f) :=
  fun A env own ov ρ s ds R S q Q hQ => by
    obtain ⟨⟨f1, d1⟩, e1, q⟩ := Option.bind_eq_some_iff.mp q
    obtain ⟨l0, hl, z⟩ := Option.bind_eq_some_iff.mp q
    clear q
    have q := z
    clear z
    obtain rfl := lsOf_some hl
    split at q
    · rename_i hc
      cases q
      refine he A env own ov ρ s f1 _ R S e1 _ fun v h1 tk1 x1 r1 => ?_
      obtain ⟨a, vs, m, rfl, p, l, r⟩ := r1.lst
      have hne : a ≠ h1.objs.size := Nat.ne_of_lt (Heap.lt_size p)
      have hl : h1.IsList a vs := ⟨_, p, rfl, m, rfl⟩
      refine wpAny_pyIter_list hl ?_
      have hI : (h1.push { cls := .type "list_iterator", data := .fields #[.ref a, .int 0 0] }).get? h1.objs.size = some { cls := .type "list_iterator", data := .fields #[.ref a, .int 0 0] } := Heap.get?_push_size _ rfl
      have hnone : s.heap.get? h1.objs.size = none := x1.none (get_size h1)
      have new1 : ∀ {b : Addr}, b ∈ [h1.objs.size] ++ own → b ∈ own ∨ h1.get? b = none := fun hm => (List.mem_cons.mp hm).elim (fun e => .inr (e ▸ get_size h1)) .inl
      refine hQ h1.objs.size _ _ _ _ _ (x1.trans (Ext.push _ _)) (Turns.list R.hd hne (Reps.mono ((Ext.push _ _).fzNew fun a ha => new1 ha) _ r)) ⟨⟨_, hI, rfl, rfl⟩, hl.push _⟩ (fun b hb => by simp at hb; subst hb; exact hnone) (fun b hb => ?_) (fun hfc b hb => ?_) fun _ i s' Q' E' st hq => wpAny_pyIter_listiter st.1 hq
      · simp at hb
        rcases hb with rfl | rfl
        · rw [hI]; rfl
        · exact (Ext.push _ _).some (by rw [p]; rfl)
      · simp at hb
        rcases hb with rfl | rfl
        · exact fun hm => isSome_none (S.ltAll _ hm) hnone
        · exact r1.apart S.ltAll rfl (hc.elim (fun q => by rw [hfc] at q; cases q) id)
    · cases q

noncomputable def rangeD (k : Int) : List D := (List.range k.toNat).map fun i => D.int ((i : Nat) : Int)
noncomputable def dItRange (κ : Str → Option NameKind) (e : Expr) (f : Den) : Rho → Option (List D) := fun ρ =>
  if isB κ "range" && !isStarred e then (f ρ).bind fun x => (itOf x.2).bind fun k => if 0 ≤ k ∧ k ≤ 200 then some (rangeD k) else none
  else none
theorem rangeSize_nat (k : Int) (h0 : 0 ≤ k) : Builtin.Range.rangeSize 0 k 1 = k := by rw [rangeSize_one]; split <;> omega
theorem evit_range {e : Expr} {x : Str} {p pos : Pos} {f : Den} (he : Ev prog w G hb n κ e f) (hx : x = "range") : EvIt prog w G hb n κ target (.Call (.Name x p) [e] [] pos) fc lo (dItRange κ e f) :=
  fun A env own ov ρ s ds R S q Q hQ => by
    subst hx
    unfold dItRange at q
    split at q
    · rename_i hc
      simp only [Bool.and_eq_true, Bool.not_eq_true'] at hc
      obtain ⟨⟨f1, d1⟩, e1, q⟩ := Option.bind_eq_some_iff.mp q
      obtain ⟨k, hl, z⟩ := Option.bind_eq_some_iff.mp q
      clear q
      have q := z
      clear z
      obtain rfl := itOf_some hl
      split at q
      · rename_i hk
        cases q
        have hs := evl_cons (n := n) he (evl_nil (prog := prog) (w := w) (G := G) (hb := hb) (n := n) (κ := κ))
        have e2 : dCons e f dNil ρ = some [(f1, .int k)] := by unfold dCons; rw [if_neg (by simp [hc.2]), e1]; rfl
        refine callT R S hc.1 boot_range (by simp [plainL, hc.2]) hs e2 fun vs h1 tk1 x1 r1 => ?_
        obtain ⟨v, rfl, r2⟩ := vreps1 r1
        have r2 := r2.any
        simp only [Rep] at r2
        obtain ⟨t, rfl⟩ := r2
        refine call_range_1 ?_
        generalize hH : h1.push { cls := .type "range", data := .fields #[.int 0 tk1, .int k t, .int 1 (tk1 + 1)] } = H
        have hr : IsRange H h1.objs.size 0 k 1 tk1 t (tk1 + 1) := by rw [← hH]; exact Heap.get?_push_size _ rfl
        have xH : Ext s.heap H := by rw [← hH]; exact x1.trans (Ext.push _ _)
        have h0 := hk.1
        refine wpAny_pyIter_range hr (small_one (by omega) (by omega) (by omega) (by omega)) ?_
        have hnone : s.heap.get? H.objs.size = none := xH.none (get_size H)
        have hI : IsRangeIter (H.push { cls := .type "range_iterator", data := .fields #[rawInt 0, rawInt (Builtin.Range.rangeSize 0 k 1), rawInt 1] }) H.objs.size ((0 : Nat) : Int) ((k.toNat : Int) - (0 : Nat)) 1 := by
          have e3 : ((k.toNat : Nat) : Int) - ((0 : Nat) : Int) = Builtin.Range.rangeSize 0 k 1 := by rw [rangeSize_nat k h0]; exact om_37 h0
          rw [e3]; exact Heap.get?_push_size _ rfl
        refine hQ H.objs.size _ _ _ _ _ (xH.trans (Ext.push _ _)) (Turns.range R.hd) hI (fun b hb => by simp at hb; subst hb; exact hnone) (fun b hb => by simp at hb; subst hb; rw [hI]; rfl)
          (fun _ b hb => by simp at hb; subst hb; exact fun hm => isSome_none (S.ltAll _ hm) hnone) fun _ i s' Q' E' st hq => wpAny_pyIter_rangeiter st hq
      · cases q
    · cases q

noncomputable def dItEnum (κ : Str → Option NameKind) (lo : Bool) (e : Expr) (f : Den) : Rho → Option (List D) := fun ρ =>
  if isB κ "enumerate" && !isStarred e then (f ρ).bind fun x => (lsOf x.2).bind fun ds => if lo = true ∨ x.1 ≠ .loose then some (enumD ds) else none
  else none
theorem evit_enum {e : Expr} {x : Str} {p pos : Pos} {f : Den} {elts : List Expr} {k : Nat} {tp : Pos} (he : Ev prog w G hb n κ e f) (hx : x = "enumerate") : EvIt prog w G hb n κ (.Tuple elts k tp) (.Call (.Name x p) [e] [] pos) fc lo (dItEnum κ lo e f) :=
  fun A env own ov ρ s ds R S q Q hQ => by
    subst hx
    unfold dItEnum at q
    split at q
    · rename_i hc
      simp only [Bool.and_eq_true, Bool.not_eq_true'] at hc
      obtain ⟨⟨f1, d1⟩, e1, q⟩ := Option.bind_eq_some_iff.mp q
      obtain ⟨l, hl, z⟩ := Option.bind_eq_some_iff.mp q
      clear q
      have q := z
      clear z
      obtain rfl := lsOf_some hl
      split at q
      · rename_i hk
        cases q
        have hs := evl_cons (n := n) he (evl_nil (prog := prog) (w := w) (G := G) (hb := hb) (n := n) (κ := κ))
        have e2 : dCons e f dNil ρ = some [(f1, .lst l)] := by unfold dCons; rw [if_neg (by simp [hc.2]), e1]; rfl
        refine callT R S hc.1 boot_enumerate (by simp [plainL, hc.2]) hs e2 fun vs h1 tk1 x1 r1 => ?_
        obtain ⟨v, rfl, r2⟩ := vreps1 r1
        obtain ⟨a, vs, m, rfl, p, lc, r⟩ := r2.lst
        have hL : h1.IsList a vs := ⟨_, p, rfl, m, rfl⟩
        refine call_enumerate_list hL fun h2 he hit hsz hk2 => ?_
        have x2 : Ext h1 h2 := hk2
        have n1 : h1.get? h1.objs.size = none := get_size h1
        have n2 : h1.get? (h1.objs.size + 1) = none := by
          cases q : h1.get? (h1.objs.size + 1) with
          | none => rfl
          | some o => exact absurd (Heap.lt_size q) (Nat.not_lt.mpr (Nat.le_succ _))
        have hlt : a < h1.objs.size := Heap.lt_size p
        refine wpAny_pyIter_enum he ?_
        refine hQ (h1.objs.size + 1) _ _ _ _ _ (x1.trans x2) (Turns.enum R.hd (Nat.succ_ne_self _) (Nat.ne_of_lt (Nat.lt_succ_of_lt hlt)) (Nat.ne_of_lt hlt) (Reps.mono (x2.fzNew fun b hm => by
          rcases List.mem_cons.mp hm with rfl | hm
          · exact .inr n2
          · rcases List.mem_cons.mp hm with rfl | hm
            · exact .inr n1
            · exact .inl hm) _ r)) ⟨⟨_, he⟩, hit, ⟨_, x2 _ _ p, rfl, m, rfl⟩⟩
          (fun b hb => ?_) (fun b hb => ?_) (fun hfc b hb => ?_) fun _ i s' Q' E' st hq => by obtain ⟨⟨old, q⟩, _⟩ := st; exact wpAny_pyIter_enum q hq
        · simp at hb
          rcases hb with rfl | rfl
          · exact x1.none n2
          · exact x1.none n1
        · simp at hb
          rcases hb with rfl | rfl | rfl
          · rw [he]; rfl
          · obtain ⟨o, q, _⟩ := hit; rw [q]; rfl
          · exact x2.some (by rw [p]; rfl)
        · simp at hb
          rcases hb with rfl | rfl | rfl
          · exact fun hm => isSome_none (S.ltAll _ hm) (x1.none n2)
          · exact fun hm => isSome_none (S.ltAll _ hm) (x1.none n1)
          · exact r2.apart S.ltAll rfl (hk.elim (fun q => by rw [hfc] at q; cases q) id)
      · cases q
    · cases q

noncomputable def pbB : (o : Expr) → { b : Bool // b = true → ∀ (a : Str) (env : Env) (whole : Sem Value), attributeBase o a env whole = whole }
  | .Name x p => ⟨true, fun _ _ _ _ => rfl⟩
  | .Call (.Name x q) (e :: es) kw p => ⟨true, fun _ _ _ _ => rfl⟩
  | _ => ⟨false, fun h => (nomatch h)⟩
noncomputable def plainBase (o : Expr) : Bool := (pbB o).1
theorem base_plain {o : Expr} {a : Str} {env : Env} {whole : Sem Value} (h : plainBase o = true) : attributeBase o a env whole = whole := (pbB o).2 h a env whole

noncomputable def keysD : D → List D
  | .idict ks _ => ks.map .int
  | .tdict ks _ => ks.map keyD
  | _ => []
noncomputable def valsD : D → Option (List D)
  | .idict _ ds => some ds
  | .tdict _ ds => some ds
  | _ => none
theorem ikeys_reps {g : Part} : ∀ {ks : List Int} {es : List DictEntry}, IKeys ks es → Reps w g (ks.map .int) (es.map (·.key))
  | [], _, x => by simp only [IKeys] at x; subst x; simp [Reps]
  | k :: ks, _, x => by
    simp only [IKeys] at x
    obtain ⟨e, es', rfl, h1, _, r⟩ := x
    simp only [List.map_cons, Reps, Rep]
    refine ⟨e.key, _, rfl, ?_, ikeys_reps r⟩
    cases hk : e.key <;> simp [hk, Value.isInt] at h1
    exact ⟨_, by rw [h1]⟩
theorem tkeys_reps {g : Part} : ∀ {ks : List (List Scal)} {es : List DictEntry}, TKeys w g ks es → Reps w g (ks.map keyD) (es.map (·.key))
  | [], _, x => by simp only [TKeys] at x; subst x; simp [Reps]
  | k :: ks, _, x => by
    simp only [TKeys] at x
    obtain ⟨e, es', rfl, h1, _, r⟩ := x
    simp only [List.map_cons, Reps]
    exact ⟨e.key, _, rfl, h1.rep, tkeys_reps r⟩
theorem dict_parts {g : Part} {a : Addr} {o : Obj} {d : D} {ds : List D} (e : valsD d = some ds) (x : ORep w g a o d) :
    a ≠ sysModules ∧ o.ExactDict ∧ ∃ es ep, o.data = .dict es ep ∧ Reps w g (keysD d) (es.toList.map (·.key)) ∧ Reps w g ds (es.toList.map (·.val)) := by
  cases d <;> simp only [valsD] at e <;> first | (cases e; done) | skip
  · cases e
    simp only [ORep] at x
    obtain ⟨⟨c1, c2⟩, es, ep, dd, _, kk, r⟩ := x
    exact ⟨c1, c2, es, ep, dd, ikeys_reps kk, r⟩
  · cases e
    simp only [ORep] at x
    obtain ⟨⟨c1, c2⟩, es, ep, dd, _, kk, r⟩ := x
    exact ⟨c1, c2, es, ep, dd, tkeys_reps kk, r⟩

noncomputable def dItItems (o : Expr) (apos pos : Pos) (f : Den) : Rho → Option (List D) := fun ρ =>
  if plainBase o && (apos.endLine == pos.line) then (f ρ).bind fun x => (valsD x.2).bind fun ds => if x.1 ≠ .loose then some (zipD (keysD x.2) ds) else none else none
theorem evit_items {o : Expr} {a : Str} {apos pos : Pos} {f : Den} {elts : List Expr} {k : Nat} {tp : Pos} (ho : Ev prog w G hb n κ o f) (ha : a = "items") : EvIt prog w G hb n κ (.Tuple elts k tp) (.Call (.Attribute o a apos) [] [] pos) false false (dItItems o apos pos f) :=
  fun A env own ov ρ s ds R S q Q hQ => by
    subst ha
    unfold dItItems at q
    split at q
    · rename_i hc
      simp only [Bool.and_eq_true] at hc
      obtain ⟨⟨f1, d1⟩, e1, q⟩ := Option.bind_eq_some_iff.mp q
      obtain ⟨vs, e2, q⟩ := Option.bind_eq_some_iff.mp q
      split at q
      · rename_i hl
        cases q
        refine wpAny_Call_method_late (base_plain hc.1) rfl hc.2 rfl (ho A env own ov ρ s f1 d1 R S e1 _ fun v h1 tk1 x1 r1 => ?_)
        have hcomp : d1.comp = true := by cases d1 <;> simp [valsD] at e2 <;> rfl
        obtain ⟨d, od, rfl, p, ro⟩ := r1.obj hcomp
        obtain ⟨c1, c2, es, ep, dd, rk, rv⟩ := dict_parts e2 ro
        have hne : d ≠ h1.objs.size := Nat.ne_of_lt (Heap.lt_size p)
        refine view_call (cls := "dict_items") (.inl ⟨rfl, rfl, rfl⟩) c1 p c2 ?_
        generalize hH : h1.push { cls := .type "dict_items", data := .fields #[.ref d] } = H
        have hv : H.IsItemsView h1.objs.size d := by rw [← hH]; exact ⟨_, Heap.get?_push_size _ rfl, rfl, rfl⟩
        have p2 : H.get? d = some od := by rw [← hH]; exact Heap.get?_push_of_some _ p
        have xH : Ext h1 H := by rw [← hH]; exact Ext.push _ _
        have hneH : d ≠ H.objs.size := Nat.ne_of_lt (Heap.lt_size p2)
        refine itemsView_iter hv p2 dd ?_
        have hI : IsItemIter (H.push { cls := .type "dict_itemiterator", data := .fields #[.none, .bool false, .ref d, .int 0 0, .int es.size 0, .int ep 0, .none, .none] }) H.objs.size d 0 es.size ep .none .none := Heap.get?_push_size _ rfl
        have hnone : s.heap.get? H.objs.size = none := x1.none (xH.none (get_size H))
        refine hQ H.objs.size _ _ _ _ _ (x1.trans (xH.trans (Ext.push _ _))) (Turns.items R.hd hneH dd (Reps.mono (Le.trans xH.fz ((Ext.push _ _).fzNew fun b hm => (List.mem_cons.mp hm).elim (fun e => .inr (e ▸ get_size H)) .inl)) _ rk) (Reps.mono (Le.trans xH.fz ((Ext.push _ _).fzNew fun b hm => (List.mem_cons.mp hm).elim (fun e => .inr (e ▸ get_size H)) .inl)) _ rv)) ⟨⟨_, _, hI⟩, Heap.get?_push_of_some _ p2⟩
          (fun b hb => by simp at hb; subst hb; exact hnone) (fun b hb => ?_) (fun _ b hb => ?_) (fun h => by cases h)
        · simp at hb
          rcases hb with rfl | rfl
          · rw [hI]; rfl
          · exact (Ext.push _ _).some (by rw [p2]; rfl)
        · simp at hb
          rcases hb with rfl | rfl
          · exact fun hm => isSome_none (S.ltAll _ hm) hnone
          · exact r1.apart S.ltAll hcomp hl
      · cases q
    · cases q

noncomputable def dItVals (o : Expr) (apos pos : Pos) (f : Den) : Rho → Option (List D) := fun ρ =>
  if plainBase o && (apos.endLine == pos.line) then (f ρ).bind fun x => (valsD x.2).bind fun ds => if x.1 ≠ .loose then some ds else none else none
theorem evit_vals {o : Expr} {a : Str} {apos pos : Pos} {f : Den} (ho : Ev prog w G hb n κ o f) (ha : a = "values") : EvIt prog w G hb n κ target (.Call (.Attribute o a apos) [] [] pos) false false (dItVals o apos pos f) :=
  fun A env own ov ρ s ds R S q Q hQ => by
    subst ha
    unfold dItVals at q
    split at q
    · rename_i hc
      simp only [Bool.and_eq_true] at hc
      obtain ⟨⟨f1, d1⟩, e1, q⟩ := Option.bind_eq_some_iff.mp q
      obtain ⟨vs, e2, q⟩ := Option.bind_eq_some_iff.mp q
      split at q
      · rename_i hl
        cases q
        refine wpAny_Call_method_late (base_plain hc.1) rfl hc.2 rfl (ho A env own ov ρ s f1 d1 R S e1 _ fun v h1 tk1 x1 r1 => ?_)
        have hcomp : d1.comp = true := by cases d1 <;> simp [valsD] at e2 <;> rfl
        obtain ⟨d, od, rfl, p, ro⟩ := r1.obj hcomp
        obtain ⟨c1, c2, es, ep, dd, rk, rv⟩ := dict_parts e2 ro
        have hne : d ≠ h1.objs.size := Nat.ne_of_lt (Heap.lt_size p)
        refine view_call (cls := "dict_values") (.inr ⟨rfl, rfl, rfl⟩) c1 p c2 ?_
        generalize hH : h1.push { cls := .type "dict_values", data := .fields #[.ref d] } = H
        have hv : H.IsValuesView h1.objs.size d := by rw [← hH]; exact ⟨_, Heap.get?_push_size _ rfl, rfl, rfl⟩
        have p2 : H.get? d = some od := by rw [← hH]; exact Heap.get?_push_of_some _ p
        have xH : Ext h1 H := by rw [← hH]; exact Ext.push _ _
        have hneH : d ≠ H.objs.size := Nat.ne_of_lt (Heap.lt_size p2)
        refine valuesView_iter hv p2 dd ?_
        have hI : (H.push { cls := .type "dict_valueiterator", data := .fields #[.ref d, .int 0 0, .int es.size 0, .int ep 0] }).IsValIter H.objs.size d 0 es.size ep := ⟨_, Heap.get?_push_size _ rfl, rfl, rfl⟩
        have hnone : s.heap.get? H.objs.size = none := x1.none (xH.none (get_size H))
        refine hQ H.objs.size _ _ _ _ _ (x1.trans (xH.trans (Ext.push _ _))) (Turns.values R.hd hneH dd (Reps.mono (Le.trans xH.fz ((Ext.push _ _).fzNew fun b hm => (List.mem_cons.mp hm).elim (fun e => .inr (e ▸ get_size H)) .inl)) _ rv)) ⟨hI, Heap.get?_push_of_some _ p2⟩
          (fun b hb => by simp at hb; subst hb; exact hnone) (fun b hb => ?_) (fun _ b hb => ?_) (fun h => by cases h)
        · simp at hb
          rcases hb with rfl | rfl
          · obtain ⟨o, q, _⟩ := hI; rw [q]; rfl
          · exact (Ext.push _ _).some (by rw [p2]; rfl)
        · simp at hb
          rcases hb with rfl | rfl
          · exact fun hm => isSome_none (S.ltAll _ hm) hnone
          · exact r1.apart S.ltAll hcomp hl
      · cases q
    · cases q
end
end Mine
end
section
open PySem PySem.W PyProof.Rows PySem.Spec
set_option maxRecDepth 100000
namespace Mine

section
variable {prog : Program} {w : World} {G : Str → Option Value} {hb : Heap} {n : Nat} {κ : Str → Option NameKind} {sto : Str → Bool}

/-! ## Targets -/
noncomputable def okT (κ : Str → Option NameKind) (sto : Str → Bool) (x : Str) : Bool := (κ x == some .local || κ x == some .cell) && sto x
/-- a name, a tuple; a tuple's parts -/
noncomputable def nmB : (e : Expr) → { o : Option Str // ∀ x, o = some x → ∃ p, e = .Name x p }
  | .Name x p => ⟨some x, fun y h => ⟨p, by cases h; rfl⟩⟩
  | _ => ⟨none, fun _ h => (nomatch h)⟩
noncomputable def nmOf (e : Expr) : Option Str := (nmB e).1
theorem nmOf_some {e : Expr} {x : Str} (h : nmOf e = some x) : ∃ p, e = .Name x p := (nmB e).2 x h
noncomputable def tpB : (e : Expr) → { o : Option (List Expr) // ∀ es, o = some es → ∃ k p, e = .Tuple es k p }
  | .Tuple es k p => ⟨some es, fun y h => ⟨k, p, by cases h; rfl⟩⟩
  | _ => ⟨none, fun _ h => (nomatch h)⟩
noncomputable def tpOf (e : Expr) : Option (List Expr) := (tpB e).1
theorem tpOf_some {e : Expr} {es : List Expr} (h : tpOf e = some es) : ∃ k p, e = .Tuple es k p := (tpB e).2 es h
noncomputable def tdB : (d : D) → { o : Option (List D) // ∀ ds, o = some ds → d = .tup ds }
  | .tup ds => ⟨some ds, fun y h => by cases h; rfl⟩
  | _ => ⟨none, fun _ h => (nomatch h)⟩
noncomputable def tdOf (d : D) : Option (List D) := (tdB d).1
theorem tdOf_some {d : D} {ds : List D} (h : tdOf d = some ds) : d = .tup ds := (tdB d).2 ds h
noncomputable def dBinds (κ : Str → Option NameKind) (sto : Str → Bool) : List Expr → List D → Rho → Option Rho
  | [], ds, ρ => if ds.isEmpty = true then some ρ else none
  | e :: es, ds, ρ => ds.head?.bind fun d => (nmOf e).bind fun x => if okT κ sto x = true then dBinds κ sto es ds.tail (upd ρ x (.frz d)) else none
noncomputable def dTarget (κ : Str → Option NameKind) (sto : Str → Bool) (t : Expr) (d : D) (ρ : Rho) : Option Rho := match nmOf t with
  | some x => if okT κ sto x = true then some (upd ρ x (.frz d)) else none
  | none => (tpOf t).bind fun es => (tdOf d).bind fun ds => dBinds κ sto es ds ρ
theorem dBinds_nil {ds : List D} {ρ ρ' : Rho} (e : dBinds κ sto [] ds ρ = some ρ') : ds = [] ∧ ρ = ρ' := by
  cases ds with
  | nil => cases e; exact ⟨rfl, rfl⟩
  | cons d ds => cases e
theorem dBinds_cons {t : Expr} {es : List Expr} {ds : List D} {ρ ρ' : Rho} (e : dBinds κ sto (t :: es) ds ρ = some ρ') : ∃ x p d ds', t = .Name x p ∧ ds = d :: ds' ∧ okT κ sto x = true ∧ dBinds κ sto es ds' (upd ρ x (.frz d)) = some ρ' := by
  cases ds with
  | nil => cases e
  | cons d ds =>
    obtain ⟨x, h1, e2⟩ := Option.bind_eq_some_iff.mp (show (nmOf t).bind _ = _ from e)
    obtain ⟨p, rfl⟩ := nmOf_some h1
    by_cases hx : okT κ sto x = true
    · exact ⟨x, p, d, ds, rfl, rfl, hx, (if_pos hx).symm.trans e2⟩
    · cases (if_neg hx).symm.trans e2
theorem dTarget_cases {t : Expr} {d : D} {ρ ρ' : Rho} (e : dTarget κ sto t d ρ = some ρ') : (∃ x p, t = .Name x p ∧ okT κ sto x = true ∧ ρ' = upd ρ x (.frz d)) ∨ (∃ es k p ds, t = .Tuple es k p ∧ d = .tup ds ∧ dBinds κ sto es ds ρ = some ρ') := by
  unfold dTarget at e
  cases h : nmOf t with
  | some x =>
    obtain ⟨p, rfl⟩ := nmOf_some h
    rw [h] at e
    by_cases hx : okT κ sto x = true
    · exact .inl ⟨x, p, rfl, hx, (Option.some.inj ((if_pos hx).symm.trans e)).symm⟩
    · cases (if_neg hx).symm.trans e
  | none =>
    rw [h] at e
    obtain ⟨es, h1, e2⟩ := Option.bind_eq_some_iff.mp (show (tpOf t).bind _ = _ from e)
    obtain ⟨ds, h2, e3⟩ := Option.bind_eq_some_iff.mp e2
    obtain ⟨k, p, rfl⟩ := tpOf_some h1
    exact .inr ⟨es, k, p, ds, rfl, tdOf_some h2, e3⟩

noncomputable def AfterT (w : World) (G : Str → Option Value) (hb : Heap) (κ : Str → Option NameKind) (env : Env) (own wr : List Addr) (ov : List (Str × Addr)) (ρ' : Rho) (s : Shared) (Q : Unit → Shared → Prop) : Prop :=
  ∀ h' tk, Step own wr s.heap own wr h' → Sim w G hb κ env own ov ρ' h' → Q () { s with heap := h', toks := tk }

theorem okT_kinds {x : Str} (h : okT κ sto x = true) : (κ x = some .local ∨ κ x = some .cell) ∧ sto x = true := by
  simp only [okT, Bool.and_eq_true, Bool.or_eq_true, beq_iff_eq] at h; exact h

theorem asn_name {A : Around} {E : Value → Shared → Prop} {s : Shared} {env : Env} {own wr : List Addr} {ov : List (Str × Addr)} {ρ : Rho} {x : Str} {p : Pos} {v : Value} {d : D} {Q : Unit → Shared → Prop}
    (S : Sim w G hb κ env own ov ρ s.heap) (W : Wr env own wr sto) (r : Rep w (Fz own s.heap) d v) (hx : okT κ sto x = true) (h : AfterT w G hb κ env own wr ov (upd ρ x (.frz d)) s Q) :
    wpAny (model prog w) A (assign (.Name x p) env v) Q E s := by
  have hk := okT_kinds hx
  refine wpAny_assign_Name (S.bind (ov' := ov) (b := .frz d) hk.1 (let ⟨vm, S'⟩ := S; S'.ovIn) (let ⟨vm, S'⟩ := S; S'.ovInj) (fun _ _ => rfl) r fun h' tk p hp hpo sb lv S2 => ?_)
  exact h h' tk (W.step hk.2 hp sb lv) S2

theorem asn_names {A : Around} {E : Value → Shared → Prop} {env : Env} {own wr : List Addr} {ov : List (Str × Addr)} (W : Wr env own wr sto) (es : List Expr) : ∀ (ds : List D) (vs : List Value) (ρ ρ' : Rho) (s : Shared) (Q : Unit → Shared → Prop),
    Sim w G hb κ env own ov ρ s.heap → Reps w (Fz own s.heap) ds vs → dBinds κ sto es ds ρ = some ρ' → AfterT w G hb κ env own wr ov ρ' s Q → wpAny (model prog w) A (assignInOrder ((assignEach es env).map (·.2)) vs) Q E s := by
  induction es with
  | nil =>
    intro ds vs ρ ρ' s Q S r e h
    obtain ⟨rfl, rfl⟩ := dBinds_nil e
    simp only [Reps] at r
    subst r
    exact wpAny_pure (h s.heap s.toks (Step.refl _ _ _) S)
  | cons t es ih =>
    intro ds vs ρ ρ' s Q S r e h
    obtain ⟨x, p, d, ds', rfl, rfl, hx, e⟩ := dBinds_cons e
    simp only [Reps] at r
    obtain ⟨v, vs', rfl, r1, r2⟩ := r
    show wpAny _ _ (do holding vs' (assign (.Name x p) env v); assignInOrder ((assignEach es env).map (·.2)) vs') _ _ _
    refine wpAny_bind (wpAny_holding (asn_name S W r1 hx fun h1 tk1 st1 S1 => ?_))
    exact ih ds' vs' _ ρ' _ Q S1 (Reps.mono (st1.le W.sub) _ r2) e fun h2 tk2 st2 S2 => h h2 tk2 (st1.trans S.ltAll st2) S2

theorem each_names (es : List Expr) : ∀ {ds : List D} {ρ ρ' : Rho} (env : Env), dBinds κ sto es ds ρ = some ρ' → (assignEach es env).length = ds.length ∧ (assignEach es env).findIdx? (·.1) = none := by
  induction es with
  | nil => intro ds ρ ρ' env e; obtain ⟨rfl, _⟩ := dBinds_nil e; exact ⟨rfl, rfl⟩
  | cons t es ih =>
    intro ds ρ ρ' env e
    obtain ⟨x, p, d, ds', rfl, rfl, hx, e⟩ := dBinds_cons e
    have ih := ih env e
    constructor
    · show ((assignEach es env).length + 1) = ds'.length + 1; rw [ih.1]
    · show List.findIdx? _ ((false, _) :: assignEach es env) = none
      rw [List.findIdx?_cons, ih.2]; rfl

theorem asn_target {A : Around} {E : Value → Shared → Prop} {s : Shared} {env : Env} {own wr : List Addr} {ov : List (Str × Addr)} {ρ ρ' : Rho} {t : Expr} {v : Value} {d : D} {Q : Unit → Shared → Prop} (R : Room A n)
    (S : Sim w G hb κ env own ov ρ s.heap) (W : Wr env own wr sto) (r : Rep w (Fz own s.heap) d v) (e : dTarget κ sto t d ρ = some ρ') (h : AfterT w G hb κ env own wr ov ρ' s Q) :
    wpAny (model prog w) A (assign t env v) Q E s := by
  rcases dTarget_cases e with ⟨x, p, rfl, hx, rfl⟩ | ⟨es, k, p, ds, rfl, rfl, e⟩
  · exact asn_name S W r hx h
  · simp only [Rep] at r
    obtain ⟨a, o, vs, m, rfl, q, c, dd, l, r⟩ := r
    have hz := r.length
    have q2 := Fz.get q
    obtain ⟨e1, e2⟩ := each_names es env e
    refine wpAny_assign_Tuple R.hd ⟨o, q2.2, c, m, dd⟩ (by rw [e1, ← hz]; simp) e2 fun h1 x1 => ?_
    have x1 : Ext s.heap h1 := fun b o' hb => x1 b o' (Nat.ne_of_lt (Heap.lt_size hb)) hb
    exact asn_names W es ds vs.toList ρ ρ' _ Q (S.ext x1) (Reps.mono x1.fz _ r) e fun h2 tk2 st2 S2 => h h2 tk2 ((Step.of_ext x1).trans S.ltAll st2) S2

/-! ## The step of an iterator -/
theorem Sim.iter {env : Env} {own : List Addr} {ov : List (Str × Addr)} {ρ : Rho} {h h' : Heap} {wrI : List Addr} (S : Sim w G hb κ env own ov ρ h) (k : Kept wrI h h') (hlive : ∀ b ∈ wrI, (h'.get? b).isSome = true) (hin : ∀ b ∈ wrI, b ∈ own)
    (hp : ∀ b ∈ wrI, ¬ isPlace env b) (ho : ∀ p ∈ ov, p.2 ∉ wrI) : Sim w G hb κ env own ov ρ h' := by
  obtain ⟨vm, S⟩ := S
  have live : ∀ a, (h.get? a).isSome = true → (h'.get? a).isSome = true := fun a e => by
    by_cases q : a ∈ wrI
    · exact hlive a q
    · obtain ⟨o, e⟩ := Option.isSome_iff_exists.mp e; rw [k a o q e]; rfl
  have lef : Le (Fz own h) (Fz own h') := fun a o e => Fz.of (Fz.get e).1 (k a o (fun q => (Fz.get e).1 (hin a q)) (Fz.get e).2)
  refine ⟨vm, S.eo.keep (fun _ q _ => q) (fun a ha o q => k a o (fun q => hp a q ha) q), S.kap, S.bas, fun a o e => ?_, S.high, fun a ha => live a (S.lt a ha), fun y b hy => ?_, S.ovIn, S.ovInj⟩
  · exact k a o (fun q => by have := S.high a (hin a q); rw [this] at e; cases e) (S.ext a o e)
  · obtain ⟨kk, v, h1, h2⟩ := S.vars y b hy
    refine ⟨kk, v, h1, ?_⟩
    cases b with
    | frz d => exact Rep.mono lef d h2
    | own d =>
      obtain ⟨a, o, q1, q2, q3, q4⟩ := h2
      exact ⟨a, o, q1, q2, k a o (ho _ (mem_of_lookup q2)) q3, q4.mono lef⟩

/-- fewer of one's own, none of them a place or a variable's -/
theorem Sim.drop {env : Env} {own own' : List Addr} {ov : List (Str × Addr)} {ρ : Rho} {h h' : Heap} {wrI : List Addr} (S : Sim w G hb κ env own ov ρ h) (k : Kept wrI h h') (hin : ∀ b ∈ wrI, b ∈ own)
    (hp : ∀ b ∈ wrI, ¬ isPlace env b) (ho : ∀ p ∈ ov, p.2 ∉ wrI) (hsub : ∀ a ∈ own', a ∈ own ∧ a ∉ wrI) (hsup : ∀ a ∈ own, a ∉ wrI → a ∈ own') : Sim w G hb κ env own' ov ρ h' := by
  obtain ⟨vm, S⟩ := S
  have lef : Le (Fz own h) (Fz own' h') := fun a o e => Fz.of (fun q => (Fz.get e).1 (hsub a q).1) (k a o (fun q => (Fz.get e).1 (hin a q)) (Fz.get e).2)
  refine ⟨vm, S.eo.keep (fun a q hpl => hsup a q fun m => hp a m hpl) (fun a ha o q => k a o (fun q => hp a q ha) q), S.kap, S.bas, fun a o e => ?_, fun a ha => S.high a (hsub a ha).1, fun a ha => ?_, fun y b hy => ?_, fun p hpv => ⟨hsup _ (S.ovIn p hpv).1 (ho p hpv), (S.ovIn p hpv).2⟩, S.ovInj⟩
  · exact k a o (fun q => by have := S.high a (hin a q); rw [this] at e; cases e) (S.ext a o e)
  · obtain ⟨o, e⟩ := Option.isSome_iff_exists.mp (S.lt a (hsub a ha).1); rw [k a o (hsub a ha).2 e]; rfl
  · obtain ⟨kk, v, h1, h2⟩ := S.vars y b hy
    refine ⟨kk, v, h1, ?_⟩
    cases b with
    | frz d => exact Rep.mono lef d h2
    | own d =>
      obtain ⟨a, o, q1, q2, q3, q4⟩ := h2
      exact ⟨a, o, q1, q2, k a o (ho _ (mem_of_lookup q2)) q3, q4.mono lef⟩

/-! ## For -/
noncomputable def loopD (bind : D → Rho → Option Rho) (body : DenS) : List D → Rho → Option (Flo × Rho)
  | [], ρ => some (.next, ρ)
  | d :: ds, ρ => (bind d ρ).bind fun ρ1 => (body ρ1).bind fun x => match x.1 with
    | .next => loopD bind body ds x.2
    | .cont => loopD bind body ds x.2
    | .brk => some (.next, x.2)
    | .ret v => some (.ret v, x.2)
noncomputable def dFor (it : Rho → Option (List D)) (bind : D → Rho → Option Rho) (body : DenS) : DenS := fun ρ => (it ρ).bind fun ds => loopD bind body ds ρ

noncomputable def nsB : (e : Expr) → { b : Bool // b = true → ∀ (env : Env) (x : Value), foldedSetIterable e env x = pure x }
  | .Constant c0 k0 p0 => ⟨true, fun _ _ _ => rfl⟩
  | .Name x0 p0 => ⟨true, fun _ _ _ => rfl⟩
  | .BinOp a0 o0 b0 p0 => ⟨true, fun _ _ _ => rfl⟩
  | .Call f0 es0 kw0 p0 => ⟨true, fun _ _ _ => rfl⟩
  | .Compare a0 os0 es0 p0 => ⟨true, fun _ _ _ => rfl⟩
  | .IfExp a0 b0 c0 p0 => ⟨true, fun _ _ _ => rfl⟩
  | .Dict ks0 vs0 p0 => ⟨true, fun _ _ _ => rfl⟩
  | .List es0 p0 => ⟨true, fun _ _ _ => rfl⟩
  | .Tuple es0 k0 p0 => ⟨true, fun _ _ _ => rfl⟩
  | .Subscript a0 b0 p0 => ⟨true, fun _ _ _ => rfl⟩
  | .BoolOp o0 es0 p0 => ⟨true, fun _ _ _ => rfl⟩
  | _ => ⟨false, fun h => (nomatch h)⟩
noncomputable def noSet (e : Expr) : Bool := (nsB e).1
theorem noSet_fold {iter : Expr} {env : Env} (h : noSet iter = true) (x : Value) : foldedSetIterable iter env x = pure x := (nsB iter).2 h env x

theorem ex_for {target iter : Expr} {body : List Stmt} {pos : Pos} {it : Rho → Option (List D)} {bd : DenS} (hns : noSet iter = true) (hit : EvIt prog w G hb n κ target iter false false it) (hbd : Exs prog w G hb n κ sto body bd) :
    Ex prog w G hb n κ sto (.For target iter body [] pos) (dFor it (dTarget κ sto target) bd) :=
  fun A env own wr ov ρ s E fl ρ' R S W O e Q hQ => by
    obtain ⟨ds, e1, e⟩ := Option.bind_eq_some_iff.mp e
    refine wpAny_For (wpAny_mono (hit A env own ov ρ s ds R S e1 (fun it s₂ => codeAny (model prog w) A (.forLoop target it body [] env) (fun r s' => match r with | .ok f => Q f s' | .error e => cameBackBy (model prog w) A env E e s') s₂) ?_) (fun x s₁ h₁ => wpAny_mono h₁ (fun _ _ q => q) fun _ _ q => q.elim) fun _ _ q => q.elim) (noSet_fold hns)
    intro I fp wrI St h1 tk1 x1 T st0 hfresh hfpl hfpo _
    have hS1 : Sim w G hb κ env (wrI ++ own) ov ρ h1 := S.more x1 fun a ha => ⟨hfresh a ha, hfpl a (T.sub a ha)⟩
    have hfpw : ∀ b ∈ fp, b ∉ wr := fun b hb hm => hfpo rfl b hb (W.sub b hm)
    have hIpl : ∀ b ∈ wrI, ¬ isPlace env b := fun b hb hm => isSome_none (S.ltAll b (let ⟨vm, S⟩ := S; S.place hm)) (hfresh b hb)
    let Inv : Nat → Shared → Prop := fun k s' => ∃ h' tk own' wr' ov' ρ₁ i, s' = { s with heap := h', toks := tk } ∧ Step own wr s.heap own' wr' h' ∧ Sim w G hb κ env own' ov' ρ₁ h' ∧ Wr env own' wr' sto ∧ (∀ p ∈ ov', p.2 ∈ wr') ∧ St i h' ∧
      Pin sto ov ov' ∧ (∀ b ∈ wrI, b ∈ own') ∧ (∀ b ∈ fp, b ∉ wr' ∧ (h'.get? b).isSome = true) ∧ Le (Fz (wrI ++ own) h1) (Fz own' h') ∧ loopD (dTarget κ sto target) bd (ds.drop i) ρ₁ = some (fl, ρ') ∧ i ≤ ds.length ∧ k = ds.length - i
    refine codeAny_forLoop_any Inv ?_ ds.length
      ⟨h1, tk1, wrI ++ own, wr, ov, ρ, 0, rfl, ⟨fun a o _ q => x1 a o q, fun a q => x1.some q, fun a ha => (List.mem_append.mp ha).elim (fun q => .inr (hfresh a q)) .inl, fun a ha => .inl ha, fun a ha => .inl (List.mem_append_right _ ha)⟩,
        hS1, ⟨fun a ha => List.mem_append_right _ (W.sub a ha), W.loc, W.cel⟩, O, st0, Pin.refl _ _, fun b hb => List.mem_append_left _ hb, fun b hb => ⟨hfpw b hb, hfpl b hb⟩, Le.refl _, by simpa using e, Nat.zero_le _, rfl⟩
    rintro k s' ⟨h', tk, own', wr', ov', ρ₁, i, rfl, sp, S', W', O', st, pn, hwI, hfw, le, el, hi, rfl⟩
    have hov : ∀ p ∈ ov', p.2 ∉ wrI := fun p hp hm => (hfw _ (T.sub _ hm)).1 (O' p hp)
    cases hd : ds[i]? with
    | none =>
      have hlen : i = ds.length := Nat.le_antisymm hi (by simpa using hd)
      subst hlen
      refine T.done _ _ _ st fun h2 tk2 kp => wpAny_execs_nil ?_
      rw [List.drop_length] at el
      cases el
      let own2 := own'.filter (fun a => !wrI.contains a)
      have m2 : ∀ a, a ∈ own2 ↔ a ∈ own' ∧ a ∉ wrI := fun a => by simp [own2]
      have S2 : Sim w G hb κ env own2 ov' ρ' h2 := S'.drop kp hwI hIpl hov (fun a ha => (m2 a).mp ha) fun a ha hn => (m2 a).mpr ⟨ha, hn⟩
      refine hQ .next h2 tk2 own2 wr' ov' ⟨fun a o ha ea => ?_, fun a ea => ?_, fun a ha => sp.ownNew a ((m2 a).mp ha).1, sp.wrNew, fun a ha => ?_⟩ S2 ⟨fun a ha => (m2 a).mpr ⟨W'.sub a ha, fun hm => (hfw a (T.sub a hm)).1 ha⟩, W'.loc, W'.cel⟩ O' ⟨rfl, pn⟩
      · exact kp a o (fun hm => by have := hfresh a hm; rw [this] at ea; cases ea) (sp.keep a o ha ea)
      · have hnI : a ∉ wrI := fun hm => isSome_none ea (hfresh a hm)
        obtain ⟨o, q⟩ := Option.isSome_iff_exists.mp (sp.live a ea)
        rw [kp a o hnI q]; rfl
      · have hnI : a ∉ wrI := fun hm => isSome_none (S.ltAll a ha) (hfresh a hm)
        exact (sp.stay a ha).elim (fun q => .inl ((m2 a).mpr ⟨q, hnI⟩)) .inr
    | some d =>
      have hlt : i < ds.length := (List.getElem?_eq_some_iff.mp hd).1
      have hdrop : ds.drop i = d :: ds.drop (i + 1) := by
        rw [List.drop_eq_getElem_cons hlt]; congr 1; exact (List.getElem?_eq_some_iff.mp hd).2
      rw [hdrop] at el
      obtain ⟨ρ2, e2, el⟩ := Option.bind_eq_some_iff.mp el
      obtain ⟨⟨fl3, ρ3⟩, e3, el⟩ := Option.bind_eq_some_iff.mp el
      refine wpAny_mono (T.item i d { s with heap := h', toks := tk } own' (fun v s₂ => wpAny (model prog w) A (assign target env v) (fun _ s₂ => wpAny (model prog w) A (execs body env) (fun f s₃ => match f with
            | .next | .cont => ∃ m, m < ds.length - i ∧ Inv m s₃
            | .brk => Q .next s₃
            | .ret v => Q (.ret v) s₃) (notedBy (model prog w) A env fun e s' => cameBackBy (model prog w) A env E e s') s₂) (notedBy (model prog w) A env fun e s' => cameBackBy (model prog w) A env E e s') s₂) _ hd st S'.ltAll le hwI ?_) (fun r s₁ h₁ => ?_) fun _ _ q => q
      · intro v h2 tk2 st2 rv kp2
        have S2 := S'.iter kp2 (T.lv _ _ st2) hwI hIpl hov
        have sp2 : Step own wr s.heap own' wr' h2 := ⟨fun a o ha ea => kp2 a o (fun hm => by have := hfresh a hm; rw [this] at ea; cases ea) (sp.keep a o ha ea), fun a ea => by
          have hnI : a ∉ wrI := fun hm => isSome_none ea (hfresh a hm)
          obtain ⟨o, q⟩ := Option.isSome_iff_exists.mp (sp.live a ea)
          rw [kp2 a o hnI q]; rfl, sp.ownNew, sp.wrNew, sp.stay⟩
        have le2 : Le (Fz own' h') (Fz own' h2) := fun a o q => Fz.of (Fz.get q).1 (kp2 a o (fun hm => (Fz.get q).1 (hwI a hm)) (Fz.get q).2)
        have lv2 : ∀ b ∈ fp, (h2.get? b).isSome = true := fun b hb => by
          by_cases q : b ∈ wrI
          · exact T.lv _ _ st2 b q
          · obtain ⟨o, q2⟩ := Option.isSome_iff_exists.mp (hfw b hb).2
            rw [kp2 b o q q2]; rfl
        refine asn_target R S2 W' rv e2 fun h3 tk3 sp3 S3 => ?_
        have st3 : St (i + 1) h3 := T.frame _ _ _ st2 fun b hb o q => sp3.keep b o (hfw b hb).1 q
        refine hbd A env own' wr' ov' ρ2 { s with heap := h3, toks := tk3 } _ fl3 ρ3 R S3 W' O' e3 _ fun r h4 tk4 own4 wr4 ov4 sp4 S4 W4 O4 F4 => ?_
        have sp34 := sp3.trans S2.ltAll sp4
        have sp4' := sp2.trans S.ltAll sp34
        have st4 : St (i + 1) h4 := T.frame _ _ _ st3 fun b hb o q => sp4.keep b o (hfw b hb).1 q
        have again : ∃ m, m < ds.length - i ∧ (Pin sto ov' ov4 → loopD (dTarget κ sto target) bd (ds.drop (i + 1)) ρ3 = some (fl, ρ') → Inv m { s with heap := h4, toks := tk4 }) := by
          refine ⟨ds.length - (i + 1), by exact om_38 hlt, fun pn4 el => ⟨h4, tk4, own4, wr4, ov4, ρ3, i + 1, rfl, sp4', S4, W4, O4, st4, pn.trans pn4, fun b hb => ?_, fun b hb => ⟨fun hm => ?_, sp34.live b (lv2 b hb)⟩, le.trans (le2.trans (sp34.le W'.sub)), el, hlt, rfl⟩⟩
          · exact (sp34.stay b (hwI b hb)).elim id fun q => absurd q (hfw b (T.sub b hb)).1
          · exact (sp34.wrNew b hm).elim (hfw b hb).1 fun q => isSome_none (lv2 b hb) q
        cases fl3 with
        | next => obtain ⟨rfl, pn4⟩ := F4; obtain ⟨m, hm, q⟩ := again; exact ⟨m, hm, q pn4 el⟩
        | cont => obtain ⟨rfl, pn4⟩ := F4; obtain ⟨m, hm, q⟩ := again; exact ⟨m, hm, q pn4 el⟩
        | brk => obtain ⟨rfl, pn4⟩ := F4; cases el; exact hQ .next h4 tk4 own4 wr4 ov4 sp4' S4 W4 O4 ⟨rfl, pn.trans pn4⟩
        | ret d => obtain ⟨v4, rfl, q4⟩ := F4; cases el; exact hQ (.ret v4) h4 tk4 own4 wr4 ov4 sp4' S4 W4 O4 ⟨v4, rfl, q4⟩
      · obtain ⟨v, rfl, h₁⟩ := h₁
        exact h₁

end
end Mine
end
section
open PySem PySem.W PyProof.Rows PySem.Spec
set_option maxRecDepth 100000
namespace Mine

/-! ## A comprehension's frame -/
noncomputable def cellsNew (n : Nat) (names : List (Str × NameKind)) : List (Str × Addr) := cellsFrom n names []
theorem cellsFrom_acc : ∀ (names : List (Str × NameKind)) (n : Nat) (acc : List (Str × Addr)), cellsFrom n names acc = cellsFrom n names [] ++ acc
  | [], _, _ => rfl
  | (x, k) :: r, n, acc => by
    unfold cellsFrom
    split
    · rw [cellsFrom_acc r (n + 1) ((x, n) :: acc), cellsFrom_acc r (n + 1) [(x, n)]]; simp
    · exact cellsFrom_acc r n acc
theorem cellsFrom_mem : ∀ (names : List (Str × NameKind)) (n : Nat) (y : Str) (c : Addr), (y, c) ∈ cellsFrom n names [] → (y, NameKind.cell) ∈ names
  | [], _, _, _, h => (nomatch h)
  | (x, k) :: r, n, y, c, h => by
    unfold cellsFrom at h
    split at h
    · rename_i hk
      rw [cellsFrom_acc] at h
      rcases List.mem_append.mp h with h | h
      · exact List.mem_cons_of_mem _ (cellsFrom_mem r _ y c h)
      · simp at h
        obtain ⟨rfl, rfl⟩ := h
        have : k = .cell := by simpa using hk
        subst this
        exact List.mem_cons_self
    · exact List.mem_cons_of_mem _ (cellsFrom_mem r _ y c h)
theorem cellsFrom_has : ∀ (names : List (Str × NameKind)) (n : Nat) (y : Str), (y, NameKind.cell) ∈ names → ∃ c, (y, c) ∈ cellsFrom n names []
  | [], _, _, h => (nomatch h)
  | (x, k) :: r, n, y, h => by
    unfold cellsFrom
    split
    · rename_i hk
      rw [cellsFrom_acc]
      rcases List.mem_cons.mp h with h | h
      · cases h; exact ⟨n, List.mem_append_right _ (by simp)⟩
      · obtain ⟨c, q⟩ := cellsFrom_has r (n + 1) y h; exact ⟨c, List.mem_append_left _ q⟩
    · rename_i hk
      rcases List.mem_cons.mp h with h | h
      · cases h; simp at hk
      · exact cellsFrom_has r n y h
theorem lookup_isSome_of_mem {α : Type} : ∀ {l : List (Str × α)} {y : Str} {c : α}, (y, c) ∈ l → ∃ c', l.lookup y = some c'
  | (x, v) :: r, y, c, h => by
    rw [List.lookup_cons]
    cases hb : y == x with
    | true => exact ⟨v, rfl⟩
    | false =>
      rcases List.mem_cons.mp h with h | h
      · cases h; simp at hb
      · exact lookup_isSome_of_mem h
theorem lookup_nodup {α : Type} : ∀ {l : List (Str × α)} {y : Str} {c : α}, (l.map (·.1)).Nodup → (y, c) ∈ l → l.lookup y = some c
  | (x, v) :: r, y, c, hn, h => by
    rw [List.lookup_cons]
    rw [List.map_cons, List.nodup_cons] at hn
    rcases List.mem_cons.mp h with h | h
    · cases h; simp
    · have : (y == x) = false := by
        simp only [beq_eq_false_iff_ne, ne_eq]
        intro e
        exact hn.1 (List.mem_map.mpr ⟨(y, c), h, e⟩)
      rw [this]; exact lookup_nodup hn.2 h

/-- the cells that a comprehension closes over -/
noncomputable def clos (cells : List (Str × Addr)) : List (Str × NameKind) → List (Str × Addr) → List (Str × Addr)
  | [], acc => acc
  | (x, k) :: r, acc => if k == .free then clos cells r ((x, (cells.lookup x).getD 0) :: acc) else clos cells r acc
theorem closureFor_clos {scope : Scope} {env : Env} (h : ∀ x, (x, NameKind.free) ∈ scope.names → ∃ c, env.cells.lookup x = some c) : closureFor scope env = pure (clos env.cells scope.names []) := by
  have key : ∀ (names : List (Str × NameKind)) (acc : List (Str × Addr)), (∀ x, (x, NameKind.free) ∈ names → ∃ c, env.cells.lookup x = some c) →
      (forIn names acc fun (x : Str × NameKind) (cs : List (Str × Addr)) => (if x.2 == .free then do let c ← cellOf env x.1; pure (.yield ((x.1, c) :: cs)) else pure (.yield cs) : Sem (ForInStep (List (Str × Addr))))) = pure (clos env.cells names acc) := by
    intro names
    induction names with
    | nil => intro acc _; rfl
    | cons x r ih =>
      intro acc hn
      obtain ⟨x, k⟩ := x
      rw [List.forIn_cons]
      have ih' := fun acc => ih acc fun y hy => hn y (List.mem_cons_of_mem _ hy)
      unfold clos
      by_cases hk : (k == NameKind.free) = true
      · have : k = .free := by simpa using hk
        subst this
        obtain ⟨c, hc⟩ := hn x List.mem_cons_self
        have : cellOf env x = pure c := by unfold cellOf; rw [hc]
        simp only [beq_self_eq_true, if_true, this, hc, Option.getD_some, pure_bind]
        exact ih' _
      · simp only [hk, if_false, pure_bind]
        exact ih' _
  unfold closureFor
  have e : (fun (x : Str × NameKind) (r : List (Str × Addr)) => (match x with | (name, kind) => if (kind == NameKind.free) = true then do let __do_lift ← cellOf env name; pure (ForInStep.yield ((name, __do_lift) :: r)) else pure (ForInStep.yield r) : Sem (ForInStep (List (Str × Addr))))) =
      fun (x : Str × NameKind) (cs : List (Str × Addr)) => (if x.2 == .free then do let c ← cellOf env x.1; pure (.yield ((x.1, c) :: cs)) else pure (.yield cs)) := by
    funext x cs; rfl
  have k2 := key scope.names [] h
  simp only [bind_pure]
  first
    | exact k2
    | (rw [← k2]; rfl)
    | (rw [← k2]; congr)

theorem clos_mem (cells : List (Str × Addr)) : ∀ (names : List (Str × NameKind)) (acc : List (Str × Addr)) (y : Str) (c : Addr), (∀ x, (x, NameKind.free) ∈ names → ∃ c, cells.lookup x = some c) → (y, c) ∈ clos cells names acc → (y, c) ∈ acc ∨ ((y, NameKind.free) ∈ names ∧ cells.lookup y = some c)
  | [], _, _, _, _, h => .inl h
  | (x, k) :: r, acc, y, c, hn, h => by
    unfold clos at h
    have hn' : ∀ z, (z, NameKind.free) ∈ r → ∃ c, cells.lookup z = some c := fun z hz => hn z (List.mem_cons_of_mem _ hz)
    split at h
    · rename_i hk
      have : k = .free := by simpa using hk
      subst this
      rcases clos_mem cells r _ y c hn' h with h | h
      · rcases List.mem_cons.mp h with h | h
        · cases h
          obtain ⟨c, hc⟩ := hn x List.mem_cons_self
          exact .inr ⟨List.mem_cons_self, by rw [hc]; rfl⟩
        · exact .inl h
      · exact .inr ⟨List.mem_cons_of_mem _ h.1, h.2⟩
    · rcases clos_mem cells r _ y c hn' h with h | h
      · exact .inl h
      · exact .inr ⟨List.mem_cons_of_mem _ h.1, h.2⟩
theorem clos_sub (cells : List (Str × Addr)) : ∀ (names : List (Str × NameKind)) (acc : List (Str × Addr)) (p : Str × Addr), p ∈ acc → p ∈ clos cells names acc
  | [], _, _, h => h
  | (x, k) :: r, acc, p, h => by
    unfold clos
    split
    · exact clos_sub cells r _ p (List.mem_cons_of_mem _ h)
    · exact clos_sub cells r _ p h
theorem clos_has (cells : List (Str × Addr)) : ∀ (names : List (Str × NameKind)) (acc : List (Str × Addr)) (y : Str), (y, NameKind.free) ∈ names → ∃ c, (y, c) ∈ clos cells names acc
  | [], _, _, h => (nomatch h)
  | (x, k) :: r, acc, y, h => by
    unfold clos
    rcases List.mem_cons.mp h with h | h
    · cases h
      simp only [beq_self_eq_true, if_true]
      exact ⟨_, clos_sub cells r _ _ List.mem_cons_self⟩
    · split
      · exact clos_has cells r _ y h
      · exact clos_has cells r _ y h

/-- kinds in a comprehension's frame -/
noncomputable def kapC (scope : Scope) (κ : Str → Option NameKind) : Str → Option NameKind := fun x => (scope.names.lookup x).map fun k => if (k == .free && κ x == some .cell) then .cell else k
noncomputable def stoC (scope : Scope) : Str → Bool := fun x => scope.names.lookup x == some .local || scope.names.lookup x == some .cell
noncomputable def rhoC (scope : Scope) (ρ : Rho) : Rho := fun x => if scope.names.lookup x = some .free then ρ x else none
noncomputable def scopeOk (scope : Scope) (κ : Str → Option NameKind) : Bool :=
  (scope.kind == .function) && decide ((scope.names.map (·.1)).Nodup) && scope.names.all fun p => !(p.2 == .free) || (κ p.1 == some .cell || κ p.1 == some .free)

theorem lookup_relabel {env : Env} (hf : env.scope.kind = .function) : ∀ (names : List (Str × NameKind)) (x : Str),
    (names.map fun (n, k) => if (k == NameKind.free && env.scope.kind == .function && env.kindOf n == some .cell) then (n, NameKind.cell) else (n, k)).lookup x =
      (names.lookup x).map fun k => if (k == .free && env.kindOf x == some .cell) then .cell else k
  | [], _ => rfl
  | (y, k) :: r, x => by
    have ih := lookup_relabel hf r x
    have hf' : (env.scope.kind == ScopeKind.function) = true := by rw [hf]; rfl
    simp only [hf', Bool.and_true] at ih ⊢
    rw [List.map_cons]
    by_cases hc : (k == NameKind.free && env.kindOf y == some NameKind.cell) = true
    · simp only [hc, if_true]
      rw [List.lookup_cons, List.lookup_cons]
      cases hb : x == y with
      | true =>
        have : x = y := by simpa using hb
        subst this
        simp only [Option.map_some, hc, if_true]
      | false => exact ih
    · have hc' : (k == NameKind.free && env.kindOf y == some NameKind.cell) = false := by simpa using hc
      simp only [hc', Bool.false_eq_true, if_false]
      rw [List.lookup_cons, List.lookup_cons]
      cases hb : x == y with
      | true =>
        have : x = y := by simpa using hb
        subst this
        simp only [Option.map_some, hc', Bool.false_eq_true, if_false]
      | false => exact ih

noncomputable def compFrame (scope : Scope) (L : Addr) (env : Env) : Env :=
  { scope := relabel scope env, locals := L, globals := env.globals, cells := cellsFrom (L + 1) scope.names [] ++ clos env.cells scope.names [], qual := env.qual, func := none, code := env.code, frame := env.frame, builtins := env.builtins }

section
variable {prog : Program} {w : World} {G : Str → Option Value} {hb : Heap} {n : Nat} {κ : Str → Option NameKind} {sto : Str → Bool}

theorem compFrame_sim {env : Env} {own : List Addr} {ov : List (Str × Addr)} {ρ : Rho} {h : Heap} {scope : Scope} (S : Sim w G hb κ env own ov ρ h) (hs : scopeOk scope κ = true) :
    ∃ new, (∀ a ∈ new, h.get? a = none ∧ ((pushCells (h.push { cls := .type "dict", data := .dict #[] }) scope.names).get? a).isSome = true) ∧
      Sim w G hb (kapC scope κ) (compFrame scope h.objs.size env) (new ++ own) ov (rhoC scope ρ) (pushCells (h.push { cls := .type "dict", data := .dict #[] }) scope.names) ∧
      Wr (compFrame scope h.objs.size env) (new ++ own) new (stoC scope) ∧ Ext h (pushCells (h.push { cls := .type "dict", data := .dict #[] }) scope.names) ∧ h.objs.size ∈ new := by
  obtain ⟨vm, S⟩ := S
  simp only [scopeOk, Bool.and_eq_true, beq_iff_eq, decide_eq_true_eq, List.all_eq_true, Bool.or_eq_true, Bool.not_eq_true', beq_eq_false_iff_ne, ne_eq] at hs
  obtain ⟨⟨hk, hn⟩, hfree⟩ := hs
  generalize hL : h.objs.size = L
  generalize hH : pushCells (h.push { cls := .type "dict", data := .dict #[] }) scope.names = H
  have x0 : Ext h (h.push { cls := .type "dict", data := .dict #[] }) := Ext.push _ _
  have x1 : Ext (h.push { cls := .type "dict", data := .dict #[] }) H := by rw [← hH]; exact fun a o e => pushCells_keeps _ _ a o e
  have ok := cellsFrom_ok scope.names (h.push { cls := .type "dict", data := .dict #[] }) (L + 1) [] ⟨fun _ _ hm => (nomatch hm), List.Pairwise.nil⟩ (by rw [Heap.size_push, hL]; exact Nat.le_refl _)
  rw [Heap.size_push, hL, hH] at ok
  have hns : H.Ns L (fun _ => none) := by rw [← hL]; exact (Heap.Ns.new h (.type "dict")).keeps x1
  have freeAt : ∀ x, (x, NameKind.free) ∈ scope.names → ∃ c, env.cells.lookup x = some c ∧ c ∈ own ∧ h.IsCell c (vm x) := fun x hx => by
    have := hfree _ hx
    simp only [not_true_eq_false, false_or] at this
    obtain ⟨c, h1, h2, _, h4⟩ := S.eo.cel x (by rw [S.kap]; exact this)
    exact ⟨c, h1, h2, h4⟩
  have freeC : ∀ x, (x, NameKind.free) ∈ scope.names → ∃ c, env.cells.lookup x = some c := fun x hx => let ⟨c, q, _⟩ := freeAt x hx; ⟨c, q⟩
  have newLo : ∀ y c, (y, c) ∈ cellsFrom (L + 1) scope.names [] → H.IsCell c none ∧ L + 1 ≤ c := ok.empty
  have notIn : ∀ {a : Addr}, L ≤ a → h.get? a = none := fun {a} ha => by
    cases q : h.get? a with
    | none => rfl
    | some o => exact absurd (Heap.lt_size q) (by rw [hL]; exact Nat.not_lt.mpr ha)
  let cs := cellsFrom (L + 1) scope.names [] ++ clos env.cells scope.names []
  have csLook : ∀ x c, cs.lookup x = some c → (∃ q : (x, c) ∈ cellsFrom (L + 1) scope.names [], (x, NameKind.cell) ∈ scope.names) ∨ ((x, NameKind.free) ∈ scope.names ∧ env.cells.lookup x = some c) := fun x c hc => by
    rcases List.mem_append.mp (mem_of_lookup hc) with q | q
    · exact .inl ⟨q, cellsFrom_mem _ _ _ _ q⟩
    · rcases clos_mem env.cells scope.names [] x c freeC q with q | q
      · cases q
      · exact .inr q
  let new := L :: (cellsFrom (L + 1) scope.names []).map (·.2)
  have hnew : ∀ a ∈ new, h.get? a = none ∧ (H.get? a).isSome = true := fun a ha => by
    rcases List.mem_cons.mp ha with rfl | ha
    · obtain ⟨o, es, ep, q, _⟩ := hns; exact ⟨notIn (Nat.le_refl _), by rw [q]; rfl⟩
    · obtain ⟨p, hp, rfl⟩ := List.mem_map.mp ha
      obtain ⟨⟨o, q, _⟩, lo⟩ := newLo p.1 p.2 hp
      exact ⟨notIn (Nat.le_of_succ_le lo), by rw [q]; rfl⟩
  have hfk : env.scope.kind = .function := S.eo.fn
  have kO : ∀ x, (compFrame scope L env).kindOf x = kapC scope κ x := fun x => by
    show (relabel scope env).names.lookup x = _
    unfold relabel kapC
    rw [lookup_relabel hfk, S.kap]
  refine ⟨new, hnew, ⟨fun x => if scope.names.lookup x = some .free then vm x else none, ?_⟩, ⟨fun a ha => List.mem_append_left _ ha, List.mem_cons_self, fun x c hx hc => ?_⟩, x0.trans x1, List.mem_cons_self⟩
  · refine ⟨⟨hk, S.eo.gl, S.eo.bl, List.mem_append_left _ List.mem_cons_self, ⟨fun _ => none, hns, fun x hx => ?_⟩, fun x hx => ?_, fun x y c hx hy => ?_, fun y c hc => ?_, fun y c hc => ?_⟩, kO, S.bas, S.ext.trans (x0.trans x1), fun a ha => ?_, fun a ha => ?_, fun y b hy => ?_, fun p hp => ?_, S.ovInj⟩
    · rw [kO] at hx
      unfold kapC at hx
      by_cases q : scope.names.lookup x = some .free
      · rw [q] at hx; simp only [Option.map_some] at hx; split at hx <;> simp at hx
      · rw [if_neg q]
    · have hk' : scope.names.lookup x = some .cell ∨ scope.names.lookup x = some .free := by
        rw [kO] at hx
        unfold kapC at hx
        cases q : scope.names.lookup x with
        | none => rw [q] at hx; simp at hx
        | some k => rw [q] at hx; cases k <;> simp at hx <;> simp
      rcases hk' with hk' | hk'
      · obtain ⟨c, hc⟩ := cellsFrom_has scope.names (L + 1) x (mem_of_lookup hk')
        obtain ⟨c', hc'⟩ := lookup_isSome_of_mem hc
        have hm := mem_of_lookup hc'
        have e : cs.lookup x = some c' := by
          show (cellsFrom (L + 1) scope.names [] ++ clos env.cells scope.names []).lookup x = some c'
          rw [List.lookup_append, hc']; rfl
        obtain ⟨ic, lo⟩ := newLo x c' hm
        refine ⟨c', e, List.mem_append_left _ (List.mem_cons_of_mem _ (List.mem_map.mpr ⟨_, hm, rfl⟩)), fun q => by
          have q2 : c' = L := q
          rw [q2] at lo; exact Nat.not_succ_le_self _ lo, ?_⟩
        rw [if_neg (by rw [hk']; simp)]; exact ic
      · have hm := mem_of_lookup hk'
        obtain ⟨c, h1, h2, h3⟩ := freeAt x hm
        obtain ⟨c0, hc0⟩ := clos_has env.cells scope.names [] x hm
        have hl : (cellsFrom (L + 1) scope.names []).lookup x = none := by
          cases q : (cellsFrom (L + 1) scope.names []).lookup x with
          | none => rfl
          | some c1 =>
            have := lookup_nodup hn (cellsFrom_mem _ _ _ _ (mem_of_lookup q))
            rw [hk'] at this; cases this
        obtain ⟨c1, hc1⟩ := lookup_isSome_of_mem hc0
        have e : cs.lookup x = some c1 := by
          show (cellsFrom (L + 1) scope.names [] ++ clos env.cells scope.names []).lookup x = some c1
          rw [List.lookup_append, hl, hc1]; rfl
        have e2 : env.cells.lookup x = some c1 := by
          rcases csLook x c1 e with ⟨q, q2⟩ | q
          · have := lookup_nodup hn q2; rw [hk'] at this; cases this
          · exact q.2
        rw [h1] at e2; cases e2
        refine ⟨c, e, List.mem_append_right _ h2, fun q => ?_, ?_⟩
        · have q2 : c = L := q
          exact isSome_none (S.lt c h2) (notIn (Nat.le_of_eq q2.symm))
        · rw [if_pos hk']; exact h3.keeps (x0.trans x1)
    · rcases csLook x c hx with ⟨q1, q2⟩ | ⟨q1, q2⟩ <;> rcases csLook y c hy with ⟨q3, q4⟩ | ⟨q3, q4⟩
      · exact name_of_addr ok.apart q1 q3
      · exact absurd (S.eo.celIn y c q4) fun hm => isSome_none (S.lt c hm) (notIn (Nat.le_of_succ_le (newLo x c q1).2))
      · exact absurd (S.eo.celIn x c q2) fun hm => isSome_none (S.lt c hm) (notIn (Nat.le_of_succ_le (newLo y c q3).2))
      · exact S.eo.inj x y c q2 q4
    · rcases csLook y c hc with ⟨q1, q2⟩ | ⟨q1, q2⟩
      · exact List.mem_append_left _ (List.mem_cons_of_mem _ (List.mem_map.mpr ⟨_, q1, rfl⟩))
      · exact List.mem_append_right _ (S.eo.celIn y c q2)
    · rw [kO]
      unfold kapC
      rcases csLook y c hc with ⟨_, q2⟩ | ⟨q1, _⟩
      · rw [lookup_nodup hn q2]; exact .inl rfl
      · rw [lookup_nodup hn q1]
        simp only [Option.map_some]
        split
        · exact .inl rfl
        · exact .inr rfl
    · rcases List.mem_append.mp ha with q | q
      · exact S.ext.none (hnew a q).1
      · exact S.high a q
    · rcases List.mem_append.mp ha with q | q
      · exact (hnew a q).2
      · exact (x0.trans x1).some (S.lt a q)
    · unfold rhoC at hy
      split at hy
      · rename_i hf
        obtain ⟨_, v, h1, h2⟩ := S.vars y b hy
        refine ⟨?_, v, by rw [if_pos hf]; exact h1, h2.more (x0.trans x1) fun a ha => (List.mem_append.mp ha).elim (fun q => .inr (hnew a q).1) .inl⟩
        show isV (kapC scope κ y) = true
        unfold kapC
        rw [hf]
        simp only [Option.map_some]
        split <;> simp [isV]
      · cases hy
    · obtain ⟨h1, h2⟩ := S.ovIn p hp
      refine ⟨List.mem_append_right _ h1, fun q => ?_⟩
      rcases q with q | ⟨y, q⟩
      · exact isSome_none (S.lt _ h1) (notIn (Nat.le_of_eq (show L = p.2 from q.symm)))
      · rcases csLook y p.2 q with ⟨q1, _⟩ | ⟨_, q2⟩
        · exact isSome_none (S.lt _ h1) (notIn (Nat.le_of_succ_le (newLo y p.2 q1).2))
        · exact h2 (.inr ⟨y, q2⟩)
  · rcases csLook x c hc with ⟨q1, _⟩ | ⟨q1, _⟩
    · exact List.mem_cons_of_mem _ (List.mem_map.mpr ⟨_, q1, rfl⟩)
    · have := lookup_nodup hn q1
      simp [stoC, this] at hx

theorem newCompFrame {M : Model} {A : Around} {E : Value → Shared → Prop} {s : Shared} {env : Env} {scope : Scope} {Q : Env → Shared → Prop}
    (h : Q { scope := scope, locals := s.heap.objs.size, globals := env.globals, cells := cellsFrom (s.heap.objs.size + 1) scope.names [] ++ clos env.cells scope.names [], qual := env.qual, func := none, code := env.code, frame := env.frame, builtins := env.builtins }
      { s with heap := pushCells (s.heap.push { cls := .type "dict", data := .dict #[] }) scope.names }) :
    wpAny M A (newFunctionEnv scope env.globals (clos env.cells scope.names []) [] env.qual none .none (some env)) Q E s := by
  simp only [newFunctionEnv, Option.isSome_some, if_true]
  refine wpAny_bind (wpAny_alloc ?_)
  refine wpAny_bind (wpAny_layCells _ (fun name kind cells => by cases hkc : kind == NameKind.cell <;> simp [hkc]) _ _ _ _ ?_)
  rw [show ({ s with heap := s.heap.push { cls := .type "dict", data := .dict #[] } } : Shared).heap.objs.size = s.heap.objs.size + 1 from Heap.size_push .., cellsFrom_acc]
  exact wpAny_bind (wpAny_pure (wpAny_pure h))
end
end Mine
end
section
open PySem PySem.W PyProof.Rows PySem.Spec
set_option maxRecDepth 100000
namespace Mine

/-! ## The generators of a list comprehension -/
section
variable {prog : Program} {w : World} {G : Str → Option Value} {hb : Heap} {n : Nat} {κ : Str → Option NameKind} {sto : Str → Bool}

noncomputable def targetNames (t : Expr) : List Str := match nmOf t with
  | some x => [x]
  | none => ((tpOf t).getD []).filterMap nmOf
theorem dBinds_other (es : List Expr) : ∀ {ds : List D} {ρ ρ' : Rho} {x : Str}, dBinds κ sto es ds ρ = some ρ' → x ∉ es.filterMap nmOf → ρ' x = ρ x := by
  induction es with
  | nil => intro ds ρ ρ' x e _; obtain ⟨_, rfl⟩ := dBinds_nil e; rfl
  | cons t es ih =>
    intro ds ρ ρ' x e hx
    obtain ⟨y, p, d, ds', rfl, rfl, _, e⟩ := dBinds_cons e
    rw [List.filterMap_cons, show nmOf (.Name y p) = some y from rfl] at hx
    simp only [List.mem_cons, not_or] at hx
    rw [ih e hx.2]
    simp [upd, hx.1]
theorem dTarget_other {t : Expr} {d : D} {ρ ρ' : Rho} {x : Str} (e : dTarget κ sto t d ρ = some ρ') (hx : x ∉ targetNames t) : ρ' x = ρ x := by
  rcases dTarget_cases e with ⟨y, p, rfl, _, rfl⟩ | ⟨es, k, p, ds, rfl, rfl, e⟩
  · have hx : x ∉ [y] := hx
    simp only [List.mem_singleton] at hx
    simp [upd, hx]
  · exact dBinds_other es e hx

theorem Sim.mono {env : Env} {own : List Addr} {ov : List (Str × Addr)} {ρ ρ' : Rho} {h : Heap} (S : Sim w G hb κ env own ov ρ' h) (hs : ∀ x b, ρ x = some b → ρ' x = some b) : Sim w G hb κ env own ov ρ h :=
  let ⟨vm, S⟩ := S
  ⟨vm, S.eo, S.kap, S.bas, S.ext, S.high, S.lt, fun x b hb => S.vars x b (hs x b hb), S.ovIn, S.ovInj⟩

noncomputable def dTests (FB : Expr → DenB) : List Expr → Rho → Option Bool
  | [], _ => some true
  | c :: cs, ρ => (FB c ρ).bind fun b => if b then dTests FB cs ρ else some false

theorem tests_go {A : Around} {env : Env} {own : List Addr} {ov : List (Str × Addr)} {ρ : Rho} {E : Value → Shared → Prop} {FB : Expr → DenB} (hB : ∀ c, EvB prog w G hb n κ c (FB c)) (R : Room A n) :
    ∀ (ifs : List Expr) (s : Shared) (b : Bool) (Q : Bool → Shared → Prop), Sim w G hb κ env own ov ρ s.heap → dTests FB ifs ρ = some b → (∀ h' tk, Ext s.heap h' → Q b { s with heap := h', toks := tk }) →
      wpAny (model prog w) A (forIn ifs true fun c r => if r = true then do let ok ← isTrue c env (eval c env); pure (ForInStep.yield ok) else pure (ForInStep.yield r)) Q E s
  | [], s, b, Q, S, e, hQ => by
    cases e
    exact wpAny_pure (hQ s.heap s.toks (Ext.refl _))
  | c :: cs, s, b, Q, S, e, hQ => by
    obtain ⟨b1, e1, e⟩ := Option.bind_eq_some_iff.mp e
    rw [List.forIn_cons]
    simp only [if_true]
    refine wpAny_bind (wpAny_bind (anyE (hB c A env own ov ρ s b1 R S e1 _ fun h1 tk1 x1 => ?_)))
    refine wpAny_pure ?_
    cases b1 with
    | true => exact tests_go hB R cs _ b Q (S.ext x1) e fun h2 tk2 x2 => hQ h2 tk2 (x1.trans x2)
    | false =>
      cases e
      have skip : ∀ (cs : List Expr) (s : Shared) (Q : Bool → Shared → Prop), Q false s → wpAny (model prog w) A (forIn cs false fun c r => if r = true then do let ok ← isTrue c env (eval c env); pure (ForInStep.yield ok) else pure (ForInStep.yield r)) Q E s := by
        intro cs
        induction cs with
        | nil => intro s Q h; exact wpAny_pure h
        | cons c cs ih =>
          intro s Q h
          rw [List.forIn_cons]
          simp only [Bool.false_eq_true, if_false]
          exact wpAny_bind (wpAny_pure (ih s Q h))
      exact skip cs _ Q (hQ h1 tk1 x1)

noncomputable def dTurns (f : D → Option (List D)) : List D → Option (List D)
  | [] => some []
  | d :: ds => (f d).bind fun xs => (dTurns f ds).map fun ys => xs ++ ys

/-- what the generators give, one after the other -/
noncomputable def dGens (κ : Str → Option NameKind) (sto : Str → Bool) (FE : Expr → Den) (FB : Expr → DenB) (FI : Expr → Expr → Rho → Option (List D)) (elt : Expr) : List Comprehension → Rho → Option (List D)
  | [], ρ => (FE elt ρ).bind fun x => if x.1 = .loose then none else some [x.2]
  | g :: gs, ρ => if g.is_async = 0 ∧ noSet g.iter = true ∧ ((targetNames g.target).all fun x => (ρ x).isNone) = true then
      (FI g.target g.iter ρ).bind fun ds => dTurns (fun d => (dTarget κ sto g.target d ρ).bind fun ρ' => (dTests FB g.ifs ρ').bind fun b => if b then dGens κ sto FE FB FI elt gs ρ' else some []) ds
    else none
/-- one turn of a generator -/
noncomputable def dTurn (κ : Str → Option NameKind) (sto : Str → Bool) (FE : Expr → Den) (FB : Expr → DenB) (FI : Expr → Expr → Rho → Option (List D)) (elt : Expr) (g : Comprehension) (gs : List Comprehension) (ρ : Rho) (d : D) : Option (List D) :=
  (dTarget κ sto g.target d ρ).bind fun ρ' => (dTests FB g.ifs ρ').bind fun b => if b then dGens κ sto FE FB FI elt gs ρ' else some []

noncomputable def KL (wr : List Addr) (h h' : Heap) : Prop := Kept wr h h' ∧ ∀ a, (h.get? a).isSome = true → (h'.get? a).isSome = true
theorem KL.refl (wr : List Addr) (h : Heap) : KL wr h h := ⟨fun _ _ _ e => e, fun _ e => e⟩
theorem KL.trans {wr : List Addr} {h₁ h₂ h₃ : Heap} (x : KL wr h₁ h₂) (y : KL wr h₂ h₃) : KL wr h₁ h₃ := ⟨fun a o ha e => y.1 a o ha (x.1 a o ha e), fun a e => y.2 a (x.2 a e)⟩
theorem KL.ext {wr : List Addr} {h h' : Heap} (x : Ext h h') : KL wr h h' := ⟨fun a o _ e => x a o e, fun _ e => x.some e⟩
theorem KL.le {own wr : List Addr} {h h' : Heap} (x : KL wr h h') (hs : ∀ a ∈ wr, a ∈ own) : Le (Fz own h) (Fz own h') := fun a o e => Fz.of (Fz.get e).1 (x.1 a o (fun q => (Fz.get e).1 (hs a q)) (Fz.get e).2)

noncomputable def AccIs (w : World) (own : List Addr) (h : Heap) (D : Addr) (ds : List Mine.D) : Prop := ∃ vs m, h.get? D = some { cls := .type "list", dict := none, data := .seq vs m, slots := #[] } ∧ ds.length ≤ cap ∧ Reps w (Fz own h) ds vs.toList
theorem AccIs.step {own wr : List Addr} {h h' : Heap} {D : Addr} {ds : List Mine.D} (x : AccIs w own h D ds) (k : KL wr h h') (hs : ∀ a ∈ wr, a ∈ own) (hD : D ∉ wr) : AccIs w own h' D ds :=
  let ⟨vs, m, e, l, r⟩ := x; ⟨vs, m, k.1 D _ hD e, l, Reps.mono (k.le hs) _ r⟩

/-- what a comprehension's frame holds apart from its names: D the list that grows -/
structure CFrame (env : Env) (own wr : List Addr) (sto : Str → Bool) (ov : List (Str × Addr)) (D : Addr) : Prop where
  hw : Wr env own wr sto
  dIn : D ∈ own
  dW : D ∉ wr
  dPl : ¬ isPlace env D
  dOv : ∀ p ∈ ov, p.2 ≠ D

noncomputable def inner (elt : Expr) (gens : List Comprehension) (scope : Scope) (pos : Pos) (depth : Nat) (acc : Value) (env : Env) : Sem Unit :=
  match gens[depth]? with
  | some g' => do
    let x ← eval g'.iter env
    standAt g'.iter.pos
    let x ← foldedSetIterable g'.iter env x
    let _ ← runOwn (.compStart (.ListComp elt gens scope pos) depth (← holding [x] (pyIter x)) acc env) env
    pure ()
  | none => do let _ ← call (.builtin "list.append") [acc, ← eval elt env]

theorem compTurn_at {elt : Expr} {gens : List Comprehension} {scope : Scope} {pos : Pos} {depth : Nat} {it acc : Value} {env : Env} {target iter : Expr} {ifs : List Expr} (hg : gens[depth]? = some ⟨target, iter, ifs, 0⟩)
    (hz : ∀ g', gens[depth + 1]? = some g' → g'.is_async = 0) :
    compTurn (.ListComp elt gens scope pos) depth it acc env = (do
      standAt iter.pos
      match ← pyNext it with
      | none => pure (.done .next)
      | some v =>
        letOwnedTupleGo target it v
        assign target env v
        let ok ← (forIn ifs true fun c r => if r = true then do let ok ← isTrue c env (eval c env); pure (ForInStep.yield ok) else pure (ForInStep.yield r))
        if ok then do
          inner elt gens scope pos (depth + 1) acc env
          again (.compLoop (.ListComp elt gens scope pos) depth it acc env)
        else again (.compLoop (.ListComp elt gens scope pos) depth it acc env)) := by
  unfold compTurn inner
  simp only [hg]
  cases hq : gens[depth + 1]? with
  | none => rfl
  | some g' =>
    have h0 := hz g' hq
    simp only [h0, bind_assoc, pure_bind]
    rfl


theorem CFrame.more {env : Env} {own wr : List Addr} {ov : List (Str × Addr)} {D : Addr} (F : CFrame env own wr sto ov D) (new : List Addr) : CFrame env (new ++ own) wr sto ov D :=
  ⟨⟨fun a ha => List.mem_append_right _ (F.hw.sub a ha), F.hw.loc, F.hw.cel⟩, List.mem_append_right _ F.dIn, F.dW, F.dPl, F.dOv⟩
theorem CFrame.sub {env : Env} {own wr : List Addr} {ov : List (Str × Addr)} {D : Addr} (F : CFrame env own wr sto ov D) : ∀ a ∈ D :: wr, a ∈ own := fun a ha => (List.mem_cons.mp ha).elim (fun q => q ▸ F.dIn) (F.hw.sub a)

/-- what is asked of the code within a turn -/
noncomputable def InnerOk (prog : Program) (w : World) (G : Str → Option Value) (hb : Heap) (n : Nat) (κ : Str → Option NameKind) (sto : Str → Bool) (A : Around) (env : Env) (wr : List Addr) (ov : List (Str × Addr)) (D : Addr) (code : Sem Unit) (f : Rho → Option (List Mine.D)) : Prop :=
  ∀ (own : List Addr) (ρ : Rho) (s : Shared) (acc ds : List Mine.D) (E : Value → Shared → Prop) (Q : Unit → Shared → Prop), Sim w G hb κ env own ov ρ s.heap → CFrame env own wr sto ov D → AccIs w own s.heap D acc → f ρ = some ds → acc.length + ds.length ≤ cap →
    (∀ h' tk, KL (D :: wr) s.heap h' → Sim w G hb κ env own ov ρ h' → AccIs w own h' D (acc ++ ds) → Q () { s with heap := h', toks := tk }) → wpAny (model prog w) A code Q E s

theorem comp_loop {FE : Expr → Den} {FB : Expr → DenB} {FI : Expr → Expr → Rho → Option (List Mine.D)} (hB : ∀ c, EvB prog w G hb n κ c (FB c)) {elt : Expr} {gens : List Comprehension} {scope : Scope} {pos : Pos} {depth : Nat} {target iter : Expr} {ifs : List Expr} {gs : List Comprehension}
    {A : Around} {env : Env} {own wr : List Addr} {ov : List (Str × Addr)} {ρ : Rho} {D I : Addr} {fp wrI : List Addr} {ds acc total : List Mine.D} {St : Nat → Heap → Prop} {own₀ : List Addr} {h₀ h1 : Heap} {s : Shared} {R : Result → Shared → Prop} (Rm : Room A n)
    (hg : gens[depth]? = some ⟨target, iter, ifs, 0⟩) (hz : ∀ g', gens[depth + 1]? = some g' → g'.is_async = 0)
    (hin : InnerOk prog w G hb n κ sto A env wr ov D (inner elt gens scope pos (depth + 1) (.ref D) env) (dGens κ sto FE FB FI elt gs))
    (hun : ((targetNames target).all fun x => (ρ x).isNone) = true)
    (T : Turns prog w A target I fp wrI ds own₀ h₀ St) (le0 : Le (Fz own₀ h₀) (Fz (wrI ++ own) h1)) (st0 : St 0 h1) (hfpl : ∀ b ∈ fp, (h1.get? b).isSome = true) (hfpw : ∀ b ∈ fp, b ∉ D :: wr)
    (hS1 : Sim w G hb κ env (wrI ++ own) ov ρ h1) (F : CFrame env own wr sto ov D) (hIpl : ∀ b ∈ wrI, ¬ isPlace env b) (hov : ∀ p ∈ ov, p.2 ∉ wrI) (hIo : ∀ a ∈ own, a ∉ wrI) (acc1 : AccIs w (wrI ++ own) h1 D acc) (hs1 : s.heap = h1)
    (e : dTurns (dTurn κ sto FE FB FI elt ⟨target, iter, ifs, 0⟩ gs ρ) ds = some total) (hcap : acc.length + total.length ≤ cap)
    (hR : ∀ h' tk, Kept (wrI ++ D :: wr) h1 h' → (∀ a, a ∉ wrI → (h1.get? a).isSome = true → (h'.get? a).isSome = true) → Sim w G hb κ env own ov ρ h' → AccIs w own h' D (acc ++ total) → R (.ok .next) { s with heap := h', toks := tk }) :
    codeAny (model prog w) A (.compLoop (.ListComp elt gens scope pos) depth (.ref I) (.ref D) env) R s := by
  have F1 : CFrame env (wrI ++ own) wr sto ov D := F.more wrI
  have hwI : ∀ b ∈ wrI, b ∈ wrI ++ own := fun b hb => List.mem_append_left _ hb
  have hDI : D ∉ wrI := hIo D F.dIn
  let Inv : Nat → Shared → Prop := fun k s' => ∃ h' tk i out rest, s' = { s with heap := h', toks := tk } ∧ KL (wrI ++ D :: wr) h1 h' ∧ Sim w G hb κ env (wrI ++ own) ov ρ h' ∧ AccIs w (wrI ++ own) h' D out ∧ St i h' ∧ (∀ b ∈ fp, (h'.get? b).isSome = true) ∧
    Le (Fz (wrI ++ own) h1) (Fz (wrI ++ own) h') ∧ dTurns (dTurn κ sto FE FB FI elt ⟨target, iter, ifs, 0⟩ gs ρ) (ds.drop i) = some rest ∧ out ++ rest = acc ++ total ∧ i ≤ ds.length ∧ k = ds.length - i
  refine codeAny_loop rfl Inv (fun k s' hI => ?_) ds.length ⟨h1, s.toks, 0, acc, total, by rw [← hs1], KL.refl _ _, hS1, acc1, st0, hfpl, Le.refl _, by simpa using e, rfl, Nat.zero_le _, rfl⟩
  obtain ⟨h', tk, i, out, rest, rfl, kl, S', a', st, hfl, le, el, hsum, hi, rfl⟩ := hI
  show wpAny _ A ((compTurn (.ListComp elt gens scope pos) depth (.ref I) (.ref D) env).onRaise (fun x => do noteFrame x env; theTreesLotGoes x)) _ _ _
  refine wpAny_noted ?_
  rw [compTurn_at hg hz]
  refine wpAny_bind (wpAny_standAt (wpAny_bind ?_))
  cases hd : ds[i]? with
  | none =>
    have hlen : i = ds.length := Nat.le_antisymm hi (by simpa using hd)
    subst hlen
    refine T.done _ _ _ st fun h2 tk2 kp => wpAny_pure ?_
    rw [List.drop_length] at el
    cases el
    have S2 : Sim w G hb κ env own ov ρ h2 := S'.drop kp hwI hIpl hov (fun a ha => ⟨List.mem_append_right _ ha, hIo a ha⟩) fun a ha hn => (List.mem_append.mp ha).elim (fun q => absurd q hn) id
    refine hR h2 tk2 (fun a o ha ea => kp a o (fun hm => ha (List.mem_append_left _ hm)) (kl.1 a o ha ea)) (fun a hnI ea => ?_) S2 ?_
    · obtain ⟨o, q⟩ := Option.isSome_iff_exists.mp (kl.2 a ea)
      rw [kp a o hnI q]; rfl
    · rw [List.append_nil] at hsum
      subst hsum
      obtain ⟨vs, m, q, l, r⟩ := a'
      exact ⟨vs, m, kp D _ hDI q, l, Reps.mono (fun a o e => Fz.of (fun hm => (Fz.get e).1 (List.mem_append_right _ hm)) (kp a o (fun hm => (Fz.get e).1 (hwI a hm)) (Fz.get e).2)) _ r⟩
  | some d =>
    have hlt : i < ds.length := (List.getElem?_eq_some_iff.mp hd).1
    have hdrop : ds.drop i = d :: ds.drop (i + 1) := by
      rw [List.drop_eq_getElem_cons hlt]; congr 1; exact (List.getElem?_eq_some_iff.mp hd).2
    rw [hdrop] at el
    obtain ⟨xs, e2, el⟩ := Option.bind_eq_some_iff.mp el
    obtain ⟨ys, e3, el⟩ := Option.map_eq_some_iff.mp el
    subst el
    obtain ⟨ρ2, e4, e2⟩ := Option.bind_eq_some_iff.mp e2
    obtain ⟨b, e5, e2⟩ := Option.bind_eq_some_iff.mp e2
    have hlen := congrArg List.length hsum
    simp only [List.length_append] at hlen
    have again : ∀ h2 tk2, Sim w G hb κ env (wrI ++ own) ov ρ2 h2 → AccIs w (wrI ++ own) h2 D (out ++ xs) → St (i + 1) h2 → (∀ b ∈ fp, (h2.get? b).isSome = true) → Le (Fz (wrI ++ own) h') (Fz (wrI ++ own) h2) → KL (wrI ++ D :: wr) h1 h2 →
        ∃ m, m < ds.length - i ∧ Inv m { s with heap := h2, toks := tk2 } := fun h2 tk2 S2 a2 st2 fl2 le2 kl3 =>
      ⟨ds.length - (i + 1), by exact om_38 hlt, h2, tk2, i + 1, out ++ xs, ys, rfl, kl3, S2.mono (fun x b hb => (dTarget_other e4 (fun hm => by
          have := List.all_eq_true.mp hun x hm
          rw [hb] at this; cases this)).trans hb), a2, st2, fl2, le.trans le2, e3, by rw [List.append_assoc]; exact hsum, hlt, rfl⟩
    refine wpAny_mono (T.item i d { s with heap := h', toks := tk } (wrI ++ own) (fun v s₂ => wpAny (model prog w) A (assign target env v) (fun _ s₂ =>
        wpAny (model prog w) A (forIn ifs true fun c r => if r = true then do let ok ← isTrue c env (eval c env); pure (ForInStep.yield ok) else pure (ForInStep.yield r)) (fun ok s₃ =>
          if ok = true then wpAny (model prog w) A (inner elt gens scope pos (depth + 1) (.ref D) env) (fun _ s₄ => ∃ m, m < ds.length - i ∧ Inv m s₄) (notedBy (model prog w) A env fun e s' => R (.error e) s') s₃
          else ∃ m, m < ds.length - i ∧ Inv m s₃) (notedBy (model prog w) A env fun e s' => R (.error e) s') s₂) (notedBy (model prog w) A env fun e s' => R (.error e) s') s₂) _ hd st S'.ltAll (le0.trans le) hwI ?_) (fun r s₁ h₁ => ?_) fun _ _ q => q
    · intro v h2 tk2 st2 rv kp2
      have S2 := S'.iter kp2 (T.lv _ _ st2) hwI hIpl hov
      have le2 : Le (Fz (wrI ++ own) h') (Fz (wrI ++ own) h2) := fun a o q => Fz.of (Fz.get q).1 (kp2 a o (fun hm => (Fz.get q).1 (hwI a hm)) (Fz.get q).2)
      have lv2 : ∀ b ∈ fp, (h2.get? b).isSome = true := fun b hb => by
        by_cases q : b ∈ wrI
        · exact T.lv _ _ st2 b q
        · obtain ⟨o, q2⟩ := Option.isSome_iff_exists.mp (hfl b hb)
          rw [kp2 b o q q2]; rfl
      have a2 : AccIs w (wrI ++ own) h2 D out := by
        obtain ⟨vs, m, q, l, r⟩ := a'
        exact ⟨vs, m, kp2 D _ hDI q, l, Reps.mono le2 _ r⟩
      have kl2 : KL (wrI ++ D :: wr) h1 h2 := ⟨fun a o ha ea => kp2 a o (fun hm => ha (List.mem_append_left _ hm)) (kl.1 a o ha ea), fun a ea => by
        by_cases q : a ∈ wrI
        · exact T.lv _ _ st2 a q
        · obtain ⟨o, q2⟩ := Option.isSome_iff_exists.mp (kl.2 a ea)
          rw [kp2 a o q q2]; rfl⟩
      have up : ∀ {x y : Heap}, KL (D :: wr) x y → KL (wrI ++ D :: wr) x y := fun k => ⟨fun a o ha => k.1 a o fun hm => ha (List.mem_append_right _ hm), k.2⟩
      refine asn_target Rm S2 F1.hw rv e4 fun h3 tk3 sp3 S3 => ?_
      have kl3 : KL (D :: wr) h2 h3 := ⟨fun a o ha ea => sp3.keep a o (fun hm => ha (List.mem_cons_of_mem _ hm)) ea, sp3.live⟩
      have a3 : AccIs w (wrI ++ own) h3 D out := a2.step (wr := wr) ⟨sp3.keep, sp3.live⟩ F1.hw.sub F1.dW
      have st3 : St (i + 1) h3 := T.frame _ _ _ st2 fun b hb o q => kl3.1 b o (hfpw b hb) q
      refine tests_go hB Rm ifs { s with heap := h3, toks := tk3 } b _ S3 e5 fun h4 tk4 x4 => ?_
      have kl4 : KL (D :: wr) h3 h4 := KL.ext x4
      have S4 := S3.ext x4
      have a4 : AccIs w (wrI ++ own) h4 D out := a3.step (wr := []) (KL.ext x4) (fun _ hm => (nomatch hm)) (fun hm => (nomatch hm))
      have st4 : St (i + 1) h4 := T.frame _ _ _ st3 fun b hb o q => x4 b o q
      have kl24 := kl3.trans kl4
      have le4 : Le (Fz (wrI ++ own) h') (Fz (wrI ++ own) h4) := le2.trans (kl24.le F1.sub)
      cases b with
      | true =>
        simp only [if_true] at e2 ⊢
        refine hin (wrI ++ own) ρ2 { s with heap := h4, toks := tk4 } out xs _ _ S4 F1 a4 e2 (by exact om_39 hcap hlen) fun h5 tk5 kl5 S5 a5 => ?_
        have kl25 := kl24.trans kl5
        exact again h5 tk5 S5 a5 (T.frame _ _ _ st4 fun b hb o q => kl5.1 b o (hfpw b hb) q) (fun b hb => kl25.2 b (lv2 b hb)) (le4.trans (kl5.le F1.sub)) (kl2.trans (up kl25))
      | false =>
        simp only [Bool.false_eq_true, if_false] at e2 ⊢
        cases e2
        exact again h4 tk4 S4 (by rw [List.append_nil]; exact a4) st4 (fun b hb => kl24.2 b (lv2 b hb)) le4 (kl2.trans (up kl24))
    · obtain ⟨v, rfl, h₁⟩ := h₁
      refine wpAny_bind (wpAny_mono h₁ (fun _ s₂ h₂ => wpAny_bind (wpAny_mono h₂ (fun _ s₃ h₃ => wpAny_bind (wpAny_mono h₃ (fun ok s₄ h₄ => ?_) fun _ _ q => q)) fun _ _ q => q)) fun _ _ q => q)
      cases ok with
      | true => exact wpAny_bind (wpAny_mono h₄ (fun _ s₅ h₅ => wpAny_pure ⟨rfl, h₅⟩) fun _ _ q => q)
      | false => exact wpAny_pure ⟨rfl, h₄⟩
end
end Mine
end
section
open PySem PySem.W PyProof.Rows PySem.Spec
set_option maxRecDepth 100000
namespace Mine

section
variable {prog : Program} {w : World} {G : Str → Option Value} {hb : Heap} {n : Nat} {κ : Str → Option NameKind} {sto : Str → Bool}

theorem compStart_at {A : Around} {R : Result → Shared → Prop} {s : Shared} {elt : Expr} {gens : List Comprehension} {scope : Scope} {pos : Pos} {depth : Nat} {it acc : Value} {env : Env} {target iter : Expr} {ifs : List Expr} (hg : gens[depth]? = some ⟨target, iter, ifs, 0⟩)
    (h0 : codeAny (model prog w) A (.compLoop (.ListComp elt gens scope pos) depth it acc env) R s)
    (h : wpAny (model prog w) A (pyIter it) (fun it' s' => codeAny (model prog w) A (.compLoop (.ListComp elt gens scope pos) depth it' acc env) R s') (notedBy (model prog w) A env fun x s' => R (.error x) s') s) :
    codeAny (model prog w) A (.compStart (.ListComp elt gens scope pos) depth it acc env) R s := by
  refine codeAny_of_tree ?_
  show wpAny _ _ ((compStart (.ListComp elt gens scope pos) depth it acc env).onRaise (fun x => do noteFrame x env; standAt theWindowsPlace)) _ _ s
  refine wpAny_notedAt ?_
  unfold compStart
  have hc : (clausesOf (.ListComp elt gens scope pos))[depth]? = some ⟨target, iter, ifs, 0⟩ := hg
  rw [hc]
  show wpAny _ _ (ask >>= _) _ _ s
  refine wpAny_bind (wpAny_askSetting (wpAny_ite ?_))
  split
  · first
      | exact wpAny_bind (wpAny_pure (wpAny_pure (And.intro rfl h0)))
      | exact wpAny_pure (And.intro rfl h0)
  · first
      | exact wpAny_bind (wpAny_rule (wpAny_bind (wpAny_standAt (wpAny_bind (wpAny_mono h (fun it' s' h' => wpAny_pure (And.intro rfl h')) fun _ _ x => x)))))
      | (refine wpAny_bind (wpAny_rule ?_); show wpAny _ _ (standAt iter.pos >>= _) _ _ s; exact wpAny_bind (wpAny_standAt (wpAny_bind (wpAny_mono h (fun it' s' h' => wpAny_pure (And.intro rfl h')) fun _ _ x => x))))

theorem gens_inner {FE : Expr → Den} {FB : Expr → DenB} {FI : Expr → Expr → Rho → Option (List Mine.D)} (hE : ∀ c, Ev prog w G hb n κ c (FE c)) (hB : ∀ c, EvB prog w G hb n κ c (FB c)) (hI : ∀ t c, noSet c = true → EvIt prog w G hb n κ t c true false (FI t c))
    {elt : Expr} {gens : List Comprehension} {scope : Scope} {pos : Pos} {A : Around} {env : Env} {wr : List Addr} {ov : List (Str × Addr)} {D : Addr} (Rm : Room A n) (hz : ∀ g ∈ gens, g.is_async = 0) :
    ∀ (gs : List Comprehension) (depth : Nat), gens.drop depth = gs → InnerOk prog w G hb n κ sto A env wr ov D (inner elt gens scope pos depth (.ref D) env) (dGens κ sto FE FB FI elt gs)
  | [], depth, hd => fun own ρ s acc ds E Q S F a e hc hQ => by
    have hg : gens[depth]? = none := by
      have := List.drop_eq_nil_iff.mp hd
      simpa using this
    unfold inner
    rw [hg]
    obtain ⟨⟨f1, d1⟩, e1, e⟩ := Option.bind_eq_some_iff.mp e
    split at e
    · cases e
    · rename_i hl
      cases e
      refine wpAny_bind (anyE (hE elt A env own ov ρ s f1 d1 Rm S e1 _ fun v h1 tk1 x1 r1 => ?_))
      have rv := r1.frz hl S.ltAll
      obtain ⟨vs, m, q, l, r⟩ := a.step (wr := []) (KL.ext x1) (fun _ hm => (nomatch hm)) (fun hm => (nomatch hm))
      have hz2 := r.length
      simp only [List.length_cons, List.length_nil] at hc
      have hsz : vs.size ≤ sizeLine := by have := cap_lt; simp at hz2; exact om_16 l hz2 this
      refine wpAny_bind (wpAny_list_append_plain (hsz := hsz) ⟨m, q⟩ fun h2 pl sb => wpAny_pure ?_)
      obtain ⟨m2, q2⟩ := pl
      have kp : Kept [D] h1 h2 := fun b o hb e => (sb.2 b (by simpa using hb)).trans e
      have S1 := S.ext x1
      have S2 := S1.iter (wrI := [D]) kp (fun b hb => by rw [List.mem_singleton.mp hb, q2]; rfl) (fun b hb => by rw [List.mem_singleton.mp hb]; exact F.dIn) (fun b hb => by rw [List.mem_singleton.mp hb]; exact F.dPl) (fun p hp hm => F.dOv p hp (List.mem_singleton.mp hm))
      have le2 : Le (Fz own h1) (Fz own h2) := fun b o e => Fz.of (Fz.get e).1 (kp b o (fun hm => (Fz.get e).1 (by rw [List.mem_singleton.mp hm]; exact F.dIn)) (Fz.get e).2)
      refine hQ h2 tk1 ⟨fun b o hb e => kp b o (fun hm => hb (by rw [List.mem_singleton.mp hm]; exact List.mem_cons_self)) (x1 b o e), fun b e => ?_⟩ S2 ⟨_, m2, q2, by simpa using hc, ?_⟩
      · by_cases hb : b ∈ [D]
        · rw [List.mem_singleton.mp hb, q2]; rfl
        · obtain ⟨o, e'⟩ := Option.isSome_iff_exists.mp (x1.some e)
          rw [kp b o hb e']; rfl
      · rw [Array.toList_push]
        exact (Reps.mono le2 _ r).append (Reps.single (Rep.mono le2 _ rv))
  | ⟨target, iter, ifs, z⟩ :: gs, depth, hd => fun own ρ s acc total E Q S F a e hc hQ => by
    have hlt : depth < gens.length := by
      rcases Nat.lt_or_ge depth gens.length with h | h
      · exact h
      · rw [List.drop_of_length_le h] at hd; cases hd
    rw [List.drop_eq_getElem_cons hlt] at hd
    obtain ⟨hg0, hd2⟩ := List.cons.inj hd
    have hg : gens[depth]? = some ⟨target, iter, ifs, z⟩ := by rw [List.getElem?_eq_getElem hlt, hg0]
    have hz0 : z = 0 := hz _ (List.mem_of_getElem? hg)
    subst hz0
    unfold dGens at e
    split at e
    · rename_i hcond
      obtain ⟨ds, e1, e⟩ := Option.bind_eq_some_iff.mp e
      unfold inner
      rw [hg]
      refine wpAny_bind (wpAny_mono (hI target iter hcond.2.1 A env own ov ρ s ds Rm S e1 (fun it s₂ => codeAny (model prog w) A (.compStart (.ListComp elt gens scope pos) depth it (.ref D) env) (fun r s' => match r with | .ok _ => Q () s' | .error e => cameBackBy (model prog w) A env E e s') s₂) ?_) (fun x s₁ h₁ => ?_) fun _ _ q => q.elim)
      · intro I fp wrI St h1 tk1 x1 T st0 hfresh hfpl hfpo hself
        have hS1 : Sim w G hb κ env (wrI ++ own) ov ρ h1 := S.more x1 fun a ha => ⟨hfresh a ha, hfpl a (T.sub a ha)⟩
        have hIo : ∀ a ∈ own, a ∉ wrI := fun a ha hm => isSome_none (S.ltAll a ha) (hfresh a hm)
        have acc1 : AccIs w (wrI ++ own) h1 D acc := by
          obtain ⟨vs, m, q, l, r⟩ := a
          exact ⟨vs, m, x1 _ _ q, l, Reps.mono (x1.fzNew fun a ha => (List.mem_append.mp ha).elim (fun q => .inr (hfresh a q)) .inl) _ r⟩
        have lp : ∀ tk, codeAny (model prog w) A (.compLoop (.ListComp elt gens scope pos) depth (.ref I) (.ref D) env) (fun r s' => match r with | .ok _ => Q () s' | .error e => cameBackBy (model prog w) A env E e s') { s with heap := h1, toks := tk } := fun tk =>
          comp_loop (FE := FE) (FI := FI) hB Rm hg (fun g' hg' => hz g' (List.mem_of_getElem? hg')) (gens_inner hE hB hI Rm hz gs (depth + 1) hd2) hcond.2.2 T (Le.refl _) st0 hfpl (fun b hb hm => hfpo rfl b hb (F.sub b hm)) hS1 F
            (fun b hb hm => hIo b (let ⟨vm, S⟩ := S; S.place hm) hb) (fun p hp hm => hIo _ (let ⟨vm, S⟩ := S; (S.ovIn p hp).1) hm) hIo acc1 rfl e hc fun h2 tk2 kp lv S2 a2 => hQ h2 tk2
              ⟨fun b o hb eb => kp b o (fun hm => (List.mem_append.mp hm).elim (fun q => by rw [hfresh b q] at eb; cases eb) hb) (x1 b o eb), fun b eb => lv b (fun hm => isSome_none eb (hfresh b hm)) (x1.some eb)⟩ S2 a2
        exact compStart_at hg (lp tk1) (hself rfl 0 _ _ _ st0 (lp tk1))
      · refine wpAny_bind (wpAny_standAt (wpAny_bind (wpAny_of_eq (noSet_fold hcond.2.1 x) (wpAny_bind (wpAny_holding (wpAny_mono h₁ (fun it s₂ h₂ => ?_) fun _ _ q => q.elim))))))
        refine wpAny_bind (wpAny_runOwn (codeAny_mono h₂ fun r s' hr => ?_))
        cases r with
        | ok f => exact wpAny_pure hr
        | error e => exact hr
    · cases e

theorem Sim.perm {env : Env} {own own' : List Addr} {ov : List (Str × Addr)} {ρ : Rho} {h : Heap} (S : Sim w G hb κ env own ov ρ h) (hp : ∀ a, a ∈ own ↔ a ∈ own') : Sim w G hb κ env own' ov ρ h := by
  obtain ⟨vm, S⟩ := S
  have e : Fz own' h = Fz own h := by
    funext a; unfold Fz
    by_cases q : a ∈ own
    · rw [if_pos q, if_pos ((hp a).mp q)]
    · rw [if_neg q, if_neg fun m => q ((hp a).mpr m)]
  refine ⟨vm, S.eo.keep (fun a q _ => (hp a).mp q) (fun _ _ _ q => q), S.kap, S.bas, S.ext, fun a ha => S.high a ((hp a).mpr ha), fun a ha => S.lt a ((hp a).mpr ha), fun x b hb => ?_, fun p hq => ⟨(hp _).mp (S.ovIn p hq).1, (S.ovIn p hq).2⟩, S.ovInj⟩
  obtain ⟨k, v, h1, h2⟩ := S.vars x b hb
  refine ⟨k, v, h1, ?_⟩
  cases b with
  | frz d => show Rep w (Fz own' h) d v; rw [e]; exact h2
  | own d => obtain ⟨a, o, q1, q2, q3, q4⟩ := h2; exact ⟨a, o, q1, q2, q3, by rw [e]; exact q4⟩

/-- the whole of a list comprehension -/
noncomputable def dComp (κ : Str → Option NameKind) (FI0 : Expr → Expr → Rho → Option (List Mine.D)) (FE : Expr → Den) (FB : Expr → DenB) (FI : Expr → Expr → Rho → Option (List Mine.D)) (elt : Expr) (gens : List Comprehension) (scope : Scope) (ρ : Rho) : Option (List Mine.D) :=
  match gens with
  | [] => none
  | g :: gs => if scopeOk scope κ = true ∧ (gens.all fun g => decide (g.is_async = 0)) = true ∧ noSet g.iter = true ∧ ((targetNames g.target).all fun x => (rhoC scope ρ x).isNone) = true then
      (FI0 g.target g.iter ρ).bind fun ds => (dTurns (dTurn (kapC scope κ) (stoC scope) FE FB FI elt g gs (rhoC scope ρ)) ds).bind fun out => if out.length ≤ cap then some out else none
    else none

theorem comp_core {FI0 FI : Expr → Expr → Rho → Option (List Mine.D)} {FE : Expr → Den} {FB : Expr → DenB} {scope : Scope} (hI0 : ∀ t c, noSet c = true → EvIt prog w G hb n κ t c true true (FI0 t c))
    (hE : ∀ c, Ev prog w G hb n (kapC scope κ) c (FE c)) (hB : ∀ c, EvB prog w G hb n (kapC scope κ) c (FB c)) (hI : ∀ t c, noSet c = true → EvIt prog w G hb n (kapC scope κ) t c true false (FI t c))
    {elt : Expr} {gens : List Comprehension} {pos : Pos} {A : Around} {env : Env} {own : List Addr} {ov : List (Str × Addr)} {ρ : Rho} {s : Shared} {E : Value → Shared → Prop} {out : List Mine.D} {use : Option (Value → Sem Unit)} {Q : Value → Shared → Prop} (Rm : Room A n)
    (S : Sim w G hb κ env own ov ρ s.heap) (e : dComp κ FI0 FE FB FI elt gens scope ρ = some out) (p1 : Pos)
    (hQ : ∀ D L m h' tk, Ext s.heap h' → s.heap.get? L = none → L ≠ D → h'.Ns L m → VRep w (L :: own) s.heap h' .fresh (.lst out) (.ref D) →
      match use with
      | none => ∀ h'', Heap.SameBut L h' h'' → Q (.ref D) { s with heap := h'', toks := tk }
      | some u => wpAny (model prog w) A (u (.ref D)) (fun _ s'' => ∃ m, s''.heap.Ns L m ∧ ∀ h'', Heap.SameBut L s''.heap h'' → Q .none { s'' with heap := h'' }) E { s with heap := h', toks := tk }) :
    wpAny (model prog w) A (comprehension (.ListComp elt gens scope pos) scope env p1 (newList []) (firstAsync gens) (firstIter gens env) use) Q E s := by
  unfold dComp at e
  split at e
  · cases e
  · rename_i g gs
    split at e
    · rename_i hc
      obtain ⟨hsc, hall, hns, hun⟩ := hc
      obtain ⟨ds, e1, e⟩ := Option.bind_eq_some_iff.mp e
      obtain ⟨out', e2, e⟩ := Option.bind_eq_some_iff.mp e
      split at e
      · rename_i hcap
        cases e
        obtain ⟨target, iter, ifs, z⟩ := g
        have hz : ∀ g' ∈ (⟨target, iter, ifs, z⟩ : Comprehension) :: gs, g'.is_async = 0 := fun g' hg' => of_decide_eq_true (List.all_eq_true.mp hall g' hg')
        have hz0 : z = 0 := hz _ List.mem_cons_self
        subst hz0
        have hsc' := hsc
        simp only [scopeOk, Bool.and_eq_true, beq_iff_eq, decide_eq_true_eq, List.all_eq_true, Bool.or_eq_true, Bool.not_eq_true', beq_eq_false_iff_ne, ne_eq] at hsc'
        obtain ⟨⟨hkind, hnod⟩, hfree⟩ := hsc'
        have hclos : closureFor scope env = pure (clos env.cells scope.names []) := closureFor_clos fun x hx => by
          obtain ⟨vm, S⟩ := S
          have := hfree _ hx
          simp only [not_true_eq_false, false_or] at this
          obtain ⟨c, h1, _⟩ := S.eo.cel x (by rw [S.kap]; exact this)
          exact ⟨c, h1⟩
        show wpAny _ _ (comprehension _ scope env p1 (newList []) false (eval iter env) use) _ _ _
        refine wpAny_comprehension_free rfl (noSet_fold hns) hclos hkind (fun x hx hl => lookup_nodup hnod (by rw [← hl]; exact hx)) ?_
        refine wpAny_mono (hI0 target iter hns A env own ov ρ s ds Rm S e1 (fun it s₂ => wpAny (model prog w) A (newList []) (fun acc s₃ =>
          wpAny (model prog w) A (newFunctionEnv scope env.globals (clos env.cells scope.names []) [] env.qual none .none (some env)) (fun cenv s₄ =>
            codeAny (model prog w) A (.compStart (.ListComp elt (⟨target, iter, ifs, 0⟩ :: gs) scope pos) 0 it acc { cenv with scope := relabel scope env }) (compPost (model prog w) A E use Q acc cenv.locals) s₄) E s₃) E s₂) ?_)
          (fun x s₁ h₁ => wpAny_mono h₁ (fun _ _ q => q) fun _ _ q => q.elim) fun _ _ q => q.elim
        intro I fp wrI St h1 tk1 x1 T st0 hfresh hfpl _ hself
        refine wpAny_newList ?_ (by decide)
        refine newCompFrame ?_
        generalize hH2 : h1.push { cls := .type "list", data := .seq ([] : List Value).toArray } = h2
        have x2 : Ext h1 h2 := by rw [← hH2]; exact Ext.push _ _
        have hD : h2.get? h1.objs.size = some { cls := .type "list", data := .seq ([] : List Value).toArray } := by rw [← hH2]; exact Heap.get?_push_size _ rfl
        generalize hDn : h1.objs.size = D at hD ⊢
        have hDnone1 : h1.get? D = none := by rw [← hDn]; exact get_size h1
        have hDnone : s.heap.get? D = none := x1.none hDnone1
        have hS1 : Sim w G hb κ env (wrI ++ own) ov ρ h1 := S.more x1 fun a ha => ⟨hfresh a ha, hfpl a (T.sub a ha)⟩
        have S2 : Sim w G hb κ env ([D] ++ (wrI ++ own)) ov ρ h2 := hS1.more x2 fun a ha => by rw [List.mem_singleton.mp ha]; exact ⟨hDnone1, by rw [hD]; rfl⟩
        obtain ⟨new, hnew, S3, W3, x3, hL⟩ := compFrame_sim S2 hsc
        generalize hLn : h2.objs.size = L at hL S3 W3 hnew x3 ⊢
        have hLnone2 : h2.get? L = none := by rw [← hLn]; exact get_size h2
        generalize hH3 : pushCells (h2.push { cls := .type "dict", data := .dict #[] }) scope.names = h3 at S3 W3 hnew x3 ⊢
        have hIo : ∀ a ∈ own, a ∉ wrI := fun a ha hm => isSome_none (S.ltAll a ha) (hfresh a hm)
        have hDI : D ∉ wrI := fun hm => isSome_none (hfpl D (T.sub D hm)) hDnone1
        have hnI : ∀ a ∈ new, a ∉ wrI := fun a ha hm => isSome_none (x2.some (hfpl a (T.sub a hm))) (hnew a ha).1
        have hnO : ∀ a ∈ new, s.heap.get? a = none := fun a ha => x1.none (x2.none (hnew a ha).1)
        have hDnew : D ∉ new := fun hm => by have := (hnew D hm).1; rw [hD] at this; cases this
        have S3' : Sim w G hb (kapC scope κ) (compFrame scope L env) (wrI ++ (new ++ ([D] ++ own))) ov (rhoC scope ρ) h3 := S3.perm fun a => by simp only [List.mem_append]; constructor <;> intro h <;> rcases h with h | h | h | h <;> simp [h]
        have hpl : ∀ a, isPlace (compFrame scope L env) a → a ∈ new ∨ isPlace env a := fun a ha => by
          rcases ha with ha | ⟨y, ha⟩
          · exact .inl (ha ▸ hL)
          · rcases List.mem_append.mp (mem_of_lookup ha) with q | q
            · have hc1 := cellsFrom_mem _ _ _ _ q
              have hy : stoC scope y = true := by simp [stoC, lookup_nodup hnod hc1]
              exact .inl (W3.cel y a hy ha)
            · rcases clos_mem env.cells scope.names [] y a (fun x hx => by
                obtain ⟨vm, S⟩ := S
                have := hfree _ hx
                simp only [not_true_eq_false, false_or] at this
                obtain ⟨c, h1, _⟩ := S.eo.cel x (by rw [S.kap]; exact this)
                exact ⟨c, h1⟩) q with q | q
              · cases q
              · exact .inr (.inr ⟨y, q.2⟩)
        have hplO : ∀ a, isPlace env a → a ∈ own := fun a ha => let ⟨vm, S⟩ := S; S.place ha
        have hovO : ∀ p ∈ ov, p.2 ∈ own := fun p hp => let ⟨vm, S⟩ := S; (S.ovIn p hp).1
        have F : CFrame (compFrame scope L env) (new ++ ([D] ++ own)) new (stoC scope) ov D := by
          refine ⟨⟨fun a ha => List.mem_append_left _ ha, W3.loc, W3.cel⟩, by simp, hDnew, fun q => ?_, fun p hp q => ?_⟩
          · rcases hpl D q with q | q
            · exact hDnew q
            · exact isSome_none (S.ltAll D (hplO D q)) hDnone
          · exact isSome_none (S.ltAll D (q ▸ hovO p hp)) hDnone
        have acc0 : AccIs w (wrI ++ (new ++ ([D] ++ own))) h3 D [] := ⟨#[], 0, x3 _ _ hD, Nat.zero_le _, by simp [Reps]⟩
        have T0 : St 0 h3 := T.frame _ _ _ st0 fun b _ o q => x3 b o (x2 b o q)
        have le0 : Le (Fz (wrI ++ own) h1) (Fz (wrI ++ (new ++ ([D] ++ own))) h3) := (x2.trans x3).fzNew fun a ha => by
          simp only [List.mem_append] at ha
          rcases ha with q | q | q | q
          · exact .inl (List.mem_append_left _ q)
          · exact .inr (x2.none (hnew a q).1)
          · rw [List.mem_singleton.mp q]; exact .inr hDnone1
          · exact .inl (List.mem_append_right _ q)
        have lp : ∀ tk, codeAny (model prog w) A (.compLoop (.ListComp elt (⟨target, iter, ifs, 0⟩ :: gs) scope pos) 0 (.ref I) (.ref D) (compFrame scope L env)) (compPost (model prog w) A E use Q (.ref D) L) { s with heap := h3, toks := tk } := fun tk => by
          refine comp_loop (FE := FE) (FI := FI) (acc := []) hB Rm rfl (fun g' hg' => hz g' (List.mem_of_getElem? hg')) (gens_inner hE hB hI Rm hz gs 1 rfl) hun T le0 T0 (fun b hb => x3.some (x2.some (hfpl b hb))) (fun b hb hm => ?_) S3' F
            (fun b hb q => ?_) (fun p hp hm => hIo _ (hovO p hp) hm) (fun a ha => ?_) acc0 rfl e2 (by simpa using hcap) fun h4 tk4 kp lv S4 a4 => ?_
          · rcases List.mem_cons.mp hm with rfl | hm
            · exact isSome_none (hfpl b hb) hDnone1
            · exact isSome_none (x2.some (hfpl b hb)) (hnew b hm).1
          · rcases hpl b q with q | q
            · exact hnI b q hb
            · exact hIo b (hplO b q) hb
          · simp only [List.mem_append] at ha
            rcases ha with q | q | q
            · exact hnI a q
            · rw [List.mem_singleton.mp q]; exact hDI
            · exact hIo a q
          · have x4 : Ext s.heap h4 := fun a o q => kp a o (fun hm => by
              have : s.heap.get? a = none := by
                rcases List.mem_append.mp hm with q2 | q2
                · exact hfresh a q2
                · rcases List.mem_cons.mp q2 with rfl | q2
                  · exact hDnone
                  · exact hnO a q2
              rw [this] at q; cases q) (x3 a o (x2 a o (x1 a o q)))
            have hns : ∃ m, h4.Ns L m := by
              obtain ⟨vm, S4⟩ := S4
              obtain ⟨m, q, _⟩ := S4.eo.loc
              exact ⟨m, q⟩
            obtain ⟨m, hns⟩ := hns
            have hLD : L ≠ D := fun q => hDnew (q ▸ hL)
            have vr : VRep w (L :: own) s.heap h4 .fresh (.lst out) (.ref D) := by
              obtain ⟨vs, m4, q4, l4, r4⟩ := a4
              refine ⟨D, _, rfl, hDnone, q4, ?_⟩
              simp only [ORep]
              refine ⟨⟨trivial, trivial, trivial⟩, vs, m4, rfl, by simpa using l4, Reps.mono (Fz.fewer fun a ha => ?_) _ (by simpa using r4)⟩
              rcases List.mem_cons.mp ha with rfl | ha
              · simp
              · rcases List.mem_cons.mp ha with rfl | ha
                · exact List.mem_append_left _ hL
                · simp [ha]
            have q := hQ D L m h4 tk4 x4 (hnO L hL) hLD hns vr
            cases use with
            | none => exact ⟨m, hns, fun h' sb => q h' sb⟩
            | some u => exact q
        exact compStart_at (gens := ⟨target, iter, ifs, 0⟩ :: gs) (depth := 0) rfl (lp tk1) (hself rfl 0 _ _ _ T0 (lp tk1))
      · cases e
    · cases e
end
end Mine
end
section
open PySem PySem.W PyProof.Rows PySem.Spec
set_option maxRecDepth 100000
namespace Mine

section
variable {prog : Program} {w : World} {G : Str → Option Value} {hb : Heap} {n : Nat} {κ : Str → Option NameKind} {sto : Str → Bool}

theorem ev_comp {FI0 FI : Expr → Expr → Rho → Option (List Mine.D)} {FE : Expr → Den} {FB : Expr → DenB} {scope : Scope} (hI0 : ∀ t c, noSet c = true → EvIt prog w G hb n κ t c true true (FI0 t c))
    (hE : ∀ c, Ev prog w G hb n (kapC scope κ) c (FE c)) (hB : ∀ c, EvB prog w G hb n (kapC scope κ) c (FB c)) (hI : ∀ t c, noSet c = true → EvIt prog w G hb n (kapC scope κ) t c true false (FI t c))
    {elt : Expr} {gens : List Comprehension} {pos : Pos} : Ev prog w G hb n κ (.ListComp elt gens scope pos) (fun ρ => (dComp κ FI0 FE FB FI elt gens scope ρ).map fun out => (.fresh, .lst out)) :=
  fun A env own ov ρ s fl d R S e Q hQ => by
    obtain ⟨out, e1, e⟩ := Option.map_eq_some_iff.mp e
    cases e
    rw [eval_ListComp]
    refine comp_core (use := none) hI0 hE hB hI R S e1 _ fun D L m h' tk x1 hL hLD hns vr h'' sb => ?_
    have x2 : Ext s.heap h'' := fun a o q => (sb.2 a (fun e => by rw [e, hL] at q; cases q)).trans (x1 a o q)
    obtain ⟨a, o, e2, h2, h3, h4⟩ := vr
    cases e2
    refine hQ _ h'' tk x2 ⟨D, o, rfl, h2, (sb.2 D hLD.symm).trans h3, h4.mono fun a o q => ?_⟩
    have q2 := Fz.get q
    simp only [List.mem_cons, not_or] at q2
    exact Fz.of (by simp only [List.mem_cons, not_or]; exact ⟨q2.1.1, q2.1.2.2⟩) ((sb.2 a q2.1.2.1).trans q2.2)

/-- is the value handed straight to the name -/
noncomputable def swapsB (κ : Str → Option NameKind) (x : Str) (p : Pos) (scope : Scope) (vp : Pos) : Bool := κ x == some .local && p.line == vp.line && !(scope.names.any fun q => q.1 == x && (q.2 == .local || q.2 == .cell))
theorem swaps_comp {env : Env} {elt : Expr} {gens : List Comprehension} {scope : Scope} {pos p : Pos} {x : Str} {l : Nat} (hf : env.scope.kind = .function) (hk : ∀ x, env.kindOf x = κ x) :
    swapsWith (.ListComp elt gens scope pos) (some (.Name x p)) l env = pure (swapsB κ x p scope pos) := by
  have hb : (env.blockKind == ScopeKind.function) = true := by
    unfold Env.blockKind
    rw [hf]; rfl
  show (pure (env.blockKind == .function && env.kindOf x == some .local && p.line == pos.line && !(scope.names.any fun (n, k) => n == x && (k == .local || k == .cell))) : Sem Bool) = _
  rw [hb, hk]
  simp [swapsB]

noncomputable def dAssignC (κ : Str → Option NameKind) (sto mu : Str → Bool) (x : Str) (p : Pos) (scope : Scope) (vp : Pos) (f : Rho → Option (List Mine.D)) : DenS := fun ρ =>
  (f ρ).bind fun out => (dPut κ sto mu x (.fresh, .lst out) ρ).map fun ρ' => (.next, ρ')

theorem ex_assignC {FI0 FI : Expr → Expr → Rho → Option (List Mine.D)} {FE : Expr → Den} {FB : Expr → DenB} {scope : Scope} (hI0 : ∀ t c, noSet c = true → EvIt prog w G hb n κ t c true true (FI0 t c))
    (hE : ∀ c, Ev prog w G hb n (kapC scope κ) c (FE c)) (hB : ∀ c, EvB prog w G hb n (kapC scope κ) c (FB c)) (hI : ∀ t c, noSet c = true → EvIt prog w G hb n (kapC scope κ) t c true false (FI t c))
    {elt : Expr} {gens : List Comprehension} {pos p spos : Pos} {x : Str} {mu : Str → Bool} :
    Ex prog w G hb n κ sto (.Assign [.Name x p] (.ListComp elt gens scope pos) spos) (dAssignC κ sto mu x p scope pos (dComp κ FI0 FE FB FI elt gens scope)) :=
  fun A env own wr ov ρ s E fl ρ' R S W O e Q hQ => by
    obtain ⟨out, e1, e⟩ := Option.bind_eq_some_iff.mp e
    obtain ⟨ρ1, e2, e⟩ := Option.map_eq_some_iff.mp e
    cases e
    have hsw : swapsWith (.ListComp elt gens scope pos) (some (.Name x p)) spos.line env = pure (swapsB κ x p scope pos) := by
      obtain ⟨vm, S⟩ := S
      exact swaps_comp S.eo.fn S.kap
    cases hsb : swapsB κ x p scope pos with
    | false =>
      rw [hsb] at hsw
      refine wpAny_Assign_Name (anyE (ev_comp hI0 hE hB hI A env own ov ρ s .fresh (.lst out) R S (by show Option.map _ (dComp κ FI0 FE FB FI elt gens scope ρ) = _; rw [e1]; rfl) _ fun v h1 tk1 x1 r1 => ?_)) hsw
      exact S.put (s := { s with heap := h1, toks := tk1 }) W O x1 r1 e2 fun h' tk own' wr' ov' st S' W' O' P' => hQ .next h' tk own' wr' ov' st S' W' O' ⟨rfl, P'⟩
    | true =>
      rw [hsb] at hsw
      rw [exec_Assign_Name_used _ _ _ _ hsw]
      refine wpAny_bind (wpAny_standAt (wpAny_bind ?_))
      show wpAny _ A (do let _ ← comprehension (.ListComp elt gens scope pos) scope env _ (newList []) (firstAsync gens) (firstIter gens env) (some (assign (.Name x p) env))) _ _ s
      refine wpAny_bind (wpAny_mono (comp_core (use := some (assign (.Name x p) env)) (Q := fun _ s' => Q .next s') hI0 hE hB hI R S e1 _ fun D L m h' tk x1 hL hLD hns vr => ?_) (fun _ s' hq => wpAny_pure (wpAny_pure hq)) fun _ _ q => q)
      obtain ⟨a, o, e3, hD, h3, h4⟩ := vr
      cases e3
      have hLlive : (h'.get? L).isSome = true := by obtain ⟨o, es, ep, q, _⟩ := id hns; rw [q]; rfl
      have hov0 := (let ⟨vm, S⟩ := S; S.ovIn : ∀ p ∈ ov, p.2 ∈ own ∧ ¬ isPlace env p.2)
      have hinj0 := (let ⟨vm, S⟩ := S; S.ovInj : (ov.map (·.2)).Nodup)
      have plO : ∀ a, isPlace env a → a ∈ own := fun a ha => let ⟨vm, S⟩ := S; S.place ha
      have hLpl : ¬ isPlace env L := fun q => isSome_none (S.ltAll L (plO L q)) hL
      have hDpl : ¬ isPlace env D := fun q => isSome_none (S.ltAll D (plO D q)) hD
      have hDo : D ∉ own := fun q => isSome_none (S.ltAll D q) hD
      have hLo : L ∉ own := fun q => isSome_none (S.ltAll L q) hL
      have fin : ∀ (own2 : List Addr) (ov' : List (Str × Addr)) h2 tk2, Sim w G hb κ env (L :: own2) ov' ρ' h2 → (∀ a ∈ own2, a ∈ own ∨ a = D) → (∀ a ∈ own, a ∈ own2) → (∀ p ∈ ov', p.2 ∈ own2) → (∀ p ∈ ov', p.2 ∈ (if D ∈ own2 then D :: wr else wr)) →
          (∀ a, ¬ isPlace env a → h2.get? a = h'.get? a) → (∀ a, (h'.get? a).isSome = true → (h2.get? a).isSome = true) → (∀ a o, a ∉ wr → s.heap.get? a = some o → h2.get? a = some o) → Pin sto ov ov' →
          ∃ m, h2.Ns L m ∧ ∀ h'', Heap.SameBut L h2 h'' → Q .next { s with heap := h'', toks := tk2 } := by
        intro own2 ov' h2 tk2 S2 ho1 ho2 hov hovw hsame hlv hkeep hpin
        obtain ⟨om, es, ep, q1, q2⟩ := id hns
        refine ⟨m, ⟨om, es, ep, by rw [hsame L hLpl]; exact q1, q2⟩, fun h'' sb => ?_⟩
        have hLo2 : L ∉ own2 := fun q => (ho1 L q).elim hLo hLD
        have S3 : Sim w G hb κ env own2 ov' ρ' h'' := S2.drop (wrI := [L]) (fun a o hn q => (sb.2 a (by simpa using hn)).trans q) (fun b hb => by rw [List.mem_singleton.mp hb]; exact List.mem_cons_self) (fun b hb => by rw [List.mem_singleton.mp hb]; exact hLpl)
          (fun p hp hm => hLo2 (List.mem_singleton.mp hm ▸ hov p hp)) (fun a ha => ⟨List.mem_cons_of_mem _ ha, fun hm => hLo2 (List.mem_singleton.mp hm ▸ ha)⟩) fun a ha hn => (List.mem_cons.mp ha).elim (fun q => absurd (by rw [q]; exact List.mem_cons_self) hn) id
        refine hQ .next h'' tk2 own2 (if D ∈ own2 then D :: wr else wr) ov' ⟨fun a o ha q => (sb.2 a (fun e => by rw [e, hL] at q; cases q)).trans (hkeep a o ha q), fun a q => ?_, fun a ha => (ho1 a ha).elim .inl fun q => .inr (q ▸ hD), fun a ha => ?_, fun a ha => .inl (ho2 a ha)⟩ S3 ⟨fun a ha => ?_, ?_, fun y c hy hc => ?_⟩ hovw ⟨rfl, hpin⟩
        · rw [sb.2 a (fun e => isSome_none q (by rw [e]; exact hL))]; exact hlv a (x1.some q)
        · split at ha
          · exact (List.mem_cons.mp ha).elim (fun q => .inr (q ▸ hD)) .inl
          · exact .inl ha
        · split at ha
          · rename_i hm; exact (List.mem_cons.mp ha).elim (fun q => q ▸ hm) fun q => ho2 a (W.sub a q)
          · exact ho2 a (W.sub a ha)
        · split
          · exact List.mem_cons_of_mem _ W.loc
          · exact W.loc
        · split
          · exact List.mem_cons_of_mem _ (W.cel y c hy hc)
          · exact W.cel y c hy hc
      unfold dPut at e2
      split at e2
      · rename_i hk
        simp only at e2
        split at e2
        · cases e2
          have S2 : Sim w G hb κ env ([L, D] ++ own) ov ρ h' := S.more x1 fun a ha => by
            rcases List.mem_cons.mp ha with rfl | ha
            · exact ⟨hL, hLlive⟩
            · rw [List.mem_singleton.mp ha]; exact ⟨hD, by rw [h3]; rfl⟩
          refine wpAny_assign_Name (S2.bind (s := { s with heap := h', toks := tk }) (ov' := (x, D) :: ov) (b := .own (.lst out)) hk.1 (fun p hp => ?_) ?_ (fun y hy => ?_) ⟨D, o, rfl, by simp, h3, h4.mono (Fz.fewer fun a ha => by simp at ha ⊢; rcases ha with h | h | h <;> simp [h])⟩ fun h2 tk2 p hp hpo sb lv S3 => ?_)
          · rcases List.mem_cons.mp hp with rfl | hp
            · exact ⟨by simp, hDpl⟩
            · exact ⟨List.mem_append_right _ (hov0 p hp).1, (hov0 p hp).2⟩
          · rw [List.map_cons, List.nodup_cons]
            refine ⟨fun hm => ?_, hinj0⟩
            obtain ⟨p, hp, q⟩ := List.mem_map.mp hm
            exact hDo (by have q' := (hov0 p hp).1; rw [q] at q'; exact q')
          · have : (y == x) = false := by simpa using hy
            rw [List.lookup_cons, this]
          · have hpp : isPlace env p := hp.elim .inl fun q => .inr ⟨x, q⟩
            have hpw : p ∈ wr := hp.elim (fun q => q ▸ W.loc) fun q => W.cel x p hk.2 q
            exact fin (D :: own) ((x, D) :: ov) h2 tk2 S3 (fun a ha => (List.mem_cons.mp ha).elim .inr .inl) (fun a ha => List.mem_cons_of_mem _ ha)
              (fun q hq => (List.mem_cons.mp hq).elim (fun e => e ▸ List.mem_cons_self) fun hq => List.mem_cons_of_mem _ (hov0 q hq).1)
              (fun q hq => by rw [if_pos List.mem_cons_self]; exact (List.mem_cons.mp hq).elim (fun e => e ▸ List.mem_cons_self) fun hq => List.mem_cons_of_mem _ (O q hq))
              (fun a ha => sb.2 a (fun e => ha (e ▸ hpp))) lv (fun a o' ha q => (sb.2 a (fun e => ha (e ▸ hpw))).trans (x1 a o' q)) (Pin.cons hk.2)
        · cases e2
          have S2 : Sim w G hb κ env ([L] ++ own) ov ρ h' := S.more x1 fun a ha => by rw [List.mem_singleton.mp ha]; exact ⟨hL, hLlive⟩
          have rr : Rep w (Fz ([L] ++ own) h') (.lst out) (.ref D) := Rep.of_obj (Fz.of (by simp only [List.mem_append, List.mem_singleton, not_or]; exact ⟨hLD.symm, hDo⟩) h3) (h4.mono (Fz.fewer fun a ha => by simp at ha ⊢; rcases ha with h | h <;> simp [h]))
          refine wpAny_assign_Name (S2.bind (s := { s with heap := h', toks := tk }) (ov' := ov) (b := .frz (.lst out)) hk.1 (fun p hp => ⟨List.mem_append_right _ (hov0 p hp).1, (hov0 p hp).2⟩) hinj0 (fun _ _ => rfl) rr fun h2 tk2 p hp hpo sb lv S3 => ?_)
          have hpp : isPlace env p := hp.elim .inl fun q => .inr ⟨x, q⟩
          have hpw : p ∈ wr := hp.elim (fun q => q ▸ W.loc) fun q => W.cel x p hk.2 q
          exact fin own ov h2 tk2 S3 (fun a ha => .inl ha) (fun a ha => ha) (fun q hq => (hov0 q hq).1) (fun q hq => by rw [if_neg hDo]; exact O q hq)
            (fun a ha => sb.2 a (fun e => ha (e ▸ hpp))) lv (fun a o' ha q => (sb.2 a (fun e => ha (e ▸ hpw))).trans (x1 a o' q)) (Pin.refl _ _)
      · cases e2
end
end Mine
end
section
open PySem PySem.W PyProof.Rows PySem.Spec
set_option maxRecDepth 100000
namespace Mine

/-! ## Writes to what is one's own -/
def PutV (d e f r : D) : Prop := (∃ ds k, d = .lst ds ∧ e = .int k ∧ (0 ≤ k ∧ k.toNat < ds.length) ∧ r = .lst (ds.set k.toNat f)) ∨ (∃ ks ds k, d = .idict ks ds ∧ e = .int k ∧ (putK ks ds k f).1.length ≤ cap ∧ r = .idict (putK ks ds k f).1 (putK ks ds k f).2) ∨
  (∃ ks ds k, d = .tdict ks ds ∧ keyOf e = some k ∧ (putK ks ds k f).1.length ≤ cap ∧ r = .tdict (putK ks ds k f).1 (putK ks ds k f).2)
noncomputable def putB : (d e f : D) → { r : Option D // ∀ r', r = some r' → PutV d e f r' }
  | .lst ds, .int k, f => ⟨if 0 ≤ k ∧ k.toNat < ds.length then some (.lst (ds.set k.toNat f)) else none, fun r h => .inl ⟨ds, k, rfl, rfl, (if_of h).1, (Option.some.inj (if_of h).2).symm⟩⟩
  | .idict ks ds, .int k, f => ⟨if (putK ks ds k f).1.length ≤ cap then some (.idict (putK ks ds k f).1 (putK ks ds k f).2) else none, fun r h => .inr (.inl ⟨ks, ds, k, rfl, rfl, (if_of h).1, (Option.some.inj (if_of h).2).symm⟩)⟩
  | .tdict ks ds, e, f => ⟨(keyOf e).bind fun k => if (putK ks ds k f).1.length ≤ cap then some (.tdict (putK ks ds k f).1 (putK ks ds k f).2) else none, fun r h => by
      obtain ⟨k, h1, h2⟩ := Option.bind_eq_some_iff.mp h; exact .inr (.inr ⟨ks, ds, k, rfl, h1, (if_of h2).1, (Option.some.inj (if_of h2).2).symm⟩)⟩
  | _, _, _ => ⟨none, fun _ h => (nomatch h)⟩
noncomputable def putD (d e f : D) : Option D := (putB d e f).1
theorem putD_lst (ds : List D) (k : Int) (f : D) : putD (.lst ds) (.int k) f = if 0 ≤ k ∧ k.toNat < ds.length then some (.lst (ds.set k.toNat f)) else none := rfl
theorem putD_idict (ks : List Int) (ds : List D) (k : Int) (f : D) : putD (.idict ks ds) (.int k) f = if (putK ks ds k f).1.length ≤ cap then some (.idict (putK ks ds k f).1 (putK ks ds k f).2) else none := rfl
theorem putD_tdict (ks : List (List Scal)) (ds : List D) (e f : D) : putD (.tdict ks ds) e f = (keyOf e).bind fun k => if (putK ks ds k f).1.length ≤ cap then some (.tdict (putK ks ds k f).1 (putK ks ds k f).2) else none := rfl

theorem Reps.set {w : World} {g : Part} {d : D} {v : Value} : ∀ {ds : List D} {vs : List Value} (i : Nat), Reps w g ds vs → Rep w g d v → Reps w g (ds.set i d) (vs.set i v)
  | [], _, _, x, _ => by simp only [Reps] at x; subst x; simp [Reps]
  | _ :: _, _, 0, x, y => by
    simp only [Reps] at x
    obtain ⟨u, us, rfl, q, r⟩ := x
    simp only [List.set_cons_zero, Reps]
    exact ⟨v, us, rfl, y, r⟩
  | _ :: _, _, i + 1, x, y => by
    simp only [Reps] at x
    obtain ⟨u, us, rfl, q, r⟩ := x
    simp only [List.set_cons_succ, Reps]
    exact ⟨u, _, rfl, q, Reps.set i r y⟩

section
variable {prog : Program} {w : World} {A : Around} {E : Value → Shared → Prop} {s : Shared} {n : Nat}

theorem putK_nodup {K α : Type} [DecidableEq K] {ks : List K} {ds : List α} {k : K} {v : α} (h : ks.Nodup) : (putK ks ds k v).1.Nodup := by
  unfold putK
  split
  · exact h
  · rename_i q
    exact List.nodup_append.mpr ⟨h, by simp, fun a ha b hb => by simp at hb; subst hb; exact fun e => q (e ▸ ha)⟩

theorem setItem_plain {l : Addr} {items : Array Value} {m : Nat} {k : Int} {t : Tok} {v : Value} {Q : Unit → Shared → Prop} (ho : s.heap.get? l = some { cls := .type "list", dict := none, data := .seq items m, slots := #[] })
    (h0 : 0 ≤ k) (hfit : k < 2 ^ 63) (hn : k < items.size)
    (hQ : ∀ h' m', Heap.SameBut l s.heap h' → h'.get? l = some { cls := .type "list", dict := none, data := .seq (items.setIfInBounds k.toNat v) m', slots := #[] } → Q () { s with heap := h' }) :
    wpAny (model prog w) A (setItem (.ref l) (.int k t) v) Q E s := by
  have hl : s.heap.IsList l items := ⟨_, ho, rfl, m, rfl⟩
  unfold setItem
  try with_reducible refine wpAny_holding ?_
  first | refine wpAny_bind (wpAny_pure ?_) | skip
  refine wpAny_bind (wpAny_sequenceKey hl.typeIs (by decide) ?_)
  refine wpAny_bind (wpAny_callSpecial?_slot (name := Str.ofString "__setitem__") hl.typeIs slot_list_setitem
    (wpAny_call_entry slot_list_setitem hl.typeIs entry_list_setitem ?_ (args_list_setitem _ _ _)))
  show wpAny _ _ (Builtin.List.listSubscript? (.int k t) >>= _) _ _ s
  refine wpAny_bind (wpAny_listSubscript_int (fitsIndex_of h0 hfit) ?_)
  clear hfit
  obtain ⟨j, rfl⟩ := Int.eq_ofNat_of_zero_le h0
  have hj : j < items.size := by exact om_40 hn
  have hx' : items[j]? = some items[j] := Array.getElem?_eq_getElem hj
  show wpAny _ _ ((seqItemAt l j >>= fun r => pure (r.map (j, ·))) >>= _) _ _ s
  refine wpAny_bind (wpAny_bind (wpAny_seqItemAt ho rfl (wpAny_pure ?_)))
  rw [hx']
  show wpAny _ _ (setSeqItemAt l j v >>= _) _ _ s
  have hfin := hQ (s.heap.update l (Obj.mapSeq (·.setIfInBounds j v))) (if (items.setIfInBounds j v).size = items.size then m else m + 1) (Heap.SameBut.update ..) (by
    rw [Heap.get?_update_self _ ho (by simp [Obj.mapSeq, Obj.isFreed])]
    simp [Obj.mapSeq])
  refine wpAny_bind (wpAny_setSeqItemAt ho rfl ?_)
  first
    | exact wpAny_bind (wpAny_pure (wpAny_pure ⟨.none, rfl, wpAny_pure hfin⟩))
    | exact wpAny_pure ⟨.none, rfl, wpAny_pure hfin⟩

/-- a[e] = f, a one's own -/
theorem op_setItem {g : Part} {a : Addr} {o : Obj} {d e f d' : D} {u v : Value} {Q : Unit → Shared → Prop} (r : Room A n) (hg : Le g s.heap.get?) (ho : s.heap.get? a = some o) (x : ORep w g a o d) (y : Rep w g e u) (z : Rep w g f v)
    (hf : putD d e f = some d')
    (h : ∀ h' o' tk, Heap.SameBut a s.heap h' → h'.get? a = some o' → ORep w g a o' d' → Q () { s with heap := h', toks := tk }) : wpAny (model prog w) A (setItem (.ref a) u v) Q E s := by
  rcases (putB d e f).2 d' hf with ⟨ds, k, rfl, rfl, hk, rfl⟩ | ⟨ks, ds, k, rfl, rfl, hk, rfl⟩ | ⟨ks, ds, k, rfl, hk, hc, rfl⟩
  · ·
      simp only [Rep] at y
      obtain ⟨t, rfl⟩ := y
      simp only [ORep] at x
      obtain ⟨c, vs, m, dd, l, r⟩ := x
      have hz := r.length
      obtain ⟨oc, od, odt, os⟩ := o
      simp only at c dd
      obtain ⟨rfl, rfl, rfl⟩ := c
      subst dd
      refine setItem_plain ho hk.1 (by have : cap = 200 := rfl; omega) (by simp at hz; exact om_41 hk hz) fun h' m' sb q => h h' _ _ sb q ?_
      simp only [ORep]
      exact ⟨⟨trivial, trivial, trivial⟩, _, _, rfl, by simpa using l, by simpa using r.set k.toNat z⟩
  · ·
      simp only [Rep] at y
      obtain ⟨t, rfl⟩ := y
      have hne : a ≠ sysModules := by simp only [ORep] at x; obtain ⟨c, _⟩ := x; exact c.1
      obtain ⟨vs, hm, rr, hl, hs, hcap, _⟩ := idict_of (prog := prog) ho x
      have hdl := rr.length
      refine wpAny_setItem_pairs (knd := intKind prog w) (k := k) (by simp [intKind, Value.isInt]) hm (fun h' hm' sb => ?_) (by rw [List.length_zip]; have := cap_lt; exact om_42 hcap this)
      rw [stored_putK ks vs k v hl] at hm'
      have hput : (putK ks vs k v).1 = (putK ks ds k f).1 := by unfold putK; split <;> rfl
      have rr' : Reps w g (putK ks ds k f).2 (putK ks vs k v).2 := by
        unfold putK
        split
        · exact rr.setK z
        · exact rr.append (Reps.single z)
      obtain ⟨o', q, ro⟩ := idict_back (prog := prog) (w := w) hm' (putK_length hl) rr' (by rw [hput]; exact hk) hne
      rw [hput] at ro
      exact h h' o' _ sb q ro
  · ·
      have hne : a ≠ sysModules := by simp only [ORep] at x; exact x.1.1
      have ky := y.key hk
      obtain ⟨c, rfl, hi⟩ := KeyAt.is (prog := prog) (w := w) hg ky
      obtain ⟨xs, hm, rfl, rr, hke, hs, hcap⟩ := tdict_of (prog := prog) hg ho x
      refine wpAny_setItem_heap (tupleKind_room_in1 (by have := r.un; exact om_6 this)) hi hm (fun h' hm' sb => ?_) (by have := cap_lt; simp at hcap; exact om_43 this hcap)
      obtain ⟨e1, e2⟩ := storedH_putK xs k c v
      have hput : (putK (xs.map (·.1)) (xs.map (·.2.2)) k v).1 = (putK (xs.map (·.1)) ds k f).1 := by unfold putK; split <;> rfl
      have rr' : Reps w g (putK (xs.map (·.1)) ds k f).2 ((storedH xs k c v).map (·.2.2)) := by
        rw [e2]
        unfold putK
        split
        · exact rr.setK z
        · exact rr.append (Reps.single z)
      have hlen : (storedH xs k c v).length ≤ cap := by
        have : (storedH xs k c v).length = ((storedH xs k c v).map (·.1)).length := by simp
        rw [this, e1, hput]; exact hc
      obtain ⟨o', q, ro⟩ := tdict_back (prog := prog) (w := w) hm' rr' (storedH_keyAt hke ky) hlen hne
      rw [e1, hput] at ro
      exact h h' o' _ sb q ro
end
end Mine
end
section
open PySem PySem.W PyProof.Rows PySem.Spec PySem.SeqAt
set_option maxRecDepth 100000
namespace Mine

section
variable {prog : Program} {w : World} {G : Str → Option Value} {hb : Heap} {n : Nat} {κ : Str → Option NameKind} {sto : Str → Bool}

/-! ## Methods -/
theorem few_ok {es : List Expr} {pos : Pos} {env : Env} (hp : plainL es = true) (hl : es.length < 29) :
    ((backTo pos (starEach es env)).all (fun x => !x.1) && (backToKw pos (keywordEach [] env)).all (fun x => x.1.isSome) && decide (es.length + ([] : List Keyword).length + (if ([] : List Keyword).isEmpty then 0 else 1) < 30)) = true := by
  have h1 : (backTo pos (starEach es env)).all (fun x => !x.1) = true := by
    have := plain_any es pos env hp
    rw [List.any_eq_false] at this
    rw [List.all_eq_true]
    intro x hx
    have := this x hx
    simpa using this
  rw [h1, show (backToKw pos (keywordEach [] env)).all (fun x => x.1.isSome) = true from rfl]
  simp only [Bool.true_and, List.length_nil, List.isEmpty_nil, if_true, decide_eq_true_eq]
  exact om_44 hl

/-- o.name(e, ..) of a built-in class, its own object and its arguments run -/
theorem method_run {A : Around} {s : Shared} {env : Env} {own : List Addr} {ov : List (Str × Addr)} {ρ : Rho} {o e : Expr} {es : List Expr} {name : Str} {T id : String} {apos pos : Pos} {fs : DenL} {xs : List (Fl × D)} {Q : Value → Shared → Prop}
    (R : Room A n) (hbase : plainBase o = true) (hp : plainL (e :: es) = true) (hlen : (e :: es).length < 29) (hline : (apos.endLine == pos.line) = true) (hs : EvL prog w G hb n κ (e :: es) fs) (hf : fs ρ = some xs)
    (pa : PlainAttrs T) (slot : Slot T name id) (hty : typeOf (.builtin id) = pure (.type "method_descriptor"))
    (h : wpAny (model prog w) A (eval o env) (fun ov' s₁ => Ext s.heap s₁.heap ∧ Sim w G hb κ env own ov ρ s₁.heap ∧ s₁.TypeIs ov' T ∧ (∀ a, ov' = .ref a → ∃ ob, s₁.heap.get? a = some ob ∧ ob.dict = none) ∧
      ∀ vs h' tk, Ext s₁.heap h' → VReps w own s₁.heap h' xs vs → wpAny (model prog w) A (call (.builtin id) (ov' :: vs)) Q NoE { s₁ with heap := h', toks := tk }) NoE s) :
    wpAny (model prog w) A (eval (.Call (.Attribute o name apos) (e :: es) [] pos) env) Q NoE s := by
  refine wpAny_Call_method_late (base_plain hbase) (few_ok hp hlen) hline rfl (wpAny_mono h (fun ov' s₁ h₁ => ?_) fun _ _ q => q)
  obtain ⟨_, S, hT, hd, hc⟩ := h₁
  refine ⟨T, id, pa, slot, hty, hT, hd, ?_⟩
  have hp' := hp
  simp only [plainL, List.all_cons, Bool.and_eq_true, Bool.not_eq_true'] at hp'
  refine Calls.callWith_builtin (plain_any (e :: es) pos env hp) ?_
  have hsp := hs A env own ov ρ s₁ pos xs R S hf (fun vs s₂ => wpAny (model prog w) A (call (.builtin id) (ov' :: vs)) Q NoE s₂) hc
  rw [starEach_plain hp'.1] at hsp ⊢
  exact Calls.evalArgs_plain (wpAny_mono hsp (fun vs s₂ q => q) fun _ _ q => q)

noncomputable def idxD (ns : List Int) (k : Int) : Option (Fl × D) := if k ∈ ns ∧ ns.length ≤ 200 then some (.frozen, .int ((ns.idxOf k : Nat) : Int)) else none
theorem op_index {A : Around} {s : Shared} {own : List Addr} {h₀ : Heap} {fl : Fl} {v u : Value} {ds : List D} {ns : List Int} {k : Int} {Q : Value → Shared → Prop} (y : VRep w own h₀ s.heap fl (.lst ds) v) (hi : intsOf ds = some ns) (z : ∃ t, u = .int k t) (hk : k ∈ ns) (hl : ns.length ≤ 200)
    (h : ∀ t tk, Q (.int ((ns.idxOf k : Nat) : Int) t) { s with toks := tk }) : wpAny (model prog w) A (call (.builtin "list.index") [v, u]) Q NoE s := by
  obtain ⟨t, rfl⟩ := z
  obtain ⟨a, vs, m, rfl, p, l, r⟩ := y.lst
  rw [of_intsOf hi] at r
  have hI := r.intsAre
  have hlen := hI.length
  have hj : ns.idxOf k < ns.length := List.idxOf_lt_length_iff.mpr hk
  refine call_meets PySem.F.slot_list_index ⟨_, p, rfl⟩ PySem.F.entry_list_index (PySem.F.args_list_index_2 _ _)
    (list_indexAt a vs m none #[] (.int k t) (isInt k) (ns.idxOf k) (by simp at hlen; exact om_45 hlen hj) (by omega) ?_ ?_) ⟨p, fun y hy => (eq_isInt k t hI y (by simpa using hy)).at _ _, h _ _⟩
  · have := isInt_at k hI (ns.idxOf k) (by simp at hlen ⊢; exact om_45 hlen hj) hj
    rw [Array.getElem_toList] at this
    rw [this]
    simpa using List.getElem_idxOf hj
  · intro j hjs hlt
    have := isInt_at k hI j (by simpa using hjs) (by exact om_46 hj hlt)
    rw [Array.getElem_toList] at this
    rw [this]
    exact ne_of_lt_idxOf hlt _

/-- what a method of a built-in class answers -/
def MethOk (name : Str) (d : D) (xs : List (Fl × D)) (r : Option (Fl × D)) : Prop := ∀ (f : Fl) (d' : D), r = some (f, d') → ∃ T id, PlainAttrs T ∧ Slot T name id ∧ typeOf (.builtin id) = pure (.type "method_descriptor") ∧
    (∀ (w : World) (own : List Addr) (h₀ h : Heap) (f1 : Fl) (v : Value), VRep w own h₀ h f1 d v → ∃ a o, v = .ref a ∧ h.get? a = some o ∧ o.cls = .type T ∧ o.dict = none) ∧
    ∀ (prog : Program) (w : World) (A : Around) (s : Shared) (n : Nat) (own : List Addr) (h₀ h₁ : Heap) (f1 : Fl) (v : Value) (vs : List Value) (Q : Value → Shared → Prop), Room A n → VRep w own h₀ s.heap f1 d v → VReps w own h₁ s.heap xs vs →
      (∀ v h' tk, Ext s.heap h' → VRep w own h₀ h' f d' v → Q v { s with heap := h', toks := tk }) → wpAny (model prog w) A (call (.builtin id) (v :: vs)) Q NoE s
theorem meth_no {name : Str} {d : D} {xs : List (Fl × D)} : MethOk name d xs none := fun _ _ e => (nomatch e)
theorem meth_index {f2 : Fl} {ds : List D} {k : Int} : MethOk "index" (.lst ds) [(f2, .int k)] ((intsOf ds).bind fun ns => idxD ns k) := fun f d' e => by
  obtain ⟨ns, hi, e⟩ := Option.bind_eq_some_iff.mp e
  by_cases hk : k ∈ ns ∧ ns.length ≤ 200
  · have e := (if_pos hk).symm.trans e
    cases e
    refine ⟨_, _, F.plainAttrs_list, F.slot_list_index, F.type_list_index, fun w own h₀ h f1 v r => ?_, fun prog w A s n own h₀ h₁ f1 v vs Q R r1 r2 h => ?_⟩
    · obtain ⟨a, vs, m, rfl, p, _⟩ := r.lst
      exact ⟨a, _, rfl, p, rfl, rfl⟩
    · obtain ⟨u, rfl, r3⟩ := vreps1 r2
      have r3 := r3.any
      simp only [Rep] at r3
      exact op_index r1 hi r3 hk.1 hk.2 fun t tk' => h _ _ _ (Ext.refl _) vrep_int
  · cases (if_neg hk).symm.trans e
theorem meth_if {name x : Str} {d : D} {xs : List (Fl × D)} {r : Option (Fl × D)} (h : MethOk x d xs r) : MethOk name d xs (if name = x then r else none) := by
  by_cases q : name = x
  · rw [if_pos q, q]; exact h
  · rw [if_neg q]; exact meth_no
noncomputable def methB (name : Str) : (d : D) → (xs : List (Fl × D)) → { r : Option (Fl × D) // MethOk name d xs r }
  | .lst ds, [(_, .int k)] => ⟨if name = "index" then (intsOf ds).bind fun ns => idxD ns k else none, meth_if meth_index⟩
  | _, _ => ⟨none, meth_no⟩
noncomputable def methD (name : Str) (d : D) (xs : List (Fl × D)) : Option (Fl × D) := (methB name d xs).1
theorem methD_lst (name : Str) (ds : List D) (f : Fl) (k : Int) : methD name (.lst ds) [(f, .int k)] = if name = "index" then (intsOf ds).bind fun ns => idxD ns k else none := rfl
noncomputable def dMeth (o : Expr) (name : Str) (es : List Expr) (apos pos : Pos) (fo : Den) (fs : DenL) : Den := fun ρ =>
  if plainBase o && plainL es && decide (es.length < 29) && (apos.endLine == pos.line) then (fo ρ).bind fun x => (fs ρ).bind fun xs => methD name x.2 xs else none

theorem ev_meth {o e : Expr} {es : List Expr} {name : Str} {apos pos : Pos} {fo : Den} {fs : DenL} (ho : Ev prog w G hb n κ o fo) (hs : EvL prog w G hb n κ (e :: es) fs) : Ev prog w G hb n κ (.Call (.Attribute o name apos) (e :: es) [] pos) (dMeth o name (e :: es) apos pos fo fs) :=
  fun A env own ov ρ s f d R S q Q hQ => by
    by_cases hc : (plainBase o && plainL (e :: es) && decide ((e :: es).length < 29) && (apos.endLine == pos.line)) = true
    · obtain ⟨⟨f1, d1⟩, e1, q⟩ := Option.bind_eq_some_iff.mp ((if_pos hc).symm.trans q)
      obtain ⟨xs, e2, q⟩ := Option.bind_eq_some_iff.mp q
      simp only [Bool.and_eq_true, decide_eq_true_eq] at hc
      obtain ⟨T, id, pa, sl, ty, hT, hm⟩ := (methB name d1 xs).2 f d q
      refine method_run R hc.1.1.1 hc.1.1.2 hc.1.2 hc.2 hs e2 pa sl ty (ho A env own ov ρ s f1 d1 R S e1 _ fun v h1 tk1 x1 r1 => ⟨x1, S.ext x1, ?_, fun a ea => ?_, fun vs h2 tk2 x2 r2 => ?_⟩)
      · obtain ⟨a, o', rfl, p, c, _⟩ := hT w own s.heap h1 f1 v r1
        exact ⟨o', p, c⟩
      · obtain ⟨a', o', e', p, _, dn⟩ := hT w own s.heap h1 f1 v r1
        rw [e'] at ea; cases ea
        exact ⟨o', p, dn⟩
      · exact hm prog w A { s with heap := h2, toks := tk2 } n own s.heap h1 f1 v vs Q R (r1.ext x2) r2 fun u h3 tk3 x3 r3 => hQ u h3 tk3 ((x1.trans x2).trans x3) r3
    · cases (if_neg hc).symm.trans q

/-! ## A value of two sides -/
noncomputable def dAndV (fl fr : Den) : Den := fun ρ => (fl ρ).bind fun x => (blOf x.2).bind fun b => if b then fr ρ else some (.frozen, .bool false)
theorem ev_andV {l r : Expr} {pos : Pos} {fl fr : Den} (hl : Ev prog w G hb n κ l fl) (hr : Ev prog w G hb n κ r fr) : Ev prog w G hb n κ (.BoolOp .And [l, r] pos) (dAndV fl fr) :=
  fun A env own ov ρ s f d R S q Q hQ => by
    obtain ⟨⟨f1, d1⟩, e1, q⟩ := Option.bind_eq_some_iff.mp q
    rw [arm_eval_BoolOp]
    show wpAny _ _ (do
      let v ← eval l env
      standAt pos
      let t ← holding [v] (truthy v)
      match BoolOp.And, t with
      | .And, false | .Or, true => pure v
      | _, _ => eval r env) _ _ _
    obtain ⟨b, hbl, z⟩ := Option.bind_eq_some_iff.mp q
    clear q
    have q := z
    clear z
    obtain rfl := blOf_some hbl
    refine wpAny_bind (hl A env own ov ρ s f1 _ R S e1 _ fun v h1 tk1 x1 r1 => wpAny_bind (wpAny_standAt ?_))
    have r1 := r1.any
    simp only [Rep] at r1
    subst r1
    refine wpAny_bind (wpAny_holding (wpAny_truthy_bool ?_))
    cases b with
    | true =>
      exact hr A env own ov ρ _ f d R (S.ext x1) q _ fun v h2 tk2 x2 r2 => hQ v h2 tk2 (x1.trans x2) (r2.lower x1)
    | false =>
      cases q
      exact wpAny_pure (hQ _ h1 tk1 x1 vrep_bool)
end
end Mine
end
section
open PySem PySem.W PyProof.Rows PySem.Spec PySem.SeqAt
set_option maxRecDepth 100000
namespace Mine

section
variable {prog : Program} {w : World} {G : Str → Option Value} {hb : Heap} {n : Nat} {κ : Str → Option NameKind} {sto : Str → Bool}

/-- a variable's own object -/
theorem Sim.ownAt {env : Env} {own : List Addr} {ov : List (Str × Addr)} {ρ : Rho} {x : Str} {d : D} {h : Heap} (S : Sim w G hb κ env own ov ρ h) (hx : ρ x = some (.own d)) :
    ∃ a o, ov.lookup x = some a ∧ h.get? a = some o ∧ ORep w (Fz own h) a o d ∧ a ∈ own ∧ ∀ (A : Around) (E : Value → Shared → Prop) (s : Shared) (p : Pos) (Q : Value → Shared → Prop), s.heap = h → okName x = true → Q (.ref a) s → wpAny (model prog w) A (eval (.Name x p) env) Q E s := by
  obtain ⟨vm, S⟩ := S
  obtain ⟨k, v, h1, a, o, rfl, h2, h3, h4⟩ := S.vars x _ hx
  refine ⟨a, o, h2, h3, h4, (S.ovIn _ (mem_of_lookup h2)).1, fun A E s p Q hs hn hq => ?_⟩
  subst hs
  exact S.eo.name (by rw [S.kap]; exact k) hn h1 hq

theorem Sim.mutate {env : Env} {own wr : List Addr} {ov : List (Str × Addr)} {ρ : Rho} {x : Str} {a : Addr} {o' : Obj} {d' : D} {h h' : Heap} (S : Sim w G hb κ env own ov ρ h) (O : ∀ p ∈ ov, p.2 ∈ wr) (hk : isV (κ x) = true) (ha : ov.lookup x = some a) (hv : ∃ d, ρ x = some (.own d))
    (sb : Heap.SameBut a h h') (q : h'.get? a = some o') (r : ORep w (Fz own h) a o' d') : Sim w G hb κ env own ov (upd ρ x (.own d')) h' ∧ Step own wr h own wr h' := by
  obtain ⟨vm, S⟩ := S
  have hm := mem_of_lookup ha
  have hin := (S.ovIn _ hm).1
  have hpl := (S.ovIn _ hm).2
  have live : ∀ b, (h.get? b).isSome = true → (h'.get? b).isSome = true := fun b e => SameBut.live sb (by rw [q]; rfl) e
  have lef : Le (Fz own h) (Fz own h') := fun b o e => Fz.of (Fz.get e).1 (by rw [sb.2 b (fun z => (Fz.get e).1 (z ▸ hin))]; exact (Fz.get e).2)
  refine ⟨⟨vm, S.eo.keep (fun _ z _ => z) (fun b hb o e => by rw [sb.2 b (fun z => hpl (z ▸ hb))]; exact e), S.kap, S.bas, fun b o e => ?_, S.high, fun b hb => live b (S.lt b hb), fun y b hy => ?_, S.ovIn, S.ovInj⟩,
    fun b o hb e => by rw [sb.2 b (fun z => hb (z ▸ O _ hm))]; exact e, live, fun _ z => .inl z, fun _ z => .inl z, fun _ z => .inl z⟩
  · rw [sb.2 b (fun z => by have := S.high a hin; rw [z, this] at e; cases e)]; exact S.ext b o e
  · unfold upd at hy
    split at hy
    · rename_i e
      subst e
      cases hy
      obtain ⟨d, hd⟩ := hv
      obtain ⟨k, v, h1, a2, o2, rfl, h2, _, _⟩ := S.vars y _ hd
      rw [ha] at h2
      cases h2
      exact ⟨k, .ref a, h1, a, o', rfl, ha, q, r.mono lef⟩
    · rename_i hne
      obtain ⟨k, v, h1, h2⟩ := S.vars y b hy
      refine ⟨k, v, h1, ?_⟩
      cases b with
      | frz d => exact Rep.mono lef d h2
      | own d =>
        obtain ⟨a2, o2, q1, q2, q3, q4⟩ := h2
        refine ⟨a2, o2, q1, q2, ?_, q4.mono lef⟩
        have hne2 : a2 ≠ a := fun z => by
          subst z
          have m2 := mem_of_lookup q2
          exact hne (map_inj_of_nodup S.ovInj m2 hm)
        rw [sb.2 a2 hne2]; exact q3
where
  map_inj_of_nodup {l : List (Str × Addr)} {x y : Str} {a : Addr} (hn : (l.map (·.2)).Nodup) (h1 : (x, a) ∈ l) (h2 : (y, a) ∈ l) : x = y := by
    induction l with
    | nil => cases h1
    | cons p l ih =>
      rw [List.map_cons, List.nodup_cons] at hn
      rcases List.mem_cons.mp h1 with e1 | e1 <;> rcases List.mem_cons.mp h2 with e2 | e2
      · rw [← e1] at e2; exact (Prod.mk.inj e2).1.symm
      · exact absurd (List.mem_map.mpr ⟨_, e2, by rw [← e1]⟩) hn.1
      · exact absurd (List.mem_map.mpr ⟨_, e1, by rw [← e2]⟩) hn.1
      · exact ih hn.2 e1 e2

/-- the value of a store: frozen -/
noncomputable def dFrz (f : Den) : Rho → Option D := fun ρ => (f ρ).bind fun x => if x.1 = .loose then none else some x.2
theorem dFrz_some {f : Den} {ρ : Rho} {d : D} (e : dFrz f ρ = some d) : ∃ fl, f ρ = some (fl, d) ∧ fl ≠ .loose := by
  obtain ⟨⟨fl, d'⟩, e1, e⟩ := Option.bind_eq_some_iff.mp e
  split at e
  · cases e
  · rename_i h; cases e; exact ⟨fl, e1, h⟩

noncomputable def ownB : Bd → Option D
  | .own d => some d
  | .frz _ => none
noncomputable def frzB : Bd → Option D
  | .own _ => none
  | .frz d => some d
noncomputable def ownOf (ρ : Rho) (x : Str) : Option D := (ρ x).bind ownB
theorem ownOf_some {ρ : Rho} {x : Str} {d : D} (e : ownOf ρ x = some d) : ρ x = some (.own d) := by
  obtain ⟨b, h, e⟩ := Option.bind_eq_some_iff.mp e
  cases b with
  | own d => cases e; exact h
  | frz d => cases e
theorem own_at {ρ : Rho} {x : Str} {d : D} (h : ρ x = some (.own d)) : ownOf ρ x = some d := by unfold ownOf; rw [h]; rfl
theorem own_frz {ρ : Rho} {x : Str} {d : D} (h : ρ x = some (.frz d)) : ownOf ρ x = none := by unfold ownOf; rw [h]; rfl

/-! ## x[i] = v -/
noncomputable def dStore (κ : Str → Option NameKind) (x : Str) (fi : Den) (v : D) (ρ : Rho) : Option Rho :=
  if isV (κ x) && okName x then (dFrz fi ρ).bind fun k => (ownOf ρ x).bind fun d => (putD (fitD d k) k v).map fun d' => upd ρ x (.own d') else none
theorem asn_store {A : Around} {E : Value → Shared → Prop} {s : Shared} {env : Env} {own wr : List Addr} {ov : List (Str × Addr)} {ρ ρ' : Rho} {x : Str} {p p2 : Pos} {i : Expr} {fi : Den} {v : Value} {d : D} {Q : Unit → Shared → Prop} (R : Room A n) (hi : Ev prog w G hb n κ i fi)
    (S : Sim w G hb κ env own ov ρ s.heap) (W : Wr env own wr sto) (O : ∀ p ∈ ov, p.2 ∈ wr) (r : Rep w (Fz own s.heap) d v) (e : dStore κ x fi d ρ = some ρ')
    (h : ∀ h' tk, Step own wr s.heap own wr h' → Sim w G hb κ env own ov ρ' h' → (∀ b, (∀ p ∈ ov, p.2 ≠ b) → (s.heap.get? b).isSome = true → h'.get? b = s.heap.get? b) → Q () { s with heap := h', toks := tk }) :
    wpAny (model prog w) A (assign (.Subscript (.Name x p) i p2) env v) Q E s := by
  unfold dStore at e
  split at e
  · rename_i hx
    simp only [Bool.and_eq_true] at hx
    obtain ⟨k, e1, e⟩ := Option.bind_eq_some_iff.mp e
    obtain ⟨d0, e2, e⟩ := Option.bind_eq_some_iff.mp e
    obtain ⟨d', e3, e⟩ := Option.map_eq_some_iff.mp e
    subst e
    obtain ⟨fk, e1, hl⟩ := dFrz_some e1
    have hown := ownOf_some e2
    obtain ⟨a, o, ha, hao, hr, hin, rd⟩ := S.ownAt (prog := prog) hown
    rw [assign_Subscript]
    refine wpAny_bind (wpAny_holding (rd _ _ _ _ _ rfl hx.2 (wpAny_bind (wpAny_holding (anyE (hi A env own ov ρ s fk k R S e1 _ fun u h1 tk1 x1 r1 => ?_))))))
    refine wpAny_bind (wpAny_standAt (wpAny_bind (wpAny_holding ?_)))
    have S1 := S.ext x1
    refine op_setItem (s := { s with heap := h1, toks := tk1 }) (g := Fz own h1) R (Fz.le _ _) (x1 _ _ hao) (hr.mono x1.fz).fit (r1.frz hl S.ltAll) (Rep.mono x1.fz _ r) e3 fun h2 o2 tk2 sb q ro => ?_
    obtain ⟨S2, st2⟩ := S1.mutate O hx.1 ha ⟨_, hown⟩ sb q ro
    exact wpAny_release (h h2 tk2 ((Step.of_ext x1).trans S.ltAll st2) S2 fun b hb hl => by
      obtain ⟨ob, eb⟩ := Option.isSome_iff_exists.mp hl
      rw [sb.2 b (fun q => hb _ (mem_of_lookup ha) q.symm), x1 b ob eb, eb])
  · cases e

theorem swaps_sub {value o i : Expr} {p2 : Pos} {l : Nat} {env : Env} : swapsWith value (some (.Subscript o i p2)) l env = pure false := by cases value <;> rfl
noncomputable def dSetSub (κ : Str → Option NameKind) (x : Str) (fi fv : Den) : DenS := fun ρ => (dFrz fv ρ).bind fun v => (dStore κ x fi v ρ).map fun ρ' => (.next, ρ')
theorem ex_setSub {x : Str} {p p2 pos : Pos} {i value : Expr} {fi fv : Den} (hi : Ev prog w G hb n κ i fi) (hv : Ev prog w G hb n κ value fv) : Ex prog w G hb n κ sto (.Assign [.Subscript (.Name x p) i p2] value pos) (dSetSub κ x fi fv) :=
  fun A env own wr ov ρ s E fl ρ' R S W O e Q hQ => by
    obtain ⟨v, e1, e⟩ := Option.bind_eq_some_iff.mp e
    obtain ⟨ρ1, e2, e⟩ := Option.map_eq_some_iff.mp e
    cases e
    obtain ⟨f1, e1, hl⟩ := dFrz_some e1
    rw [exec_Assign_Subscript _ _ _ _ _ swaps_sub]
    refine wpAny_bind (wpAny_standAt (wpAny_bind (anyE (hv A env own ov ρ s f1 v R S e1 _ fun u h1 tk1 x1 r1 => ?_))))
    refine wpAny_bind (asn_store (s := { s with heap := h1, toks := tk1 }) R hi (S.ext x1) W O (r1.frz hl S.ltAll) e2 fun h2 tk2 st2 S2 _ => wpAny_pure ?_)
    exact hQ .next h2 tk2 own wr ov ((Step.of_ext x1).trans S.ltAll st2) S2 W O ⟨rfl, Pin.refl _ _⟩

/-! ## x[i] += v -/
noncomputable def nlB : (e : Expr) → { b : Bool // b = true → ∀ (ov iv new : Value), augStore e ov iv new = (do holding [new, ov, iv] (setItem ov iv new); release [new, ov, iv] []; pure .next) }
  | .Constant c0 k0 p0 => ⟨true, fun _ _ _ _ => rfl⟩
  | .Name x0 p0 => ⟨true, fun _ _ _ _ => rfl⟩
  | _ => ⟨false, fun h => (nomatch h)⟩
noncomputable def noSlice (e : Expr) : Bool := (nlB e).1
theorem augStore_plain {i : Expr} (h : noSlice i = true) (ov iv new : Value) : augStore i ov iv new = (do holding [new, ov, iv] (setItem ov iv new); release [new, ov, iv] []; pure .next) := (nlB i).2 h ov iv new
noncomputable def dAugSub (κ : Str → Option NameKind) (x : Str) (i : Expr) (fi fv : Den) : DenS := fun ρ =>
  if isV (κ x) && okName x && noSlice i then (dFrz fi ρ).bind fun k => (ownOf ρ x).bind fun d => (itemD (fitD d k) k).bind fun old => (dFrz fv ρ).bind fun v => (itOf old).bind fun a => (itOf v).bind fun b => (putD (fitD d k) k (.int (a + b))).map fun d' => (.next, upd ρ x (.own d'))
  else none
theorem ex_augSub {x : Str} {p p2 pos : Pos} {i value : Expr} {fi fv : Den} (hi : Ev prog w G hb n κ i fi) (hv : Ev prog w G hb n κ value fv) : Ex prog w G hb n κ sto (.AugAssign (.Subscript (.Name x p) i p2) .Add value pos) (dAugSub κ x i fi fv) :=
  fun A env own wr ov ρ s E fl ρ' R S W O e Q hQ => by
    unfold dAugSub at e
    split at e
    · rename_i hx
      simp only [Bool.and_eq_true] at hx
      obtain ⟨k, e1, e⟩ := Option.bind_eq_some_iff.mp e
      obtain ⟨d0, e2, e⟩ := Option.bind_eq_some_iff.mp e
      obtain ⟨old, e3, e⟩ := Option.bind_eq_some_iff.mp e
      obtain ⟨v, e4, e⟩ := Option.bind_eq_some_iff.mp e
      obtain ⟨a, hla, e⟩ := Option.bind_eq_some_iff.mp e
      obtain ⟨b, hlb, e⟩ := Option.bind_eq_some_iff.mp e
      obtain rfl := itOf_some hla
      obtain rfl := itOf_some hlb
      · obtain ⟨d', e5, e⟩ := Option.map_eq_some_iff.mp e
        cases e
        obtain ⟨fk, e1, hl⟩ := dFrz_some e1
        obtain ⟨fv', e4, hl4⟩ := dFrz_some e4
        have hown := ownOf_some e2
        obtain ⟨ad, o, ha, hao, hr, hin, rd⟩ := S.ownAt (prog := prog) hown
        refine wpAny_AugAssign_SubscriptAny (rd _ _ _ _ _ rfl hx.1.2 (anyE (hi A env own ov ρ s fk k R S e1 _ fun u h1 tk1 x1 r1 => ?_))) (augStore_plain hx.2)
        have S1 := S.ext x1
        have key : ∀ v' tk', Rep w (Fz own h1) (.int a) v' → wpAny (model prog w) A (eval value env) (fun v s₄ => wpAny (model prog w) A (inplaceOp .Add v' v) (fun new s₅ => wpAny (model prog w) A (setItem (.ref ad) u new) (fun _ => Q .next) E s₅) E s₄) E { s with heap := h1, toks := tk' } := by
          intro v' tk' r'
          simp only [Rep] at r'
          obtain ⟨t, rfl⟩ := r'
          refine anyE (hv A env own ov ρ { s with heap := h1, toks := tk' } fv' _ R S1 e4 _ fun v2 h2 tk2 x2 r2 => ?_)
          have r2 := r2.any
          simp only [Rep] at r2
          obtain ⟨t2, rfl⟩ := r2
          refine P.iadd_int ?_
          have S2 := S1.ext x2
          have x12 := x1.trans x2
          refine op_setItem (s := { s with heap := h2, toks := tk2 + 1 }) (g := Fz own h2) R (Fz.le _ _) (x12 _ _ hao) (hr.mono x12.fz).fit (Rep.mono x2.fz _ (r1.frz hl S.ltAll)) (by simp only [Rep]; exact ⟨_, rfl⟩) e5 fun h3 o3 tk3 sb q ro => ?_
          obtain ⟨S3, st3⟩ := S2.mutate O hx.1.1 ha ⟨_, hown⟩ sb q ro
          exact hQ .next h3 tk3 own wr ov ((Step.of_ext x12).trans S.ltAll st3) S3 W O ⟨rfl, Pin.refl _ _⟩
        obtain ⟨T, id, _, _, hg⟩ := op_item (s := { s with heap := h1, toks := tk1 }) (E := E) R (Fz.le own h1) (x1 _ _ hao) (hr.mono x1.fz).fit r1.any e3
          (Q := fun old s₃ => wpAny (model prog w) A (eval value env) (fun v s₄ => wpAny (model prog w) A (inplaceOp .Add old v) (fun new s₅ => wpAny (model prog w) A (setItem (.ref ad) u new) (fun _ => Q .next) E s₅) E s₄) E s₃) key
        exact hg
    · cases e

/-! ## x += v -/
noncomputable def dAugName (κ : Str → Option NameKind) (sto : Str → Bool) (x : Str) (fv : Den) : DenS := fun ρ =>
  if (okT κ sto x && okName x) = true then (ρ x).bind fun c => (frzB c).bind fun d => (itOf d).bind fun a => (fv ρ).bind fun y => (itOf y.2).map fun b => (.next, upd ρ x (.frz (.int (a + b)))) else none
theorem ex_augName {x : Str} {p pos : Pos} {value : Expr} {fv : Den} (hv : Ev prog w G hb n κ value fv) : Ex prog w G hb n κ sto (.AugAssign (.Name x p) .Add value pos) (dAugName κ sto x fv) :=
  fun A env own wr ov ρ s E fl ρ' R S W O e Q hQ => by
        obtain ⟨hx, q1⟩ := if_of e
        clear e
        simp only [Bool.and_eq_true] at hx
        obtain ⟨c, hρ, q2⟩ := Option.bind_eq_some_iff.mp q1
        clear q1
        obtain ⟨d, hc, q3⟩ := Option.bind_eq_some_iff.mp q2
        clear q2
        obtain ⟨a, hd, q4⟩ := Option.bind_eq_some_iff.mp q3
        clear q3
        obtain ⟨⟨f1, d1⟩, e1, q5⟩ := Option.bind_eq_some_iff.mp q4
        clear q4
        obtain ⟨b, hl, z⟩ := Option.map_eq_some_iff.mp q5
        clear q5
        obtain rfl := itOf_some hd
        obtain rfl := itOf_some hl
        obtain rfl : c = .frz (.int a) := by
          cases c with
          | own d => cases hc
          | frz d => exact congrArg Bd.frz (Option.some.inj hc)
        cases z
        have hk := okT_kinds hx.1
        obtain ⟨vm, S0⟩ := id S
        obtain ⟨k, v, h1, h2⟩ := S0.vars x _ hρ
        have h2 : Rep w (Fz own s.heap) (.int a) v := h2
        simp only [Rep] at h2
        obtain ⟨t, rfl⟩ := h2
        refine wpAny_AugAssign_Name (S0.eo.load (by rw [S0.kap]; exact k) hx.2 h1 (anyE (hv A env own ov ρ s f1 _ R S e1 _ fun u h2 tk2 x2 r2 => ?_)))
        have r2 := r2.any
        simp only [Rep] at r2
        obtain ⟨t2, rfl⟩ := r2
        refine P.iadd_int ?_
        have S1 := S.ext x2
        refine S1.bind (s := { s with heap := h2, toks := tk2 + 1 }) (ov' := ov) (b := .frz (.int (a + b))) hk.1 (let ⟨vm, S'⟩ := S1; S'.ovIn) (let ⟨vm, S'⟩ := S1; S'.ovInj) (fun _ _ => rfl) (by show Rep w _ _ _; simp only [Rep]; exact ⟨_, rfl⟩) fun h' tk p hp hpo sb lv S2 => ?_
        exact hQ .next h' tk own wr ov ((Step.of_ext x2).trans S.ltAll (W.step hk.2 hp sb lv)) S2 W O ⟨rfl, Pin.refl _ _⟩
end
end Mine
end
section
open PySem PySem.W PyProof.Rows PySem.Spec PySem.SeqAt
set_option maxRecDepth 100000
namespace Mine

section
variable {prog : Program} {w : World} {G : Str → Option Value} {hb : Heap} {n : Nat} {κ : Str → Option NameKind} {sto : Str → Bool}

/-! ## x.append(v), x.insert(i, v) -/
theorem Sim.noninteractive {env : Env} {own : List Addr} {ov : List (Str × Addr)} {ρ : Rho} {h : Heap} (S : Sim w G hb κ env own ov ρ h) : interactive env = false := by
  obtain ⟨vm, S⟩ := S
  unfold interactive
  rw [S.eo.fn]; rfl
theorem swaps_none {value : Expr} {l : Nat} {env : Env} (h : notComp value = true) : swapsWith value none l env = pure false := swaps_not h

noncomputable def appD (d v : D) : Option D := (lsOf d).bind fun ds => if ds.length + 1 ≤ cap then some (.lst (ds ++ [v])) else none
noncomputable def dAppend (κ : Str → Option NameKind) (x : Str) (e : Expr) (apos pos : Pos) (fv : Den) : DenS := fun ρ =>
  if isV (κ x) && okName x && !isStarred e && (apos.endLine == pos.line) then (dFrz fv ρ).bind fun v => (ownOf ρ x).bind fun d => (appD d v).map fun d' => (.next, upd ρ x (.own d')) else none
theorem ex_append {x : Str} {p apos pos spos : Pos} {e : Expr} {fv : Den} {name : Str} (hn : name = "append") (hv : Ev prog w G hb n κ e fv) : Ex prog w G hb n κ sto (.Expr (.Call (.Attribute (.Name x p) name apos) [e] [] pos) spos) (dAppend κ x e apos pos fv) :=
  fun A env own wr ov ρ s E fl ρ' R S W O q Q hQ => by
    subst hn
    unfold dAppend at q
    split at q
    · rename_i hc
      simp only [Bool.and_eq_true, Bool.not_eq_true'] at hc
      obtain ⟨v, e1, q⟩ := Option.bind_eq_some_iff.mp q
      obtain ⟨d0, e2, q⟩ := Option.bind_eq_some_iff.mp q
      obtain ⟨d', e3, q⟩ := Option.map_eq_some_iff.mp q
      cases q
      obtain ⟨ds, hls, e3b⟩ := Option.bind_eq_some_iff.mp e3
      obtain ⟨hcap, e3c⟩ := if_of e3b
      clear e3 e3b
      obtain rfl := lsOf_some hls
      · · cases e3c
          obtain ⟨f1, e1, hl⟩ := dFrz_some e1
          have hown := ownOf_some e2
          obtain ⟨a, o, ha, hao, hr, hin, rd⟩ := S.ownAt (prog := prog) hown
          have hs := evl_cons (n := n) hv (evl_nil (prog := prog) (w := w) (G := G) (hb := hb) (n := n) (κ := κ))
          have e4 : dCons e fv dNil ρ = some [(f1, v)] := by unfold dCons; rw [if_neg (by simp [hc.1.2]), e1]; rfl
          simp only [ORep] at hr
          obtain ⟨⟨c1, c2, c3⟩, vs, m, dd, l, r⟩ := hr
          refine wpAny_Expr (anyE (method_run R rfl (by simp [plainL, hc.1.2]) (by simp) hc.2 hs e4 PySem.F.plainAttrs_list PySem.F.slot_list_append PySem.F.type_list_append
            (rd _ _ _ _ _ rfl hc.1.1.2 ⟨Ext.refl _, S, ⟨o, hao, c1⟩, fun a' ea => by cases ea; exact ⟨o, hao, c2⟩, fun us h1 tk1 x1 r1 => ?_⟩))) S.noninteractive (swaps_none rfl)
          obtain ⟨u, rfl, r2⟩ := vreps1 r1
          have hz := r.length
          obtain ⟨oc, od, odt, os⟩ := o
          simp only at c1 c2 c3 dd
          subst c1 c2 c3 dd
          have S1 := S.ext x1
          refine wpAny_list_append_plain (s := { s with heap := h1, toks := tk1 }) (hsz := by have := cap_lt; simp at hz; exact om_16 l hz this) ⟨m, x1 _ _ hao⟩ fun h2 pl sb => ?_
          obtain ⟨m2, q2⟩ := pl
          have ro : ORep w (Fz own h1) a { cls := .type "list", data := .seq (vs.push u) m2 } (.lst (ds ++ [v])) := by
            simp only [ORep]
            refine ⟨⟨trivial, trivial, trivial⟩, _, _, rfl, by simpa using hcap, ?_⟩
            rw [Array.toList_push]
            exact (Reps.mono x1.fz _ r).append (Reps.single (r2.frz hl S.ltAll))
          obtain ⟨S2, st2⟩ := S1.mutate O hc.1.1.1 ha ⟨_, hown⟩ sb q2 ro
          exact hQ .next h2 tk1 own wr ov ((Step.of_ext x1).trans S.ltAll st2) S2 W O ⟨rfl, Pin.refl _ _⟩
    · cases q

theorem ins_arr (l : List Value) (k : Nat) (y : Value) : (l.toArray.extract 0 k).push y ++ l.toArray.extract k = (l.take k ++ y :: l.drop k).toArray := by
  apply Array.toList_inj.mp
  simp
  exact List.take_of_length_le (by simp)
noncomputable def insD (d : D) (i : Int) (v : D) : Option D := (lsOf d).bind fun ds => if 0 ≤ i ∧ i < 300 ∧ ds.length + 1 ≤ cap then some (.lst (ds.take i.toNat ++ v :: ds.drop i.toNat)) else none
noncomputable def dInsert (κ : Str → Option NameKind) (x : Str) (e0 e : Expr) (apos pos : Pos) (fi fv : Den) : DenS := fun ρ =>
  if isV (κ x) && okName x && !isStarred e0 && !isStarred e && (apos.endLine == pos.line) then (fi ρ).bind fun i => (fv ρ).bind fun v => (ownOf ρ x).bind fun d => (itOf i.2).bind fun k => if v.1 = .loose then none else (insD d k v.2).map fun d' => (.next, upd ρ x (.own d'))
  else none
theorem ex_insert {x : Str} {p apos pos spos : Pos} {e0 e : Expr} {fi fv : Den} {name : Str} (hn : name = "insert") (hi : Ev prog w G hb n κ e0 fi) (hv : Ev prog w G hb n κ e fv) :
    Ex prog w G hb n κ sto (.Expr (.Call (.Attribute (.Name x p) name apos) [e0, e] [] pos) spos) (dInsert κ x e0 e apos pos fi fv) :=
  fun A env own wr ov ρ s E fl ρ' R S W O q Q hQ => by
    subst hn
    unfold dInsert at q
    split at q
    · rename_i hc
      simp only [Bool.and_eq_true, Bool.not_eq_true'] at hc
      obtain ⟨⟨f0, d0⟩, e1, q1⟩ := Option.bind_eq_some_iff.mp q
      obtain ⟨⟨f1, v⟩, e2, q2⟩ := Option.bind_eq_some_iff.mp q1
      obtain ⟨d1, e3, q3⟩ := Option.bind_eq_some_iff.mp q2
      clear q q1 q2
      have q := q3
      clear q3
      obtain ⟨k, hk0, q1⟩ := Option.bind_eq_some_iff.mp q
      obtain rfl := itOf_some hk0
      clear q
      have q := q1
      clear q1
      split at q
      · cases q
      · rename_i hl
        obtain ⟨d', e4, q⟩ := Option.map_eq_some_iff.mp q
        cases q
        obtain ⟨ds, hls, e4b⟩ := Option.bind_eq_some_iff.mp e4
        obtain ⟨hcap, e4c⟩ := if_of e4b
        clear e4 e4b
        obtain rfl := lsOf_some hls
        · · cases e4c
            have hown := ownOf_some e3
            obtain ⟨a, o, ha, hao, hr, hin, rd⟩ := S.ownAt (prog := prog) hown
            have hs := evl_cons (n := n) hi (evl_cons hv (evl_nil (prog := prog) (w := w) (G := G) (hb := hb) (n := n) (κ := κ)))
            have e5 : dCons e0 fi (dCons e fv dNil) ρ = some [(f0, .int k), (f1, v)] := by
              unfold dCons
              rw [if_neg (by simp [hc.1.1.2]), e1]
              simp only [Option.bind_some]
              rw [if_neg (by simp [hc.1.2]), e2]; rfl
            simp only [ORep] at hr
            obtain ⟨⟨c1, c2, c3⟩, vs, m, dd, l, r⟩ := hr
            refine wpAny_Expr (anyE (method_run R rfl (by simp [plainL, hc.1.1.2, hc.1.2]) (by simp) hc.2 hs e5 PySem.F.plainAttrs_list PySem.F.slot_list_insert PySem.F.type_list_insert
              (rd _ _ _ _ _ rfl hc.1.1.1.2 ⟨Ext.refl _, S, ⟨o, hao, c1⟩, fun a' ea => by cases ea; exact ⟨o, hao, c2⟩, fun us h1 tk1 x1 r1 => ?_⟩))) S.noninteractive (swaps_none rfl)
            obtain ⟨u0, u, rfl, r2, r3⟩ := vreps2 r1
            have r2 := r2.any
            simp only [Rep] at r2
            obtain ⟨t, rfl⟩ := r2
            have hz := r.length
            obtain ⟨oc, od, odt, os⟩ := o
            simp only at c1 c2 c3 dd
            subst c1 c2 c3 dd
            have S1 := S.ext x1
            have hao1 := x1 _ _ hao
            have hvz : vs.size ≤ sizeLine := by have := cap_lt; simp at hz; exact om_16 l hz this
            have hfit : Builtin.List.listFitsIndex k = true := fitsIndex_of hcap.1 (by omega)
            refine call_meets (s := { s with heap := h1, toks := tk1 }) PySem.F.slot_list_insert ⟨_, hao1, rfl⟩ PySem.F.entry_list_insert (PySem.F.args_list_insert_3 _ _ _) (PySem.AutoSeq1.list_insert_list_int_val_1 a vs m k t u (by simp [hfit]) hvz) ⟨hao1, ?_⟩
            generalize hf : (fun xs : Array Value => have k' := if k < 0 then (k + (xs.size : Int)).toNat else min k.toNat xs.size; (xs.extract 0 k').push u ++ xs.extract k') = f
            have hval : f vs = (vs.toList.take k.toNat ++ u :: vs.toList.drop k.toNat).toArray := by
              rw [← hf]
              show (vs.extract 0 (if k < 0 then (k + (vs.size : Int)).toNat else min k.toNat vs.size)).push u ++ vs.extract (if k < 0 then (k + (vs.size : Int)).toNat else min k.toNat vs.size) = _
              rw [if_neg (by exact om_47 hcap)]
              have hk := ins_arr vs.toList (min k.toNat vs.size) u
              rw [Array.toArray_toList] at hk
              rw [hk]
              rcases Nat.le_total k.toNat vs.size with hle | hle
              · rw [Nat.min_eq_left hle]
              · rw [Nat.min_eq_right hle]
                have e1 : vs.toList.take vs.size = vs.toList := List.take_of_length_le (by simp)
                have e2 : vs.toList.drop vs.size = [] := List.drop_of_length_le (by simp)
                have e3 : vs.toList.take k.toNat = vs.toList := List.take_of_length_le (by simpa using hle)
                have e4 : vs.toList.drop k.toNat = [] := List.drop_of_length_le (by simpa using hle)
                rw [e1, e2, e3, e4]
            obtain ⟨m2, hm2⟩ : ∃ m2, Obj.mapSeq f { cls := Value.type "list", data := .seq vs m } = { cls := Value.type "list", data := .seq (f vs) m2 } := ⟨_, rfl⟩
            have q2 : (h1.update a (Obj.mapSeq f)).get? a = some { cls := Value.type "list", data := .seq (f vs) m2 } := by
              rw [Heap.get?_update_self _ hao1 (by rw [hm2]; rfl), hm2]
            have ro : ORep w (Fz own h1) a { cls := .type "list", data := .seq (f vs) m2 } (.lst (ds.take k.toNat ++ v :: ds.drop k.toNat)) := by
              simp only [ORep]
              refine ⟨⟨trivial, trivial, trivial⟩, _, _, rfl, ?_, ?_⟩
              · simp only [List.length_append, List.length_cons, List.length_take, List.length_drop]; exact om_48 hcap
              · rw [hval]
                have rr := Reps.mono x1.fz _ r
                have := (rr.take k.toNat).append ((Reps.single (r3.frz hl S.ltAll)).append (rr.drop k.toNat))
                simpa using this
            obtain ⟨S2, st2⟩ := S1.mutate O hc.1.1.1.1 ha ⟨_, hown⟩ (Heap.SameBut.update ..) q2 ro
            exact hQ .next _ tk1 own wr ov ((Step.of_ext x1).trans S.ltAll st2) S2 W O ⟨rfl, Pin.refl _ _⟩
    · cases q

/-! ## while -/
noncomputable def whileD (ft : DenB) (fb : DenS) : Nat → Rho → Option (Flo × Rho)
  | 0, _ => none
  | k + 1, ρ => (ft ρ).bind fun b => if b then (fb ρ).bind fun x => match x.1 with
      | .next => whileD ft fb k x.2
      | .cont => whileD ft fb k x.2
      | .brk => some (.next, x.2)
      | .ret v => some (.ret v, x.2)
    else some (.next, ρ)
theorem ex_while {test : Expr} {body : List Stmt} {pos : Pos} {ft : DenB} {fb : DenS} (K : Nat) (ht : EvB prog w G hb n κ test ft) (hbd : Exs prog w G hb n κ sto body fb) : Ex prog w G hb n κ sto (.While test body [] pos) (whileD ft fb K) :=
  fun A env own wr ov ρ s E fl ρ' R S W O e Q hQ => by
    refine wpAny_While ?_
    let Inv : Nat → Shared → Prop := fun k s' => ∃ h' tk own' wr' ov' ρ₁, s' = { s with heap := h', toks := tk } ∧ Step own wr s.heap own' wr' h' ∧ Sim w G hb κ env own' ov' ρ₁ h' ∧ Wr env own' wr' sto ∧ (∀ p ∈ ov', p.2 ∈ wr') ∧ Pin sto ov ov' ∧ whileD ft fb k ρ₁ = some (fl, ρ')
    refine codeAny_whileLoop Inv ?_ K ⟨s.heap, s.toks, own, wr, ov, ρ, rfl, Step.refl _ _ _, S, W, O, Pin.refl _ _, e⟩
    rintro k s' ⟨h', tk, own', wr', ov', ρ₁, rfl, sp, S', W', O', pn, el⟩
    cases k with
    | zero => cases el
    | succ k =>
      obtain ⟨b, e1, el⟩ := Option.bind_eq_some_iff.mp el
      refine anyE (ht A env own' ov' ρ₁ _ b R S' e1 _ fun h1 tk1 x1 => ?_)
      have sp1 := sp.trans S.ltAll (Step.of_ext (own := own') (wr := wr') x1)
      cases b with
      | false =>
        simp only [Bool.false_eq_true, if_false] at el ⊢
        cases el
        exact wpAny_execs_nil (hQ .next h1 tk1 own' wr' ov' sp1 (S'.ext x1) W' O' ⟨rfl, pn⟩)
      | true =>
        simp only [if_true] at el ⊢
        obtain ⟨⟨fl3, ρ3⟩, e3, el⟩ := Option.bind_eq_some_iff.mp el
        refine hbd A env own' wr' ov' ρ₁ { s with heap := h1, toks := tk1 } _ fl3 ρ3 R (S'.ext x1) W' O' e3 _ fun r h4 tk4 own4 wr4 ov4 sp4 S4 W4 O4 F4 => ?_
        have sp4' := sp1.trans S.ltAll sp4
        cases fl3 with
        | next => obtain ⟨rfl, pn4⟩ := F4; exact ⟨k, Nat.lt_succ_self k, h4, tk4, own4, wr4, ov4, ρ3, rfl, sp4', S4, W4, O4, pn.trans pn4, el⟩
        | cont => obtain ⟨rfl, pn4⟩ := F4; exact ⟨k, Nat.lt_succ_self k, h4, tk4, own4, wr4, ov4, ρ3, rfl, sp4', S4, W4, O4, pn.trans pn4, el⟩
        | brk => obtain ⟨rfl, pn4⟩ := F4; cases el; exact hQ .next h4 tk4 own4 wr4 ov4 sp4' S4 W4 O4 ⟨rfl, pn.trans pn4⟩
        | ret d => obtain ⟨v4, rfl, q4⟩ := F4; cases el; exact hQ (.ret v4) h4 tk4 own4 wr4 ov4 sp4' S4 W4 O4 ⟨v4, rfl, q4⟩
end
end Mine
end
section
open PySem PySem.W PyProof.Rows PySem.Spec PySem.SeqAt
set_option maxRecDepth 100000
namespace Mine

section
variable {prog : Program} {w : World} {G : Str → Option Value} {hb : Heap} {n : Nat} {κ : Str → Option NameKind} {sto : Str → Bool}

/-! ## for over a list of one's own that grows -/
theorem own_ls {ρ : Rho} {x : Str} {ds : List D} (h : (ownOf ρ x).bind lsOf = some ds) : ownOf ρ x = some (.lst ds) := by
  obtain ⟨d, h1, h2⟩ := Option.bind_eq_some_iff.mp h
  rw [h1, lsOf_some h2]
noncomputable def growD (bind : D → Rho → Option Rho) (body : DenS) (x : Str) : Nat → Nat → Rho → Option (Flo × Rho)
  | 0, _, _ => none
  | k + 1, i, ρ => ((ownOf ρ x).bind lsOf).bind fun ds => match ds[i]? with
    | none => some (.next, ρ)
    | some d => (bind d ρ).bind fun ρ1 => (body ρ1).bind fun y => match y.1 with
      | .next => growD bind body x k (i + 1) y.2
      | .cont => growD bind body x k (i + 1) y.2
      | .brk => some (.next, y.2)
      | .ret v => some (.ret v, y.2)
theorem growD_ls {bind : D → Rho → Option Rho} {body : DenS} {x : Str} {k i : Nat} {ρ : Rho} {r : Flo × Rho} (e : growD bind body x (k + 1) i ρ = some r) : ∃ ds, ownOf ρ x = some (.lst ds) ∧ (ds[i]? = none ∧ (.next, ρ) = r ∨ ∃ d ρ1 y, ds[i]? = some d ∧ bind d ρ = some ρ1 ∧ body ρ1 = some y ∧ (match y.1 with
      | .next => growD bind body x k (i + 1) y.2
      | .cont => growD bind body x k (i + 1) y.2
      | .brk => some (.next, y.2)
      | .ret v => some (.ret v, y.2)) = some r) := by
  obtain ⟨ds, h1, e⟩ := Option.bind_eq_some_iff.mp (show ((ownOf ρ x).bind lsOf).bind _ = _ from e)
  refine ⟨ds, own_ls h1, ?_⟩
  cases hd : ds[i]? with
  | none => rw [hd] at e; exact .inl ⟨rfl, Option.some.inj e⟩
  | some d =>
    rw [hd] at e
    obtain ⟨ρ1, e1, e⟩ := Option.bind_eq_some_iff.mp (show (bind d ρ).bind _ = _ from e)
    obtain ⟨y, e2, e⟩ := Option.bind_eq_some_iff.mp e
    exact .inr ⟨d, ρ1, y, rfl, e1, e2, e⟩
noncomputable def stoBut (sto : Str → Bool) (x : Str) : Str → Bool := fun y => sto y && !(y == x)
noncomputable def dGrow (κ : Str → Option NameKind) (sto : Str → Bool) (K : Nat) (x : Str) (target : Expr) (bd : DenS) : DenS := fun ρ =>
  if κ x = some .local ∧ okName x = true then growD (dTarget κ (stoBut sto x) target) bd x K 0 ρ else none

theorem stoBut_pin {x : Str} {o₁ o₂ : List (Str × Addr)} (p : Pin (stoBut sto x) o₁ o₂) : Pin sto o₁ o₂ := fun y hy => p y (by simp [stoBut, hy])
theorem stoBut_wr {env : Env} {own own' wr' : List Addr} {ov : List (Str × Addr)} {ρ : Rho} {h : Heap} {x : Str} (S : Sim w G hb κ env own ov ρ h) (hx : κ x = some .local) (W : Wr env own' wr' (stoBut sto x)) : Wr env own' wr' sto :=
  ⟨W.sub, W.loc, fun y c hy hc => W.cel y c (by
    obtain ⟨vm, S⟩ := S
    have hk := S.eo.celK y c hc
    rw [S.kap] at hk
    simp only [stoBut, hy, Bool.true_and, Bool.not_eq_true', beq_eq_false_iff_ne, ne_eq]
    intro e
    rw [e, hx] at hk
    rcases hk with hk | hk <;> cases hk) hc⟩
theorem wr_stoBut {env : Env} {own' wr' : List Addr} {x : Str} (W : Wr env own' wr' sto) : Wr env own' wr' (stoBut sto x) :=
  ⟨W.sub, W.loc, fun y c hy hc => W.cel y c (by simp only [stoBut, Bool.and_eq_true] at hy; exact hy.1) hc⟩

theorem ex_grow {x : Str} {p pos : Pos} {target : Expr} {body : List Stmt} {bd : DenS} (K : Nat) (hbd : Exs prog w G hb n κ (stoBut sto x) body bd) : Ex prog w G hb n κ sto (.For target (.Name x p) body [] pos) (dGrow κ sto K x target bd) :=
  fun A env own wr ov ρ s E fl ρ' R S W O e Q hQ => by
    unfold dGrow at e
    split at e
    · rename_i hx
      obtain ⟨hxl, hxn⟩ := hx
      cases K with
      | zero => cases e
      | succ K =>
      obtain ⟨l1, el0, _⟩ := growD_ls e
      obtain ⟨a, o, ha, hao, hr, hin, rd⟩ := S.ownAt (prog := prog) (ownOf_some el0)
      simp only [ORep] at hr
      obtain ⟨⟨c1, c2, c3⟩, vs0, m0, dd0, lc0, rr0⟩ := hr
      have hl0 : s.heap.IsList a vs0 := ⟨o, hao, c1, m0, dd0⟩
      refine wpAny_For (rd _ _ _ _ _ rfl hxn (wpAny_pyIter_list hl0 ?_)) (noSet_fold rfl)
      generalize hI : s.heap.objs.size = I
      generalize hh1 : s.heap.push { cls := .type "list_iterator", data := .fields #[.ref a, .int 0 0] } = h1
      have x1 : Ext s.heap h1 := by rw [← hh1]; exact Ext.push _ _
      have hInone : s.heap.get? I = none := by rw [← hI]; exact get_size _
      have hIit : h1.IsListIter I a 0 := by rw [← hh1, ← hI]; exact ⟨_, Heap.get?_push_size _ rfl, rfl, rfl⟩
      have hIl : ∀ {h : Heap} {i : Nat}, h.IsListIter I a i → (h.get? I).isSome = true := fun ⟨o, q, _⟩ => by rw [q]; rfl
      have haI : a ≠ I := fun z => by rw [z, hInone] at hao; cases hao
      have hS1 : Sim w G hb κ env ([I] ++ own) ov ρ h1 := S.more x1 fun b hb => by rw [List.mem_singleton.mp hb]; exact ⟨hInone, hIl hIit⟩
      have hIpl : ∀ b ∈ [I], ¬ isPlace env b := fun b hb hm => by rw [List.mem_singleton.mp hb] at hm; exact isSome_none (S.ltAll I (let ⟨vm, S⟩ := S; S.place hm)) hInone
      have hIo : I ∉ own := fun hm => isSome_none (S.ltAll I hm) hInone
      let Inv : Nat → Shared → Prop := fun k s' => ∃ h' tk own' wr' ov' ρ₁ i, s' = { s with heap := h', toks := tk } ∧ Step own wr s.heap own' wr' h' ∧ Sim w G hb κ env own' ov' ρ₁ h' ∧ Wr env own' wr' sto ∧ (∀ p ∈ ov', p.2 ∈ wr') ∧ Pin sto ov ov' ∧
        ov'.lookup x = some a ∧ I ∈ own' ∧ I ∉ wr' ∧ h'.IsListIter I a i ∧ growD (dTarget κ (stoBut sto x) target) bd x k i ρ₁ = some (fl, ρ')
      refine codeAny_forLoop_any Inv ?_ (K + 1)
        ⟨h1, s.toks, [I] ++ own, wr, ov, ρ, 0, rfl, ⟨fun b o' _ q => x1 b o' q, fun b q => x1.some q, fun b hb => (List.mem_append.mp hb).elim (fun q => .inr (by rw [List.mem_singleton.mp q]; exact hInone)) .inl, fun b hb => .inl hb, fun b hb => .inl (List.mem_append_right _ hb)⟩,
          hS1, ⟨fun b hb => List.mem_append_right _ (W.sub b hb), W.loc, W.cel⟩, O, Pin.refl _ _, ha, List.mem_append_left _ (List.mem_singleton.mpr rfl), fun hm => hIo (W.sub I hm), hIit, e⟩
      rintro k s' ⟨h', tk, own', wr', ov', ρ₁, i, rfl, sp, S', W', O', pn, ha', hIo', hIw, hit, el⟩
      cases k with
      | zero => cases el
      | succ k =>
      obtain ⟨ds, el2, el⟩ := growD_ls el
      obtain ⟨a2, o2, ha2, hao2, hr2, hin2, _⟩ := S'.ownAt (prog := prog) (ownOf_some el2)
      rw [ha'] at ha2
      cases ha2
      simp only [ORep] at hr2
      obtain ⟨⟨d1, d2, d3⟩, vs, m, dd, lc, rr⟩ := hr2
      have hl : h'.IsList a vs := ⟨o2, hao2, d1, m, dd⟩
      have hov : ∀ p ∈ ov', p.2 ∉ [I] := fun p hp hm => hIw (by rw [← List.mem_singleton.mp hm]; exact O' p hp)
      have hz := rr.length
      rcases el with ⟨hd, el⟩ | ⟨d, ρ2, ⟨fl3, ρ3⟩, hd, e2, e3, el⟩
      · cases el
        refine wpAny_pyNext_list_end (s := { s with heap := h', toks := tk }) R.hd hit hl (by simp at hd hz ⊢; exact om_49 hz hd) fun h2 he => wpAny_execs_nil ?_
        have kp : Kept [I] h' h2 := fun b o hb q => he b o (by simpa using hb) q
        let own2 := own'.filter (fun b => !(b == I))
        have m2 : ∀ b, b ∈ own2 ↔ b ∈ own' ∧ b ∉ [I] := fun b => by simp [own2]
        have S2 : Sim w G hb κ env own2 ov' ρ' h2 := S'.drop kp (fun b hb => by rw [List.mem_singleton.mp hb]; exact hIo') hIpl hov (fun b hb => (m2 b).mp hb) fun b hb hn => (m2 b).mpr ⟨hb, hn⟩
        have hne : ∀ b, (s.heap.get? b).isSome = true → b ∉ [I] := fun b eb hm => isSome_none eb (by rw [List.mem_singleton.mp hm]; exact hInone)
        refine hQ .next h2 tk own2 wr' ov' ⟨fun b o hb eb => kp b o (hne b (by rw [eb]; rfl)) (sp.keep b o hb eb), fun b eb => ?_, fun b hb => sp.ownNew b ((m2 b).mp hb).1, sp.wrNew, fun b hb => ?_⟩ S2 ⟨fun b hb => (m2 b).mpr ⟨W'.sub b hb, fun hm => hIw (List.mem_singleton.mp hm ▸ hb)⟩, W'.loc, W'.cel⟩ O' ⟨rfl, pn⟩
        · obtain ⟨o, q⟩ := Option.isSome_iff_exists.mp (sp.live b eb)
          rw [kp b o (hne b eb) q]; rfl
        · exact (sp.stay b hb).elim (fun q => .inl ((m2 b).mpr ⟨q, hne b (S.ltAll b hb)⟩)) .inr
      · obtain ⟨v, hv, rv⟩ := rr.get hd
        have hv' : vs[i]? = some v := by simpa using hv
        refine wpAny_pyNext_list_item (s := { s with heap := h', toks := tk }) hit hl hv' fun h2 hit2 sb2 => ?_
        obtain ⟨oI, qI, qc, _⟩ := id hit2
        refine letGo_plain (T := "list_iterator") qI qc (by decide) ?_
        have kp2 : Kept [I] h' h2 := fun b o hb q => sb2.extBut b o (by simpa using hb) q
        have S2 := S'.iter kp2 (fun b hb => by rw [List.mem_singleton.mp hb]; exact hIl hit2) (fun b hb => by rw [List.mem_singleton.mp hb]; exact hIo') hIpl hov
        have lv2 : ∀ b, (h'.get? b).isSome = true → (h2.get? b).isSome = true := fun b eb => SameBut.live sb2 (hIl hit2) eb
        have sp2 : Step own wr s.heap own' wr' h2 := ⟨fun b o hb eb => kp2 b o (fun hm => by rw [List.mem_singleton.mp hm, hInone] at eb; cases eb) (sp.keep b o hb eb), fun b eb => lv2 b (sp.live b eb), sp.ownNew, sp.wrNew, sp.stay⟩
        have le2 : Le (Fz own' h') (Fz own' h2) := fun b o q => Fz.of (Fz.get q).1 (kp2 b o (fun hm => (Fz.get q).1 (by rw [List.mem_singleton.mp hm]; exact hIo')) (Fz.get q).2)
        refine asn_target R S2 (wr_stoBut W') (Rep.mono le2 _ rv) e2 fun h3 tk3 sp3 S3 => ?_
        have hit3 : h3.IsListIter I a (i + 1) := hit2.at fun o q => sp3.keep I o hIw q
        refine hbd A env own' wr' ov' ρ2 { s with heap := h3, toks := tk3 } _ fl3 ρ3 R S3 (wr_stoBut W') O' e3 _ fun r h4 tk4 own4 wr4 ov4 sp4 S4 W4 O4 F4 => ?_
        have sp34 := sp3.trans S2.ltAll sp4
        have sp4' := sp2.trans S.ltAll sp34
        have W4' := stoBut_wr S4 hxl W4
        have again : Pin (stoBut sto x) ov' ov4 → growD (dTarget κ (stoBut sto x) target) bd x k (i + 1) ρ3 = some (fl, ρ') → Inv k { s with heap := h4, toks := tk4 } := fun pn4 el =>
          ⟨h4, tk4, own4, wr4, ov4, ρ3, i + 1, rfl, sp4', S4, W4', O4, pn.trans (stoBut_pin pn4), (pn4 x (by simp [stoBut])).trans ha', (sp34.stay I hIo').elim id fun q => absurd q hIw, fun hm => (sp34.wrNew I hm).elim hIw fun q => isSome_none (hIl hit2) q,
            hit3.at fun o q => sp4.keep I o hIw q, el⟩
        cases fl3 with
        | next => obtain ⟨rfl, pn4⟩ := F4; exact ⟨k, Nat.lt_succ_self k, again pn4 el⟩
        | cont => obtain ⟨rfl, pn4⟩ := F4; exact ⟨k, Nat.lt_succ_self k, again pn4 el⟩
        | brk => obtain ⟨rfl, pn4⟩ := F4; cases el; exact hQ .next h4 tk4 own4 wr4 ov4 sp4' S4 W4' O4 ⟨rfl, pn.trans (stoBut_pin pn4)⟩
        | ret d => obtain ⟨v4, rfl, q4⟩ := F4; cases el; exact hQ (.ret v4) h4 tk4 own4 wr4 ov4 sp4' S4 W4' O4 ⟨v4, rfl, q4⟩
    · cases e

/-- one of two readings -/
theorem ex_either {st : Stmt} {f g : DenS} {c : Rho → Bool} (hf : Ex prog w G hb n κ sto st f) (hg : Ex prog w G hb n κ sto st g) : Ex prog w G hb n κ sto st (fun ρ => if c ρ then f ρ else g ρ) :=
  fun A env own wr ov ρ s E fl ρ' R S W O e Q hQ => by
    simp only at e
    split at e
    · exact hf A env own wr ov ρ s E fl ρ' R S W O e Q hQ
    · exact hg A env own wr ov ρ s E fl ρ' R S W O e Q hQ

/-- a variable's own object is laid down -/
noncomputable def layOne (x : Str) (ρ : Rho) : Rho := match ownOf ρ x with
  | some d => upd ρ x (.frz d)
  | none => ρ
noncomputable def dLayOne (sto : Str → Bool) (x : Str) (f : DenS) : DenS := fun ρ => if sto x then f (layOne x ρ) else none
theorem ex_layOne {st : Stmt} {f : DenS} (x : Str) (h : Ex prog w G hb n κ sto st f) : Ex prog w G hb n κ sto st (dLayOne sto x f) :=
  fun A env own wr ov ρ s E fl ρ' R S W O e Q hQ => by
    unfold dLayOne at e
    split at e
    · rename_i hsx
      unfold layOne at e
      split at e
      · rename_i d hd
        obtain ⟨a, o, ha, hao, hr, hin, _⟩ := S.ownAt (prog := prog) (ownOf_some hd)
        have hm := mem_of_lookup ha
        let own1 := own.filter (fun b => !(b == a))
        let wr1 := wr.filter (fun b => !(b == a))
        let ov1 := ov.filter (fun q => !(q.1 == x))
        have m1 : ∀ b, b ∈ own1 ↔ b ∈ own ∧ b ≠ a := fun b => by simp [own1]
        have mw : ∀ b, b ∈ wr1 ↔ b ∈ wr ∧ b ≠ a := fun b => by simp [wr1]
        have mo : ∀ q, q ∈ ov1 ↔ q ∈ ov ∧ q.1 ≠ x := fun q => by simp [ov1]
        have look : ∀ (l : List (Str × Addr)) y, y ≠ x → (l.filter (fun q => !(q.1 == x))).lookup y = l.lookup y := by
          intro l y hy
          induction l with
          | nil => rfl
          | cons q l ih =>
            obtain ⟨z, b⟩ := q
            by_cases hz : z = x
            · subst hz
              have : (y == z) = false := by simpa using hy
              rw [List.filter_cons_of_neg (by simp), List.lookup_cons, this, ih]
            · rw [List.filter_cons_of_pos (by simpa using hz), List.lookup_cons, List.lookup_cons, ih]
        have hfew : ∀ b ∈ own1, b ∈ own := fun b hb => ((m1 b).mp hb).1
        have hapart : ∀ q ∈ ov, q.1 ≠ x → q.2 ≠ a := fun q hq hne e => by
          obtain ⟨vm, S⟩ := S
          exact hne (Sim.mutate.map_inj_of_nodup S.ovInj (show (q.1, a) ∈ ov by rw [← e]; exact hq) hm)
        have hplace : ∀ b, isPlace env b → b ≠ a := fun b hb e => by
          obtain ⟨vm, S⟩ := S
          exact (S.ovIn _ hm).2 (e ▸ hb)
        have S1 : Sim w G hb κ env own1 ov1 (upd ρ x (.frz d)) s.heap := by
          obtain ⟨vm, S⟩ := S
          refine ⟨vm, S.eo.keep (fun b hb hp => (m1 b).mpr ⟨hb, hplace b hp⟩) (fun _ _ _ e => e), S.kap, S.bas, S.ext, fun b hb => S.high b (hfew b hb), fun b hb => S.lt b (hfew b hb), fun y b hy => ?_, fun q hq => ?_, ?_⟩
          · unfold upd at hy
            split at hy
            · rename_i ey
              subst ey
              cases hy
              obtain ⟨k, v, h1, a2, o2, rfl, h2, h3, h4⟩ := S.vars y _ (ownOf_some hd)
              rw [ha] at h2
              cases h2
              exact ⟨k, .ref a, h1, Rep.of_obj (Fz.of (fun hq => ((m1 a).mp hq).2 rfl) h3) (h4.mono (Fz.fewer hfew))⟩
            · rename_i ey
              obtain ⟨k, v, h1, h2⟩ := S.vars y b hy
              refine ⟨k, v, h1, ?_⟩
              cases b with
              | frz d2 => exact Rep.mono (Fz.fewer hfew) d2 h2
              | own d2 => obtain ⟨a2, o2, q1, q2, q3, q4⟩ := h2; exact ⟨a2, o2, q1, (look ov y ey).trans q2, q3, q4.mono (Fz.fewer hfew)⟩
          · obtain ⟨h1, h2⟩ := (mo q).mp hq
            exact ⟨(m1 _).mpr ⟨(S.ovIn q h1).1, hapart q h1 h2⟩, (S.ovIn q h1).2⟩
          · exact List.Nodup.sublist (List.Sublist.map _ (List.filter_sublist)) S.ovInj
        have W1 : Wr env own1 wr1 sto := ⟨fun b hb => (m1 b).mpr ⟨W.sub b ((mw b).mp hb).1, ((mw b).mp hb).2⟩, (mw _).mpr ⟨W.loc, hplace _ (.inl rfl)⟩, fun y c hy hc => (mw c).mpr ⟨W.cel y c hy hc, hplace c (.inr ⟨y, hc⟩)⟩⟩
        have st1 : Step own wr s.heap own1 wr1 s.heap := ⟨fun _ _ _ e => e, fun _ e => e, fun b hb => .inl (hfew b hb), fun b hb => .inl ((mw b).mp hb).1, fun b hb => by
          by_cases q : b = a
          · exact .inr (q ▸ O _ hm)
          · exact .inl ((m1 b).mpr ⟨hb, q⟩)⟩
        have pn1 : Pin sto ov ov1 := fun y hy => look ov y (fun e => by rw [e, hsx] at hy; cases hy)
        exact h A env own1 wr1 ov1 _ s E fl ρ' R S1 W1 (fun q hq => (mw _).mpr ⟨O q ((mo q).mp hq).1, hapart q ((mo q).mp hq).1 ((mo q).mp hq).2⟩) e Q fun r h' tk own' wr' ov' st S' W' O' F => hQ r h' tk own' wr' ov' (st1.trans S.ltAll st) S' W' O' (F.pin pn1)
      · exact h A env own wr ov ρ s E fl ρ' R S W O e Q hQ
    · cases e
end
end Mine
end
section
open PySem PySem.W PyProof.Rows PySem.Spec PySem.SeqAt
set_option maxRecDepth 100000
namespace Mine

section
variable {prog : Program} {w : World} {G : Str → Option Value} {hb : Heap} {n : Nat} {κ : Str → Option NameKind} {sto : Str → Bool}

/-! ## a, b = v -/
noncomputable def dUnpack (κ : Str → Option NameKind) (sto : Str → Bool) (t : Expr) (fv : Den) : DenS := fun ρ =>
  (dFrz fv ρ).bind fun v => (dTarget κ sto t v ρ).map fun ρ' => (.next, ρ')
theorem ex_unpack {es : List Expr} {k : Nat} {tp pos : Pos} {value : Expr} {fv : Den} (hsw : ∀ env, swapsWithSole [.Tuple es k tp] value pos.line env = pure false) (hss : ∀ env, swappedStores [.Tuple es k tp] value env = pure none)
    (hv : Ev prog w G hb n κ value fv) : Ex prog w G hb n κ sto (.Assign [.Tuple es k tp] value pos) (dUnpack κ sto (.Tuple es k tp) fv) :=
  fun A env own wr ov ρ s E fl ρ' R S W O e Q hQ => by
    obtain ⟨v, e1, e⟩ := Option.bind_eq_some_iff.mp e
    obtain ⟨ρ1, e2, e⟩ := Option.map_eq_some_iff.mp e
    cases e
    obtain ⟨f1, e1, hl⟩ := dFrz_some e1
    refine Assign_Tuple (anyE (hv A env own ov ρ s f1 v R S e1 _ fun u h1 tk1 x1 r1 => ?_)) (hsw env) (hss env)
    exact asn_target (s := { s with heap := h1, toks := tk1 }) R (S.ext x1) W (r1.frz hl S.ltAll) e2 fun h2 tk2 st2 S2 => hQ .next h2 tk2 own wr ov ((Step.of_ext x1).trans S.ltAll st2) S2 W O ⟨rfl, Pin.refl _ _⟩

/-! ## a, b = (v, u) -/
abbrev Held := Bool × D × Value
noncomputable def HeldOk (w : World) (own : List Addr) (h : Heap) : Held → Prop
  | (true, d, v) => ∃ a o, v = .ref a ∧ h.get? a = some o ∧ ORep w (Fz own h) a o d
  | (false, d, v) => Rep w (Fz own h) d v
noncomputable def addrOf : Held → Option Addr
  | (true, _, .ref a) => some a
  | _ => none
noncomputable def addrsOf (l : List Held) : List Addr := l.filterMap addrOf
structure Hold (w : World) (env : Env) (own wr : List Addr) (ov : List (Str × Addr)) (h : Heap) (items : List Held) : Prop where
  ok : ∀ it ∈ items, HeldOk w own h it
  nd : (addrsOf items).Nodup
  ap : ∀ a ∈ addrsOf items, a ∈ wr ∧ ¬ isPlace env a ∧ ∀ p ∈ ov, p.2 ≠ a

theorem HeldOk.mono {own own' : List Addr} {h h' : Heap} {it : Held} (x : HeldOk w own h it) (le : Le (Fz own h) (Fz own' h')) (hk : ∀ a ∈ addrOf it, h'.get? a = h.get? a) : HeldOk w own' h' it := by
  obtain ⟨b, d, v⟩ := it
  cases b with
  | false => exact Rep.mono le d x
  | true =>
    obtain ⟨a, o, rfl, q, r⟩ := x
    exact ⟨a, o, rfl, (hk a rfl).trans q, r.mono le⟩
theorem addrsOf_mem {l : List Held} {it : Held} {a : Addr} (hm : it ∈ l) (ha : a ∈ addrOf it) : a ∈ addrsOf l := List.mem_filterMap.mpr ⟨it, hm, ha⟩

noncomputable def heldD : Fl → Bool → Option Bool
  | .fresh, b => some b
  | .frozen, _ => some false
  | .loose, _ => none
noncomputable def dHold (FE : Expr → Den) : List (Expr × Bool) → Rho → Option (List (Bool × D))
  | [], _ => some []
  | x :: es, ρ => if isStarred x.1 = false then (FE x.1 ρ).bind fun y => (heldD y.1 x.2).bind fun c => (dHold FE es ρ).map fun xs => (c, y.2) :: xs else none

theorem hold_go {FE : Expr → Den} (hE : ∀ c, Ev prog w G hb n κ c (FE c)) {A : Around} {env : Env} {ov : List (Str × Addr)} {ρ : Rho} {pos : Pos} (R : Room A n) :
    ∀ (es : List (Expr × Bool)) (own wr : List Addr) (s : Shared) (xs : List (Bool × D)) (Q : List Value → Shared → Prop), Sim w G hb κ env own ov ρ s.heap → Wr env own wr sto → (∀ p ∈ ov, p.2 ∈ wr) → dHold FE es ρ = some xs →
      (∀ items h' tk own' wr', Ext s.heap h' → Step own wr s.heap own' wr' h' → Sim w G hb κ env own' ov ρ h' → Wr env own' wr' sto → (∀ p ∈ ov, p.2 ∈ wr') → Hold w env own' wr' ov h' items → items.length = es.length ∧ items.map (fun i => (i.1, i.2.1)) = xs → (∀ a ∈ addrsOf items, s.heap.get? a = none) → (∀ a ∈ own, a ∈ own') → (∀ a ∈ wr, a ∈ wr') →
        Q (items.map (·.2.2)) { s with heap := h', toks := tk }) →
      wpAny (model prog w) A (spliced (backTo pos (starEach (es.map (·.1)) env))) Q NoE s
  | [], own, wr, s, xs, Q, S, W, O, e, hQ => by
    cases e
    exact wpAny_pure (hQ [] s.heap s.toks own wr (Ext.refl _) (Step.refl _ _ _) S W O ⟨fun _ h => (nomatch h), List.nodup_nil, fun _ h => (nomatch h)⟩ ⟨rfl, rfl⟩ (fun _ h => (nomatch h)) (fun _ h => h) (fun _ h => h))
  | (e0, b) :: es, own, wr, s, xs, Q, S, W, O, e, hQ => by
      obtain ⟨hst, e⟩ := if_of e
      obtain ⟨⟨f1, d1⟩, e1, e⟩ := Option.bind_eq_some_iff.mp e
      obtain ⟨c1, e3, e⟩ := Option.bind_eq_some_iff.mp e
      obtain ⟨ys, e2, e⟩ := Option.map_eq_some_iff.mp e
      cases e
      have hse : starEach (((e0, b) :: es).map (·.1)) env = (false, eval e0 env) :: starEach (es.map (·.1)) env := starEach_plain hst _ env
      have hbt : ∀ (x : Sem Value) (l : List (Bool × Sem Value)), backTo pos ((false, x) :: l) = (false, x) :: backTo pos l := fun _ _ => rfl
      rw [hse, hbt]
      refine Calls.spliced_cons (hE e0 A env own ov ρ s f1 d1 R S e1 (fun v s₁ => wpAny (model prog w) A (spliced (backTo pos (starEach (es.map (·.1)) env))) (fun vs => Q (v :: vs)) NoE s₁) fun v h1 tk1 x1 r1 => ?_)
      have S1 := S.ext x1
      cases c1 with
      | false =>
        have hl : f1 ≠ .loose := fun q => by rw [q] at e3; cases e3
        refine hold_go hE R es own wr _ ys _ S1 W O e2 fun items h2 tk2 own2 wr2 x2 st2 S2 W2 O2 H2 hm hn ho hw => ?_
        have le2 := st2.le W.sub
        refine hQ ((false, d1, v) :: items) h2 tk2 own2 wr2 (x1.trans x2) ((Step.of_ext x1).trans S.ltAll st2) S2 W2 O2 ⟨fun it hi => ?_, H2.nd, H2.ap⟩ ⟨congrArg Nat.succ hm.1, congrArg (List.cons _) hm.2⟩ (fun a ha => x1.none (hn a ha)) ho hw
        rcases List.mem_cons.mp hi with rfl | hi
        · exact Rep.mono le2 _ (r1.frz hl S.ltAll)
        · exact H2.ok it hi
      | true =>
          obtain rfl : f1 = .fresh := by cases f1 <;> first | rfl | cases e3
          obtain ⟨a, o, rfl, h2, h3, h4⟩ := r1
          have hao : a ∉ own := fun q => isSome_none (S.ltAll a q) h2
          have S1' : Sim w G hb κ env ([a] ++ own) ov ρ h1 := S.more x1 fun c hc => by rw [List.mem_singleton.mp hc]; exact ⟨h2, by rw [h3]; rfl⟩
          have W1 : Wr env ([a] ++ own) (a :: wr) sto := ⟨fun c hc => (List.mem_cons.mp hc).elim (fun q => q ▸ List.mem_cons_self) fun q => List.mem_append_right _ (W.sub c q), List.mem_cons_of_mem _ W.loc, fun y c hy q => List.mem_cons_of_mem _ (W.cel y c hy q)⟩
          refine hold_go hE R es ([a] ++ own) (a :: wr) _ ys _ S1' W1 (fun p hp => List.mem_cons_of_mem _ (O p hp)) e2 fun items k2 tk2 own2 wr2 x2 st2 S2 W2 O2 H2 hm hn ho hw => ?_
          have st1 : Step own wr s.heap ([a] ++ own) (a :: wr) h1 := ⟨fun c o' _ q => x1 c o' q, fun c q => x1.some q, fun c hc => (List.mem_append.mp hc).elim (fun q => .inr (by rw [List.mem_singleton.mp q]; exact h2)) .inl, fun c hc => (List.mem_cons.mp hc).elim (fun q => .inr (q ▸ h2)) .inl, fun c hc => .inl (List.mem_append_right _ hc)⟩
          have le2 : Le (Fz ([a] ++ own) h1) (Fz own2 k2) := st2.le W1.sub
          have hapl : ¬ isPlace env a := fun q => hao (let ⟨vm, S⟩ := S; S.place q)
          refine hQ ((true, d1, .ref a) :: items) k2 tk2 own2 wr2 (x1.trans x2) (st1.trans S.ltAll st2) S2 W2 O2 ⟨fun it hi => ?_, ?_, fun c hc => ?_⟩ ⟨congrArg Nat.succ hm.1, congrArg (List.cons _) hm.2⟩ (fun c hc => ?_) (fun c hc => ho c (List.mem_append_right _ hc)) fun c hc => hw c (List.mem_cons_of_mem _ hc)
          · rcases List.mem_cons.mp hi with rfl | hi
            · exact ⟨a, o, rfl, x2 _ _ h3, h4.mono le2⟩
            · exact H2.ok it hi
          · show (a :: addrsOf items).Nodup
            refine List.nodup_cons.mpr ⟨fun q => ?_, H2.nd⟩
            have := hn a q
            rw [h3] at this; cases this
          · rcases List.mem_cons.mp (show c ∈ a :: addrsOf items from hc) with rfl | hc
            · exact ⟨hw _ List.mem_cons_self, hapl, fun p hp q => hao (q ▸ (let ⟨vm, S⟩ := S; (S.ovIn p hp).1))⟩
            · exact H2.ap c hc
          · rcases List.mem_cons.mp (show c ∈ a :: addrsOf items from hc) with rfl | hc
            · exact h2
            · exact x1.none (hn c hc)

/-- a store of a held value -/
noncomputable def StoreOk (prog : Program) (w : World) (G : Str → Option Value) (hb : Heap) (n : Nat) (κ : Str → Option NameKind) (sto : Str → Bool) (A : Around) (env : Env) (t : Value → Sem Unit) (g : Bool × D → Rho → Option Rho) : Prop :=
  ∀ (own wr : List Addr) (ov : List (Str × Addr)) (ρ ρ' : Rho) (s : Shared) (it : Held) (E : Value → Shared → Prop) (Q : Unit → Shared → Prop), Sim w G hb κ env own ov ρ s.heap → Wr env own wr sto → (∀ p ∈ ov, p.2 ∈ wr) → Hold w env own wr ov s.heap [it] → g (it.1, it.2.1) ρ = some ρ' →
    (∀ h' tk ov', Step own wr s.heap own wr h' → Sim w G hb κ env own ov' ρ' h' → (∀ p ∈ ov', p.2 ∈ wr) → Pin sto ov ov' → (∀ a, ¬ isPlace env a → (∀ p ∈ ov, p.2 ≠ a) → (s.heap.get? a).isSome = true → h'.get? a = s.heap.get? a) → (∀ p ∈ ov', p ∈ ov ∨ p.2 ∈ addrsOf [it]) → Q () { s with heap := h', toks := tk }) →
    wpAny (model prog w) A (t it.2.2) Q E s

noncomputable def dName1 (κ : Str → Option NameKind) (sto : Str → Bool) (x : Str) (y : Bool × D) (ρ : Rho) : Option Rho := if okT κ sto x then some (upd ρ x (if y.1 then .own y.2 else .frz y.2)) else none
theorem store_name {A : Around} {env : Env} {x : Str} {t : Value → Sem Unit} (ht : ∀ (v : Value) (E : Value → Shared → Prop) (s : Shared) (Q : Unit → Shared → Prop), wpAny (model prog w) A (storeName env x v) Q E s → wpAny (model prog w) A (t v) Q E s) : StoreOk prog w G hb n κ sto A env t (dName1 κ sto x) :=
  fun own wr ov ρ ρ' s it E Q S W O H e hQ => by
    unfold dName1 at e
    split at e
    · rename_i hx
      cases e
      have hk := okT_kinds hx
      have hov := (let ⟨vm, S⟩ := S; S.ovIn : ∀ p ∈ ov, p.2 ∈ own ∧ ¬ isPlace env p.2)
      have hinj := (let ⟨vm, S⟩ := S; S.ovInj : (ov.map (·.2)).Nodup)
      obtain ⟨b, d, v⟩ := it
      have hit := H.ok _ List.mem_cons_self
      cases b with
      | false =>
        refine ht v E s Q (S.bind (ov' := ov) (b := .frz d) hk.1 hov hinj (fun _ _ => rfl) hit fun h' tk p hp hpo sb lv S2 => ?_)
        have hpp : isPlace env p := hp.elim .inl fun q => .inr ⟨x, q⟩
        exact hQ h' tk ov (W.step hk.2 hp sb lv) S2 O (Pin.refl _ _) (fun a ha _ _ => sb.2 a (fun q => ha (q ▸ hpp))) fun p hp => .inl hp
      | true =>
        obtain ⟨a, o, rfl, q, r⟩ := hit
        obtain ⟨h1, h2, h3⟩ := H.ap a (show a ∈ addrsOf [(true, d, .ref a)] from List.mem_cons_self)
        refine ht _ E s Q (S.bind (ov' := (x, a) :: ov) (b := .own d) hk.1 (fun p hp => ?_) ?_ (fun y hy => ?_) ⟨a, o, rfl, by simp, q, r⟩ fun h' tk p hp hpo sb lv S2 => ?_)
        · rcases List.mem_cons.mp hp with rfl | hp
          · exact ⟨W.sub _ h1, h2⟩
          · exact hov p hp
        · rw [List.map_cons, List.nodup_cons]
          refine ⟨fun hm => ?_, hinj⟩
          obtain ⟨p, hp, e⟩ := List.mem_map.mp hm
          exact h3 p hp e
        · have : (y == x) = false := by simpa using hy
          rw [List.lookup_cons, this]
        · have hpp : isPlace env p := hp.elim .inl fun q => .inr ⟨x, q⟩
          refine hQ h' tk ((x, a) :: ov) (W.step hk.2 hp sb lv) S2 (fun p hp => (List.mem_cons.mp hp).elim (fun e => e ▸ h1) (O p)) (Pin.cons hk.2) (fun a ha _ _ => sb.2 a (fun q => ha (q ▸ hpp))) fun p hp => ?_
          exact (List.mem_cons.mp hp).elim (fun e => .inr (by rw [e]; exact List.mem_cons_self)) .inl
    · cases e

noncomputable def dSub1 (κ : Str → Option NameKind) (x : Str) (fi : Den) (y : Bool × D) (ρ : Rho) : Option Rho := if y.1 then none else dStore κ x fi y.2 ρ
theorem store_sub {A : Around} {env : Env} {x : Str} {p p2 : Pos} {i : Expr} {fi : Den} (R : Room A n) (hi : Ev prog w G hb n κ i fi) : StoreOk prog w G hb n κ sto A env (assign (.Subscript (.Name x p) i p2) env) (dSub1 κ x fi) :=
  fun own wr ov ρ ρ' s it E Q S W O H e hQ => by
    unfold dSub1 at e
    split at e
    · cases e
    · rename_i hb'
      obtain ⟨b, d, v⟩ := it
      cases b with
      | true => exact absurd rfl hb'
      | false =>
        exact asn_store R hi S W O (H.ok _ List.mem_cons_self) e fun h' tk st S2 hk => hQ h' tk ov st S2 O (Pin.refl _ _) (fun a _ ha hl => hk a ha hl) fun p hp => .inl hp

noncomputable def storesD : List (Bool × D → Rho → Option Rho) → List (Bool × D) → Rho → Option Rho
  | [], ys, ρ => match ys with
    | [] => some ρ
    | _ :: _ => none
  | g :: gs, ys, ρ => match ys with
    | [] => none
    | y :: ys => (g y ρ).bind fun ρ1 => storesD gs ys ρ1

theorem stores_go {A : Around} {env : Env} : ∀ (ts : List (Value → Sem Unit)) (gs : List (Bool × D → Rho → Option Rho)) (items : List Held) (own wr : List Addr) (ov : List (Str × Addr)) (ρ ρ' : Rho) (s : Shared) (E : Value → Shared → Prop) (Q : Unit → Shared → Prop),
    ts.length = gs.length → (∀ (i : Nat) t g, ts[i]? = some t → gs[i]? = some g → StoreOk prog w G hb n κ sto A env t g) → Sim w G hb κ env own ov ρ s.heap → Wr env own wr sto → (∀ p ∈ ov, p.2 ∈ wr) → Hold w env own wr ov s.heap items →
    storesD gs (items.map fun i => (i.1, i.2.1)) ρ = some ρ' → (∀ h' tk ov', Step own wr s.heap own wr h' → Sim w G hb κ env own ov' ρ' h' → (∀ p ∈ ov', p.2 ∈ wr) → Pin sto ov ov' → Q () { s with heap := h', toks := tk }) →
    wpAny (model prog w) A (assignInOrder ts (items.map (·.2.2))) Q E s
  | [], [], items, own, wr, ov, ρ, ρ', s, E, Q, _, _, S, W, O, H, e, hQ => by
    cases items with
    | nil => cases e; exact wpAny_pure (hQ s.heap s.toks ov (Step.refl _ _ _) S O (Pin.refl _ _))
    | cons it items => cases e
  | t :: ts, g :: gs, [], own, wr, ov, ρ, ρ', s, E, Q, _, _, _, _, _, _, e, _ => by cases e
  | t :: ts, g :: gs, it :: items, own, wr, ov, ρ, ρ', s, E, Q, hl, hall, S, W, O, H, e, hQ => by
    obtain ⟨ρ1, e1, e⟩ := Option.bind_eq_some_iff.mp e
    show wpAny _ _ (do holding (items.map (·.2.2)) (t it.2.2); assignInOrder ts (items.map (·.2.2))) _ _ _
    have hsplit : addrsOf (it :: items) = addrsOf [it] ++ addrsOf items := by
      simp only [addrsOf, List.filterMap_cons, List.filterMap_nil]
      cases addrOf it <;> rfl
    have hnd := H.nd
    rw [hsplit] at hnd
    have hnd' := List.nodup_append.mp hnd
    have H1 : Hold w env own wr ov s.heap [it] := ⟨fun x hx => by rw [List.mem_singleton.mp hx]; exact H.ok it List.mem_cons_self, hnd'.1, fun a ha => H.ap a (by rw [hsplit]; exact List.mem_append_left _ ha)⟩
    refine wpAny_bind (wpAny_holding (hall 0 t g rfl rfl own wr ov ρ ρ1 s it E _ S W O H1 e1 fun h1 tk1 ov1 st1 S1 O1 P1 hk1 ho1 => ?_))
    have hlive : ∀ a ∈ addrsOf items, (s.heap.get? a).isSome = true := fun a ha => S.ltAll a (W.sub a (H.ap a (by rw [hsplit]; exact List.mem_append_right _ ha)).1)
    have H2 : Hold w env own wr ov1 h1 items := by
      refine ⟨fun x hx => (H.ok x (List.mem_cons_of_mem _ hx)).mono (st1.le W.sub) fun a ha => ?_, hnd'.2.1, fun a ha => ?_⟩
      · have hm := addrsOf_mem hx ha
        have ap := H.ap a (by rw [hsplit]; exact List.mem_append_right _ hm)
        exact hk1 a ap.2.1 ap.2.2 (hlive a hm)
      · have ap := H.ap a (by rw [hsplit]; exact List.mem_append_right _ ha)
        refine ⟨ap.1, ap.2.1, fun p hp q => ?_⟩
        rcases ho1 p hp with h | h
        · exact ap.2.2 p h q
        · exact hnd'.2.2 p.2 h a ha q
    exact stores_go ts gs items own wr ov1 ρ1 ρ' _ E Q (by simpa using hl) (fun i t' g' ht hg => hall (i + 1) t' g' (by simpa using ht) (by simpa using hg)) S1 W O1 H2 e fun h2 tk2 ov2 st2 S2 O2 P2 => hQ h2 tk2 ov2 (st1.trans S.ltAll st2) S2 O2 (P1.trans P2)
  | [], _ :: _, _, _, _, _, _, _, _, _, _, hl, _, _, _, _, _, _, _ => by simp at hl
  | _ :: _, [], _, _, _, _, _, _, _, _, _, hl, _, _, _, _, _, _, _ => by simp at hl
end
end Mine
end
section
open PySem PySem.W PyProof.Rows PySem.Spec PySem.SeqAt
set_option maxRecDepth 100000
namespace Mine

section
variable {prog : Program} {w : World} {G : Str → Option Value} {hb : Heap} {n : Nat} {κ : Str → Option NameKind} {sto : Str → Bool}

theorem ite_same {α : Type} {c : Prop} {_ : Decidable c} {x y : α} (h : y = x) : (if c then x else y) = x := by
  by_cases q : c
  · exact if_pos q
  · exact (if_neg q).trans h
/-- the stores are not turned round: not every target is a plain local name -/
noncomputable def noSwap (κ : Str → Option NameKind) (ts : List Expr) : Bool := (ts.filterMap fun
      | .Name id pos => if κ id == some .local && pos.line == (ts.head?.map (·.pos.line)).getD 0 then some id else none
      | _ => none).length != ts.length
theorem noSwap_eq {ts vs : List Expr} {k k2 : Nat} {tp vp : Pos} {env : Env} (h : noSwap env.kindOf ts = true) : swappedStores [.Tuple ts k tp] (.Tuple vs k2 vp) env = pure none := by
  refine ite_same (ite_same (if_pos ?_))
  exact (congrArg (· || _) h).trans (Bool.true_or _)
theorem assignEach_plain : ∀ {ts : List Expr} (env : Env), (ts.all fun t => !isStarred t) = true → assignEach ts env = ts.map fun t => (false, assign t env)
  | [], _, _ => rfl
  | t :: ts, env, h => by
    simp only [List.all_cons, Bool.and_eq_true, Bool.not_eq_true'] at h
    have ih := assignEach_plain (ts := ts) env (by simpa using h.2)
    rw [List.map_cons, ← ih]
    cases t <;> first | rfl | cases h.1

noncomputable def wantD (mu : Str → Bool) : Expr → Bool
  | .Name x _ => mu x
  | _ => false
noncomputable def tgtB (κ : Str → Option NameKind) (sto : Str → Bool) (FE : Expr → Den) : (t : Expr) → { f : Bool × D → Rho → Option Rho // ∀ (prog : Program) (w : World) (G : Str → Option Value) (hb : Heap) (n : Nat) (A : Around) (env : Env), (∀ c, Ev prog w G hb n κ c (FE c)) → Room A n → StoreOk prog w G hb n κ sto A env (assign t env) f }
  | .Name x p => ⟨dName1 κ sto x, fun _ _ _ _ _ _ _ _ _ => store_name fun v E s Q h => wpAny_assign_Name h⟩
  | .Subscript (.Name x p) i p2 => ⟨dSub1 κ x (FE i), fun _ _ _ _ _ _ _ hE R => store_sub R (hE i)⟩
  | _ => ⟨fun _ _ => none, fun _ _ _ _ _ _ _ _ _ own wr ov ρ ρ' s it E Q _ _ _ _ e => (nomatch e)⟩
noncomputable def tgtD (κ : Str → Option NameKind) (sto : Str → Bool) (FE : Expr → Den) (t : Expr) : Bool × D → Rho → Option Rho := (tgtB κ sto FE t).1
theorem tgtD_name (κ : Str → Option NameKind) (sto : Str → Bool) (FE : Expr → Den) (x : Str) (p : Pos) : tgtD κ sto FE (.Name x p) = dName1 κ sto x := rfl
theorem tgtD_sub (κ : Str → Option NameKind) (sto : Str → Bool) (FE : Expr → Den) (x : Str) (p p2 : Pos) (i : Expr) : tgtD κ sto FE (.Subscript (.Name x p) i p2) = dSub1 κ x (FE i) := rfl
theorem tgt_ok {FE : Expr → Den} (hE : ∀ c, Ev prog w G hb n κ c (FE c)) {A : Around} {env : Env} (R : Room A n) (t : Expr) : StoreOk prog w G hb n κ sto A env (assign t env) (tgtD κ sto FE t) := (tgtB κ sto FE t).2 prog w G hb n A env hE R

noncomputable def dTupAssign (κ : Str → Option NameKind) (sto mu : Str → Bool) (FE : Expr → Den) (ts vs : List Expr) : DenS := fun ρ =>
  if ts.length = vs.length ∧ (ts.all fun t => !isStarred t) = true ∧ noSwap κ ts = true ∧ vs.length ≤ 100 then
    (dHold FE (vs.zip (ts.map (wantD mu))) ρ).bind fun xs => (storesD (ts.map (tgtD κ sto FE)) xs ρ).map fun ρ' => (.next, ρ')
  else none
theorem Hold.push {env : Env} {own wr : List Addr} {ov : List (Str × Addr)} {h h' : Heap} {items : List Held} (H : Hold w env own wr ov h items) (x : Ext h h') : Hold w env own wr ov h' items :=
  ⟨fun it hi => by
    have hok := H.ok it hi
    obtain ⟨b, d, v⟩ := it
    cases b with
    | false => exact Rep.mono x.fz d hok
    | true => obtain ⟨a, o, e, q, r⟩ := hok; exact ⟨a, o, e, x _ _ q, r.mono x.fz⟩, H.nd, H.ap⟩
/-- the value: a tuple of what is held -/
theorem tup_val {FE : Expr → Den} {mu : Str → Bool} (hE : ∀ c, Ev prog w G hb n κ c (FE c)) {ts vs : List Expr} {k2 : Nat} {vp : Pos} {A : Around} {env : Env} {own wr : List Addr} {ov : List (Str × Addr)} {ρ : Rho} {s : Shared} {E : Value → Shared → Prop} {xs : List (Bool × D)} (R : Room A n) (S : Sim w G hb κ env own ov ρ s.heap) (W : Wr env own wr sto) (O : ∀ p ∈ ov, p.2 ∈ wr)
    (hlen : ts.length = vs.length) (hcap : vs.length ≤ 100) (e1 : dHold FE (vs.zip (ts.map (wantD mu))) ρ = some xs) {P : Value → Shared → Prop}
    (hP : ∀ t items m h' tk own' wr', Ext s.heap h' → Step own wr s.heap own' wr' h' → Sim w G hb κ env own' ov ρ h' → Wr env own' wr' sto → (∀ p ∈ ov, p.2 ∈ wr') → Hold w env own' wr' ov h' items → items.length = ts.length ∧ items.map (fun i => (i.1, i.2.1)) = xs →
          h'.get? t = some { cls := .type "tuple", data := .seq (items.map (·.2.2)).toArray m } → P (.ref t) { s with heap := h', toks := tk }) : wpAny (model prog w) A (eval (.Tuple vs k2 vp) env) P E s := by
  have hzl : (vs.zip (ts.map (wantD mu))).map (·.1) = vs := List.map_fst_zip (by rw [List.length_map, hlen]; exact Nat.le_refl _)
  have hz2 : (vs.zip (ts.map (wantD mu))).length = ts.length := by rw [List.length_zip, List.length_map, hlen, Nat.min_self]
  refine Tuple_ ?_
  have hg := hold_go (sto := sto) hE (pos := vp) R (vs.zip (ts.map (wantD mu))) own wr s xs (fun us s₁ => wpAny (model prog w) A (newTuple us) P E s₁) S W O e1 fun items h1 tk1 own1 wr1 x1 st1 S1 W1 O1 H1 hm _ _ _ => by
    refine wpAny_newTuple (hP _ items 0 _ tk1 own1 wr1 (x1.trans (Ext.push _ _)) (st1.trans S.ltAll (Step.of_ext (Ext.push _ _))) (S1.ext (Ext.push _ _)) W1 O1 (H1.push (Ext.push _ _)) ⟨hm.1.trans hz2, hm.2⟩ (Heap.get?_push_size _ rfl)) (by simp only [sizeOk, List.size_toArray, List.length_map, hm.1, hz2, hlen]; have := cap_lt; have : cap = 200 := rfl; omega)
  rw [hzl] at hg
  exact anyE hg
theorem ex_tupAssign {FE : Expr → Den} {mu : Str → Bool} (hE : ∀ c, Ev prog w G hb n κ c (FE c)) {ts vs : List Expr} {k k2 : Nat} {tp vp pos : Pos} : Ex prog w G hb n κ sto (.Assign [.Tuple ts k tp] (.Tuple vs k2 vp) pos) (dTupAssign κ sto mu FE ts vs) :=
  fun A env own wr ov ρ s E fl ρ' R S W O e Q hQ => by
    obtain ⟨⟨hlen, hst, hns, hcap⟩, e⟩ := if_of e
    obtain ⟨xs, e1, e⟩ := Option.bind_eq_some_iff.mp e
    obtain ⟨ρ1, e2, e⟩ := Option.map_eq_some_iff.mp e
    cases e
    have hsn : swappedStores [.Tuple ts k tp] (.Tuple vs k2 vp) env = pure none := by
      obtain ⟨vm, S⟩ := S
      refine noSwap_eq ?_
      rw [show env.kindOf = κ from funext S.kap]; exact hns
    refine Assign_Tuple (tup_val hE R S W O hlen hcap e1 fun t items m h1 tk1 own1 wr1 x1 st1 S1 W1 O1 H1 hm ht => ?_) rfl hsn
    have hae := assignEach_plain (ts := ts) env hst
    refine wpAny_assign_Tuple (s := { s with heap := h1, toks := tk1 }) R.hd ⟨_, ht, rfl, m, rfl⟩ (by rw [hae, List.size_toArray, List.length_map, List.length_map, hm.1]) (by rw [hae]; simp) fun h2 x2 => ?_
    have x2 : Ext h1 h2 := fun b o' hb' => x2 b o' (Nat.ne_of_lt (Heap.lt_size hb')) hb'
    rw [hae, List.map_map]
    refine stores_go (n := n) (s := { s with heap := h2, toks := tk1 }) (ts.map fun t => assign t env) (ts.map (tgtD κ sto FE)) items own1 wr1 ov ρ _ E _ (by rw [List.length_map, List.length_map]) (fun i t' g ht' hg' => ?_) (S1.ext x2) W1 O1 (H1.push x2) (by rw [hm.2]; exact e2) fun h3 tk3 ov3 st3 S3 O3 P3 => ?_
    · rw [List.getElem?_map] at ht' hg'
      obtain ⟨t0, h5, rfl⟩ := Option.map_eq_some_iff.mp ht'
      rw [h5] at hg'
      cases hg'
      exact tgt_ok hE R t0
    · exact hQ .next h3 tk3 own1 wr1 ov3 ((st1.trans S.ltAll (Step.of_ext x2)).trans S.ltAll st3) S3 W1 O3 ⟨rfl, P3⟩
/-- two names -/
theorem tup_names {FE : Expr → Den} {mu : Str → Bool} {x y : Str} {p q : Pos} {v u : Expr} {ρ : Rho} {f g : Fl} {d d2 : D} {b c : Bool} (hc : noSwap κ [.Name x p, .Name y q] = true ∧ okT κ sto x = true ∧ okT κ sto y = true ∧ isStarred v = false ∧ isStarred u = false)
    (h1 : FE v ρ = some (f, d)) (h2 : FE u ρ = some (g, d2)) (h3 : heldD f (mu x) = some b) (h4 : heldD g (mu y) = some c) :
    dTupAssign κ sto mu FE [.Name x p, .Name y q] [v, u] ρ = some (.next, upd (upd ρ x (if b then .own d else .frz d)) y (if c then .own d2 else .frz d2)) := by
  have e : dHold FE [(v, mu x), (u, mu y)] ρ = some [(b, d), (c, d2)] := by
    refine (if_pos hc.2.2.2.1).trans ?_
    rw [h1]
    show Option.bind (heldD f (mu x)) _ = _
    rw [h3]
    show Option.map _ (ite _ _ _) = _
    rw [if_pos hc.2.2.2.2, h2]
    show Option.map _ (Option.bind (heldD g (mu y)) _) = _
    rw [h4]
    rfl
  refine (if_pos ⟨rfl, rfl, hc.1, (by decide : 2 ≤ 100)⟩).trans ?_
  refine (congrArg (fun o => Option.bind o _) e).trans ?_
  show Option.map _ (Option.bind (dName1 κ sto x (b, d) ρ) _) = _
  rw [show dName1 κ sto x (b, d) ρ = some _ from if_pos hc.2.1]
  show Option.map _ (Option.bind (dName1 κ sto y (c, d2) _) _) = _
  rw [show ∀ r, dName1 κ sto y (c, d2) r = some _ from fun r => if_pos hc.2.2.1]
  rfl
end
end Mine
end
section
open PySem PySem.W PyProof.Rows PySem.Spec PySem.SeqAt
set_option maxRecDepth 100000
namespace Mine

section
variable {prog : Program} {w : World} {G : Str → Option Value} {hb : Heap} {n : Nat} {κ : Str → Option NameKind} {sto : Str → Bool}

theorem Sim.newNe {env : Env} {own : List Addr} {ov : List (Str × Addr)} {ρ : Rho} {h : Heap} (S : Sim w G hb κ env own ov ρ h) {h' : Heap} (x : Ext h h') : h'.objs.size ≠ sysModules := by
  obtain ⟨vm, S⟩ := S
  have h1 : h'.Ns mainGlobals G := (S.bas.g.keeps S.ext).keeps x
  have h2 := h1.lt
  have h3 : sysModules < mainGlobals := by decide
  exact Nat.ne_of_gt (Nat.lt_trans h3 h2)

/-! ## Dict displays -/
theorem ev_dict0 {pos : Pos} : Ev prog w G hb n κ (.Dict [] [] pos) (fun _ => some (.fresh, .idict [] [])) :=
  fun A env own ov ρ s fl d R S e Q hQ => by
    cases e
    refine wpAny_Dict_empty (hQ _ _ _ (Ext.push _ _) (vrep_new (Ext.refl _) rfl ?_))
    simp only [ORep]
    exact ⟨⟨S.newNe (Ext.refl _), rfl, rfl, rfl⟩, #[], 0, rfl, ⟨Nat.zero_le _, List.nodup_nil⟩, by simp [IKeys], by simp [Reps]⟩

theorem op_dictSet {A : Around} {s : Shared} {g : Part} {a : Addr} {o : Obj} {e f d' : D} {u v : Value} {Q : Unit → Shared → Prop} (r : Room A n) (hg : Le g s.heap.get?) (ho : s.heap.get? a = some o) (x : ORep w g a o (.idict [] [])) (y : Rep w g e u) (z : Rep w g f v)
    (hf : putD (fitD (.idict [] []) e) e f = some d')
    (h : ∀ h' o' tk, Heap.SameBut a s.heap h' → h'.get? a = some o' → ORep w g a o' d' → Q () { s with heap := h', toks := tk }) : wpAny (model prog w) A (dictSet a u v) Q NoE s := by
  have hne : a ≠ sysModules := by simp only [ORep] at x; exact x.1.1
  cases e with
  | int k =>
    rw [fitD_int, putD_idict] at hf
    have hk := (if_of hf).1
    have hf := (if_of hf).2
    · cases hf
      simp only [Rep] at y
      obtain ⟨t, rfl⟩ := y
      obtain ⟨vs, hm, rr, hl, hs, hcap, _⟩ := idict_of (prog := prog) ho x
      refine wpAny_dictSet_pairs (knd := intKind prog w) (k := k) (by simp [intKind, Value.isInt]) hm (fun h' hm' sb => ?_) (by rw [List.length_zip]; simp)
      rw [stored_putK [] vs k v hl] at hm'
      have hput : (putK ([] : List Int) vs k v).1 = (putK ([] : List Int) ([] : List D) k f).1 := by simp [putK]
      have rr' : Reps w g (putK ([] : List Int) ([] : List D) k f).2 (putK ([] : List Int) vs k v).2 := by
        unfold putK
        rw [if_neg (by simp), if_neg (by simp)]
        exact rr.append (Reps.single z)
      obtain ⟨o', q, ro⟩ := idict_back (prog := prog) (w := w) hm' (putK_length hl) rr' (by rw [hput]; exact hk) hne
      rw [hput] at ro
      exact h h' o' _ sb q ro
  | tup es =>
    have x2 : ORep w g a o (.tdict [] []) := x.fit (e := .tup es)
    rw [fitD_nil, putD_tdict] at hf
    obtain ⟨k, hk, hf⟩ := Option.bind_eq_some_iff.mp hf
    have hc := (if_of hf).1
    have hf := (if_of hf).2
    · cases hf
      have ky := y.key hk
      obtain ⟨c, rfl, hi⟩ := KeyAt.is (prog := prog) (w := w) hg ky
      obtain ⟨xs, hm, hx0, rr, hke, hs, hcap⟩ := tdict_of (prog := prog) hg ho x2
      have hx0 : xs = [] := by simpa using hx0
      subst hx0
      refine wpAny_dictSet_heap (show (tk prog w).room A by have := r.un; show A.units < cLine; exact om_5 this) hi hm (fun h' hm' sb => ?_) (by simp)
      obtain ⟨e1, e2⟩ := storedH_putK [] k c v
      have rr' : Reps w g (putK ([] : List (List Scal)) ([] : List D) k f).2 ((storedH [] k c v).map (·.2.2)) := by
        rw [e2]
        simp only [putK, List.map_nil, List.not_mem_nil, if_false, List.nil_append]
        exact Reps.single z
      obtain ⟨o', q, ro⟩ := tdict_back (prog := prog) (w := w) hm' rr' (storedH_keyAt (fun _ hx => (nomatch hx)) ky) (by simp [storedH, atKey]; decide) hne
      rw [e1] at ro
      exact h h' o' _ sb q ro
  | none => cases hf
  | bool _ => cases hf
  | str _ => cases hf
  | lst _ => cases hf
  | idict _ _ => cases hf
  | tdict _ _ => cases hf

noncomputable def dDict1 (fk fv : Den) : Den := fun ρ => (dFrz fk ρ).bind fun k => (dFrz fv ρ).bind fun v => (putD (fitD (.idict [] []) k) k v).map fun d => (.fresh, d)
theorem ev_dict1 {k v : Expr} {pos : Pos} {fk fv : Den} (hk : Ev prog w G hb n κ k fk) (hv : Ev prog w G hb n κ v fv) : Ev prog w G hb n κ (.Dict [some k] [v] pos) (dDict1 fk fv) :=
  fun A env own ov ρ s fl d R S e Q hQ => by
    obtain ⟨kd, e1, e⟩ := Option.bind_eq_some_iff.mp e
    obtain ⟨vd, e2, e⟩ := Option.bind_eq_some_iff.mp e
    obtain ⟨d', e3, e⟩ := Option.map_eq_some_iff.mp e
    cases e
    obtain ⟨f1, e1, hl1⟩ := dFrz_some e1
    obtain ⟨f2, e2, hl2⟩ := dFrz_some e2
    refine wpAny_Dict_any rfl rfl (by simp) (by simp) ?_
    generalize hD : s.heap.objs.size = D0
    generalize hh1 : s.heap.push { cls := .type "dict", data := .dict #[] } = h1
    have x1 : Ext s.heap h1 := by rw [← hh1]; exact Ext.push _ _
    have hDn : s.heap.get? D0 = none := by rw [← hD]; exact get_size _
    have hDo : h1.get? D0 = some { cls := .type "dict", data := .dict #[] } := by rw [← hh1, ← hD]; exact Heap.get?_push_size _ rfl
    have hDs : D0 ≠ sysModules := by rw [← hD]; exact S.newNe (Ext.refl _)
    have S1 : Sim w G hb κ env ([D0] ++ own) ov ρ h1 := S.more x1 fun a ha => by rw [List.mem_singleton.mp ha]; exact ⟨hDn, by rw [hDo]; rfl⟩
    refine evalPairs_cons (hk A env ([D0] ++ own) ov ρ _ f1 kd R S1 e1 _ fun u h2 tk2 x2 r2 => ?_)
    show wpAny _ _ (do let x ← eval v env; standAt pos; pure x) _ _ _
    refine wpAny_bind (hv A env ([D0] ++ own) ov ρ _ f2 vd R (S1.ext x2) e2 _ fun u2 h3 tk3 x3 r3 => wpAny_bind (wpAny_standAt (wpAny_pure ?_)))
    refine evalPairs_nil ?_
    unfold storeAll
    rw [List.forIn_cons]
    have hDo3 := x3 _ _ (x2 _ _ hDo)
    refine wpAny_bind (wpAny_bind (op_dictSet (s := { s with heap := h3, toks := tk3 }) (g := Fz ([D0] ++ own) h3) R (Fz.le _ _) hDo3 ?_ (Rep.mono x3.fz _ (r2.frz hl1 S1.ltAll)) (r3.frz hl2 (S1.ext x2).ltAll) e3 fun h4 o4 tk4 sb q ro => ?_))
    · simp only [ORep]
      exact ⟨⟨hDs, rfl, rfl, rfl⟩, #[], 0, rfl, ⟨Nat.zero_le _, List.nodup_nil⟩, by simp [IKeys], by simp [Reps]⟩
    · refine wpAny_pure ?_
      simp only [List.forIn_nil]
      refine wpAny_pure ?_
      have x4 : Ext s.heap h4 := fun a o e => (sb.2 a (fun z => by rw [z, hDn] at e; cases e)).trans (x3 a o (x2 a o (x1 a o e)))
      refine hQ _ h4 tk4 x4 ⟨D0, o4, rfl, hDn, q, ro.mono fun a o e => ?_⟩
      have e2 := Fz.get e
      exact Fz.of e2.1 ((sb.2 a (fun z => e2.1 (by rw [z]; exact List.mem_append_left _ (List.mem_singleton.mpr rfl)))).trans e2.2)

/-! ## list(..) -/
noncomputable def dListOf (κ : Str → Option NameKind) (e : Expr) (f : Den) : Den := fun ρ =>
  if isB κ "list" && !isStarred e then (f ρ).bind fun x => (lsOf x.2).map fun ds => (.fresh, .lst ds)
  else none
theorem ev_listOf {x : Str} {p pos : Pos} {e : Expr} {f : Den} (hx : x = "list") (he : Ev prog w G hb n κ e f) : Ev prog w G hb n κ (.Call (.Name x p) [e] [] pos) (dListOf κ e f) :=
  fun A env own ov ρ s fl d R S q Q hQ => by
    subst hx
    unfold dListOf at q
    split at q
    · rename_i hc
      simp only [Bool.and_eq_true, Bool.not_eq_true'] at hc
      obtain ⟨⟨f1, d1⟩, e1, q⟩ := Option.bind_eq_some_iff.mp q
      obtain ⟨l0, hl, z⟩ := Option.map_eq_some_iff.mp q
      clear q
      have q := z
      clear z
      obtain rfl := lsOf_some hl
      cases q
      have hs := evl_cons (n := n) he (evl_nil (prog := prog) (w := w) (G := G) (hb := hb) (n := n) (κ := κ))
      refine callT R S hc.1 boot_list (by simp [plainL, hc.2]) hs (show dCons e f dNil ρ = some [(f1, _)] by unfold dCons; rw [if_neg (by simp [hc.2]), e1]; rfl) fun vs h1 tk1 x1 r1 => ?_
      obtain ⟨v, rfl, r2⟩ := vreps1 r1
      obtain ⟨a, vs, m, rfl, p, l, r⟩ := r2.lst
      have hz := r.length
      refine call_list_seq a (.inl rfl) p rfl rfl (fun h2 c' hk hl => ?_) (by have := cap_lt; simp at hz; exact om_16 l hz this)
      have x2 : Ext h1 h2 := hk
      refine hQ _ h2 _ (x1.trans x2) ⟨_, _, rfl, x1.none (get_size h1), hl, ?_⟩
      simp only [ORep]
      exact ⟨⟨trivial, trivial, trivial⟩, vs, c', rfl, l, Reps.mono (x2.fzNew fun b hb => (List.mem_cons.mp hb).elim (fun e => .inr (e ▸ get_size h1)) .inl) _ r⟩
    · cases q
noncomputable def dListRange (κ : Str → Option NameKind) (e : Expr) (f : Den) : Den := fun ρ =>
  if isB κ "list" && isB κ "range" && !isStarred e then (f ρ).bind fun x => (itOf x.2).bind fun k => if 0 ≤ k ∧ k ≤ 200 then some (.fresh, .lst (rangeD k)) else none
  else none
theorem items_range {g : Part} {n : Nat} {acc : Array Value} (h : ItemsOf (fun i v => ∃ t, v = .int (0 + (i : Int) * 1) t) acc n) : Reps w g ((List.range n).map fun i => D.int ((i : Nat) : Int)) acc.toList := by
  obtain ⟨hz, hv⟩ := h
  have key : ∀ (l : List Value) (k : Nat), (∀ (j : Nat) (v : Value), l[j]? = some v → ∃ t, v = Value.int (0 + ((k + j : Nat) : Int) * 1) t) → Reps w g ((List.range' k l.length).map fun i => D.int ((i : Nat) : Int)) l := by
    intro l
    induction l with
    | nil => intro k _; simp [Reps]
    | cons v l ih =>
      intro k hl
      rw [List.length_cons, List.range'_succ, List.map_cons]
      simp only [Reps]
      refine ⟨v, l, rfl, ?_, ih (k + 1) fun j u hu => ?_⟩
      · obtain ⟨t, e⟩ := hl 0 v rfl
        simp only [Rep]
        exact ⟨t, by rw [e]; simp⟩
      · obtain ⟨t, e⟩ := hl (j + 1) u (by simpa using hu)
        exact ⟨t, by rw [e]; congr 2; exact om_50⟩
  have := key acc.toList 0 fun j v hj => by
    obtain ⟨t, e⟩ := hv j v (by simpa using hj)
    exact ⟨t, by rw [e]; simp⟩
  rw [List.range_eq_range']
  simpa [hz] using this
theorem ev_listRange {x y : Str} {p p2 pos pos2 : Pos} {e : Expr} {f : Den} (hx : x = "list") (hy : y = "range") (he : Ev prog w G hb n κ e f) : Ev prog w G hb n κ (.Call (.Name x p) [.Call (.Name y p2) [e] [] pos2] [] pos) (dListRange κ e f) :=
  fun A env own ov ρ s fl d R S q Q hQ => by
    subst hx hy
    unfold dListRange at q
    split at q
    · rename_i hc
      simp only [Bool.and_eq_true, Bool.not_eq_true'] at hc
      obtain ⟨⟨f1, d1⟩, e1, q⟩ := Option.bind_eq_some_iff.mp q
      obtain ⟨k, hl, z⟩ := Option.bind_eq_some_iff.mp q
      clear q
      have q := z
      clear z
      obtain rfl := itOf_some hl
      split at q
      · rename_i hk
        cases q
        have hs := evl_cons (n := n) he (evl_nil (prog := prog) (w := w) (G := G) (hb := hb) (n := n) (κ := κ))
        refine wpAny_Call_NameR (S.builtin hc.1.1 boot_list ?_)
        refine PyProof.Rows.callWith_type1 ?_ rfl rfl
        refine Calls.spliced_cons ?_
        refine callT R S hc.1.2 boot_range (by simp [plainL, hc.2]) hs (show dCons e f dNil ρ = some [(f1, _)] by unfold dCons; rw [if_neg (by simp [hc.2]), e1]; rfl) fun vs h1 tk1 x1 r1 => ?_
        obtain ⟨v, rfl, r2⟩ := vreps1 r1
        have r2 := r2.any
        simp only [Rep] at r2
        obtain ⟨t, rfl⟩ := r2
        refine call_range_1 ?_
        generalize hH : h1.push { cls := .type "range", data := .fields #[.int 0 tk1, .int k t, .int 1 (tk1 + 1)] } = H
        have hr : IsRange H h1.objs.size 0 k 1 tk1 t (tk1 + 1) := by rw [← hH]; exact Heap.get?_push_size _ rfl
        have xH : Ext s.heap H := by rw [← hH]; exact x1.trans (Ext.push _ _)
        refine Calls.spliced_nil ?_
        refine call_list_range (n := k.toNat) R.hd hr (small_one (by omega) (by omega) (by omega) (by omega)) (by rw [rangeSize_nat k hk.1]; exact om_51 hk) (by omega) fun h2 tk2 acc c' hk2 hl hit => ?_
        have x2 : Ext H h2 := hk2
        refine hQ _ h2 _ (xH.trans x2) ⟨_, _, rfl, xH.none (get_size H), hl, ?_⟩
        simp only [ORep]
        exact ⟨⟨trivial, trivial, trivial⟩, acc, c', rfl, by simp [rangeD, cap]; exact om_52 hk, items_range hit⟩
      · cases q
    · cases q
end
end Mine
end
section
open PySem PySem.W PyProof.Rows PySem.Spec PySem.SeqAt
set_option maxRecDepth 100000
namespace Mine

/-! ## Calls of the text's own functions -/
structure FnAt (hb : Heap) (a : Addr) (fd : FuncData) (body : List Stmt) : Prop where
  obj : ∃ o, hb.get? a = some o ∧ o.data = .func fd
  body : fd.body = .stmts body
  code : hb.CodeRec fd.code fd.qualname
  gl : fd.globals = mainGlobals
  bl : fd.builtins = builtinsNs
  clo : fd.closure = []
  co : fd.scope.isCoroutine = false
  gen : fd.scope.isGenerator = false
  kind : fd.scope.kind = .function

noncomputable def kapF (scope : Scope) : Str → Option NameKind := fun x => scope.names.lookup x
noncomputable def stoF (scope : Scope) : Str → Bool := fun x => scope.names.lookup x == some .local || scope.names.lookup x == some .cell
/-- what is asked of a function's scope: ps its parameters -/
noncomputable def fscopeOk (scope : Scope) (ps : List Str) : Bool :=
  decide ((scope.names.map (·.1)).Nodup) && decide (ps.Nodup) && (scope.names.all fun p => !(p.2 == .free)) && ps.all fun p => scope.names.lookup p == some .local || scope.names.lookup p == some .cell

noncomputable def rho0 (ps : List Str) (bs : List Bd) : Rho := fun x => (ps.zip bs).lookup x

section
variable {prog : Program} {w : World} {G : Str → Option Value} {hb : Heap} {n : Nat}

theorem bindL_at (k : Str → Option NameKind) : ∀ (binds : List (Str × Value)) (m : Str → Option Value) (x : Str), (binds.map (·.1)).Nodup → bindL k binds m x = if k x = some .local then (binds.lookup x).or (m x) else m x
  | [], m, x, _ => by simp [bindL]
  | (y, v) :: r, m, x, hn => by
    rw [List.map_cons, List.nodup_cons] at hn
    unfold bindL
    rw [bindL_at k r _ x hn.2, List.lookup_cons]
    have hno : x = y → r.lookup x = none := fun e => by
      cases q : r.lookup x with
      | none => rfl
      | some u => exact absurd (List.mem_map.mpr ⟨(x, u), mem_of_lookup q, e⟩) hn.1
    by_cases hxy : x = y
    · subst hxy
      rw [hno rfl]
      by_cases hk : k x = some .local <;> simp [hk]
    · have hb' : (x == y) = false := by simpa using hxy
      rw [hb']
      by_cases hk : k x = some .local
      · simp only [hk, if_true]
        by_cases hy : k y = some .local
        · simp [hy, hxy]
        · simp [hy]
      · simp only [hk, if_false]
        by_cases hy : k y = some .local
        · simp [hy, hxy]
        · simp [hy]
theorem bindC_at (k : Str → Option NameKind) : ∀ (binds : List (Str × Value)) (m : Str → Option Value) (x : Str), (binds.map (·.1)).Nodup → bindC k binds m x = if k x = some .local then m x else (binds.lookup x).or (m x)
  | [], m, x, _ => by simp [bindC]
  | (y, v) :: r, m, x, hn => by
    rw [List.map_cons, List.nodup_cons] at hn
    unfold bindC
    rw [bindC_at k r _ x hn.2, List.lookup_cons]
    have hno : x = y → r.lookup x = none := fun e => by
      cases q : r.lookup x with
      | none => rfl
      | some u => exact absurd (List.mem_map.mpr ⟨(x, u), mem_of_lookup q, e⟩) hn.1
    by_cases hxy : x = y
    · subst hxy
      rw [hno rfl]
      by_cases hk : k x = some .local <;> simp [hk]
    · have hb' : (x == y) = false := by simpa using hxy
      rw [hb']
      by_cases hk : k x = some .local
      · simp only [hk, if_true]
        by_cases hy : k y = some .local
        · simp [hy]
        · simp [hy, hxy]
      · simp only [hk, if_false]
        by_cases hy : k y = some .local
        · simp [hy]
        · simp [hy, hxy]

/-- a call's frame -/
theorem frame_sim {s s₁ : Shared} {fd : FuncData} {a : Addr} {ps : List Str} {vs : List Value} {bs : List Bd} {own wro : List Addr} {ov : List (Str × Addr)} (hB : Base G hb) (hx : Ext hb s.heap) (hh : ∀ a ∈ own, hb.get? a = none) (hlt : ∀ a ∈ own, (s.heap.get? a).isSome = true)
    (hs : fscopeOk fd.scope ps = true) (hk : fd.scope.kind = .function) (hgl : fd.globals = mainGlobals) (hbl : fd.builtins = builtinsNs) (hl : ps.length = vs.length)
    (hwo : ∀ b ∈ wro, b ∈ own) (hovw : ∀ p ∈ ov, p.2 ∈ wro) (hovn : (ov.map (·.2)).Nodup)
    (hbs : ∀ (i : Nat) v b x, vs[i]? = some v → bs[i]? = some b → ps[i]? = some x → BdOk w own ov s.heap x v b)
    (x : InCallC s (callEnvC fd s.heap.objs.size a).locals (bindL (callEnvC fd s.heap.objs.size a).kindOf (ps.zip vs) fun _ => none) (callEnvC fd s.heap.objs.size a).cells (bindC (callEnvC fd s.heap.objs.size a).kindOf (ps.zip vs) fun _ => none) s₁) :
    ∃ new, (∀ b ∈ new, s.heap.get? b = none ∧ (s₁.heap.get? b).isSome = true) ∧ Sim w G hb (kapF fd.scope) (callEnvC fd s.heap.objs.size a) (new ++ own) ov (rho0 ps bs) s₁.heap ∧ Wr (callEnvC fd s.heap.objs.size a) (new ++ own) (new ++ wro) (stoF fd.scope) ∧ (∀ p ∈ ov, p.2 ∈ new ++ wro) ∧ Ext s.heap s₁.heap := by
  simp only [fscopeOk, Bool.and_eq_true, decide_eq_true_eq, List.all_eq_true, Bool.not_eq_true', beq_eq_false_iff_ne, ne_eq, Bool.or_eq_true, beq_iff_eq] at hs
  obtain ⟨⟨⟨hn, hpn⟩, hfree⟩, hpk⟩ := hs
  generalize hL : s.heap.objs.size = L at x ⊢
  have x1 : Ext s.heap s₁.heap := x.toInCall.keep
  have notIn : ∀ {b : Addr}, L ≤ b → s.heap.get? b = none := fun {b} hb => by
    cases q : s.heap.get? b with
    | none => rfl
    | some o => exact absurd (Heap.lt_size q) (by rw [hL]; exact Nat.not_lt.mpr hb)
  let cs := cellsFrom (L + 1) fd.scope.names []
  have hcells : (callEnvC fd L a).cells = cs := rfl
  have hkind : ∀ y, (callEnvC fd L a).kindOf y = kapF fd.scope y := fun _ => rfl
  have hloc : (callEnvC fd L a).locals = L := rfl
  have csMem : ∀ y c, cs.lookup y = some c → (y, c) ∈ cs ∧ fd.scope.names.lookup y = some .cell := fun y c q => ⟨mem_of_lookup q, lookup_nodup hn (cellsFrom_mem _ _ _ _ (mem_of_lookup q))⟩
  let new := L :: cs.map (·.2)
  have hcl : ∀ p ∈ cs, L < p.2 := fun p hp => x.above p.1 p.2 hp
  have hcm : ∀ p ∈ cs, (s₁.heap.get? p.2).isSome = true := fun p hp => by
    obtain ⟨c', q⟩ := lookup_isSome_of_mem (c := p.2) (y := p.1) hp
    have : c' = p.2 := by
      -- the same name holds one cell
      have nd : (cs.map (·.1)).Nodup := cells_nodup fd.scope.names (L + 1) hn
      rw [lookup_nodup nd hp] at q
      exact (Option.some.inj q).symm
    obtain ⟨o, q2, _⟩ := x.cell p.1 c' q
    rw [← this, q2]; rfl
  have hnew : ∀ b ∈ new, s.heap.get? b = none ∧ (s₁.heap.get? b).isSome = true := fun b hb' => by
    rcases List.mem_cons.mp hb' with rfl | hb'
    · obtain ⟨o, es, ep, q, _⟩ := x.toInCall.ns
      exact ⟨notIn (Nat.le_refl _), by rw [hloc] at q; rw [q]; rfl⟩
    · obtain ⟨p, hp, rfl⟩ := List.mem_map.mp hb'
      exact ⟨notIn (Nat.le_of_lt (hcl p hp)), hcm p hp⟩
  have hbn : ((ps.zip vs).map (·.1)).Nodup := by rw [List.map_fst_zip (by exact om_11 hl)]; exact hpn
  let vm : Str → Option Value := fun y => if kapF fd.scope y = some .local then bindL (callEnvC fd L a).kindOf (ps.zip vs) (fun _ => none) y else bindC (callEnvC fd L a).kindOf (ps.zip vs) (fun _ => none) y
  refine ⟨new, hnew, ⟨vm, ⟨hk, hgl, hbl, List.mem_append_left _ (by rw [hloc]; exact List.mem_cons_self), ⟨_, x.toInCall.ns, fun y hy => ?_⟩, fun y hy => ?_, fun y z c hy hz => ?_, fun y c hy => ?_, fun y c hy => .inl (csMem y c hy).2⟩, hkind, hB, hx.trans x1, fun b hb' => ?_, fun b hb' => ?_, fun y b hy => ?_, fun p hp => ?_, hovn⟩, ⟨fun b hb' => ?_, ?_, fun y c _ hy => ?_⟩, fun p hp => List.mem_append_right _ (hovw p hp), x1⟩
  · show _ = vm y
    rw [hkind] at hy
    simp only [vm, hy, if_true]
  · have hc' : fd.scope.names.lookup y = some .cell := by
      rw [hkind] at hy
      rcases hy with hy | hy
      · exact hy
      · exact absurd rfl (hfree _ (mem_of_lookup hy))
    obtain ⟨c0, hc0⟩ := cellsFrom_has fd.scope.names (L + 1) y (mem_of_lookup hc')
    obtain ⟨c, hc⟩ := lookup_isSome_of_mem hc0
    refine ⟨c, hc, List.mem_append_left _ (List.mem_cons_of_mem _ (List.mem_map.mpr ⟨_, mem_of_lookup hc, rfl⟩)), fun q => ?_, ?_⟩
    · have := hcl _ (mem_of_lookup hc)
      rw [hloc] at q
      rw [q] at this; exact Nat.lt_irrefl _ this
    · have hnl : ¬ kapF fd.scope y = some .local := by show ¬ fd.scope.names.lookup y = _; rw [hc']; simp
      have e : vm y = bindC (callEnvC fd L a).kindOf (ps.zip vs) (fun _ => none) y := by simp only [vm, hnl, if_false]
      rw [e]; exact x.cell y c hc
  · exact name_of_addr x.apart (mem_of_lookup hy) (mem_of_lookup hz)
  · exact List.mem_append_left _ (List.mem_cons_of_mem _ (List.mem_map.mpr ⟨_, mem_of_lookup hy, rfl⟩))
  · rcases List.mem_append.mp hb' with q | q
    · exact hx.none (hnew b q).1
    · exact hh b q
  · rcases List.mem_append.mp hb' with q | q
    · exact (hnew b q).2
    · exact x1.some (hlt b q)
  · have hyl : (ps.zip bs).lookup y = some b := hy
    have hyp : y ∈ ps := (List.of_mem_zip (mem_of_lookup hyl)).1
    have hyk := hpk y hyp
    obtain ⟨v, hv, hP⟩ := look3 (vs := vs) hyl hl
    have hbd : BdOk w own ov s.heap y v b := by
      obtain ⟨i, h1, h2, h3⟩ := hP
      exact hbs i v b y h2 h3 h1
    refine ⟨by show isV (fd.scope.names.lookup y) = true; rcases hyk with q | q <;> simp [isV, q], v, ?_, hbd.more x1 fun c hc => (List.mem_append.mp hc).elim (fun q => .inr (hnew c q).1) .inl⟩
    show (if kapF fd.scope y = some .local then _ else _) = _
    split
    · rename_i q
      rw [bindL_at _ _ _ _ hbn, if_pos (by rw [hkind]; exact q), hv]; rfl
    · rename_i q
      rw [bindC_at _ _ _ _ hbn, if_neg (by rw [hkind]; exact q), hv]; rfl
  · refine ⟨List.mem_append_right _ (hwo _ (hovw p hp)), fun q => ?_⟩
    have hpl := hlt _ (hwo _ (hovw p hp))
    rcases q with q | ⟨y, q⟩
    · exact isSome_none hpl (notIn (by rw [q, hloc]; exact Nat.le_refl _))
    · exact isSome_none hpl (notIn (Nat.le_of_lt (hcl (y, p.2) (csMem y p.2 q).1)))
  · rcases List.mem_append.mp hb' with q | q
    · exact List.mem_append_left _ q
    · exact List.mem_append_right _ (hwo b q)
  · exact List.mem_append_left _ (by rw [hloc]; exact List.mem_cons_self)
  · exact List.mem_append_left _ (List.mem_cons_of_mem _ (List.mem_map.mpr ⟨_, (csMem y c hy).1, rfl⟩))
where
  cells_nodup : ∀ (names : List (Str × NameKind)) (k : Nat), (names.map (·.1)).Nodup → ((cellsFrom k names []).map (·.1)).Nodup
    | [], _, _ => by simp [cellsFrom]
    | (y, kd) :: r, k, hn => by
      rw [List.map_cons, List.nodup_cons] at hn
      unfold cellsFrom
      split
      · rw [cellsFrom_acc, List.map_append]
        refine List.nodup_append.mpr ⟨cells_nodup r _ hn.2, by simp, fun z hz u hu => ?_⟩
        simp at hu
        subst hu
        rintro rfl
        obtain ⟨p, hp, q⟩ := List.mem_map.mp hz
        have := cellsFrom_mem r _ p.1 p.2 hp
        exact hn.1 (List.mem_map.mpr ⟨_, this, q⟩)
      · exact cells_nodup r _ hn.2
  look3 {ps : List Str} {vs : List Value} : ∀ {bs : List Bd} {x : Str} {b : Bd}, (ps.zip bs).lookup x = some b → ps.length = vs.length → ∃ v, (ps.zip vs).lookup x = some v ∧ ∃ i : Nat, ps[i]? = some x ∧ vs[i]? = some v ∧ bs[i]? = some b := by
    induction ps generalizing vs with
    | nil => intro bs x b h; simp at h
    | cons p ps ih =>
      intro bs x b h hl
      cases bs with
      | nil => simp at h
      | cons b0 bs =>
        cases vs with
        | nil => simp at hl
        | cons v0 vs =>
          rw [List.zip_cons_cons, List.lookup_cons] at h
          rw [List.zip_cons_cons, List.lookup_cons]
          cases hx : x == p with
          | true =>
            rw [hx] at h; cases h
            have : x = p := by simpa using hx
            exact ⟨v0, rfl, 0, by simp [this], rfl, rfl⟩
          | false =>
            rw [hx] at h
            obtain ⟨v, h1, i, h2, h3, h4⟩ := ih h (by simpa using hl)
            exact ⟨v, h1, i + 1, by simpa using h2, by simpa using h3, by simpa using h4⟩

/-- what a function answers -/
noncomputable def CallOk (prog : Program) (w : World) (G : Str → Option Value) (hb : Heap) (n : Nat) (a : Addr) (F : List D → Option D) : Prop :=
  ∀ (A : Around) (own : List Addr) (s : Shared) (ds : List D) (vs : List Value) (d : D), Room A n → Base G hb → Ext hb s.heap → (∀ a ∈ own, hb.get? a = none) → (∀ a ∈ own, (s.heap.get? a).isSome = true) → Reps w (Fz own s.heap) ds vs → F ds = some d →
    ∀ (E : Value → Shared → Prop) (Q : Value → Shared → Prop), (∀ v h' tk, Ext s.heap h' → Rep w (Fz own h') d v → Q v { s with heap := h', toks := tk }) → wpAny (model prog w) A (call (.ref a) vs) Q E s

/-- the answer of a body -/
noncomputable def fnD (body : DenS) (ps : List Str) (extra : List D) (k : Nat) (ds : List D) : Option D :=
  if ds.length = k then (body (rho0 ps ((ds ++ extra).map .frz))).bind fun x => match x.1 with
    | .ret d => some d
    | .next => some .none
    | _ => none
  else none

/-- arguments bound to their names, what is left out from the defaults -/
noncomputable def Binds (hb : Heap) (fd : FuncData) (ps : List Str) (k : Nat) (xs : List Value) : Prop :=
  ∀ (vs : List Value) (s : Shared), vs.length = k → Ext hb s.heap → BindsTo s fd ⟨vs, []⟩ (ps.zip (vs ++ xs))

theorem reps_any {g : Part} : ∀ {ds : List D} {vs : List Value} {i : Nat} {v : Value} {b : Bd}, Reps w g ds vs → vs[i]? = some v → (ds.map Bd.frz)[i]? = some b → ∃ d, b = .frz d ∧ Rep w g d v
  | [], _, i, _, _, r, h1, _ => by simp only [Reps] at r; subst r; simp at h1
  | d :: ds, _, 0, v, b, r, h1, h2 => by
    simp only [Reps] at r
    obtain ⟨u, us, rfl, q, _⟩ := r
    simp at h1 h2
    subst h1
    exact ⟨d, h2.symm, q⟩
  | d :: ds, _, i + 1, v, b, r, h1, h2 => by
    simp only [Reps] at r
    obtain ⟨u, us, rfl, _, r⟩ := r
    exact reps_any r (by simpa using h1) (by simpa using h2)

theorem call_ok {a : Addr} {fd : FuncData} {body : List Stmt} {ps : List Str} {k : Nat} {extra : List D} {xs : List Value} {bd : DenS} (hf : FnAt hb a fd body) (hs : fscopeOk fd.scope ps = true) (hbi : Binds hb fd ps k xs) (hxs : ∀ g : Part, Reps w g extra xs) (hlen : ps.length = k + xs.length)
    (hbd : Exs prog w G hb n (kapF fd.scope) (stoF fd.scope) body bd) : CallOk prog w G hb (n + 1) a (fnD bd ps extra k) :=
  fun A own s ds vs d R hB hx hh hlt r e E Q hQ => by
    unfold fnD at e
    split at e
    · rename_i hk
      obtain ⟨⟨fl, ρ'⟩, e1, e⟩ := Option.bind_eq_some_iff.mp e
      have hvl : vs.length = k := by rw [r.length, hk]
      obtain ⟨o, ho, hd⟩ := hf.obj
      refine wpAny_call ?_
      refine codeAny_call_function R.depth (hx _ _ ho) hd hf.co hf.gen hf.body (hf.code.keeps hx) (hbi vs s hvl hx _ _ _ _ ?_)
      rw [hf.clo]
      have hpl : ps.length = (vs ++ xs).length := by rw [List.length_append, hvl, hlen]
      have hs' := hs
      simp only [fscopeOk, Bool.and_eq_true, decide_eq_true_eq, List.all_eq_true, Bool.not_eq_true', beq_eq_false_iff_ne, ne_eq, Bool.or_eq_true, beq_iff_eq] at hs'
      refine wpAny_newFunctionEnv_cells hf.kind (fun p hp => ?_) fun env he s₁ x => ?_
      · have hm := (List.of_mem_zip (show (p.1, p.2) ∈ ps.zip (vs ++ xs) from hp)).1
        rcases hs'.2 p.1 hm with q | q
        · exact .inl q
        · refine .inr ⟨q, ?_⟩
          obtain ⟨c, hc⟩ := cellsFrom_has fd.scope.names (s.heap.objs.size + 1) p.1 (mem_of_lookup q)
          obtain ⟨c', hc'⟩ := lookup_isSome_of_mem hc
          rw [hc']; rfl
      · have he' : env = callEnvC fd s.heap.objs.size a := he
        subst he'
        obtain ⟨new, hnew, S, W, O, x1⟩ := frame_sim (a := a) (bs := (ds ++ extra).map .frz) (own := own) (wro := []) (ov := []) hB hx hh hlt hs hf.kind hf.gl hf.bl hpl (fun _ h => (nomatch h)) (fun _ h => (nomatch h)) List.nodup_nil
          (fun i v b y h1 h2 _ => by
            obtain ⟨d', rfl, q⟩ := reps_any (r.append (hxs _)) h1 h2
            exact q) x
        rw [List.append_nil] at W O
        refine ⟨hB.nolimit.keeps (hx.trans x1), codeAny_func ?_⟩
        refine hbd (A.deeper _) _ (new ++ own) new [] _ s₁ _ fl ρ' (R.deeper _) S W O e1 _ fun rr h' tk own' wr' ov' st S' _ _ F => ?_
        have hfin : Ext s.heap h' := fun b o' q => st.keep b o' (fun hm => by have := (hnew b hm).1; rw [this] at q; cases q) (x1 b o' q)
        have hso : ∀ b ∈ own, b ∈ own' := fun b hb' => (st.stay b (List.mem_append_right _ hb')).elim id fun q => (isSome_none (hlt b hb') (hnew b q).1).elim
        obtain ⟨h1, tk1, hs1⟩ := x.toInCall.same
        subst hs1
        cases fl with
        | ret d' =>
          cases e
          obtain ⟨v, rfl, q⟩ := F
          exact hQ v h' tk hfin (Rep.mono (Fz.fewer hso) _ q)
        | next =>
          cases e
          obtain ⟨rfl, _⟩ := F
          exact hQ .none h' tk hfin (by simp only [Rep])
        | cont => cases e
        | brk => cases e
    · cases e

/-! ## f(..) -/
theorem Sim.global {A : Around} {E : Value → Shared → Prop} {s : Shared} {env : Env} {κ : Str → Option NameKind} {own : List Addr} {ov : List (Str × Addr)} {ρ : Rho} {x : Str} {p : Pos} {v : Value} {Q : Value → Shared → Prop}
    (S : Sim w G hb κ env own ov ρ s.heap) (hx : κ x = some .globalImplicit) (hn : okName x = true) (hv : G x = some v) (h : Q v s) : wpAny (model prog w) A (eval (.Name x p) env) Q E s := by
  obtain ⟨vm, S⟩ := S
  refine Calls.Name_function_global S.eo.fn ((S.kap x).trans hx) (Calls.loadGlobal_global (by rw [S.eo.gl]; exact S.bas.g.keeps S.ext) hv h) ?_
  simp only [okName, Bool.and_eq_true, Bool.not_eq_true'] at hn; exact hn.1

noncomputable def isG (κ : Str → Option NameKind) (x : Str) : Bool := κ x == some .globalImplicit && okName x
noncomputable def dCall (κ : Str → Option NameKind) (f : Str) (es : List Expr) (F : List D → Option D) (fs : DenL) : Den := fun ρ =>
  if isG κ f && plainL es then (fs ρ).bind fun xs => (F (xs.map (·.2))).bind fun d => if (xs.all fun x => x.1 != .loose) || !d.comp then some (.frozen, d) else none else none

theorem call_args {A : Around} {s : Shared} {env : Env} {κ : Str → Option NameKind} {own : List Addr} {ov : List (Str × Addr)} {ρ : Rho} {f : Str} {a : Addr} {fd : FuncData} {e : Expr} {es : List Expr} {p pos : Pos} {fs : DenL} {xs : List (Fl × D)} {Q : Value → Shared → Prop}
    (R : Room A n) (S : Sim w G hb κ env own ov ρ s.heap) (hf : isG κ f = true) (hg : G f = some (.ref a)) (ho : ∃ o, hb.get? a = some o ∧ o.data = .func fd) (hp : plainL (e :: es) = true) (hs : EvL prog w G hb n κ (e :: es) fs) (he : fs ρ = some xs)
    (h : ∀ vs h' tk, Ext s.heap h' → VReps w own s.heap h' xs vs → wpAny (model prog w) A (call (.ref a) vs) Q NoE { s with heap := h', toks := tk }) : wpAny (model prog w) A (eval (.Call (.Name f p) (e :: es) [] pos) env) Q NoE s := by
  simp only [isG, Bool.and_eq_true, beq_iff_eq] at hf
  obtain ⟨o, ho1, ho2⟩ := ho
  refine wpAny_Call_NameR (S.global hf.1 hf.2 hg ?_)
  have hp' := hp
  simp only [plainL, List.all_cons, Bool.and_eq_true, Bool.not_eq_true'] at hp'
  have hxx : Ext hb s.heap := let ⟨vm, S⟩ := S; S.ext
  have hsp := hs A env own ov ρ s pos xs R S he (fun vs s₁ => (s₁.heap.get? a = some o ∧ o.data = .func fd) ∧ wpAny (model prog w) A (call (.ref a) vs) Q NoE s₁) fun vs h' tk x r => ⟨⟨x _ _ (hxx _ _ ho1), ho2⟩, h vs h' tk x r⟩
  refine Calls.callWith_function (o := o) (fd := fd) ?_
  rw [starEach_plain hp'.1] at hsp ⊢
  exact Calls.evalArgs_plain hsp

theorem ev_call {κ : Str → Option NameKind} {f : Str} {a : Addr} {fd : FuncData} {F : List D → Option D} {e : Expr} {es : List Expr} {p pos : Pos} {fs : DenL} (hg : G f = some (.ref a)) (ho : ∃ o, hb.get? a = some o ∧ o.data = .func fd) (hF : CallOk prog w G hb n a F)
    (hs : EvL prog w G hb n κ (e :: es) fs) : Ev prog w G hb n κ (.Call (.Name f p) (e :: es) [] pos) (dCall κ f (e :: es) F fs) :=
  fun A env own ov ρ s fl d R S q Q hQ => by
    unfold dCall at q
    split at q
    · rename_i hc
      simp only [Bool.and_eq_true] at hc
      obtain ⟨xs, e1, q⟩ := Option.bind_eq_some_iff.mp q
      obtain ⟨d', e2, q⟩ := Option.bind_eq_some_iff.mp q
      split at q
      · rename_i hfl
        cases q
        have hB : Base G hb ∧ Ext hb s.heap ∧ ∀ a ∈ own, hb.get? a = none := let ⟨vm, S⟩ := S; ⟨S.bas, S.ext, S.high⟩
        refine call_args R S hc.1 hg ho hc.2 hs e1 fun vs h1 tk1 x1 r1 => ?_
        simp only [Bool.or_eq_true, Bool.not_eq_true'] at hfl
        by_cases hall : (xs.all fun x => x.1 != .loose) = true
        · exact hF A own { s with heap := h1, toks := tk1 } _ vs d R hB.1 (hB.2.1.trans x1) hB.2.2 (fun b hb' => x1.some (S.ltAll b hb')) (r1.reps S.ltAll hall) e2 NoE Q fun v h2 tk2 x2 r2 => hQ v h2 tk2 (x1.trans x2) r2
        · have hd : d.comp = false := hfl.elim (fun q => absurd q hall) id
          have hfz : Fz [] h1 = h1.get? := by funext b; unfold Fz; simp
          refine hF A [] { s with heap := h1, toks := tk1 } _ vs d R hB.1 (hB.2.1.trans x1) (fun b hb' => (nomatch hb')) (fun b hb' => (nomatch hb')) (by rw [hfz]; exact r1.any) e2 NoE Q fun v h2 tk2 x2 r2 => hQ v h2 tk2 (x1.trans x2) ?_
          exact VRep.flat (own := []) (h₀ := h1) (h := h2) (fl := .frozen) hd r2
      · cases q
    · cases q
end
end Mine
end
section
open PySem PySem.W PyProof.Rows PySem.Spec PySem.SeqAt
set_option maxRecDepth 100000
namespace Mine

section
variable {prog : Program} {w : World} {G : Str → Option Value} {hb : Heap} {n : Nat} {κ : Str → Option NameKind} {sto : Str → Bool}

theorem Sim.mutateK {env : Env} {own wr : List Addr} {ov : List (Str × Addr)} {ρ : Rho} {x : Str} {a : Addr} {o' : Obj} {d' : D} {h h' : Heap} (S : Sim w G hb κ env own ov ρ h) (O : ∀ p ∈ ov, p.2 ∈ wr) (ha : ov.lookup x = some a) (hv : ∃ d, ρ x = some (.own d))
    (kp : Kept [a] h h') (live : ∀ b, (h.get? b).isSome = true → (h'.get? b).isSome = true) (q : h'.get? a = some o') (r : ORep w (Fz own h') a o' d') : Sim w G hb κ env own ov (upd ρ x (.own d')) h' ∧ Step own wr h own wr h' := by
  obtain ⟨vm, S⟩ := S
  have hm := mem_of_lookup ha
  have hin := (S.ovIn _ hm).1
  have hpl := (S.ovIn _ hm).2
  have kp' : ∀ b o, b ≠ a → h.get? b = some o → h'.get? b = some o := fun b o hb e => kp b o (by simpa using hb) e
  have lef : Le (Fz own h) (Fz own h') := fun b o e => Fz.of (Fz.get e).1 (kp' b o (fun z => (Fz.get e).1 (z ▸ hin)) (Fz.get e).2)
  refine ⟨⟨vm, S.eo.keep (fun _ z _ => z) (fun b hb o e => kp' b o (fun z => hpl (z ▸ hb)) e), S.kap, S.bas, fun b o e => ?_, S.high, fun b hb => live b (S.lt b hb), fun y b hy => ?_, S.ovIn, S.ovInj⟩,
    fun b o hb e => kp' b o (fun z => hb (z ▸ O _ hm)) e, live, fun _ z => .inl z, fun _ z => .inl z, fun _ z => .inl z⟩
  · exact kp' b o (fun z => by have := S.high a hin; rw [z, this] at e; cases e) (S.ext b o e)
  · unfold upd at hy
    split at hy
    · rename_i e
      subst e
      cases hy
      obtain ⟨d, hd⟩ := hv
      obtain ⟨k, v, h1, a2, o2, rfl, h2, _, _⟩ := S.vars y _ hd
      rw [ha] at h2
      cases h2
      exact ⟨k, .ref a, h1, a, o', rfl, ha, q, r⟩
    · rename_i hne
      obtain ⟨k, v, h1, h2⟩ := S.vars y b hy
      refine ⟨k, v, h1, ?_⟩
      cases b with
      | frz d => exact Rep.mono lef d h2
      | own d =>
        obtain ⟨a2, o2, q1, q2, q3, q4⟩ := h2
        refine ⟨a2, o2, q1, q2, kp' a2 o2 (fun z => ?_) q3, q4.mono lef⟩
        subst z
        exact hne (Sim.mutate.map_inj_of_nodup S.ovInj (mem_of_lookup q2) hm)

/-- a function that changes its first argument -/
noncomputable def MutOk (prog : Program) (w : World) (G : Str → Option Value) (hb : Heap) (n : Nat) (a : Addr) (F : D → List D → Option D) : Prop :=
  ∀ (A : Around) (own : List Addr) (s : Shared) (b : Addr) (o : Obj) (d : D) (ds : List D) (vs : List Value) (d' : D), Room A n → Base G hb → Ext hb s.heap → (∀ a ∈ own, hb.get? a = none) → (∀ a ∈ own, (s.heap.get? a).isSome = true) → b ∈ own → s.heap.get? b = some o → ORep w (Fz own s.heap) b o d →
    Reps w (Fz own s.heap) ds vs → F d ds = some d' → ∀ (E : Value → Shared → Prop) (Q : Value → Shared → Prop),
    (∀ h' tk o', Kept [b] s.heap h' → (∀ c, (s.heap.get? c).isSome = true → (h'.get? c).isSome = true) → h'.get? b = some o' → ORep w (Fz own h') b o' d' → Q .none { s with heap := h', toks := tk }) → wpAny (model prog w) A (call (.ref a) (.ref b :: vs)) Q E s

noncomputable def fnMut (body : DenS) (p0 : Str) (ps : List Str) (extra : List D) (k : Nat) (d : D) (ds : List D) : Option D :=
  if ds.length = k then (body (rho0 (p0 :: ps) (.own d :: (ds ++ extra).map .frz))).bind fun x => match x.1 with
    | .next => ownOf x.2 p0
    | _ => none
  else none

theorem mut_ok {a : Addr} {fd : FuncData} {body : List Stmt} {p0 : Str} {ps : List Str} {k : Nat} {extra : List D} {xs : List Value} {bd : DenS} (hf : FnAt hb a fd body) (hs : fscopeOk fd.scope (p0 :: ps) = true) (hbi : Binds hb fd (p0 :: ps) (k + 1) xs) (hxs : ∀ g : Part, Reps w g extra xs) (hlen : ps.length = k + xs.length)
    (hbd : Exs prog w G hb n (kapF fd.scope) (stoBut (stoF fd.scope) p0) body bd) : MutOk prog w G hb (n + 1) a (fnMut bd p0 ps extra k) :=
  fun A own s b o d ds vs d' R hB hx hh hlt hbo hbg hbr r e E Q hQ => by
    unfold fnMut at e
    split at e
    · rename_i hk
      obtain ⟨⟨fl, ρ'⟩, e1, e⟩ := Option.bind_eq_some_iff.mp e
      have hvl : vs.length = k := by rw [r.length, hk]
      obtain ⟨of, ho, hd⟩ := hf.obj
      refine wpAny_call ?_
      refine codeAny_call_function R.depth (hx _ _ ho) hd hf.co hf.gen hf.body (hf.code.keeps hx) (hbi (.ref b :: vs) s (by simp [hvl]) hx _ _ _ _ ?_)
      rw [hf.clo]
      have hpl : (p0 :: ps).length = (Value.ref b :: vs ++ xs).length := by simp [hvl, hlen]
      have hs' := hs
      simp only [fscopeOk, Bool.and_eq_true, decide_eq_true_eq, List.all_eq_true, Bool.not_eq_true', beq_eq_false_iff_ne, ne_eq, Bool.or_eq_true, beq_iff_eq] at hs'
      refine wpAny_newFunctionEnv_cells hf.kind (fun p hp => ?_) fun env he s₁ x => ?_
      · have hm := (List.of_mem_zip (show (p.1, p.2) ∈ (p0 :: ps).zip (Value.ref b :: vs ++ xs) from hp)).1
        rcases hs'.2 p.1 hm with q | q
        · exact .inl q
        · refine .inr ⟨q, ?_⟩
          obtain ⟨c, hc⟩ := cellsFrom_has fd.scope.names (s.heap.objs.size + 1) p.1 (mem_of_lookup q)
          obtain ⟨c', hc'⟩ := lookup_isSome_of_mem hc
          rw [hc']; rfl
      · have he' : env = callEnvC fd s.heap.objs.size a := he
        subst he'
        obtain ⟨new, hnew, S, W, O, x1⟩ := frame_sim (a := a) (bs := .own d :: (ds ++ extra).map .frz) (own := own) (wro := [b]) (ov := [(p0, b)]) hB hx hh hlt hs hf.kind hf.gl hf.bl hpl (fun c hc => by rw [List.mem_singleton.mp hc]; exact hbo) (fun p hp => by rw [List.mem_singleton.mp hp]; exact List.mem_singleton.mpr rfl) (by simp)
          (fun i v bd' y h1 h2 h3 => by
            cases i with
            | zero =>
              simp at h1 h2 h3
              subst h1 h2 h3
              exact ⟨b, o, rfl, by simp, hbg, hbr⟩
            | succ i =>
              obtain ⟨d2, rfl, q⟩ := reps_any (r.append (hxs _)) (by simpa using h1) (by simpa using h2)
              exact q) x
        refine ⟨hB.nolimit.keeps (hx.trans x1), codeAny_func ?_⟩
        refine hbd (A.deeper _) _ (new ++ own) (new ++ [b]) [(p0, b)] _ s₁ _ fl ρ' (R.deeper _) S (wr_stoBut W) O e1 _ fun rr h' tk own' wr' ov' st S' _ _ F => ?_
        have hlb : (s.heap.get? b).isSome = true := by rw [hbg]; rfl
        have hkp : Kept [b] s.heap h' := fun c o' hc q => st.keep c o' (fun hm => by
          rcases List.mem_append.mp hm with hm | hm
          · have := (hnew c hm).1; rw [this] at q; cases q
          · exact hc hm) (x1 c o' q)
        obtain ⟨h1, tk1, hs1⟩ := x.toInCall.same
        subst hs1
        cases fl with
        | next =>
          obtain ⟨rfl, pn⟩ := F
          have hown := ownOf_some e
          obtain ⟨a2, o2, ha2, hg2, hr2, hin2, _⟩ := S'.ownAt (prog := prog) hown
          have : a2 = b := by
            have q := pn p0 (by simp [stoBut])
            rw [ha2] at q
            simp at q
            exact q
          subst this
          have hso : ∀ c ∈ own, c ∈ own' := fun c hc => (st.stay c (List.mem_append_right _ hc)).elim id fun q => by
            rcases List.mem_append.mp q with q | q
            · exact (isSome_none (hlt c hc) (hnew c q).1).elim
            · rw [List.mem_singleton.mp q]; exact hin2
          exact hQ h' tk o2 hkp (fun c hc => st.live c (x1.some hc)) hg2 (hr2.mono (Fz.fewer hso))
        | ret d2 => cases e
        | cont => cases e
        | brk => cases e
    · cases e

noncomputable def dMut (κ : Str → Option NameKind) (f x : Str) (e : Expr) (F : D → List D → Option D) (fe : Den) : DenS := fun ρ =>
  if isG κ f && isV (κ x) && okName x && !isStarred e then (dFrz fe ρ).bind fun v => (ownOf ρ x).bind fun d => (F d [v]).map fun d' => (.next, upd ρ x (.own d')) else none
theorem ex_mut {f x : Str} {a : Addr} {fd : FuncData} {F : D → List D → Option D} {e : Expr} {p p1 pos spos : Pos} {fe : Den} (hg : G f = some (.ref a)) (ho : ∃ o, hb.get? a = some o ∧ o.data = .func fd) (hF : MutOk prog w G hb n a F) (he : Ev prog w G hb n κ e fe) :
    Ex prog w G hb n κ sto (.Expr (.Call (.Name f p) [.Name x p1, e] [] pos) spos) (dMut κ f x e F fe) :=
  fun A env own wr ov ρ s E fl ρ' R S W O q Q hQ => by
    unfold dMut at q
    split at q
    · rename_i hc
      simp only [Bool.and_eq_true, Bool.not_eq_true'] at hc
      obtain ⟨v, e1, q⟩ := Option.bind_eq_some_iff.mp q
      obtain ⟨d0, e2, q⟩ := Option.bind_eq_some_iff.mp q
      obtain ⟨d', e3, q⟩ := Option.map_eq_some_iff.mp q
      cases q
      obtain ⟨f1, e1, hl⟩ := dFrz_some e1
      have hown := ownOf_some e2
      obtain ⟨b, o, ha, hao, hr, hin, rd⟩ := S.ownAt (prog := prog) hown
      have hg' := hc.1.1.1
      simp only [isG, Bool.and_eq_true, beq_iff_eq] at hg'
      obtain ⟨of, ho1, ho2⟩ := ho
      have hB : Base G hb ∧ Ext hb s.heap ∧ ∀ a ∈ own, hb.get? a = none := let ⟨vm, S⟩ := S; ⟨S.bas, S.ext, S.high⟩
      refine wpAny_Expr (anyE (wpAny_Call_NameR (S.global hg'.1 hg'.2 hg ?_))) S.noninteractive (swaps_none rfl)
      refine Calls.callWith_function (o := of) (fd := fd) ?_
      have hse : backTo pos (starEach [.Name x p1, e] env) = [(false, eval (.Name x p1) env), (false, eval e env)] := by
        rw [starEach_plain rfl, starEach_plain hc.2]; rfl
      rw [hse]
      refine Calls.evalArgs_plain (Calls.spliced_cons (rd _ _ _ _ _ rfl hc.1.2 (Calls.spliced_cons (he A env own ov ρ s f1 v R S e1 _ fun u h1 tk1 x1 r1 => Calls.spliced_nil ?_))))
      refine ⟨⟨x1 _ _ (hB.2.1 _ _ ho1), ho2⟩, ?_⟩
      have S1 := S.ext x1
      refine hF A own { s with heap := h1, toks := tk1 } b o d0 [v] [u] d' R hB.1 (hB.2.1.trans x1) hB.2.2 S1.ltAll hin (x1 _ _ hao) (hr.mono x1.fz) (Reps.single (r1.frz hl S.ltAll)) e3 NoE _ fun h2 tk2 o2 kp lv q2 r2 => ?_
      obtain ⟨S2, st2⟩ := S1.mutateK O ha ⟨_, hown⟩ kp lv q2 r2
      exact hQ .next h2 tk2 own wr ov ((Step.of_ext x1).trans S.ltAll st2) S2 W O ⟨rfl, Pin.refl _ _⟩
    · cases q
end
end Mine
end
section
open PySem PySem.W PyProof.Rows PySem.Spec PySem.SeqAt
set_option maxRecDepth 100000
namespace Mine

/-! ## The plain evaluator -/
abbrev Kap := Str → Option NameKind
structure Sem5 where
  E : Kap → Expr → Den
  B : Kap → Expr → DenB
  I : Kap → Bool → Bool → Expr → Expr → Rho → Option (List D)
  S : Kap → (Str → Bool) → Stmt → DenS
  Ss : Kap → (Str → Bool) → List Stmt → DenS

/-- what a function's evaluator knows: the globals, the functions' answers, those that change their argument, the names whose objects are changed, where a name's object is laid down, a bound on turns -/
structure Know where
  T : Str → Option (List D → Option D)
  M : Str → Option (D → List D → Option D)
  mu : Str → Bool
  lay : Stmt → Option Str
  K : Nat

noncomputable def dNo {α : Type} : Rho → Option α := fun _ => none

noncomputable def lstE (r : Sem5) (κ : Kap) : List Expr → DenL
  | [] => dNil
  | e :: es => dCons e (r.E κ e) (lstE r κ es)

noncomputable def seqS (r : Sem5) (κ : Kap) (sto : Str → Bool) : List Stmt → DenS
  | [] => fun ρ => some (.next, ρ)
  | st :: rest => dSeq (r.S κ sto st) (seqS r κ sto rest)

section
variable {prog : Program} {w : World} {G : Str → Option Value} {hb : Heap} {n : Nat}

structure KnowOk (prog : Program) (w : World) (G : Str → Option Value) (hb : Heap) (n : Nat) (k : Know) : Prop where
  T : ∀ f F, k.T f = some F → ∃ a fd, G f = some (.ref a) ∧ (∃ o, hb.get? a = some o ∧ o.data = .func fd) ∧ CallOk prog w G hb n a F
  M : ∀ f F, k.M f = some F → ∃ a fd, G f = some (.ref a) ∧ (∃ o, hb.get? a = some o ∧ o.data = .func fd) ∧ MutOk prog w G hb n a F

structure Sound (prog : Program) (w : World) (G : Str → Option Value) (hb : Heap) (n : Nat) (k : Know) (r : Sem5) : Prop where
  E : ∀ κ e, Ev prog w G hb n κ e (r.E κ e)
  B : ∀ κ e, EvB prog w G hb n κ e (r.B κ e)
  I : ∀ κ fc lo t e, noSet e = true → EvIt prog w G hb n κ t e fc lo (r.I κ fc lo t e)
  S : ∀ κ sto st, Ex prog w G hb n κ sto st (r.S κ sto st)
  Ss : ∀ κ sto sts, Exs prog w G hb n κ sto sts (r.Ss κ sto sts)


theorem ev_no {κ : Kap} {e : Expr} : Ev prog w G hb n κ e dNo := fun _ _ _ _ _ _ _ _ _ _ e => (nomatch e)
theorem evb_no {κ : Kap} {e : Expr} : EvB prog w G hb n κ e dNo := fun _ _ _ _ _ _ _ _ _ e => (nomatch e)
theorem evit_no {κ : Kap} {t e : Expr} {fc lo : Bool} : EvIt prog w G hb n κ t e fc lo dNo := fun _ _ _ _ _ _ _ _ _ e => (nomatch e)
theorem ex_no {κ : Kap} {sto : Str → Bool} {st : Stmt} : Ex prog w G hb n κ sto st dNo := fun _ _ _ _ _ _ _ _ _ _ _ _ _ _ e => (nomatch e)
theorem exs_no {κ : Kap} {sto : Str → Bool} {st : List Stmt} : Exs prog w G hb n κ sto st dNo := fun _ _ _ _ _ _ _ _ _ _ _ _ _ _ e => (nomatch e)

theorem lst_sound {k : Know} {r : Sem5} (h : Sound prog w G hb n k r) (κ : Kap) : ∀ es, EvL prog w G hb n κ es (lstE r κ es)
  | [] => evl_nil
  | e :: es => evl_cons (h.E κ e) (lst_sound h κ es)
theorem seq_sound {k : Know} {r : Sem5} (h : Sound prog w G hb n k r) (κ : Kap) (sto : Str → Bool) : ∀ sts, Exs prog w G hb n κ sto sts (seqS r κ sto sts)
  | [] => exs_nil
  | st :: sts => exs_cons (h.S κ sto st) (seq_sound h κ sto sts)
end

/-! each construct's word, its soundness beside it -/
abbrev BE (k : Know) (r : Sem5) (κ : Kap) (e : Expr) := { f : Den // ∀ prog w G hb n, KnowOk prog w G hb n k → Sound prog w G hb n k r → Ev prog w G hb n κ e f }
abbrev BB (k : Know) (r : Sem5) (κ : Kap) (e : Expr) := { f : DenB // ∀ prog w G hb n, Sound prog w G hb n k r → EvB prog w G hb n κ e f }
abbrev BI (k : Know) (r : Sem5) (κ : Kap) (fc lo : Bool) (t e : Expr) := { f : Rho → Option (List D) // ∀ prog w G hb n, Sound prog w G hb n k r → EvIt prog w G hb n κ t e fc lo f }
abbrev BS (k : Know) (r : Sem5) (κ : Kap) (sto : Str → Bool) (st : Stmt) := { f : DenS // ∀ prog w G hb n, KnowOk prog w G hb n k → Sound prog w G hb n k r → Ex prog w G hb n κ sto st f }

noncomputable def bList (k : Know) (r : Sem5) (κ : Kap) : (e : Expr) → { f : Den // ∀ p pos prog w G hb n, Sound prog w G hb n k r → Ev prog w G hb n κ (.Call (.Name "list" p) [e] [] pos) f }
  | .Call (.Name y p2) [e'] [] pos2 => ⟨if y = "range" then dListRange κ e' (r.E κ e') else dListOf κ (.Call (.Name y p2) [e'] [] pos2) (r.E κ (.Call (.Name y p2) [e'] [] pos2)), fun _ _ _ _ _ _ _ h => by
      split
      · rename_i hy; exact ev_listRange rfl hy (h.E κ _)
      · exact ev_listOf rfl (h.E κ _)⟩
  | e => ⟨dListOf κ e (r.E κ e), fun _ _ _ _ _ _ _ h => ev_listOf rfl (h.E κ _)⟩
noncomputable def bIsi (k : Know) (r : Sem5) (κ : Kap) (e : Expr) : (e2 : Expr) → { f : Den // ∀ p pos prog w G hb n, Sound prog w G hb n k r → Ev prog w G hb n κ (.Call (.Name "isinstance" p) [e, e2] [] pos) f }
  | .Name y p2 => ⟨dIsTup κ y e (r.E κ e), fun _ _ _ _ _ _ _ h => ev_isTup (h.E κ _)⟩
  | _ => ⟨dNo, fun _ _ _ _ _ _ _ _ => ev_no⟩
noncomputable def callN (k : Know) (r : Sem5) (κ : Kap) (f : Str) (e : Expr) : List Expr → Den
  | [] => if f = "list" then (bList k r κ e).1 else dBfn κ f [e] (lstE r κ [e])
  | [e2] => if f = "isinstance" then (bIsi k r κ e e2).1 else dBfn κ f [e, e2] (lstE r κ [e, e2])
  | e2 :: e3 :: es => dBfn κ f (e :: e2 :: e3 :: es) (lstE r κ (e :: e2 :: e3 :: es))
noncomputable def callE (k : Know) (r : Sem5) (κ : Kap) (f : Str) (e : Expr) (es : List Expr) : Den :=
  match k.T f with
  | some F => dCall κ f (e :: es) F (lstE r κ (e :: es))
  | none => callN k r κ f e es
theorem callE_some {k : Know} {r : Sem5} {κ : Kap} {f : Str} {e : Expr} {es : List Expr} {F : List D → Option D} (h : k.T f = some F) : callE k r κ f e es = dCall κ f (e :: es) F (lstE r κ (e :: es)) := by unfold callE; rw [h]
theorem callE_none {k : Know} {r : Sem5} {κ : Kap} {f : Str} {e : Expr} {es : List Expr} (h : k.T f = none) : callE k r κ f e es = callN k r κ f e es := by unfold callE; rw [h]
theorem callN_sound {prog : Program} {w : World} {G : Str → Option Value} {hb : Heap} {n : Nat} {k : Know} {r : Sem5} (h : Sound prog w G hb n k r) (κ : Kap) (f : Str) (p pos : Pos) (e : Expr) : ∀ es : List Expr, Ev prog w G hb n κ (.Call (.Name f p) (e :: es) [] pos) (callN k r κ f e es)
  | [] => by
    show Ev _ _ _ _ _ _ _ (if f = "list" then (bList k r κ e).1 else dBfn κ f [e] (lstE r κ [e]))
    split
    · rename_i hf; subst hf; exact (bList k r κ e).2 _ _ _ _ _ _ _ h
    · exact ev_bfn (lst_sound h κ _)
  | [e2] => by
    show Ev _ _ _ _ _ _ _ (if f = "isinstance" then (bIsi k r κ e e2).1 else dBfn κ f [e, e2] (lstE r κ [e, e2]))
    split
    · rename_i hf; subst hf; exact (bIsi k r κ e e2).2 _ _ _ _ _ _ _ h
    · exact ev_bfn (lst_sound h κ _)
  | e2 :: e3 :: es => ev_bfn (lst_sound h κ _)
theorem call_sound {prog : Program} {w : World} {G : Str → Option Value} {hb : Heap} {n : Nat} {k : Know} {r : Sem5} (ko : KnowOk prog w G hb n k) (h : Sound prog w G hb n k r) (κ : Kap) (f : Str) (p pos : Pos) (e : Expr) (es : List Expr) : Ev prog w G hb n κ (.Call (.Name f p) (e :: es) [] pos) (callE k r κ f e es) := by
  cases hF : k.T f with
  | some F =>
    rw [callE_some hF]
    obtain ⟨a, fd, h1, h2, h3⟩ := ko.T f F hF
    exact ev_call h1 h2 h3 (lst_sound h κ _)
  | none => rw [callE_none hF]; exact callN_sound h κ f p pos e es

noncomputable def bSub (k : Know) (r : Sem5) (κ : Kap) (pos : Pos) (o : Expr) : (i : Expr) → BE k r κ (.Subscript o i pos)
  | .Slice none (some (.Constant (.int i) c p1)) none p2 => (match o with
    | .Name x p => ⟨dUpto (r.E κ (.Name x p)) i, fun _ _ _ _ _ _ h => ev_upto (h.E κ _)⟩
    | _ => ⟨dNo, fun _ _ _ _ _ _ _ => ev_no⟩)
  | .Name x p => ⟨dSub (r.E κ o) (r.E κ (.Name x p)), fun _ _ _ _ _ _ h => ev_sub (fun _ _ => ⟨_, rfl⟩) (h.E κ _) (h.E κ _)⟩
  | .Constant c k0 p => ⟨dSub (r.E κ o) (r.E κ (.Constant c k0 p)), fun _ _ _ _ _ _ h => ev_sub (fun _ _ => ⟨_, rfl⟩) (h.E κ _) (h.E κ _)⟩
  | .BinOp a op b p => ⟨dSub (r.E κ o) (r.E κ (.BinOp a op b p)), fun _ _ _ _ _ _ h => ev_sub (fun _ _ => ⟨_, rfl⟩) (h.E κ _) (h.E κ _)⟩
  | .Call f es kw p => ⟨dSub (r.E κ o) (r.E κ (.Call f es kw p)), fun _ _ _ _ _ _ h => ev_sub (fun _ _ => ⟨_, rfl⟩) (h.E κ _) (h.E κ _)⟩
  | .Subscript a b p => ⟨dSub (r.E κ o) (r.E κ (.Subscript a b p)), fun _ _ _ _ _ _ h => ev_sub (fun _ _ => ⟨_, rfl⟩) (h.E κ _) (h.E κ _)⟩
  | _ => ⟨dNo, fun _ _ _ _ _ _ _ => ev_no⟩
noncomputable def bE (k : Know) (r : Sem5) (κ : Kap) : (e : Expr) → BE k r κ e
  | .Constant (.int i) _ _ => ⟨fun _ => some (.frozen, .int i), fun _ _ _ _ _ _ _ => ev_int _ _ _⟩
  | .Constant (.str x) _ _ => ⟨fun _ => some (.frozen, .str x), fun _ _ _ _ _ _ _ => ev_str _ _ _⟩
  | .Constant (.bool b) _ _ => ⟨fun _ => some (.frozen, .bool b), fun _ _ _ _ _ _ _ => ev_bool _ _ _⟩
  | .Constant .none _ _ => ⟨fun _ => some (.frozen, .none), fun _ _ _ _ _ _ _ => ev_none _ _⟩
  | .Name x _ => ⟨dName κ x, fun _ _ _ _ _ _ _ => ev_name _ _⟩
  | .BinOp l op r' _ => ⟨dBin op (r.E κ l) (r.E κ r'), fun _ _ _ _ _ _ h => ev_bin (h.E κ _) (h.E κ _)⟩
  | .Compare l [op] [r'] _ => ⟨dVal (dCmp op r' (r.E κ l) (r.E κ r')), fun _ _ _ _ _ _ h => ev_cmp (h.E κ _) (h.E κ _)⟩
  | .BoolOp .And [l, r'] _ => ⟨dAndV (r.E κ l) (r.E κ r'), fun _ _ _ _ _ _ h => ev_andV (h.E κ _) (h.E κ _)⟩
  | .Tuple es _ _ => ⟨dTup (lstE r κ es), fun _ _ _ _ _ _ h => ev_tup (lst_sound h κ _)⟩
  | .List es _ => ⟨dLst (lstE r κ es), fun _ _ _ _ _ _ h => ev_lst (lst_sound h κ _)⟩
  | .Subscript o i pos => bSub k r κ pos o i
  | .Dict [] [] _ => ⟨fun _ => some (.fresh, .idict [] []), fun _ _ _ _ _ _ _ => ev_dict0⟩
  | .Dict [some a] [b] _ => ⟨dDict1 (r.E κ a) (r.E κ b), fun _ _ _ _ _ _ h => ev_dict1 (h.E κ _) (h.E κ _)⟩
  | .ListComp elt gens scope _ => ⟨fun ρ => (dComp κ (r.I κ true true) (r.E (kapC scope κ)) (r.B (kapC scope κ)) (r.I (kapC scope κ) true false) elt gens scope ρ).map fun out => (.fresh, .lst out),
      fun _ _ _ _ _ _ h => ev_comp (fun t c hc => h.I κ true true t c hc) (fun c => h.E _ c) (fun c => h.B _ c) (fun t c hc => h.I _ true false t c hc)⟩
  | .Call (.Name f p) (e :: es) [] pos => ⟨callE k r κ f e es, fun _ _ _ _ _ ko h => call_sound ko h κ f p pos e es⟩
  | .Call (.Attribute o name apos) (e :: es) [] pos => ⟨dMeth o name (e :: es) apos pos (r.E κ o) (lstE r κ (e :: es)), fun _ _ _ _ _ _ h => ev_meth (h.E κ _) (lst_sound h κ _)⟩
  | _ => ⟨dNo, fun _ _ _ _ _ _ _ => ev_no⟩
noncomputable def stepE (k : Know) (r : Sem5) (κ : Kap) (e : Expr) : Den := (bE k r κ e).1

noncomputable def bB (k : Know) (r : Sem5) (κ : Kap) : (e : Expr) → BB k r κ e
  | .BoolOp .And [] _ => ⟨fun _ => some true, fun _ _ _ _ _ _ => evb_and_nil⟩
  | .BoolOp .And (x :: rest) pos => ⟨dAnd (r.B κ x) (r.B κ (.BoolOp .And rest pos)), fun _ _ _ _ _ h => evb_and (h.B κ _) (h.B κ _)⟩
  | .BoolOp .Or [] _ => ⟨fun _ => some false, fun _ _ _ _ _ _ => evb_or_nil⟩
  | .BoolOp .Or (x :: rest) pos => ⟨dOr (r.B κ x) (r.B κ (.BoolOp .Or rest pos)), fun _ _ _ _ _ h => evb_or (h.B κ _) (h.B κ _)⟩
  | .Compare l [op] [r'] _ => ⟨dCmp op r' (r.E κ l) (r.E κ r'), fun _ _ _ _ _ h => evb_cmp (h.E κ _) (h.E κ _)⟩
  | .Call f es kw pos => ⟨dTruth (r.E κ (.Call f es kw pos)), fun _ _ _ _ _ h => evb_plain (h.E κ _) (fun _ _ => rfl)⟩
  | _ => ⟨dNo, fun _ _ _ _ _ _ => evb_no⟩
noncomputable def stepB (k : Know) (r : Sem5) (κ : Kap) (e : Expr) : DenB := (bB k r κ e).1

/-- what the target may be: a tuple -/
noncomputable def bEnum (k : Know) (r : Sem5) (κ : Kap) (fc lo : Bool) (e : Expr) : (t : Expr) → { f : Rho → Option (List D) // ∀ p pos prog w G hb n, Sound prog w G hb n k r → EvIt prog w G hb n κ t (.Call (.Name "enumerate" p) [e] [] pos) fc lo f }
  | .Tuple es c tp => ⟨dItEnum κ lo e (r.E κ e), fun _ _ _ _ _ _ _ h => evit_enum (h.E κ _) rfl⟩
  | _ => ⟨dNo, fun _ _ _ _ _ _ _ _ => evit_no⟩
noncomputable def bItems (k : Know) (r : Sem5) (κ : Kap) (apos pos : Pos) (o : Expr) : (t : Expr) → { f : Rho → Option (List D) // ∀ prog w G hb n, Sound prog w G hb n k r → EvIt prog w G hb n κ t (.Call (.Attribute o "items" apos) [] [] pos) false false f }
  | .Tuple es c tp => ⟨dItItems o apos pos (r.E κ o), fun _ _ _ _ _ h => evit_items (h.E κ _) rfl⟩
  | _ => ⟨dNo, fun _ _ _ _ _ _ => evit_no⟩
noncomputable def bI (k : Know) (r : Sem5) (κ : Kap) (fc lo : Bool) (t : Expr) : (e : Expr) → BI k r κ fc lo t e
  | .Call (.Name f p) [e] [] pos => ⟨if f = "range" then dItRange κ e (r.E κ e) else if f = "enumerate" then (bEnum k r κ fc lo e t).1 else dItList lo (r.E κ (.Call (.Name f p) [e] [] pos)), fun _ _ _ _ _ h => by
      split
      · rename_i hf; exact evit_range (h.E κ _) hf
      · split
        · rename_i hf; subst hf; exact (bEnum k r κ fc lo e t).2 _ _ _ _ _ _ _ h
        · exact evit_list (h.E κ _)⟩
  | .Call (.Attribute o a apos) [] [] pos => (match fc, lo with
    | false, false => ⟨if a = "items" then (bItems k r κ apos pos o t).1 else if a = "values" then dItVals o apos pos (r.E κ o) else dNo, fun _ _ _ _ _ h => by
        split
        · rename_i ha; subst ha; exact (bItems k r κ apos pos o t).2 _ _ _ _ _ h
        · split
          · rename_i ha; exact evit_vals (h.E κ _) ha
          · exact evit_no⟩
    | _, _ => ⟨dNo, fun _ _ _ _ _ _ => evit_no⟩)
  | e => ⟨dItList lo (r.E κ e), fun _ _ _ _ _ h => evit_list (h.E κ _)⟩
noncomputable def stepI (k : Know) (r : Sem5) (κ : Kap) (fc lo : Bool) (t e : Expr) : Rho → Option (List D) := (bI k r κ fc lo t e).1

noncomputable def bAssign (k : Know) (r : Sem5) (κ : Kap) (sto : Str → Bool) (x : Str) (p pos : Pos) : (value : Expr) → BS k r κ sto (.Assign [.Name x p] value pos)
  | .ListComp elt gens scope vp => ⟨dAssignC κ sto k.mu x p scope vp (dComp κ (r.I κ true true) (r.E (kapC scope κ)) (r.B (kapC scope κ)) (r.I (kapC scope κ) true false) elt gens scope),
      fun _ _ _ _ _ _ h => ex_assignC (fun t c hc => h.I κ true true t c hc) (fun c => h.E _ c) (fun c => h.B _ c) (fun t c hc => h.I _ true false t c hc)⟩
  | value => ⟨dAssign κ sto k.mu x value (r.E κ value), fun _ _ _ _ _ _ h => ex_assign (h.E κ _)⟩
noncomputable def bTuple (k : Know) (r : Sem5) (κ : Kap) (sto : Str → Bool) (ts : List Expr) (c : Nat) (tp pos : Pos) : (value : Expr) → BS k r κ sto (.Assign [.Tuple ts c tp] value pos)
--[02
  | .Tuple vs _ _ => ⟨dTupAssign κ sto k.mu (r.E κ) ts vs, fun _ _ _ _ _ _ h => ex_tupAssign (fun c => h.E κ c)⟩
--]
  | .Call f es kw p => ⟨dUnpack κ sto (.Tuple ts c tp) (r.E κ (.Call f es kw p)), fun _ _ _ _ _ _ h => ex_unpack (fun _ => rfl) (fun _ => rfl) (h.E κ _)⟩
  | _ => ⟨dNo, fun _ _ _ _ _ _ _ => ex_no⟩
noncomputable def bFor (k : Know) (r : Sem5) (κ : Kap) (sto : Str → Bool) (target : Expr) (body : List Stmt) (pos : Pos) : (iter : Expr) → BS k r κ sto (.For target iter body [] pos)
  | .Name x p => ⟨fun ρ => if (ownOf ρ x).isSome then dGrow κ sto k.K x target (r.Ss κ (stoBut sto x) body) ρ else dFor (r.I κ false false target (.Name x p)) (dTarget κ sto target) (r.Ss κ sto body) ρ,
      fun _ _ _ _ _ _ h => ex_either (ex_grow _ (h.Ss κ _ _)) (ex_for rfl (h.I κ false false _ _ rfl) (h.Ss κ sto _))⟩
  | iter => ⟨if noSet iter = true then dFor (r.I κ false false target iter) (dTarget κ sto target) (r.Ss κ sto body) else dNo, fun _ _ _ _ _ _ h => by
      split
      · rename_i hn; exact ex_for hn (h.I κ false false _ _ hn) (h.Ss κ sto _)
      · exact ex_no⟩
noncomputable def bMut (k : Know) (f : Str) (κ : Kap) (r : Sem5) (x : Str) (e : Expr) : DenS := match k.M f with
  | some F => dMut κ f x e F (r.E κ e)
  | none => dNo
theorem bMut_some {k : Know} {r : Sem5} {κ : Kap} {f x : Str} {e : Expr} {F : D → List D → Option D} (h : k.M f = some F) : bMut k f κ r x e = dMut κ f x e F (r.E κ e) := by unfold bMut; rw [h]
theorem mut_sound {prog : Program} {w : World} {G : Str → Option Value} {hb : Heap} {n : Nat} {k : Know} {r : Sem5} (ko : KnowOk prog w G hb n k) (h : Sound prog w G hb n k r) (κ : Kap) (sto : Str → Bool) (f x : Str) (p p1 pos spos : Pos) (e : Expr) : Ex prog w G hb n κ sto (.Expr (.Call (.Name f p) [.Name x p1, e] [] pos) spos) (bMut k f κ r x e) := by
  cases hF : k.M f with
  | some F =>
    rw [bMut_some hF]
    obtain ⟨a, fd, h1, h2, h3⟩ := ko.M f F hF
    exact ex_mut h1 h2 h3 (h.E κ _)
  | none => unfold bMut; rw [hF]; exact ex_no
noncomputable def bS (k : Know) (r : Sem5) (κ : Kap) (sto : Str → Bool) : (st : Stmt) → BS k r κ sto st
  | .Assign [.Name x p] value pos => bAssign k r κ sto x p pos value
  | .Assign [.Tuple ts c tp] value pos => bTuple k r κ sto ts c tp pos value
  | .Assign [.Subscript (.Name x _) i _] value _ => ⟨dSetSub κ x (r.E κ i) (r.E κ value), fun _ _ _ _ _ _ h => ex_setSub (h.E κ _) (h.E κ _)⟩
  | .AugAssign (.Subscript (.Name x _) i _) .Add value _ => ⟨dAugSub κ x i (r.E κ i) (r.E κ value), fun _ _ _ _ _ _ h => ex_augSub (h.E κ _) (h.E κ _)⟩
  | .AugAssign (.Name x _) .Add value _ => ⟨dAugName κ sto x (r.E κ value), fun _ _ _ _ _ _ h => ex_augName (h.E κ _)⟩
  | .If t b o _ => ⟨dIfS (r.B κ t) (r.Ss κ sto b) (r.Ss κ sto o), fun _ _ _ _ _ _ h => ex_if (h.B κ _) (h.Ss κ sto _) (h.Ss κ sto _)⟩
  | .While t b [] _ => ⟨whileD (r.B κ t) (r.Ss κ sto b) k.K, fun _ _ _ _ _ _ h => ex_while _ (h.B κ _) (h.Ss κ sto _)⟩
  | .For target iter body [] pos => bFor k r κ sto target body pos iter
  | .Return (some e) _ => ⟨dLay (dRet (r.E κ e)), fun _ _ _ _ _ _ h => ex_ret (h.E κ _)⟩
  | .Return none _ => ⟨fun ρ => some (.ret .none, ρ), fun _ _ _ _ _ _ _ => ex_retNone⟩
  | .Expr (.Call (.Attribute (.Name x _) name apos) [e] [] pos) _ => ⟨if name = "append" then dAppend κ x e apos pos (r.E κ e) else dNo, fun _ _ _ _ _ _ h => by
      split
      · rename_i hn; exact ex_append hn (h.E κ _)
      · exact ex_no⟩
  | .Expr (.Call (.Attribute (.Name x _) name apos) [i, e] [] pos) _ => ⟨if name = "insert" then dInsert κ x i e apos pos (r.E κ i) (r.E κ e) else dNo, fun _ _ _ _ _ _ h => by
      split
      · rename_i hn; exact ex_insert hn (h.E κ _) (h.E κ _)
      · exact ex_no⟩
  | .Expr (.Call (.Name f p) [.Name x p1, e] [] pos) spos => ⟨bMut k f κ r x e, fun _ _ _ _ _ ko h => mut_sound ko h κ sto f x p p1 pos spos e⟩
  | _ => ⟨dNo, fun _ _ _ _ _ _ _ => ex_no⟩
noncomputable def stepS0 (k : Know) (r : Sem5) (κ : Kap) (sto : Str → Bool) (st : Stmt) : DenS := (bS k r κ sto st).1
noncomputable def stepS (k : Know) (r : Sem5) (κ : Kap) (sto : Str → Bool) (st : Stmt) : DenS :=
  match k.lay st with
  | some x => dLayOne sto x (stepS0 k r κ sto st)
  | none => stepS0 k r κ sto st

noncomputable def step5 (k : Know) (r : Sem5) : Sem5 := ⟨stepE k r, stepB k r, stepI k r, stepS k r, seqS r⟩
noncomputable def den (k : Know) : Nat → Sem5
  | 0 => ⟨fun _ _ => dNo, fun _ _ => dNo, fun _ _ _ _ _ => dNo, fun _ _ _ => dNo, fun _ _ _ => dNo⟩
  | n + 1 => step5 k (den k n)

theorem s_sound {prog : Program} {w : World} {G : Str → Option Value} {hb : Heap} {n : Nat} {k : Know} {r : Sem5} (ko : KnowOk prog w G hb n k) (h : Sound prog w G hb n k r) (κ : Kap) (sto : Str → Bool) (st : Stmt) : Ex prog w G hb n κ sto st (stepS k r κ sto st) := by
  unfold stepS
  split
  · exact ex_layOne _ ((bS k r κ sto st).2 _ _ _ _ _ ko h)
  · exact (bS k r κ sto st).2 _ _ _ _ _ ko h
theorem den_sound {prog : Program} {w : World} {G : Str → Option Value} {hb : Heap} {n : Nat} {k : Know} (ko : KnowOk prog w G hb n k) : ∀ m, Sound prog w G hb n k (den k m)
  | 0 => ⟨fun _ _ => ev_no, fun _ _ => evb_no, fun _ _ _ _ _ _ => evit_no, fun _ _ _ => ex_no, fun _ _ _ => exs_no⟩
  | m + 1 => have h := den_sound ko m; ⟨fun κ e => (bE k (den k m) κ e).2 _ _ _ _ _ ko h, fun κ e => (bB k (den k m) κ e).2 _ _ _ _ _ h, fun κ fc lo t e _ => (bI k (den k m) κ fc lo t e).2 _ _ _ _ _ h, s_sound ko h, seq_sound h⟩

/-! the words as equations -/
theorem E_int (k : Know) (r : Sem5) (κ : Kap) (i : Int) (c : Nat) (p : Pos) : stepE k r κ (.Constant (.int i) c p) = fun _ => some (.frozen, .int i) := rfl
theorem E_str (k : Know) (r : Sem5) (κ : Kap) (i : Str) (c : Nat) (p : Pos) : stepE k r κ (.Constant (.str i) c p) = fun _ => some (.frozen, .str i) := rfl
theorem E_bool (k : Know) (r : Sem5) (κ : Kap) (i : Bool) (c : Nat) (p : Pos) : stepE k r κ (.Constant (.bool i) c p) = fun _ => some (.frozen, .bool i) := rfl
theorem E_none (k : Know) (r : Sem5) (κ : Kap) (c : Nat) (p : Pos) : stepE k r κ (.Constant .none c p) = fun _ => some (.frozen, .none) := rfl
theorem E_name (k : Know) (r : Sem5) (κ : Kap) (x : Str) (p : Pos) : stepE k r κ (.Name x p) = dName κ x := rfl
theorem E_bin (k : Know) (r : Sem5) (κ : Kap) (a b : Expr) (op : Operator) (p : Pos) : stepE k r κ (.BinOp a op b p) = dBin op (r.E κ a) (r.E κ b) := rfl
theorem E_cmp (k : Know) (r : Sem5) (κ : Kap) (a b : Expr) (op : CmpOp) (p : Pos) : stepE k r κ (.Compare a [op] [b] p) = dVal (dCmp op b (r.E κ a) (r.E κ b)) := rfl
theorem E_andV (k : Know) (r : Sem5) (κ : Kap) (a b : Expr) (p : Pos) : stepE k r κ (.BoolOp .And [a, b] p) = dAndV (r.E κ a) (r.E κ b) := rfl
theorem E_tup (k : Know) (r : Sem5) (κ : Kap) (es : List Expr) (c : Nat) (p : Pos) : stepE k r κ (.Tuple es c p) = dTup (lstE r κ es) := rfl
theorem E_lst (k : Know) (r : Sem5) (κ : Kap) (es : List Expr) (p : Pos) : stepE k r κ (.List es p) = dLst (lstE r κ es) := rfl
theorem E_upto (k : Know) (r : Sem5) (κ : Kap) (x : Str) (p p1 p2 p3 : Pos) (i : Int) (c : Nat) : stepE k r κ (.Subscript (.Name x p) (.Slice none (some (.Constant (.int i) c p1)) none p2) p3) = dUpto (r.E κ (.Name x p)) i := rfl
theorem E_sub_name (k : Know) (r : Sem5) (κ : Kap) (o : Expr) (p : Pos) (x : Str) (p0 : Pos) : stepE k r κ (.Subscript o (.Name x p0) p) = dSub (r.E κ o) (r.E κ (.Name x p0)) := rfl
theorem E_sub_con (k : Know) (r : Sem5) (κ : Kap) (o : Expr) (p : Pos) (x : Const) (c0 : Nat) (p0 : Pos) : stepE k r κ (.Subscript o (.Constant x c0 p0) p) = dSub (r.E κ o) (r.E κ (.Constant x c0 p0)) := rfl
theorem E_sub_bin (k : Know) (r : Sem5) (κ : Kap) (o : Expr) (p : Pos) (a0 b0 : Expr) (op0 : Operator) (p0 : Pos) : stepE k r κ (.Subscript o (.BinOp a0 op0 b0 p0) p) = dSub (r.E κ o) (r.E κ (.BinOp a0 op0 b0 p0)) := rfl
theorem E_sub_sub (k : Know) (r : Sem5) (κ : Kap) (o : Expr) (p : Pos) (a0 b0 : Expr) (p0 : Pos) : stepE k r κ (.Subscript o (.Subscript a0 b0 p0) p) = dSub (r.E κ o) (r.E κ (.Subscript a0 b0 p0)) := rfl
theorem E_sub_call (k : Know) (r : Sem5) (κ : Kap) (o : Expr) (p : Pos) (f0 : Expr) (es0 : List Expr) (kw0 : List Keyword) (p0 : Pos) : stepE k r κ (.Subscript o (.Call f0 es0 kw0 p0) p) = dSub (r.E κ o) (r.E κ (.Call f0 es0 kw0 p0)) := rfl
theorem E_dict0 (k : Know) (r : Sem5) (κ : Kap) (p : Pos) : stepE k r κ (.Dict [] [] p) = fun _ => some (.fresh, .idict [] []) := rfl
theorem E_dict1 (k : Know) (r : Sem5) (κ : Kap) (a b : Expr) (p : Pos) : stepE k r κ (.Dict [some a] [b] p) = dDict1 (r.E κ a) (r.E κ b) := rfl
theorem E_comp (k : Know) (r : Sem5) (κ : Kap) (elt : Expr) (gens : List Comprehension) (scope : Scope) (p : Pos) : stepE k r κ (.ListComp elt gens scope p) = fun ρ => (dComp κ (r.I κ true true) (r.E (kapC scope κ)) (r.B (kapC scope κ)) (r.I (kapC scope κ) true false) elt gens scope ρ).map fun out => (.fresh, .lst out) := rfl
theorem E_call (k : Know) (r : Sem5) (κ : Kap) (f : Str) (p pos : Pos) (e : Expr) (es : List Expr) : stepE k r κ (.Call (.Name f p) (e :: es) [] pos) = callE k r κ f e es := rfl
theorem E_meth (k : Know) (r : Sem5) (κ : Kap) (o : Expr) (name : Str) (apos pos : Pos) (e : Expr) (es : List Expr) : stepE k r κ (.Call (.Attribute o name apos) (e :: es) [] pos) = dMeth o name (e :: es) apos pos (r.E κ o) (lstE r κ (e :: es)) := rfl
theorem N_one (k : Know) (r : Sem5) (κ : Kap) (f : Str) (e : Expr) : callN k r κ f e [] = if f = "list" then (bList k r κ e).1 else dBfn κ f [e] (lstE r κ [e]) := rfl
theorem N_two (k : Know) (r : Sem5) (κ : Kap) (f : Str) (e e2 : Expr) : callN k r κ f e [e2] = if f = "isinstance" then (bIsi k r κ e e2).1 else dBfn κ f [e, e2] (lstE r κ [e, e2]) := rfl
theorem N_list (k : Know) (r : Sem5) (κ : Kap) (y : Str) (e : Expr) (p pos : Pos) : (bList k r κ (.Call (.Name y p) [e] [] pos)).1 = if y = "range" then dListRange κ e (r.E κ e) else dListOf κ (.Call (.Name y p) [e] [] pos) (r.E κ (.Call (.Name y p) [e] [] pos)) := rfl
theorem N_lname (k : Know) (r : Sem5) (κ : Kap) (x : Str) (p : Pos) : (bList k r κ (.Name x p)).1 = dListOf κ (.Name x p) (r.E κ (.Name x p)) := rfl
theorem N_isi (k : Know) (r : Sem5) (κ : Kap) (e : Expr) (y : Str) (p : Pos) : (bIsi k r κ e (.Name y p)).1 = dIsTup κ y e (r.E κ e) := rfl
theorem B_and0 (k : Know) (r : Sem5) (κ : Kap) (p : Pos) : stepB k r κ (.BoolOp .And [] p) = fun _ => some true := rfl
theorem B_and (k : Know) (r : Sem5) (κ : Kap) (x : Expr) (xs : List Expr) (p : Pos) : stepB k r κ (.BoolOp .And (x :: xs) p) = dAnd (r.B κ x) (r.B κ (.BoolOp .And xs p)) := rfl
theorem B_or0 (k : Know) (r : Sem5) (κ : Kap) (p : Pos) : stepB k r κ (.BoolOp .Or [] p) = fun _ => some false := rfl
theorem B_or (k : Know) (r : Sem5) (κ : Kap) (x : Expr) (xs : List Expr) (p : Pos) : stepB k r κ (.BoolOp .Or (x :: xs) p) = dOr (r.B κ x) (r.B κ (.BoolOp .Or xs p)) := rfl
theorem B_cmp (k : Know) (r : Sem5) (κ : Kap) (a b : Expr) (op : CmpOp) (p : Pos) : stepB k r κ (.Compare a [op] [b] p) = dCmp op b (r.E κ a) (r.E κ b) := rfl
theorem B_call (k : Know) (r : Sem5) (κ : Kap) (f : Expr) (es : List Expr) (kw : List Keyword) (p : Pos) : stepB k r κ (.Call f es kw p) = dTruth (r.E κ (.Call f es kw p)) := rfl
theorem I_call1 (k : Know) (r : Sem5) (κ : Kap) (fc lo : Bool) (t : Expr) (f : Str) (p pos : Pos) (e : Expr) : stepI k r κ fc lo t (.Call (.Name f p) [e] [] pos) = if f = "range" then dItRange κ e (r.E κ e) else if f = "enumerate" then (bEnum k r κ fc lo e t).1 else dItList lo (r.E κ (.Call (.Name f p) [e] [] pos)) := rfl
theorem I_call2 (k : Know) (r : Sem5) (κ : Kap) (fc lo : Bool) (t : Expr) (f : Str) (p pos : Pos) (e e2 : Expr) (es : List Expr) : stepI k r κ fc lo t (.Call (.Name f p) (e :: e2 :: es) [] pos) = dItList lo (r.E κ (.Call (.Name f p) (e :: e2 :: es) [] pos)) := rfl
theorem I_meth (k : Know) (r : Sem5) (κ : Kap) (t : Expr) (o : Expr) (a : Str) (apos pos : Pos) : stepI k r κ false false t (.Call (.Attribute o a apos) [] [] pos) = if a = "items" then (bItems k r κ apos pos o t).1 else if a = "values" then dItVals o apos pos (r.E κ o) else dNo := rfl
theorem I_name (k : Know) (r : Sem5) (κ : Kap) (fc lo : Bool) (t : Expr) (x : Str) (p0 : Pos) : stepI k r κ fc lo t (.Name x p0) = dItList lo (r.E κ (.Name x p0)) := rfl
theorem I_lst (k : Know) (r : Sem5) (κ : Kap) (fc lo : Bool) (t : Expr) (es0 : List Expr) (p0 : Pos) : stepI k r κ fc lo t (.List es0 p0) = dItList lo (r.E κ (.List es0 p0)) := rfl
theorem I_tup (k : Know) (r : Sem5) (κ : Kap) (fc lo : Bool) (t : Expr) (es0 : List Expr) (c0 : Nat) (p0 : Pos) : stepI k r κ fc lo t (.Tuple es0 c0 p0) = dItList lo (r.E κ (.Tuple es0 c0 p0)) := rfl
theorem I_sub (k : Know) (r : Sem5) (κ : Kap) (fc lo : Bool) (t : Expr) (a0 b0 : Expr) (p0 : Pos) : stepI k r κ fc lo t (.Subscript a0 b0 p0) = dItList lo (r.E κ (.Subscript a0 b0 p0)) := rfl
theorem I_bin (k : Know) (r : Sem5) (κ : Kap) (fc lo : Bool) (t : Expr) (a0 b0 : Expr) (op0 : Operator) (p0 : Pos) : stepI k r κ fc lo t (.BinOp a0 op0 b0 p0) = dItList lo (r.E κ (.BinOp a0 op0 b0 p0)) := rfl
theorem I_enum (k : Know) (r : Sem5) (κ : Kap) (fc lo : Bool) (e : Expr) (es : List Expr) (c : Nat) (tp : Pos) : (bEnum k r κ fc lo e (.Tuple es c tp)).1 = dItEnum κ lo e (r.E κ e) := rfl
theorem I_items (k : Know) (r : Sem5) (κ : Kap) (apos pos : Pos) (o : Expr) (es : List Expr) (c : Nat) (tp : Pos) : (bItems k r κ apos pos o (.Tuple es c tp)).1 = dItItems o apos pos (r.E κ o) := rfl
theorem S_assignC (k : Know) (r : Sem5) (κ : Kap) (sto : Str → Bool) (x : Str) (p pos vp : Pos) (elt : Expr) (gens : List Comprehension) (scope : Scope) : stepS0 k r κ sto (.Assign [.Name x p] (.ListComp elt gens scope vp) pos) = dAssignC κ sto k.mu x p scope vp (dComp κ (r.I κ true true) (r.E (kapC scope κ)) (r.B (kapC scope κ)) (r.I (kapC scope κ) true false) elt gens scope) := rfl
theorem S_assign_name (k : Know) (r : Sem5) (κ : Kap) (sto : Str → Bool) (x : Str) (p pos : Pos) (y : Str) (p0 : Pos) : stepS0 k r κ sto (.Assign [.Name x p] (.Name y p0) pos) = dAssign κ sto k.mu x (.Name y p0) (r.E κ (.Name y p0)) := rfl
theorem S_assign_con (k : Know) (r : Sem5) (κ : Kap) (sto : Str → Bool) (x : Str) (p pos : Pos) (y : Const) (c0 : Nat) (p0 : Pos) : stepS0 k r κ sto (.Assign [.Name x p] (.Constant y c0 p0) pos) = dAssign κ sto k.mu x (.Constant y c0 p0) (r.E κ (.Constant y c0 p0)) := rfl
theorem S_assign_bin (k : Know) (r : Sem5) (κ : Kap) (sto : Str → Bool) (x : Str) (p pos : Pos) (a0 b0 : Expr) (op0 : Operator) (p0 : Pos) : stepS0 k r κ sto (.Assign [.Name x p] (.BinOp a0 op0 b0 p0) pos) = dAssign κ sto k.mu x (.BinOp a0 op0 b0 p0) (r.E κ (.BinOp a0 op0 b0 p0)) := rfl
theorem S_assign_call (k : Know) (r : Sem5) (κ : Kap) (sto : Str → Bool) (x : Str) (p pos : Pos) (f0 : Expr) (es0 : List Expr) (kw0 : List Keyword) (p0 : Pos) : stepS0 k r κ sto (.Assign [.Name x p] (.Call f0 es0 kw0 p0) pos) = dAssign κ sto k.mu x (.Call f0 es0 kw0 p0) (r.E κ (.Call f0 es0 kw0 p0)) := rfl
theorem S_assign_sub (k : Know) (r : Sem5) (κ : Kap) (sto : Str → Bool) (x : Str) (p pos : Pos) (a0 b0 : Expr) (p0 : Pos) : stepS0 k r κ sto (.Assign [.Name x p] (.Subscript a0 b0 p0) pos) = dAssign κ sto k.mu x (.Subscript a0 b0 p0) (r.E κ (.Subscript a0 b0 p0)) := rfl
theorem S_assign_cmp (k : Know) (r : Sem5) (κ : Kap) (sto : Str → Bool) (x : Str) (p pos : Pos) (a0 : Expr) (ops0 : List CmpOp) (es0 : List Expr) (p0 : Pos) : stepS0 k r κ sto (.Assign [.Name x p] (.Compare a0 ops0 es0 p0) pos) = dAssign κ sto k.mu x (.Compare a0 ops0 es0 p0) (r.E κ (.Compare a0 ops0 es0 p0)) := rfl
theorem S_assign_ifx (k : Know) (r : Sem5) (κ : Kap) (sto : Str → Bool) (x : Str) (p pos : Pos) (a0 b0 c0 : Expr) (p0 : Pos) : stepS0 k r κ sto (.Assign [.Name x p] (.IfExp a0 b0 c0 p0) pos) = dAssign κ sto k.mu x (.IfExp a0 b0 c0 p0) (r.E κ (.IfExp a0 b0 c0 p0)) := rfl
theorem S_assign_lst (k : Know) (r : Sem5) (κ : Kap) (sto : Str → Bool) (x : Str) (p pos : Pos) (es0 : List Expr) (p0 : Pos) : stepS0 k r κ sto (.Assign [.Name x p] (.List es0 p0) pos) = dAssign κ sto k.mu x (.List es0 p0) (r.E κ (.List es0 p0)) := rfl
theorem S_assign_tup (k : Know) (r : Sem5) (κ : Kap) (sto : Str → Bool) (x : Str) (p pos : Pos) (es0 : List Expr) (c0 : Nat) (p0 : Pos) : stepS0 k r κ sto (.Assign [.Name x p] (.Tuple es0 c0 p0) pos) = dAssign κ sto k.mu x (.Tuple es0 c0 p0) (r.E κ (.Tuple es0 c0 p0)) := rfl
theorem S_assign_dict (k : Know) (r : Sem5) (κ : Kap) (sto : Str → Bool) (x : Str) (p pos : Pos) (ks0 : List (Option Expr)) (es0 : List Expr) (p0 : Pos) : stepS0 k r κ sto (.Assign [.Name x p] (.Dict ks0 es0 p0) pos) = dAssign κ sto k.mu x (.Dict ks0 es0 p0) (r.E κ (.Dict ks0 es0 p0)) := rfl
theorem S_assign_boo (k : Know) (r : Sem5) (κ : Kap) (sto : Str → Bool) (x : Str) (p pos : Pos) (o0 : BoolOp) (es0 : List Expr) (p0 : Pos) : stepS0 k r κ sto (.Assign [.Name x p] (.BoolOp o0 es0 p0) pos) = dAssign κ sto k.mu x (.BoolOp o0 es0 p0) (r.E κ (.BoolOp o0 es0 p0)) := rfl
--[02
theorem S_tup (k : Know) (r : Sem5) (κ : Kap) (sto : Str → Bool) (ts vs : List Expr) (c c2 : Nat) (tp vp pos : Pos) : stepS0 k r κ sto (.Assign [.Tuple ts c tp] (.Tuple vs c2 vp) pos) = dTupAssign κ sto k.mu (r.E κ) ts vs := rfl
--]
theorem S_unpack_call (k : Know) (r : Sem5) (κ : Kap) (sto : Str → Bool) (ts : List Expr) (c : Nat) (tp pos : Pos) (f0 : Expr) (es0 : List Expr) (kw0 : List Keyword) (p0 : Pos) : stepS0 k r κ sto (.Assign [.Tuple ts c tp] (.Call f0 es0 kw0 p0) pos) = dUnpack κ sto (.Tuple ts c tp) (r.E κ (.Call f0 es0 kw0 p0)) := rfl
theorem S_setSub (k : Know) (r : Sem5) (κ : Kap) (sto : Str → Bool) (x : Str) (p p2 pos : Pos) (i v : Expr) : stepS0 k r κ sto (.Assign [.Subscript (.Name x p) i p2] v pos) = dSetSub κ x (r.E κ i) (r.E κ v) := rfl
theorem S_augSub (k : Know) (r : Sem5) (κ : Kap) (sto : Str → Bool) (x : Str) (p p2 pos : Pos) (i v : Expr) : stepS0 k r κ sto (.AugAssign (.Subscript (.Name x p) i p2) .Add v pos) = dAugSub κ x i (r.E κ i) (r.E κ v) := rfl
theorem S_augName (k : Know) (r : Sem5) (κ : Kap) (sto : Str → Bool) (x : Str) (p pos : Pos) (v : Expr) : stepS0 k r κ sto (.AugAssign (.Name x p) .Add v pos) = dAugName κ sto x (r.E κ v) := rfl
theorem S_if (k : Know) (r : Sem5) (κ : Kap) (sto : Str → Bool) (t : Expr) (b o : List Stmt) (pos : Pos) : stepS0 k r κ sto (.If t b o pos) = dIfS (r.B κ t) (r.Ss κ sto b) (r.Ss κ sto o) := rfl
theorem S_while (k : Know) (r : Sem5) (κ : Kap) (sto : Str → Bool) (t : Expr) (b : List Stmt) (pos : Pos) : stepS0 k r κ sto (.While t b [] pos) = whileD (r.B κ t) (r.Ss κ sto b) k.K := rfl
theorem S_for_name (k : Know) (r : Sem5) (κ : Kap) (sto : Str → Bool) (t : Expr) (b : List Stmt) (pos p : Pos) (x : Str) : stepS0 k r κ sto (.For t (.Name x p) b [] pos) = fun ρ => if (ownOf ρ x).isSome then dGrow κ sto k.K x t (r.Ss κ (stoBut sto x) b) ρ else dFor (r.I κ false false t (.Name x p)) (dTarget κ sto t) (r.Ss κ sto b) ρ := rfl
theorem S_for_call (k : Know) (r : Sem5) (κ : Kap) (sto : Str → Bool) (t : Expr) (b : List Stmt) (pos : Pos) (f0 : Expr) (es0 : List Expr) (kw0 : List Keyword) (p0 : Pos) : stepS0 k r κ sto (.For t (.Call f0 es0 kw0 p0) b [] pos) = dFor (r.I κ false false t (.Call f0 es0 kw0 p0)) (dTarget κ sto t) (r.Ss κ sto b) := rfl
theorem S_for_lst (k : Know) (r : Sem5) (κ : Kap) (sto : Str → Bool) (t : Expr) (b : List Stmt) (pos : Pos) (es0 : List Expr) (p0 : Pos) : stepS0 k r κ sto (.For t (.List es0 p0) b [] pos) = dFor (r.I κ false false t (.List es0 p0)) (dTarget κ sto t) (r.Ss κ sto b) := rfl
theorem S_for_tup (k : Know) (r : Sem5) (κ : Kap) (sto : Str → Bool) (t : Expr) (b : List Stmt) (pos : Pos) (es0 : List Expr) (c0 : Nat) (p0 : Pos) : stepS0 k r κ sto (.For t (.Tuple es0 c0 p0) b [] pos) = dFor (r.I κ false false t (.Tuple es0 c0 p0)) (dTarget κ sto t) (r.Ss κ sto b) := rfl
theorem S_for_sub (k : Know) (r : Sem5) (κ : Kap) (sto : Str → Bool) (t : Expr) (b : List Stmt) (pos : Pos) (a0 b0 : Expr) (p0 : Pos) : stepS0 k r κ sto (.For t (.Subscript a0 b0 p0) b [] pos) = dFor (r.I κ false false t (.Subscript a0 b0 p0)) (dTarget κ sto t) (r.Ss κ sto b) := rfl
theorem S_ret (k : Know) (r : Sem5) (κ : Kap) (sto : Str → Bool) (e : Expr) (pos : Pos) : stepS0 k r κ sto (.Return (some e) pos) = dLay (dRet (r.E κ e)) := rfl
theorem S_retNone (k : Know) (r : Sem5) (κ : Kap) (sto : Str → Bool) (pos : Pos) : stepS0 k r κ sto (.Return none pos) = fun ρ => some (.ret .none, ρ) := rfl
theorem S_append (k : Know) (r : Sem5) (κ : Kap) (sto : Str → Bool) (x name : Str) (p apos pos spos : Pos) (e : Expr) : stepS0 k r κ sto (.Expr (.Call (.Attribute (.Name x p) name apos) [e] [] pos) spos) = if name = "append" then dAppend κ x e apos pos (r.E κ e) else dNo := rfl
theorem S_insert (k : Know) (r : Sem5) (κ : Kap) (sto : Str → Bool) (x name : Str) (p apos pos spos : Pos) (i e : Expr) : stepS0 k r κ sto (.Expr (.Call (.Attribute (.Name x p) name apos) [i, e] [] pos) spos) = if name = "insert" then dInsert κ x i e apos pos (r.E κ i) (r.E κ e) else dNo := rfl
theorem S_mut (k : Know) (r : Sem5) (κ : Kap) (sto : Str → Bool) (f x : Str) (p p1 pos spos : Pos) (e : Expr) : stepS0 k r κ sto (.Expr (.Call (.Name f p) [.Name x p1, e] [] pos) spos) = bMut k f κ r x e := rfl
theorem Ss_nil (r : Sem5) (κ : Kap) (sto : Str → Bool) : seqS r κ sto [] = fun ρ => some (.next, ρ) := rfl
theorem Ss_cons (r : Sem5) (κ : Kap) (sto : Str → Bool) (st : Stmt) (sts : List Stmt) : seqS r κ sto (st :: sts) = dSeq (r.S κ sto st) (seqS r κ sto sts) := rfl
theorem L_nil (r : Sem5) (κ : Kap) : lstE r κ [] = dNil := rfl
theorem L_cons (r : Sem5) (κ : Kap) (e : Expr) (es : List Expr) : lstE r κ (e :: es) = dCons e (r.E κ e) (lstE r κ es) := rfl
theorem S_lay (T : Str → Option (List D → Option D)) (M : Str → Option (D → List D → Option D)) (mu : Str → Bool) (K : Nat) (r : Sem5) (κ : Kap) (sto : Str → Bool) (st : Stmt) : stepS ⟨T, M, mu, fun _ => none, K⟩ r κ sto st = stepS0 ⟨T, M, mu, fun _ => none, K⟩ r κ sto st := rfl
theorem dTests_nil (FB : Expr → DenB) (ρ : Rho) : dTests FB [] ρ = some true := rfl
theorem dTests_cons (FB : Expr → DenB) (c : Expr) (cs : List Expr) (ρ : Rho) : dTests FB (c :: cs) ρ = (FB c ρ).bind fun b => if b then dTests FB cs ρ else some false := rfl
end Mine
end
section
open PySem PySem.W PyProof.Rows PySem.Spec PySem.SeqAt
set_option maxRecDepth 100000
namespace Mine

/-! ## Running the evaluator's words -/
theorem den_E (k : Know) (n : Nat) : (den k (n + 1)).E = stepE k (den k n) := rfl
theorem den_B (k : Know) (n : Nat) : (den k (n + 1)).B = stepB k (den k n) := rfl
theorem den_I (k : Know) (n : Nat) : (den k (n + 1)).I = stepI k (den k n) := rfl
theorem den_S (k : Know) (n : Nat) : (den k (n + 1)).S = stepS k (den k n) := rfl
theorem den_Ss (k : Know) (n : Nat) : (den k (n + 1)).Ss = seqS (den k n) := rfl
noncomputable def bodyAt (b : List Stmt) (i : Nat) : List Stmt := match b[i]? with
  | some (.FunctionDef (body := body) ..) => body
  | _ => []
noncomputable def scopeAt (b : List Stmt) (i : Nat) : Scope := match b[i]? with
  | some (.FunctionDef (scope := s) ..) => s
  | _ => { kind := .function, names := [], isGenerator := false, isCoroutine := false, more := [] }
theorem opt_bind_some {α β : Type} (a : α) (f : α → Option β) : (some a).bind f = f a := rfl
theorem opt_map_some {α β : Type} (a : α) (f : α → β) : (some a).map f = some (f a) := rfl
theorem rho0_nil (x : Str) : rho0 [] [] x = none := rfl
theorem rho0_cons (p : Str) (ps : List Str) (b : Bd) (bs : List Bd) : rho0 (p :: ps) (b :: bs) = upd (rho0 ps bs) p b := by
  funext x
  unfold rho0 upd
  rw [List.zip_cons_cons, List.lookup_cons]
  by_cases q : x = p
  · simp [q]
  · have : (x == p) = false := by simpa using q
    rw [this]; simp [q]
theorem upd_at (ρ : Rho) (x : Str) (b : Bd) (y : Str) : upd ρ x b y = if y = x then some b else ρ y := rfl

noncomputable def Run (f : DenS) (ρ : Rho) (Q : Flo → Rho → Prop) : Prop := ∃ fl ρ', f ρ = some (fl, ρ') ∧ Q fl ρ'
theorem Run.mono {f : DenS} {ρ : Rho} {Q Q' : Flo → Rho → Prop} (x : Run f ρ Q) (h : ∀ fl ρ', Q fl ρ' → Q' fl ρ') : Run f ρ Q' := let ⟨fl, ρ', e, q⟩ := x; ⟨fl, ρ', e, h _ _ q⟩
/-- what holds behind the first of two; behind a turn of a for; of a while; of a for over a list that grows -/
abbrev SeqQ (g : DenS) (Q : Flo → Rho → Prop) : Flo → Rho → Prop := fun fl ρ1 => match fl with | .next => Run g ρ1 Q | fl => Q fl ρ1
abbrev ForQ (P : Rho → Prop) (Q : Flo → Rho → Prop) : Flo → Rho → Prop := fun fl ρ2 => match fl with | .next => P ρ2 | .cont => P ρ2 | .brk => Q .next ρ2 | .ret v => Q (.ret v) ρ2
theorem run_seq {f g : DenS} {ρ : Rho} {Q : Flo → Rho → Prop} (h : Run f ρ (SeqQ g Q)) : Run (dSeq f g) ρ Q := by
  obtain ⟨fl, ρ1, e, h⟩ := h
  cases fl with
  | next => obtain ⟨fl2, ρ2, e2, q⟩ := h; exact ⟨fl2, ρ2, by simp [dSeq, e, e2], q⟩
  | cont => exact ⟨_, ρ1, by simp [dSeq, e], h⟩
  | brk => exact ⟨_, ρ1, by simp [dSeq, e], h⟩
  | ret d => exact ⟨_, ρ1, by simp [dSeq, e], h⟩
theorem run_nil {ρ : Rho} {Q : Flo → Rho → Prop} (h : Q .next ρ) : Run (fun ρ => some (Flo.next, ρ)) ρ Q := ⟨_, _, rfl, h⟩
theorem run_assign {κ : Kap} {sto mu : Str → Bool} {x : Str} {value : Expr} {f : Den} {ρ : Rho} {Q : Flo → Rho → Prop} (y : Fl × D) (ρ' : Rho) (e : f ρ = some y) (p : dPut κ sto mu x y ρ = some ρ') (hn : notComp value = true) (h : Q .next ρ') :
    Run (dAssign κ sto mu x value f) ρ Q := ⟨_, ρ', by simp [dAssign, hn, e, p], h⟩
theorem run_if {ft : DenB} {fb fo : DenS} {ρ : Rho} {Q : Flo → Rho → Prop} (b : Bool) (e : ft ρ = some b) (h : if b then Run fb ρ Q else Run fo ρ Q) : Run (dIfS ft fb fo) ρ Q := by
  cases b with
  | true => obtain ⟨fl, ρ', e2, q⟩ := h; exact ⟨fl, ρ', by simp [dIfS, e, e2], q⟩
  | false => obtain ⟨fl, ρ', e2, q⟩ := h; exact ⟨fl, ρ', by simp [dIfS, e, e2], q⟩
theorem run_for {it : Rho → Option (List D)} {bind : D → Rho → Option Rho} {body : DenS} {ρ : Rho} {Q : Flo → Rho → Prop} (ds : List D) (e : it ρ = some ds) (P : List D → Rho → Prop) (h0 : P ds ρ)
    (step : ∀ d ds ρ, P (d :: ds) ρ → ∃ ρ1, bind d ρ = some ρ1 ∧ Run body ρ1 (ForQ (P ds) Q))
    (fin : ∀ ρ, P [] ρ → Q .next ρ) : Run (dFor it bind body) ρ Q := by
  have key : ∀ ds ρ, P ds ρ → ∃ fl ρ', loopD bind body ds ρ = some (fl, ρ') ∧ Q fl ρ' := by
    intro ds
    induction ds with
    | nil => intro ρ h; exact ⟨_, ρ, rfl, fin ρ h⟩
    | cons d ds ih =>
      intro ρ h
      obtain ⟨ρ1, e1, fl, ρ2, e2, q⟩ := step d ds ρ h
      unfold loopD
      rw [e1, opt_bind_some, e2, opt_bind_some]
      cases fl with
      | next => exact ih ρ2 q
      | cont => exact ih ρ2 q
      | brk => exact ⟨_, _, rfl, q⟩
      | ret d => exact ⟨_, _, rfl, q⟩
  obtain ⟨fl, ρ', e1, q⟩ := key ds ρ h0
  exact ⟨fl, ρ', by simp [dFor, e, e1], q⟩
theorem run_while {ft : DenB} {fb : DenS} {K : Nat} {ρ : Rho} {Q : Flo → Rho → Prop} (P : Nat → Rho → Prop) (h0 : ∃ k, k < K ∧ P k ρ)
    (step : ∀ k ρ, P k ρ → ∃ b, ft ρ = some b ∧ if b then Run fb ρ (ForQ (fun ρ2 => ∃ j, j < k ∧ P j ρ2) Q) else Q .next ρ) : Run (whileD ft fb K) ρ Q := by
  have key : ∀ K k ρ, k < K → P k ρ → ∃ fl ρ', whileD ft fb K ρ = some (fl, ρ') ∧ Q fl ρ' := by
    intro K
    induction K with
    | zero => intro k ρ h; exact absurd h (Nat.not_lt_zero _)
    | succ K ih =>
      intro k ρ hk h
      obtain ⟨b, e1, hb⟩ := step k ρ h
      unfold whileD
      rw [e1, opt_bind_some]
      cases b with
      | false => exact ⟨_, _, rfl, hb⟩
      | true =>
        obtain ⟨fl, ρ2, e2, q⟩ := hb
        simp only [if_true]
        rw [e2, opt_bind_some]
        cases fl with
        | next => obtain ⟨j, hj, q⟩ := q; exact ih j ρ2 (by exact om_53 hk hj) q
        | cont => obtain ⟨j, hj, q⟩ := q; exact ih j ρ2 (by exact om_53 hk hj) q
        | brk => exact ⟨_, _, rfl, q⟩
        | ret d => exact ⟨_, _, rfl, q⟩
  obtain ⟨k, hk, h⟩ := h0
  exact key K k ρ hk h
theorem run_grow {κ : Kap} {sto : Str → Bool} {K : Nat} {x : Str} {target : Expr} {bd : DenS} {ρ : Rho} {Q : Flo → Rho → Prop} (hs : κ x = some .local ∧ okName x = true) (P : Nat → Nat → List D → Rho → Prop) (h0 : ∃ k ds, k < K ∧ P k 0 ds ρ)
    (own : ∀ k i ds ρ, P k i ds ρ → ρ x = some (.own (.lst ds)))
    (step : ∀ k i ds ρ d, P k i ds ρ → ds[i]? = some d → ∃ ρ1, dTarget κ (stoBut sto x) target d ρ = some ρ1 ∧ Run bd ρ1 (ForQ (fun ρ2 => ∃ j ds', j < k ∧ P j (i + 1) ds' ρ2) Q))
    (fin : ∀ k i ds ρ, P k i ds ρ → ds[i]? = none → Q .next ρ) : Run (dGrow κ sto K x target bd) ρ Q := by
  have key : ∀ K k i ds ρ, k < K → P k i ds ρ → ∃ fl ρ', growD (dTarget κ (stoBut sto x) target) bd x K i ρ = some (fl, ρ') ∧ Q fl ρ' := by
    intro K
    induction K with
    | zero => intro k i ds ρ h; exact absurd h (Nat.not_lt_zero _)
    | succ K ih =>
      intro k i ds ρ hk h
      have ho : ownOf ρ x = some (.lst ds) := own_at (own k i ds ρ h)
      unfold growD
      rw [ho, opt_bind_some, show lsOf (.lst ds) = some ds from rfl, opt_bind_some]
      cases hd : ds[i]? with
      | none => exact ⟨_, _, rfl, fin k i ds ρ h hd⟩
      | some d =>
        obtain ⟨ρ1, e1, fl, ρ2, e2, q⟩ := step k i ds ρ d h hd
        simp only [e1, opt_bind_some, e2]
        cases fl with
        | next => obtain ⟨j, ds', hj, q⟩ := q; exact ih j (i + 1) ds' ρ2 (by exact om_53 hk hj) q
        | cont => obtain ⟨j, ds', hj, q⟩ := q; exact ih j (i + 1) ds' ρ2 (by exact om_53 hk hj) q
        | brk => exact ⟨_, _, rfl, q⟩
        | ret d => exact ⟨_, _, rfl, q⟩
  obtain ⟨k, ds, hk, h⟩ := h0
  obtain ⟨fl, ρ', e, q⟩ := key K k 0 ds ρ hk h
  exact ⟨fl, ρ', by simp [dGrow, hs, e], q⟩
theorem run_ret {f : Den} {ρ : Rho} {Q : Flo → Rho → Prop} (y : Fl × D) (e : f (lay ρ) = some y) (hl : y.1 ≠ .loose) (h : Q (.ret y.2) (lay ρ)) : Run (dLay (dRet f)) ρ Q := ⟨_, _, by
  unfold dLay dRet; rw [e, opt_bind_some, if_neg hl]; rfl, h⟩
theorem run_eq {f : DenS} {ρ : Rho} {Q : Flo → Rho → Prop} (fl : Flo) (ρ' : Rho) (e : f ρ = some (fl, ρ')) (h : Q fl ρ') : Run f ρ Q := ⟨fl, ρ', e, h⟩
abbrev RetQ (d : D) : Flo → Rho → Prop := fun fl _ => match fl with | .ret d' => d' = d | .next => D.none = d | _ => False
abbrev RetD (d : D) : Flo → Rho → Prop := fun fl _ => match fl with | .ret d' => d' = d | _ => False
/-- a def's answer -/
theorem fn_run {bd : DenS} {ps : List Str} {extra : List D} {k : Nat} {ds : List D} {d : D} (hl : ds.length = k) (h : Run bd (rho0 ps ((ds ++ extra).map .frz)) (RetQ d)) : fnD bd ps extra k ds = some d := by
  obtain ⟨fl, ρ', e, q⟩ := h
  unfold fnD
  rw [if_pos hl, e, opt_bind_some]
  cases fl with
  | ret d' => simp only at q ⊢; rw [q]
  | next => simp only at q ⊢; rw [q]
  | cont => exact q.elim
  | brk => exact q.elim
theorem mut_run {bd : DenS} {p0 : Str} {ps : List Str} {extra : List D} {k : Nat} {d : D} {ds : List D} {d' : D} (hl : ds.length = k) (h : Run bd (rho0 (p0 :: ps) (.own d :: (ds ++ extra).map .frz)) fun fl ρ => fl = .next ∧ ρ p0 = some (.own d')) : fnMut bd p0 ps extra k d ds = some d' := by
  obtain ⟨fl, ρ', e, rfl, q⟩ := h
  unfold fnMut
  rw [if_pos hl, e, opt_bind_some]
  exact own_at q
theorem run_own {f g : DenS} {x : Str} {ρ : Rho} {Q : Flo → Rho → Prop} (h : (ownOf ρ x).isSome = true) (r : Run f ρ Q) : Run (fun ρ => if (ownOf ρ x).isSome then f ρ else g ρ) ρ Q := by
  obtain ⟨fl, ρ', e, q⟩ := r
  exact ⟨fl, ρ', by show (if (ownOf ρ x).isSome then f ρ else g ρ) = _; rw [if_pos h]; exact e, q⟩
theorem run_notown {f g : DenS} {x : Str} {ρ : Rho} {Q : Flo → Rho → Prop} (h : ownOf ρ x = none) (r : Run g ρ Q) : Run (fun ρ => if (ownOf ρ x).isSome then f ρ else g ρ) ρ Q := by
  obtain ⟨fl, ρ', e, q⟩ := r
  exact ⟨fl, ρ', by show (if (ownOf ρ x).isSome then f ρ else g ρ) = _; rw [if_neg (by rw [h]; simp)]; exact e, q⟩
/-- a name's value -/
theorem nmF {ρ : Rho} {x : Str} {d : D} (h : ρ x = some (.frz d)) (κ : Kap) (hk : (isV (κ x) && okName x) = true) : dName κ x ρ = some (.frozen, d) := by unfold dName; rw [if_pos hk, h]
theorem nmO {ρ : Rho} {x : Str} {d : D} (h : ρ x = some (.own d)) (κ : Kap) (hk : (isV (κ x) && okName x) = true) : dName κ x ρ = some (.loose, d) := by unfold dName; rw [if_pos hk, h]
/-! the value of an expression, rule by rule -/
theorem frz_nl : Fl.frozen ≠ Fl.loose := by decide
theorem fre_nl : Fl.fresh ≠ Fl.loose := by decide
theorem q_bin {op : Operator} {f g : Den} {ρ : Rho} {fx fy : Fl} {x y : D} {r : Option (Fl × D)} (ha : f ρ = some (fx, x)) (hb : g ρ = some (fy, y)) (h : binD op x y = r) : dBin op f g ρ = r := by
  unfold dBin; rw [ha, opt_bind_some, hb]; exact h
theorem q_cmp {op : CmpOp} {e : Expr} {f g : Den} {ρ : Rho} {fx fy : Fl} {x y : D} {r : Option Bool} (hi : behindInMarks op e = false) (ha : f ρ = some (fx, x)) (hb : g ρ = some (fy, y)) (h : cmpD op x y = r) : dCmp op e f g ρ = r := by
  unfold dCmp; rw [hi, ha, opt_bind_some, hb]; exact h
theorem q_val {f : DenB} {ρ : Rho} {b : Bool} (h : f ρ = some b) : dVal f ρ = some (.frozen, .bool b) := by
  unfold dVal; rw [h]; rfl
theorem q_andV {f g : Den} {ρ : Rho} {fl : Fl} {r : Option (Fl × D)} (ha : f ρ = some (fl, .bool true)) (hb : g ρ = r) : dAndV f g ρ = r := by
  unfold dAndV; rw [ha]; exact hb
theorem q_sub {f g : Den} {ρ : Rho} {fx fy : Fl} {x y d : D} (ha : f ρ = some (fx, x)) (hb : g ρ = some (fy, y)) (hc : x.comp = true) (h : itemD x y = some d) : dSub f g ρ = some (.frozen, d) := by
  unfold dSub; rw [ha, opt_bind_some, hb, opt_bind_some, if_pos hc, h]; rfl
theorem q_nil {ρ : Rho} : dNil ρ = some [] := rfl
theorem q_cons {e : Expr} {f : Den} {fs : DenL} {ρ : Rho} {x : Fl × D} {xs : List (Fl × D)} (hs : isStarred e = false) (ha : f ρ = some x) (hb : fs ρ = some xs) : dCons e f fs ρ = some (x :: xs) := by
  unfold dCons; rw [hs, ha, opt_bind_some, hb]; rfl
theorem q_lst {fs : DenL} {ρ : Rho} {xs : List (Fl × D)} (h : fs ρ = some xs) (hl : (xs.all fun x => x.1 != .loose) = true ∧ xs.length ≤ cap) : dLst fs ρ = some (.fresh, .lst (xs.map (·.2))) := by
  unfold dLst; rw [h, opt_bind_some, if_pos hl]
theorem q_tup {fs : DenL} {ρ : Rho} {xs : List (Fl × D)} (h : fs ρ = some xs) (hl : (xs.all fun x => x.1 != .loose) = true ∧ xs.length ≤ cap) : dTup fs ρ = some (.fresh, .tup (xs.map (·.2))) := by
  unfold dTup; rw [h, opt_bind_some, if_pos hl]
theorem q_bfn {κ : Kap} {x : Str} {es : List Expr} {fs : DenL} {ρ : Rho} {xs : List (Fl × D)} {r : Option (Fl × D)} (hc : (isB κ x && plainL es) = true) (h : fs ρ = some xs) (hr : bfnD x xs = r) : dBfn κ x es fs ρ = r := by
  unfold dBfn; rw [if_pos hc, h]; exact hr
theorem q_call {κ : Kap} {f : Str} {es : List Expr} {F : List D → Option D} {fs : DenL} {ρ : Rho} {xs : List (Fl × D)} {d : D} (hc : (isG κ f && plainL es) = true) (h : fs ρ = some xs) (hr : F (xs.map (·.2)) = some d) (hl : ((xs.all fun x => x.1 != .loose) || !d.comp) = true) : dCall κ f es F fs ρ = some (.frozen, d) := by
  unfold dCall; rw [if_pos hc, h, opt_bind_some, hr, opt_bind_some]; exact if_pos hl
theorem q_meth {o : Expr} {name : Str} {es : List Expr} {apos pos : Pos} {fo : Den} {fs : DenL} {ρ : Rho} {fx : Fl} {x : D} {xs : List (Fl × D)} {r : Option (Fl × D)} (hc : (plainBase o && plainL es && decide (es.length < 29) && (apos.endLine == pos.line)) = true) (ho : fo ρ = some (fx, x)) (h : fs ρ = some xs) (hr : methD name x xs = r) : dMeth o name es apos pos fo fs ρ = r := by
  unfold dMeth; rw [if_pos hc, ho, opt_bind_some, h]; exact hr
theorem q_or {f g : DenB} {ρ : Rho} {r : Option Bool} (ha : f ρ = some false) (hb : g ρ = r) : dOr f g ρ = r := by
  unfold dOr; rw [ha]; exact hb
theorem q_orT {f g : DenB} {ρ : Rho} (ha : f ρ = some true) : dOr f g ρ = some true := by
  unfold dOr; rw [ha]; rfl
theorem q_and {f g : DenB} {ρ : Rho} {r : Option Bool} (ha : f ρ = some true) (hb : g ρ = r) : dAnd f g ρ = r := by
  unfold dAnd; rw [ha]; exact hb
theorem q_andF {f g : DenB} {ρ : Rho} (ha : f ρ = some false) : dAnd f g ρ = some false := by
  unfold dAnd; rw [ha]; rfl
theorem q_tests {FB : Expr → DenB} {c : Expr} {ρ : Rho} {b : Bool} (h : FB c ρ = some b) : dTests FB [c] ρ = some b := by
  show (FB c ρ).bind _ = _; rw [h]; cases b <;> rfl
theorem q_list {lo : Bool} {f : Den} {ρ : Rho} {fx : Fl} {x : D} {ds : List D} (h : f ρ = some (fx, x)) (hl : lsOf x = some ds) (hx : lo = true ∨ fx ≠ .loose) : dItList lo f ρ = some ds := by
  unfold dItList; rw [h, opt_bind_some, hl, opt_bind_some, if_pos hx]
theorem q_range {κ : Kap} {e : Expr} {f : Den} {ρ : Rho} {fl : Fl} {k : Int} (hc : (isB κ "range" && !isStarred e) = true) (h : f ρ = some (fl, .int k)) (hk : 0 ≤ k ∧ k ≤ 200) : dItRange κ e f ρ = some (rangeD k) := by
  unfold dItRange; rw [if_pos hc, h]; exact if_pos hk
theorem q_enum {κ : Kap} {lo : Bool} {e : Expr} {f : Den} {ρ : Rho} {fx : Fl} {x : D} {ds : List D} (hc : (isB κ "enumerate" && !isStarred e) = true) (h : f ρ = some (fx, x)) (hl : lsOf x = some ds) (hx : lo = true ∨ fx ≠ .loose) : dItEnum κ lo e f ρ = some (enumD ds) := by
  unfold dItEnum; rw [if_pos hc, h, opt_bind_some, hl, opt_bind_some, if_pos hx]
theorem q_comp {o : Option (List D)} {out : List D} (h : o = some out) : o.map (fun out => (Fl.fresh, D.lst out)) = some (.fresh, .lst out) := by
  rw [h]; rfl
theorem q_one {o : Option Bool} {b : Bool} (h : o = some b) : (o.bind fun b => if b = true then some true else some false) = some b := by
  rw [h]; cases b <;> rfl
theorem q_vals {o : Expr} {apos pos : Pos} {f : Den} {ρ : Rho} {fx : Fl} {x : D} {ds : List D} (hc : (plainBase o && (apos.endLine == pos.line)) = true) (h : f ρ = some (fx, x)) (hv : valsD x = some ds) (hl : fx ≠ .loose) : dItVals o apos pos f ρ = some ds := by
  unfold dItVals; rw [if_pos hc, h, opt_bind_some, hv]; exact if_pos hl
theorem q_items {o : Expr} {apos pos : Pos} {f : Den} {ρ : Rho} {fx : Fl} {x : D} {ds : List D} (hc : (plainBase o && (apos.endLine == pos.line)) = true) (h : f ρ = some (fx, x)) (hv : valsD x = some ds) (hl : fx ≠ .loose) : dItItems o apos pos f ρ = some (zipD (keysD x) ds) := by
  unfold dItItems; rw [if_pos hc, h, opt_bind_some, hv]; exact if_pos hl
theorem q_frz {f : Den} {ρ : Rho} {fx : Fl} {d : D} (h : f ρ = some (fx, d)) (hl : fx ≠ .loose) : dFrz f ρ = some d := by
  unfold dFrz; rw [h]; exact if_neg hl
theorem q_own {ρ : Rho} {x : Str} {d : D} (h : ρ x = some (.own d)) : ownOf ρ x = some d := by
  exact own_at h
theorem q_store {κ : Kap} {x : Str} {fi : Den} {v k d d' : D} {ρ : Rho} (hc : (isV (κ x) && okName x) = true) (hi : dFrz fi ρ = some k) (ho : ρ x = some (.own d)) (hp : putD (fitD d k) k v = some d') : dStore κ x fi v ρ = some (upd ρ x (.own d')) := by
  unfold dStore; rw [if_pos hc, hi, opt_bind_some, q_own ho, opt_bind_some, hp]; rfl
theorem q_setSub {κ : Kap} {x : Str} {fi fv : Den} {v k d d' : D} {ρ : Rho} (hv : dFrz fv ρ = some v) (hc : (isV (κ x) && okName x) = true) (hi : dFrz fi ρ = some k) (ho : ρ x = some (.own d)) (hp : putD (fitD d k) k v = some d') : dSetSub κ x fi fv ρ = some (.next, upd ρ x (.own d')) := by
  unfold dSetSub; rw [hv, opt_bind_some, q_store hc hi ho hp]; rfl
theorem q_aug {κ : Kap} {sto : Str → Bool} {x : Str} {fv : Den} {a b : Int} {ρ : Rho} {fl : Fl} (hc : (okT κ sto x && okName x) = true) (hx : ρ x = some (.frz (.int a))) (hv : fv ρ = some (fl, .int b)) : dAugName κ sto x fv ρ = some (.next, upd ρ x (.frz (.int (a + b)))) := by
  unfold dAugName; rw [if_pos hc, hx]
  show (fv ρ).bind _ = _
  rw [hv]; rfl
theorem q_insert {κ : Kap} {x : Str} {e0 e : Expr} {apos pos : Pos} {fi fv : Den} {k : Int} {v d d' : D} {ρ : Rho} {f0 f1 : Fl} (hc : (isV (κ x) && okName x && !isStarred e0 && !isStarred e && (apos.endLine == pos.line)) = true) (hi : fi ρ = some (f0, .int k)) (hv : fv ρ = some (f1, v)) (hl : f1 ≠ .loose) (ho : ρ x = some (.own d)) (h : insD d k v = some d') : dInsert κ x e0 e apos pos fi fv ρ = some (.next, upd ρ x (.own d')) := by
  unfold dInsert; rw [if_pos hc, hi, opt_bind_some, hv, opt_bind_some, own_at ho, opt_bind_some, itOf_int, opt_bind_some, if_neg hl, h]; rfl
theorem q_append {κ : Kap} {x : Str} {e : Expr} {apos pos : Pos} {fv : Den} {v d d' : D} {ρ : Rho} (hc : (isV (κ x) && okName x && !isStarred e && (apos.endLine == pos.line)) = true) (hv : dFrz fv ρ = some v) (ho : ρ x = some (.own d)) (h : appD d v = some d') : dAppend κ x e apos pos fv ρ = some (.next, upd ρ x (.own d')) := by
  unfold dAppend; rw [if_pos hc, hv, opt_bind_some, own_at ho, opt_bind_some, h]; rfl
theorem q_mut {κ : Kap} {f x : Str} {e : Expr} {F : D → List D → Option D} {fe : Den} {v d d' : D} {ρ : Rho} (hc : (isG κ f && isV (κ x) && okName x && !isStarred e) = true) (hv : dFrz fe ρ = some v) (ho : ρ x = some (.own d)) (h : F d [v] = some d') : dMut κ f x e F fe ρ = some (.next, upd ρ x (.own d')) := by
  unfold dMut; rw [if_pos hc, hv, opt_bind_some, own_at ho, opt_bind_some, h]; rfl
theorem q_isTup {κ : Kap} {y : Str} {e : Expr} {f : Den} {ρ : Rho} {fx : Fl} {i : Int} (hc : (isB κ "isinstance" && isB κ y && decide (y = "tuple") && !isStarred e) = true) (h : f ρ = some (fx, .int i)) : dTruth (dIsTup κ y e f) ρ = some false := by
  unfold dTruth dIsTup; rw [if_pos hc, h]; rfl
theorem q_augSub {κ : Kap} {x : Str} {i : Expr} {fi fv : Den} {k d d' : D} {a b : Int} {ρ : Rho} (hc : (isV (κ x) && okName x && noSlice i) = true) (hi : dFrz fi ρ = some k) (ho : ρ x = some (.own d)) (ha : itemD (fitD d k) k = some (.int a)) (hv : dFrz fv ρ = some (.int b)) (h : putD (fitD d k) k (.int (a + b)) = some d') : dAugSub κ x i fi fv ρ = some (.next, upd ρ x (.own d')) := by
  unfold dAugSub; rw [if_pos hc, hi, opt_bind_some, own_at ho, opt_bind_some, ha, opt_bind_some, hv, opt_bind_some, itOf_int, opt_bind_some, itOf_int, opt_bind_some, h]; rfl
theorem q_dict1 {fk fv : Den} {k v d : D} {ρ : Rho} (hk : dFrz fk ρ = some k) (hv : dFrz fv ρ = some v) (h : putD (fitD (.idict [] []) k) k v = some d) : dDict1 fk fv ρ = some (.fresh, d) := by
  unfold dDict1; rw [hk, opt_bind_some, hv, opt_bind_some, h]; rfl
theorem at_upd {ρ : Rho} {x y : Str} {b : Bd} {r : Option Bd} (h : ρ y = r) (hn : (y == x) = false) : upd ρ x b y = r := by
  rw [upd_at, if_neg (by simpa using hn)]; exact h
theorem q_and2 {f g : DenB} {ρ : Rho} {b c : Bool} (ha : f ρ = some b) (hb : g ρ = some c) : dAnd f (dAnd g fun _ => some true) ρ = some (b && c) := by
  unfold dAnd; rw [ha, opt_bind_some]
  cases b with
  | false => rfl
  | true =>
    show (g ρ).bind _ = _
    rw [hb]
    cases c <;> rfl
theorem q_listOf {κ : Kap} {e : Expr} {f : Den} {ρ : Rho} {fx : Fl} {ds : List D} (hc : (isB κ "list" && !isStarred e) = true) (h : f ρ = some (fx, .lst ds)) (hl : fx ≠ .loose) : dListOf κ e f ρ = some (.fresh, .lst ds) := by
  unfold dListOf; rw [if_pos hc, h]; rfl
theorem q_listRange {κ : Kap} {e : Expr} {f : Den} {ρ : Rho} {fx : Fl} {k : Int} (hc : (isB κ "list" && isB κ "range" && !isStarred e) = true) (h : f ρ = some (fx, .int k)) (hk : 0 ≤ k ∧ k ≤ 200) : dListRange κ e f ρ = some (.fresh, .lst (rangeD k)) := by
  unfold dListRange; rw [if_pos hc, h]; exact if_pos hk
end Mine
end
section
open PySem PySem.W PyProof.Rows PySem.Spec PySem.SeqAt
set_option maxRecDepth 100000
namespace Mine
noncomputable def nm_ValueError : Str := ⟨#[86, 97, 108, 117, 101, 69, 114, 114, 111, 114]⟩
noncomputable def nm_UUclassdictUU : Str := ⟨#[95, 95, 99, 108, 97, 115, 115, 100, 105, 99, 116, 95, 95]⟩
noncomputable def nm_UUdebugUU : Str := ⟨#[95, 95, 100, 101, 98, 117, 103, 95, 95]⟩
noncomputable def nm_UUnameUU : Str := ⟨#[95, 95, 110, 97, 109, 101, 95, 95]⟩
noncomputable def nm_Llaw_counts : Str := ⟨#[95, 108, 97, 119, 95, 99, 111, 117, 110, 116, 115]⟩
noncomputable def nm_Llaw_far : Str := ⟨#[95, 108, 97, 119, 95, 102, 97, 114]⟩
noncomputable def nm_Llaw_middle : Str := ⟨#[95, 108, 97, 119, 95, 109, 105, 100, 100, 108, 101]⟩
noncomputable def nm_a : Str := ⟨#[97]⟩
noncomputable def nm_add_callers : Str := ⟨#[97, 100, 100, 95, 99, 97, 108, 108, 101, 114, 115]⟩
noncomputable def nm_append : Str := ⟨#[97, 112, 112, 101, 110, 100]⟩
noncomputable def nm_at : Str := ⟨#[97, 116]⟩
noncomputable def nm_b : Str := ⟨#[98]⟩
noncomputable def nm_begin : Str := ⟨#[98, 101, 103, 105, 110]⟩
noncomputable def nm_bisect_left : Str := ⟨#[98, 105, 115, 101, 99, 116, 95, 108, 101, 102, 116]⟩
noncomputable def nm_caller : Str := ⟨#[99, 97, 108, 108, 101, 114]⟩
noncomputable def nm_callers : Str := ⟨#[99, 97, 108, 108, 101, 114, 115]⟩
noncomputable def nm_calls : Str := ⟨#[99, 97, 108, 108, 115]⟩
noncomputable def nm_count : Str := ⟨#[99, 111, 117, 110, 116]⟩
noncomputable def nm_count_calls : Str := ⟨#[99, 111, 117, 110, 116, 95, 99, 97, 108, 108, 115]⟩
noncomputable def nm_counts : Str := ⟨#[99, 111, 117, 110, 116, 115]⟩
noncomputable def nm_ends : Str := ⟨#[101, 110, 100, 115]⟩
noncomputable def nm_enumerate : Str := ⟨#[101, 110, 117, 109, 101, 114, 97, 116, 101]⟩
noncomputable def nm_far : Str := ⟨#[102, 97, 114]⟩
noncomputable def nm_farthest : Str := ⟨#[102, 97, 114, 116, 104, 101, 115, 116]⟩
noncomputable def nm_func : Str := ⟨#[102, 117, 110, 99]⟩
noncomputable def nm_here : Str := ⟨#[104, 101, 114, 101]⟩
noncomputable def nm_hi : Str := ⟨#[104, 105]⟩
noncomputable def nm_i : Str := ⟨#[105]⟩
noncomputable def nm_index : Str := ⟨#[105, 110, 100, 101, 120]⟩
noncomputable def nm_insert : Str := ⟨#[105, 110, 115, 101, 114, 116]⟩
noncomputable def nm_insort_left : Str := ⟨#[105, 110, 115, 111, 114, 116, 95, 108, 101, 102, 116]⟩
noncomputable def nm_isinstance : Str := ⟨#[105, 115, 105, 110, 115, 116, 97, 110, 99, 101]⟩
noncomputable def nm_items : Str := ⟨#[105, 116, 101, 109, 115]⟩
noncomputable def nm_j : Str := ⟨#[106]⟩
noncomputable def nm_k : Str := ⟨#[107]⟩
noncomputable def nm_key : Str := ⟨#[107, 101, 121]⟩
noncomputable def nm_law : Str := ⟨#[108, 97, 119]⟩
noncomputable def nm_left : Str := ⟨#[108, 101, 102, 116]⟩
noncomputable def nm_len : Str := ⟨#[108, 101, 110]⟩
noncomputable def nm_list : Str := ⟨#[108, 105, 115, 116]⟩
noncomputable def nm_lo : Str := ⟨#[108, 111]⟩
noncomputable def nm_long : Str := ⟨#[108, 111, 110, 103]⟩
noncomputable def nm_many : Str := ⟨#[109, 97, 110, 121]⟩
noncomputable def nm_max : Str := ⟨#[109, 97, 120]⟩
noncomputable def nm_mid : Str := ⟨#[109, 105, 100]⟩
noncomputable def nm_middle : Str := ⟨#[109, 105, 100, 100, 108, 101]⟩
noncomputable def nm_min : Str := ⟨#[109, 105, 110]⟩
noncomputable def nm_nc : Str := ⟨#[110, 99]⟩
noncomputable def nm_new_callers : Str := ⟨#[110, 101, 119, 95, 99, 97, 108, 108, 101, 114, 115]⟩
noncomputable def nm_number : Str := ⟨#[110, 117, 109, 98, 101, 114]⟩
noncomputable def nm_one : Str := ⟨#[111, 110, 101]⟩
noncomputable def nm_order : Str := ⟨#[111, 114, 100, 101, 114]⟩
noncomputable def nm_other : Str := ⟨#[111, 116, 104, 101, 114]⟩
noncomputable def nm_place : Str := ⟨#[112, 108, 97, 99, 101]⟩
noncomputable def nm_range : Str := ⟨#[114, 97, 110, 103, 101]⟩
noncomputable def nm_row : Str := ⟨#[114, 111, 119]⟩
noncomputable def nm_script : Str := ⟨#[115, 99, 114, 105, 112, 116]⟩
noncomputable def nm_sorted : Str := ⟨#[115, 111, 114, 116, 101, 100]⟩
noncomputable def nm_source : Str := ⟨#[115, 111, 117, 114, 99, 101]⟩
noncomputable def nm_sum : Str := ⟨#[115, 117, 109]⟩
noncomputable def nm_table : Str := ⟨#[116, 97, 98, 108, 101]⟩
noncomputable def nm_target : Str := ⟨#[116, 97, 114, 103, 101, 116]⟩
noncomputable def nm_there : Str := ⟨#[116, 104, 101, 114, 101]⟩
noncomputable def nm_tie : Str := ⟨#[116, 105, 101]⟩
noncomputable def nm_ties : Str := ⟨#[116, 105, 101, 115]⟩
noncomputable def nm_tuple : Str := ⟨#[116, 117, 112, 108, 101]⟩
noncomputable def nm_values : Str := ⟨#[118, 97, 108, 117, 101, 115]⟩
noncomputable def nm_waiting : Str := ⟨#[119, 97, 105, 116, 105, 110, 103]⟩
noncomputable def nm_x : Str := ⟨#[120]⟩
noncomputable def nm_zip : Str := ⟨#[122, 105, 112]⟩
theorem ofs_ValueError : Str.ofString "ValueError" = nm_ValueError := rfl
theorem ofs_UUclassdictUU : Str.ofString "__classdict__" = nm_UUclassdictUU := rfl
theorem ofs_UUdebugUU : Str.ofString "__debug__" = nm_UUdebugUU := rfl
theorem ofs_UUnameUU : Str.ofString "__name__" = nm_UUnameUU := rfl
theorem ofs_Llaw_counts : Str.ofString "_law_counts" = nm_Llaw_counts := rfl
theorem ofs_Llaw_far : Str.ofString "_law_far" = nm_Llaw_far := rfl
theorem ofs_Llaw_middle : Str.ofString "_law_middle" = nm_Llaw_middle := rfl
theorem ofs_a : Str.ofString "a" = nm_a := rfl
theorem ofs_add_callers : Str.ofString "add_callers" = nm_add_callers := rfl
theorem ofs_append : Str.ofString "append" = nm_append := rfl
theorem ofs_at : Str.ofString "at" = nm_at := rfl
theorem ofs_b : Str.ofString "b" = nm_b := rfl
theorem ofs_begin : Str.ofString "begin" = nm_begin := rfl
theorem ofs_bisect_left : Str.ofString "bisect_left" = nm_bisect_left := rfl
theorem ofs_caller : Str.ofString "caller" = nm_caller := rfl
theorem ofs_callers : Str.ofString "callers" = nm_callers := rfl
theorem ofs_calls : Str.ofString "calls" = nm_calls := rfl
theorem ofs_count : Str.ofString "count" = nm_count := rfl
theorem ofs_count_calls : Str.ofString "count_calls" = nm_count_calls := rfl
theorem ofs_counts : Str.ofString "counts" = nm_counts := rfl
theorem ofs_ends : Str.ofString "ends" = nm_ends := rfl
theorem ofs_enumerate : Str.ofString "enumerate" = nm_enumerate := rfl
theorem ofs_far : Str.ofString "far" = nm_far := rfl
theorem ofs_farthest : Str.ofString "farthest" = nm_farthest := rfl
theorem ofs_func : Str.ofString "func" = nm_func := rfl
theorem ofs_here : Str.ofString "here" = nm_here := rfl
theorem ofs_hi : Str.ofString "hi" = nm_hi := rfl
theorem ofs_i : Str.ofString "i" = nm_i := rfl
theorem ofs_index : Str.ofString "index" = nm_index := rfl
theorem ofs_insert : Str.ofString "insert" = nm_insert := rfl
theorem ofs_insort_left : Str.ofString "insort_left" = nm_insort_left := rfl
theorem ofs_isinstance : Str.ofString "isinstance" = nm_isinstance := rfl
theorem ofs_items : Str.ofString "items" = nm_items := rfl
theorem ofs_j : Str.ofString "j" = nm_j := rfl
theorem ofs_k : Str.ofString "k" = nm_k := rfl
theorem ofs_key : Str.ofString "key" = nm_key := rfl
theorem ofs_law : Str.ofString "law" = nm_law := rfl
theorem ofs_left : Str.ofString "left" = nm_left := rfl
theorem ofs_len : Str.ofString "len" = nm_len := rfl
theorem ofs_list : Str.ofString "list" = nm_list := rfl
theorem ofs_lo : Str.ofString "lo" = nm_lo := rfl
theorem ofs_long : Str.ofString "long" = nm_long := rfl
theorem ofs_many : Str.ofString "many" = nm_many := rfl
theorem ofs_max : Str.ofString "max" = nm_max := rfl
theorem ofs_mid : Str.ofString "mid" = nm_mid := rfl
theorem ofs_middle : Str.ofString "middle" = nm_middle := rfl
theorem ofs_min : Str.ofString "min" = nm_min := rfl
theorem ofs_nc : Str.ofString "nc" = nm_nc := rfl
theorem ofs_new_callers : Str.ofString "new_callers" = nm_new_callers := rfl
theorem ofs_number : Str.ofString "number" = nm_number := rfl
theorem ofs_one : Str.ofString "one" = nm_one := rfl
theorem ofs_order : Str.ofString "order" = nm_order := rfl
theorem ofs_other : Str.ofString "other" = nm_other := rfl
theorem ofs_place : Str.ofString "place" = nm_place := rfl
theorem ofs_range : Str.ofString "range" = nm_range := rfl
theorem ofs_row : Str.ofString "row" = nm_row := rfl
theorem ofs_script : Str.ofString "script" = nm_script := rfl
theorem ofs_sorted : Str.ofString "sorted" = nm_sorted := rfl
theorem ofs_source : Str.ofString "source" = nm_source := rfl
theorem ofs_sum : Str.ofString "sum" = nm_sum := rfl
theorem ofs_table : Str.ofString "table" = nm_table := rfl
theorem ofs_target : Str.ofString "target" = nm_target := rfl
theorem ofs_there : Str.ofString "there" = nm_there := rfl
theorem ofs_tie : Str.ofString "tie" = nm_tie := rfl
theorem ofs_ties : Str.ofString "ties" = nm_ties := rfl
theorem ofs_tuple : Str.ofString "tuple" = nm_tuple := rfl
theorem ofs_values : Str.ofString "values" = nm_values := rfl
theorem ofs_waiting : Str.ofString "waiting" = nm_waiting := rfl
theorem ofs_x : Str.ofString "x" = nm_x := rfl
theorem ofs_zip : Str.ofString "zip" = nm_zip := rfl
noncomputable abbrev topB : List Stmt := PySem.Challenge.pw_gj0003_02.main.body
noncomputable def kn_1 : List (Str × NameKind) := [(nm_target, .local), (nm_source, .local), (nm_new_callers, .local), (nm_func, .local), (nm_caller, .local), (nm_isinstance, .globalImplicit), (nm_tuple, .globalImplicit), (nm_zip, .globalImplicit)]
theorem kn_1_eq : (scopeAt topB 1).names = kn_1 := by decide +kernel
noncomputable def kf_1 : Kap := fun x => kn_1.lookup x
noncomputable def sf_1 : Str → Bool := fun x => kn_1.lookup x == some .local || kn_1.lookup x == some .cell
theorem kf_1_eq : kapF (scopeAt topB 1) = kf_1 := by funext x; unfold kapF kf_1; rw [kn_1_eq]
theorem sf_1_eq : stoF (scopeAt topB 1) = sf_1 := by funext x; unfold stoF sf_1; rw [kn_1_eq]
noncomputable def kn_2 : List (Str × NameKind) := [(nm_callers, .local), (nm_nc, .local), (nm_calls, .local)]
theorem kn_2_eq : (scopeAt topB 2).names = kn_2 := by decide +kernel
noncomputable def kf_2 : Kap := fun x => kn_2.lookup x
noncomputable def sf_2 : Str → Bool := fun x => kn_2.lookup x == some .local || kn_2.lookup x == some .cell
theorem kf_2_eq : kapF (scopeAt topB 2) = kf_2 := by funext x; unfold kapF kf_2; rw [kn_2_eq]
theorem sf_2_eq : stoF (scopeAt topB 2) = sf_2 := by funext x; unfold stoF sf_2; rw [kn_2_eq]
noncomputable def kn_4 : List (Str × NameKind) := [(nm_a, .local), (nm_x, .local), (nm_lo, .local), (nm_hi, .local), (nm_key, .local), (nm_bisect_left, .globalImplicit)]
theorem kn_4_eq : (scopeAt topB 4).names = kn_4 := by decide +kernel
noncomputable def kf_4 : Kap := fun x => kn_4.lookup x
noncomputable def sf_4 : Str → Bool := fun x => kn_4.lookup x == some .local || kn_4.lookup x == some .cell
theorem kf_4_eq : kapF (scopeAt topB 4) = kf_4 := by funext x; unfold kapF kf_4; rw [kn_4_eq]
theorem sf_4_eq : stoF (scopeAt topB 4) = sf_4 := by funext x; unfold stoF sf_4; rw [kn_4_eq]
noncomputable def kn_5 : List (Str × NameKind) := [(nm_a, .local), (nm_x, .local), (nm_lo, .local), (nm_hi, .local), (nm_key, .local), (nm_mid, .local), (nm_ValueError, .globalImplicit), (nm_len, .globalImplicit)]
theorem kn_5_eq : (scopeAt topB 5).names = kn_5 := by decide +kernel
noncomputable def kf_5 : Kap := fun x => kn_5.lookup x
noncomputable def sf_5 : Str → Bool := fun x => kn_5.lookup x == some .local || kn_5.lookup x == some .cell
theorem kf_5_eq : kapF (scopeAt topB 5) = kf_5 := by funext x; unfold kapF kf_5; rw [kn_5_eq]
theorem sf_5_eq : stoF (scopeAt topB 5) = sf_5 := by funext x; unfold stoF sf_5; rw [kn_5_eq]
noncomputable def kn_7 : List (Str × NameKind) := [(nm_ties, .local), (nm_place, .local), (nm_many, .local), (nm_far, .cell), (nm_waiting, .local), (nm_here, .local), (nm_one, .local), (nm_other, .local), (nm_at, .local), (nm_there, .local), (nm_range, .globalImplicit)]
theorem kn_7_eq : (scopeAt topB 7).names = kn_7 := by decide +kernel
noncomputable def kf_7 : Kap := fun x => kn_7.lookup x
noncomputable def sf_7 : Str → Bool := fun x => kn_7.lookup x == some .local || kn_7.lookup x == some .cell
theorem kf_7_eq : kapF (scopeAt topB 7) = kf_7 := by funext x; unfold kapF kf_7; rw [kn_7_eq]
theorem sf_7_eq : stoF (scopeAt topB 7) = sf_7 := by funext x; unfold stoF sf_7; rw [kn_7_eq]
noncomputable def kn_8 : List (Str × NameKind) := [(nm_ties, .local), (nm_many, .local), (nm_calls, .local), (nm_one, .local), (nm_other, .local), (nm_range, .globalImplicit), (nm_add_callers, .globalImplicit)]
theorem kn_8_eq : (scopeAt topB 8).names = kn_8 := by decide +kernel
noncomputable def kf_8 : Kap := fun x => kn_8.lookup x
noncomputable def sf_8 : Str → Bool := fun x => kn_8.lookup x == some .local || kn_8.lookup x == some .cell
theorem kf_8_eq : kapF (scopeAt topB 8) = kf_8 := by funext x; unfold kapF kf_8; rw [kn_8_eq]
theorem sf_8_eq : stoF (scopeAt topB 8) = sf_8 := by funext x; unfold stoF sf_8; rw [kn_8_eq]
noncomputable def kn_9 : List (Str × NameKind) := [(nm_ties, .local), (nm_many, .local), (nm_left, .cell), (nm_here, .local), (nm_counts, .cell), (nm_ends, .cell), (nm_list, .globalImplicit), (nm_range, .globalImplicit), (nm_len, .globalImplicit), (nm_Llaw_counts, .globalImplicit)]
theorem kn_9_eq : (scopeAt topB 9).names = kn_9 := by decide +kernel
noncomputable def kf_9 : Kap := fun x => kn_9.lookup x
noncomputable def sf_9 : Str → Bool := fun x => kn_9.lookup x == some .local || kn_9.lookup x == some .cell
theorem kf_9_eq : kapF (scopeAt topB 9) = kf_9 := by funext x; unfold kapF kf_9; rw [kn_9_eq]
theorem sf_9_eq : stoF (scopeAt topB 9) = sf_9 := by funext x; unfold stoF sf_9; rw [kn_9_eq]
noncomputable def kn_10 : List (Str × NameKind) := [(nm_script, .local), (nm_many, .cell), (nm_number, .local), (nm_ties, .cell), (nm_table, .cell), (nm_farthest, .cell), (nm_middle, .local), (nm_begin, .local), (nm_one, .local), (nm_long, .cell), (nm_a, .cell), (nm_b, .cell), (nm_counts, .local), (nm_order, .cell), (nm_min, .globalImplicit), (nm_len, .globalImplicit), (nm_enumerate, .globalImplicit), (nm_range, .globalImplicit), (nm_Llaw_middle, .globalImplicit), (nm_max, .globalImplicit), (nm_Llaw_counts, .globalImplicit), (nm_sum, .globalImplicit), (nm_insort_left, .globalImplicit), (nm_sorted, .globalImplicit)]
theorem kn_10_eq : (scopeAt topB 10).names = kn_10 := by decide +kernel
noncomputable def kf_10 : Kap := fun x => kn_10.lookup x
noncomputable def sf_10 : Str → Bool := fun x => kn_10.lookup x == some .local || kn_10.lookup x == some .cell
theorem kf_10_eq : kapF (scopeAt topB 10) = kf_10 := by funext x; unfold kapF kf_10; rw [kn_10_eq]
theorem sf_10_eq : stoF (scopeAt topB 10) = sf_10 := by funext x; unfold stoF sf_10; rw [kn_10_eq]

end Mine
end
section
open PySem PySem.W PyProof.Rows PySem.Spec PySem.SeqAt
set_option maxRecDepth 100000
namespace Mine
theorem N1_len (k : Know) (r : Sem5) (κ : Kap) (e : Expr) : callN k r κ nm_len e [] = dBfn κ nm_len [e] (lstE r κ [e]) := rfl
theorem N1_sum (k : Know) (r : Sem5) (κ : Kap) (e : Expr) : callN k r κ nm_sum e [] = dBfn κ nm_sum [e] (lstE r κ [e]) := rfl
theorem N1_sorted (k : Know) (r : Sem5) (κ : Kap) (e : Expr) : callN k r κ nm_sorted e [] = dBfn κ nm_sorted [e] (lstE r κ [e]) := rfl
theorem N1_max (k : Know) (r : Sem5) (κ : Kap) (e : Expr) : callN k r κ nm_max e [] = dBfn κ nm_max [e] (lstE r κ [e]) := rfl
theorem N1_min (k : Know) (r : Sem5) (κ : Kap) (e : Expr) : callN k r κ nm_min e [] = dBfn κ nm_min [e] (lstE r κ [e]) := rfl
theorem N1_list (k : Know) (r : Sem5) (κ : Kap) (e : Expr) : callN k r κ nm_list e [] = (bList k r κ e).1 := rfl
theorem N2_max (k : Know) (r : Sem5) (κ : Kap) (e e2 : Expr) : callN k r κ nm_max e [e2] = dBfn κ nm_max [e, e2] (lstE r κ [e, e2]) := rfl
theorem N2_min (k : Know) (r : Sem5) (κ : Kap) (e e2 : Expr) : callN k r κ nm_min e [e2] = dBfn κ nm_min [e, e2] (lstE r κ [e, e2]) := rfl
theorem N2_isi (k : Know) (r : Sem5) (κ : Kap) (e e2 : Expr) : callN k r κ nm_isinstance e [e2] = (bIsi k r κ e e2).1 := rfl
theorem N_lrange (k : Know) (r : Sem5) (κ : Kap) (e : Expr) (p pos : Pos) : (bList k r κ (.Call (.Name nm_range p) [e] [] pos)).1 = dListRange κ e (r.E κ e) := rfl
theorem I_range (k : Know) (r : Sem5) (κ : Kap) (fc lo : Bool) (t : Expr) (p pos : Pos) (e : Expr) : stepI k r κ fc lo t (.Call (.Name nm_range p) [e] [] pos) = dItRange κ e (r.E κ e) := rfl
theorem I_enumerate (k : Know) (r : Sem5) (κ : Kap) (fc lo : Bool) (t : Expr) (p pos : Pos) (e : Expr) : stepI k r κ fc lo t (.Call (.Name nm_enumerate p) [e] [] pos) = (bEnum k r κ fc lo e t).1 := rfl
theorem I_items0 (k : Know) (r : Sem5) (κ : Kap) (t o : Expr) (apos pos : Pos) : stepI k r κ false false t (.Call (.Attribute o nm_items apos) [] [] pos) = (bItems k r κ apos pos o t).1 := rfl
theorem I_values (k : Know) (r : Sem5) (κ : Kap) (t o : Expr) (apos pos : Pos) : stepI k r κ false false t (.Call (.Attribute o nm_values apos) [] [] pos) = dItVals o apos pos (r.E κ o) := rfl
theorem S_appendN (k : Know) (r : Sem5) (κ : Kap) (sto : Str → Bool) (x : Str) (p apos pos spos : Pos) (e : Expr) : stepS0 k r κ sto (.Expr (.Call (.Attribute (.Name x p) nm_append apos) [e] [] pos) spos) = dAppend κ x e apos pos (r.E κ e) := rfl
theorem S_insertN (k : Know) (r : Sem5) (κ : Kap) (sto : Str → Bool) (x : Str) (p apos pos spos : Pos) (i e : Expr) : stepS0 k r κ sto (.Expr (.Call (.Attribute (.Name x p) nm_insert apos) [i, e] [] pos) spos) = dInsert κ x i e apos pos (r.E κ i) (r.E κ e) := rfl
noncomputable def k0 (mu : Str → Bool) (T : Str → Option (List D → Option D)) (M : Str → Option (D → List D → Option D)) : Know := ⟨T, M, mu, fun _ => none, 40⟩
theorem k0_T (mu : Str → Bool) (T : Str → Option (List D → Option D)) (M : Str → Option (D → List D → Option D))  : (k0 mu T M).T = T := rfl
theorem k0_M (mu : Str → Bool) (T : Str → Option (List D → Option D)) (M : Str → Option (D → List D → Option D))  : (k0 mu T M).M = M := rfl
theorem k0_mu (mu : Str → Bool) (T : Str → Option (List D → Option D)) (M : Str → Option (D → List D → Option D))  : (k0 mu T M).mu = mu := rfl
theorem k0_K (mu : Str → Bool) (T : Str → Option (List D → Option D)) (M : Str → Option (D → List D → Option D))  : (k0 mu T M).K = 40 := rfl
theorem S_k0 (mu : Str → Bool) (T : Str → Option (List D → Option D)) (M : Str → Option (D → List D → Option D)) (r : Sem5) (κ : Kap) (sto : Str → Bool) (st : Stmt) : stepS (k0 mu T M) r κ sto st = stepS0 (k0 mu T M) r κ sto st := rfl
end Mine
end
section
open PySem PySem.W PyProof.Rows PySem.Spec PySem.SeqAt
set_option maxRecDepth 100000
set_option linter.all false
namespace Mine
noncomputable def kB : Know := k0 (fun _ => false) (fun _ => none) (fun _ => none)
noncomputable def fuel : Nat := 30

abbrev CntI (vs : List Int) : List D → Rho → Prop := fun ds ρ => ∃ (c : Int) (us : List Int), ρ nm_nc = some (.frz (.int c)) ∧ ds = us.map .int ∧ c + us.sum = vs.sum
theorem count_ok (d : D) (vs : List Int) (hv : valsD d = some (vs.map .int)) : fnD ((den kB 30).Ss kf_2 sf_2 (bodyAt topB 2)) [nm_callers] [] 1 [d] = some (.int vs.sum) := by
  refine fn_run rfl ?_
  have h : bodyAt topB 2 = bodyAt topB 2 := rfl
  conv at h => rhs; whnf
  rw [h]
  clear h
  dsimp only [ofs_ValueError, ofs_UUclassdictUU, ofs_UUdebugUU, ofs_UUnameUU, ofs_Llaw_counts, ofs_Llaw_far, ofs_Llaw_middle, ofs_a, ofs_add_callers, ofs_append, ofs_at, ofs_b, ofs_begin, ofs_bisect_left, ofs_caller, ofs_callers, ofs_calls, ofs_count, ofs_count_calls, ofs_counts, ofs_ends, ofs_enumerate, ofs_far, ofs_farthest, ofs_func, ofs_here, ofs_hi, ofs_i, ofs_index, ofs_insert, ofs_insort_left, ofs_isinstance, ofs_items, ofs_j, ofs_k, ofs_key, ofs_law, ofs_left, ofs_len, ofs_list, ofs_lo, ofs_long, ofs_many, ofs_max, ofs_mid, ofs_middle, ofs_min, ofs_nc, ofs_new_callers, ofs_number, ofs_one, ofs_order, ofs_other, ofs_place, ofs_range, ofs_row, ofs_script, ofs_sorted, ofs_source, ofs_sum, ofs_table, ofs_target, ofs_there, ofs_tie, ofs_ties, ofs_tuple, ofs_values, ofs_waiting, ofs_x, ofs_zip, den_Ss, den_S, den_E, den_I, den_B, E_int, E_str, E_bool, E_none, E_name, E_bin, E_cmp, E_andV, E_tup, E_lst, E_upto, E_sub_name, E_sub_con, E_sub_bin, E_sub_sub, E_sub_call, E_dict0, E_dict1, E_comp, E_call, E_meth, N_lname, N_isi, B_and0, B_and, B_or0, B_or, B_cmp, B_call, I_call2, I_name, I_lst, I_tup, I_sub, I_bin, I_enum, I_items, S_assignC, S_assign_name, S_assign_con, S_assign_bin, S_assign_call, S_assign_sub, S_assign_cmp, S_assign_ifx, S_assign_lst, S_assign_tup, S_assign_dict, S_assign_boo, S_tup, S_unpack_call, S_setSub, S_augSub, S_augName, S_if, S_while, S_for_name, S_for_call, S_for_lst, S_for_tup, S_for_sub, S_ret, S_retNone, S_mut, Ss_nil, Ss_cons, L_nil, L_cons, dTests_nil, dTests_cons, N1_len, N1_sum, N1_sorted, N1_max, N1_min, N1_list, N2_max, N2_min, N2_isi, N_lrange, I_range, I_enumerate, I_items0, I_values, S_appendN, S_insertN, k0_T, k0_M, k0_mu, k0_K, S_k0, callE, bMut, kB]
  simp only [List.map_cons, List.map_nil, List.cons_append, List.nil_append, rho0_cons]
  refine run_seq (run_assign (.frozen, .int 0) _ rfl rfl rfl ?_)
  refine run_seq (run_for (vs.map .int) ?_ (CntI vs) ⟨0, vs, rfl, rfl, by exact om_54⟩ ?_ ?_)
  · exact q_vals (by decide +kernel) (nmF (d := d) rfl _ (by decide +kernel)) hv frz_nl
  · rintro d ds ρ ⟨c, us, h1, h2, h3⟩
    cases us with
    | nil => cases h2
    | cons u us =>
      cases h2
      exact ⟨_, rfl, run_seq (run_eq .next (upd (upd ρ nm_calls (.frz (.int u))) nm_nc (.frz (.int (c + u)))) (q_aug (by decide +kernel) h1 (nmF rfl _ (by decide +kernel))) (run_nil ⟨c + u, us, rfl, rfl, by rw [← h3, List.sum_cons, Int.add_assoc]⟩))⟩
  · rintro ρ ⟨c, us, h1, h2, h3⟩
    cases us with
    | cons u us => cases h2
    | nil =>
      refine run_seq (run_ret (.frozen, .int c) (nmF (lay_frz h1) _ (by decide +kernel)) frz_nl ?_)
      rw [← h3, List.sum_nil, Int.add_zero]

abbrev BisI (ds : List D) (x : D) (k : Nat) : Nat → Rho → Prop := fun m ρ => ∃ l h : Nat, ρ nm_a = some (.frz (.lst ds)) ∧ ρ nm_x = some (.frz x) ∧ ρ nm_lo = some (.frz (.int (l : Int))) ∧ ρ nm_hi = some (.frz (.int (h : Int))) ∧ l ≤ k ∧ k ≤ h ∧ h ≤ ds.length ∧ m = h - l
theorem bis_run (ds : List D) (x : D) (k : Nat) (hk : k ≤ ds.length) (hl : ds.length < 40) (hc : ∀ (i : Nat) d, ds[i]? = some d → cmpD .Lt d x = some (decide (i < k))) :
    Run ((den kB 30).Ss kf_5 sf_5 (bodyAt topB 5)) (rho0 [nm_a, nm_x, nm_lo, nm_hi, nm_key] [.frz (.lst ds), .frz x, .frz (.int 0), .frz .none, .frz .none]) (RetQ (.int k)) := by
  have h : bodyAt topB 5 = bodyAt topB 5 := rfl
  conv at h => rhs; whnf
  rw [h]
  clear h
  dsimp only [ofs_ValueError, ofs_UUclassdictUU, ofs_UUdebugUU, ofs_UUnameUU, ofs_Llaw_counts, ofs_Llaw_far, ofs_Llaw_middle, ofs_a, ofs_add_callers, ofs_append, ofs_at, ofs_b, ofs_begin, ofs_bisect_left, ofs_caller, ofs_callers, ofs_calls, ofs_count, ofs_count_calls, ofs_counts, ofs_ends, ofs_enumerate, ofs_far, ofs_farthest, ofs_func, ofs_here, ofs_hi, ofs_i, ofs_index, ofs_insert, ofs_insort_left, ofs_isinstance, ofs_items, ofs_j, ofs_k, ofs_key, ofs_law, ofs_left, ofs_len, ofs_list, ofs_lo, ofs_long, ofs_many, ofs_max, ofs_mid, ofs_middle, ofs_min, ofs_nc, ofs_new_callers, ofs_number, ofs_one, ofs_order, ofs_other, ofs_place, ofs_range, ofs_row, ofs_script, ofs_sorted, ofs_source, ofs_sum, ofs_table, ofs_target, ofs_there, ofs_tie, ofs_ties, ofs_tuple, ofs_values, ofs_waiting, ofs_x, ofs_zip, den_Ss, den_S, den_E, den_I, den_B, E_int, E_str, E_bool, E_none, E_name, E_bin, E_cmp, E_andV, E_tup, E_lst, E_upto, E_sub_name, E_sub_con, E_sub_bin, E_sub_sub, E_sub_call, E_dict0, E_dict1, E_comp, E_call, E_meth, N_lname, N_isi, B_and0, B_and, B_or0, B_or, B_cmp, B_call, I_call2, I_name, I_lst, I_tup, I_sub, I_bin, I_enum, I_items, S_assignC, S_assign_name, S_assign_con, S_assign_bin, S_assign_call, S_assign_sub, S_assign_cmp, S_assign_ifx, S_assign_lst, S_assign_tup, S_assign_dict, S_assign_boo, S_tup, S_unpack_call, S_setSub, S_augSub, S_augName, S_if, S_while, S_for_name, S_for_call, S_for_lst, S_for_tup, S_for_sub, S_ret, S_retNone, S_mut, Ss_nil, Ss_cons, L_nil, L_cons, dTests_nil, dTests_cons, N1_len, N1_sum, N1_sorted, N1_max, N1_min, N1_list, N2_max, N2_min, N2_isi, N_lrange, I_range, I_enumerate, I_items0, I_values, S_appendN, S_insertN, k0_T, k0_M, k0_mu, k0_K, S_k0, callE, bMut, kB]
  simp only [List.map_cons, List.map_nil, List.cons_append, List.nil_append, rho0_cons]
  have i0 : ∀ (y : D), cmpD .Is y .none = some y.isNone := cmpD_is
  have l0 : cmpD .Lt (.int 0) (.int 0) = some false := rfl
  refine run_seq (run_if false (q_cmp rfl (nmF (d := .int 0) rfl _ (by decide +kernel)) rfl l0) (run_nil ?_))
  refine run_seq (run_if true (q_cmp rfl (nmF (d := .none) rfl _ (by decide +kernel)) rfl (i0 .none)) (run_seq (run_assign (.frozen, .int ds.length) _ (q_bfn (by decide +kernel) (q_cons rfl (nmF (d := .lst ds) rfl _ (by decide +kernel)) q_nil) rfl) rfl rfl (run_nil ?_))))
  refine run_seq (run_if true (q_cmp rfl (nmF (d := .none) rfl _ (by decide +kernel)) rfl (i0 .none)) ?_)
  refine run_seq (run_while (BisI ds x k) ⟨ds.length, hl, 0, ds.length, rfl, rfl, rfl, rfl, by exact om_55, hk, by exact om_56, by exact om_57⟩ ?_)
  rintro m ρ ⟨l, hh, h1, h2, h3, h4, h5, h6, h7, rfl⟩
  refine ⟨decide (l < hh), q_cmp rfl (nmF h3 _ (by decide +kernel)) (nmF h4 _ (by decide +kernel)) ((cmpD_lt _ _).trans (congrArg some (decide_eq_decide.mpr Int.ofNat_lt))), ?_⟩
  by_cases hlt : l < hh
  · simp only [hlt, decide_true, if_true]
    have hmid : ((l : Int) + (hh : Int)).fdiv 2 = (((l + hh) / 2 : Nat) : Int) := by
      rw [Int.fdiv_eq_ediv_of_nonneg _ (by exact om_58)]; exact om_59
    have hdv : binD .FloorDiv (.int ((l : Int) + hh)) (.int 2) = some (.frozen, .int (((l + hh) / 2 : Nat) : Int)) := by rw [← hmid]; rfl
    refine run_seq (run_assign (.frozen, .int (((l + hh) / 2 : Nat) : Int)) _ (q_bin (q_bin (nmF h3 _ (by decide +kernel)) (nmF h4 _ (by decide +kernel)) (binD_add _ _)) rfl hdv) rfl rfl ?_)
    generalize hmd : (l + hh) / 2 = md
    have hm : md < ds.length := by exact om_60 h7 hlt hmd
    have hget : ds[md]? = some ds[md] := List.getElem?_eq_getElem hm
    have hcm := hc _ _ hget
    refine run_seq (run_if (decide (md < k)) ?_ ?_)
    · have e1 : itemD (.lst ds) (.int (md : Int)) = some ds[md] := by
        simp only [itemD_lst, itemD_tup, itemD_idict, itemD_tdict]
        rw [if_pos (by exact om_61 hl hm)]; simp [hget]
      exact q_cmp rfl (q_sub (nmF h1 _ (by decide +kernel)) (nmF rfl _ (by decide +kernel)) rfl e1) (nmF h2 _ (by decide +kernel)) hcm
    · by_cases hmk : md < k
      · simp only [hmk, decide_true, if_true]
        refine run_seq (run_assign (.frozen, .int (((md + 1 : Nat)) : Int)) _ (q_bin (nmF (d := .int (md : Int)) rfl _ (by decide +kernel)) rfl rfl) rfl rfl (run_nil (run_nil ⟨hh - (md + 1), by exact om_62 hlt hmd, md + 1, hh, h1, h2, rfl, h4, ?_⟩)))
        exact om_63 h6 h7 hmk
      · simp only [hmk, decide_false, Bool.false_eq_true, if_false]
        refine run_seq (run_assign (.frozen, .int (md : Int)) _ (nmF rfl _ (by decide +kernel)) rfl rfl (run_nil (run_nil ⟨md - l, by exact om_64 hlt hmd, l, md, h1, h2, h3, rfl, ?_⟩)))
        exact om_65 h5 hm hmk
  · simp only [hlt, decide_false, Bool.false_eq_true, if_false]
    have : l = k := by exact om_66 h5 h6 hlt
    subst this
    exact run_nil (run_seq (run_ret (.frozen, .int (l : Int)) (nmF (lay_frz h3) _ (by decide +kernel)) frz_nl rfl))
end Mine
end
section
open PySem PySem.W PyProof.Rows PySem.Spec PySem.SeqAt
set_option maxRecDepth 100000
set_option linter.all false
namespace Mine
noncomputable abbrev psBis : List Str := [nm_a, nm_x, nm_lo, nm_hi, nm_key]
noncomputable def bdBis : DenS := (den kB 30).Ss kf_5 sf_5 (bodyAt topB 5)
noncomputable def fBis (ds : List D) : Option D := if ds.length = 2 then fnD bdBis psBis [.int 0, .none, .none] 2 ds else fnD bdBis psBis [.none] 4 ds
theorem bis_two (ds : List D) (x : D) (k : Nat) (hk : k ≤ ds.length) (hl : ds.length < 40) (hc : ∀ (i : Nat) d, ds[i]? = some d → cmpD .Lt d x = some (decide (i < k))) : fBis [.lst ds, x] = some (.int k) := by
  exact (if_pos rfl).trans <| fn_run rfl (bis_run ds x k hk hl hc)
theorem bis_four (ds : List D) (x : D) (k : Nat) (hk : k ≤ ds.length) (hl : ds.length < 40) (hc : ∀ (i : Nat) d, ds[i]? = some d → cmpD .Lt d x = some (decide (i < k))) : fBis [.lst ds, x, .int 0, .none] = some (.int k) := by
  exact (if_neg (by simp)).trans <| fn_run rfl (bis_run ds x k hk hl hc)

noncomputable def tIns (f : Str) : Option (List D → Option D) := if f = nm_bisect_left then some fBis else none
theorem T_tIns_len : tIns nm_len = none := rfl
theorem T_tIns_sum : tIns nm_sum = none := rfl
theorem T_tIns_sorted : tIns nm_sorted = none := rfl
theorem T_tIns_max : tIns nm_max = none := rfl
theorem T_tIns_min : tIns nm_min = none := rfl
theorem T_tIns_list : tIns nm_list = none := rfl
theorem T_tIns_range : tIns nm_range = none := rfl
theorem T_tIns_enumerate : tIns nm_enumerate = none := rfl
theorem T_tIns_isinstance : tIns nm_isinstance = none := rfl
theorem T_tIns_bisect_left : tIns nm_bisect_left = some fBis := rfl
noncomputable def kIns : Know := k0 (fun _ => false) tIns (fun _ => none)
noncomputable def bdIns : DenS := (den kIns 30).Ss kf_4 (stoBut sf_4 nm_a) (bodyAt topB 4)
noncomputable def fIns : D → List D → Option D := fnMut bdIns nm_a [nm_x, nm_lo, nm_hi, nm_key] [.int 0, .none, .none] 1
theorem ins_ok (ds : List D) (x : D) (k : Nat) (hk : k ≤ ds.length) (hl : ds.length < 40) (hc : ∀ (i : Nat) d, ds[i]? = some d → cmpD .Lt d x = some (decide (i < k))) :
    fIns (.lst ds) [x] = some (.lst (ds.take k ++ x :: ds.drop k)) := by
  refine mut_run rfl ?_
  show Run bdIns (rho0 [nm_a, nm_x, nm_lo, nm_hi, nm_key] [.own (.lst ds), .frz x, .frz (.int 0), .frz .none, .frz .none]) (fun fl ρ => fl = .next ∧ ρ nm_a = some (.own (.lst (ds.take k ++ x :: ds.drop k))))
  unfold bdIns
  have h : bodyAt topB 4 = bodyAt topB 4 := rfl
  conv at h => rhs; whnf
  rw [h]
  clear h
  dsimp only [ofs_ValueError, ofs_UUclassdictUU, ofs_UUdebugUU, ofs_UUnameUU, ofs_Llaw_counts, ofs_Llaw_far, ofs_Llaw_middle, ofs_a, ofs_add_callers, ofs_append, ofs_at, ofs_b, ofs_begin, ofs_bisect_left, ofs_caller, ofs_callers, ofs_calls, ofs_count, ofs_count_calls, ofs_counts, ofs_ends, ofs_enumerate, ofs_far, ofs_farthest, ofs_func, ofs_here, ofs_hi, ofs_i, ofs_index, ofs_insert, ofs_insort_left, ofs_isinstance, ofs_items, ofs_j, ofs_k, ofs_key, ofs_law, ofs_left, ofs_len, ofs_list, ofs_lo, ofs_long, ofs_many, ofs_max, ofs_mid, ofs_middle, ofs_min, ofs_nc, ofs_new_callers, ofs_number, ofs_one, ofs_order, ofs_other, ofs_place, ofs_range, ofs_row, ofs_script, ofs_sorted, ofs_source, ofs_sum, ofs_table, ofs_target, ofs_there, ofs_tie, ofs_ties, ofs_tuple, ofs_values, ofs_waiting, ofs_x, ofs_zip, den_Ss, den_S, den_E, den_I, den_B, E_int, E_str, E_bool, E_none, E_name, E_bin, E_cmp, E_andV, E_tup, E_lst, E_upto, E_sub_name, E_sub_con, E_sub_bin, E_sub_sub, E_sub_call, E_dict0, E_dict1, E_comp, E_call, E_meth, N_lname, N_isi, B_and0, B_and, B_or0, B_or, B_cmp, B_call, I_call2, I_name, I_lst, I_tup, I_sub, I_bin, I_enum, I_items, S_assignC, S_assign_name, S_assign_con, S_assign_bin, S_assign_call, S_assign_sub, S_assign_cmp, S_assign_ifx, S_assign_lst, S_assign_tup, S_assign_dict, S_assign_boo, S_tup, S_unpack_call, S_setSub, S_augSub, S_augName, S_if, S_while, S_for_name, S_for_call, S_for_lst, S_for_tup, S_for_sub, S_ret, S_retNone, S_mut, Ss_nil, Ss_cons, L_nil, L_cons, dTests_nil, dTests_cons, N1_len, N1_sum, N1_sorted, N1_max, N1_min, N1_list, N2_max, N2_min, N2_isi, N_lrange, I_range, I_enumerate, I_items0, I_values, S_appendN, S_insertN, k0_T, k0_M, k0_mu, k0_K, S_k0, callE, bMut, T_tIns_len, T_tIns_sum, T_tIns_sorted, T_tIns_max, T_tIns_min, T_tIns_list, T_tIns_range, T_tIns_enumerate, T_tIns_isinstance, T_tIns_bisect_left, kIns]
  simp only [List.map_cons, List.map_nil, List.cons_append, List.nil_append, rho0_cons]
  have hb := bis_four ds x k hk hl hc
  refine run_seq (run_if true ?_ (run_seq (run_assign (.frozen, .int k) _ ?_ rfl rfl (run_nil ?_))))
  · exact q_cmp rfl (nmF (d := .none) rfl _ (by decide +kernel)) rfl (cmpD_is .none)
  · refine q_call (xs := [(.loose, .lst ds), (.frozen, x), (.frozen, .int 0), (.frozen, .none)]) (by decide +kernel) (q_cons rfl (nmO rfl _ (by decide +kernel)) (q_cons rfl (nmF rfl _ (by decide +kernel)) (q_cons rfl (nmF rfl _ (by decide +kernel)) (q_cons rfl (nmF rfl _ (by decide +kernel)) q_nil)))) hb rfl
  refine run_seq (run_eq .next (upd (upd (upd (upd (upd (upd (upd (rho0 [] []) nm_key (.frz .none)) nm_hi (.frz .none)) nm_lo (.frz (.int 0))) nm_x (.frz x)) nm_a (.own (.lst ds))) nm_lo (.frz (.int k))) nm_a (.own (.lst (ds.take k ++ x :: ds.drop k)))) ?_ (run_nil ⟨rfl, rfl⟩))
  have hi : insD (.lst ds) (k : Int) x = some (.lst (ds.take k ++ x :: ds.drop k)) := by
    exact (if_pos ⟨by exact om_67, by exact om_68 hk hl, by have : cap = 200 := rfl; exact om_69 hl this⟩).trans (by rw [Int.toNat_natCast])
  exact q_insert (by decide +kernel) (nmF (d := .int (k : Int)) rfl _ (by decide +kernel)) (nmF (d := x) rfl _ (by decide +kernel)) frz_nl rfl hi

/-! ## add_callers -/
abbrev Row := List (List Scal × Int)
noncomputable def rowD (l : Row) : D := if l = [] then .idict [] [] else .tdict (l.map (·.1)) (l.map fun p => .int p.2)
noncomputable def bump (l : Row) (k : List Scal) (v : Int) : Row := if k ∈ l.map (·.1) then l.map (fun p => if p.1 = k then (p.1, p.2 + v) else p) else l ++ [(k, v)]
theorem scalsOf_d : ∀ ks : List Scal, scalsOf (ks.map Scal.d) = some ks
  | [] => rfl
  | k :: ks => by
    have h : scalOf k.d = some k := by cases k <;> rfl
    show Option.bind (scalOf k.d) _ = _
    rw [h]
    exact congrArg (Option.map fun ks => k :: ks) (scalsOf_d ks)
theorem keyOf_keyD (k : List Scal) : keyOf (keyD k) = some k := scalsOf_d k
theorem rowD_vals (l : Row) : valsD (rowD l) = some (l.map fun p => .int p.2) := by
  unfold rowD; split
  · rename_i h; subst h; rfl
  · rfl
theorem rowD_keys (l : Row) : keysD (rowD l) = l.map fun p => keyD p.1 := by
  unfold rowD; split
  · rename_i h; subst h; rfl
  · simp [keysD]
theorem rowD_put (l : Row) (k : List Scal) (v : Int) (hk : k ∉ l.map (·.1)) (hl : l.length + 1 ≤ cap) : putD (fitD (rowD l) (keyD k)) (keyD k) (.int v) = some (rowD (l ++ [(k, v)])) := by
  have hne : l ++ [(k, v)] ≠ [] := by simp
  cases l with
  | nil =>
    simp only [rowD, if_true, fitD_nil, fitD_int, fitD_lst, fitD_tdict, keyD, putD_lst, putD_idict, putD_tdict]
    rw [show keyOf (.tup (k.map Scal.d)) = some k from keyOf_keyD k]
    simp [putK, cap]
  | cons p l =>
    have h1 : rowD (p :: l) = .tdict ((p :: l).map (·.1)) ((p :: l).map fun p => .int p.2) := by unfold rowD; rw [if_neg (by simp)]
    rw [h1]
    have h2 : rowD (p :: l ++ [(k, v)]) = .tdict ((p :: l ++ [(k, v)]).map (·.1)) ((p :: l ++ [(k, v)]).map fun p => .int p.2) := by unfold rowD; rw [if_neg hne]
    rw [h2]
    simp only [fitD_nil, fitD_int, fitD_lst, fitD_tdict, putD_lst, putD_idict, putD_tdict, keyOf_keyD, opt_bind_some]
    have h3 : putK ((p :: l).map (·.1)) ((p :: l).map fun p => D.int p.2) k (.int v) = ((p :: l).map (·.1) ++ [k], ((p :: l).map fun p => D.int p.2) ++ [.int v]) := by unfold putK; rw [if_neg hk]
    rw [h3]
    simp only [List.length_append, List.length_map, List.length_singleton]
    rw [if_pos hl]
    simp
theorem rowD_in (l : Row) (k : List Scal) : inD (fitD (rowD l) (keyD k)) (keyD k) = some (decide (k ∈ l.map (·.1))) := by
  cases l with
  | nil =>
    simp only [rowD, if_true, fitD_nil, fitD_int, fitD_lst, fitD_tdict, keyD, inD_lst, inD_idict, inD_tdict]
    rw [show keyOf (.tup (k.map Scal.d)) = some k from keyOf_keyD k]
    simp
  | cons p l =>
    have h1 : rowD (p :: l) = .tdict ((p :: l).map (·.1)) ((p :: l).map fun p => .int p.2) := by unfold rowD; rw [if_neg (by simp)]
    rw [h1]
    simp only [fitD_nil, fitD_int, fitD_lst, fitD_tdict, inD_lst, inD_idict, inD_tdict, keyOf_keyD, opt_map_some]
theorem rowD_comp (l : Row) : (rowD l).comp = true := by unfold rowD; split <;> rfl
theorem row_get : ∀ (l : Row) (k : List Scal), k ∈ l.map (·.1) → ∃ a, getK (l.map (·.1)) (l.map fun p => D.int p.2) k = some (.int a) ∧
    ((l.map (·.1)).Nodup → ∀ v, setK (l.map (·.1)) (l.map fun p => D.int p.2) k (.int (a + v)) = (l.map (fun p => if p.1 = k then (p.1, p.2 + v) else p)).map fun p => D.int p.2)
  | [], k, h => by simp at h
  | (q, b) :: l, k, h => by
    by_cases hq : q = k
    · subst hq
      refine ⟨b, by simp [Mine.getK_cons, Mine.getK_nl, Mine.getK_ln], fun hn v => ?_⟩
      have hno : q ∉ l.map (·.1) := by simp at hn; simpa using hn.1
      simp only [List.map_cons, Mine.setK_cons, Mine.setK_nl, Mine.setK_ln, if_true]
      congr 1
      rw [setK_not hno]
      simp only [List.map_map]
      apply List.map_congr_left
      intro p hp
      have : p.1 ≠ q := fun e => hno (List.mem_map.mpr ⟨p, hp, e⟩)
      simp [this]
    · have hk : k ∈ l.map (·.1) := by simp at h; rcases h with h | h; exact absurd h.symm hq; simpa using h
      obtain ⟨a, h1, h2⟩ := row_get l k hk
      refine ⟨a, by simp [Mine.getK_cons, Mine.getK_nl, Mine.getK_ln, hq]; simpa using h1, fun hn v => ?_⟩
      have hn' : (l.map (·.1)).Nodup := by simp at hn ⊢; exact hn.2
      have := h2 hn' v
      simp only [List.map_cons, Mine.setK_cons, Mine.setK_nl, Mine.setK_ln, hq, if_false]
      rw [this]
theorem rowD_bump (l : Row) (k : List Scal) (v : Int) (hk : k ∈ l.map (·.1)) (hn : (l.map (·.1)).Nodup) (hl : l.length ≤ cap) :
    ∃ a, itemD (fitD (rowD l) (keyD k)) (keyD k) = some (.int a) ∧ putD (fitD (rowD l) (keyD k)) (keyD k) (.int (a + v)) = some (rowD (bump l k v)) := by
  obtain ⟨a, h1, h2⟩ := row_get l k hk
  have hne : l ≠ [] := by rintro rfl; simp at hk
  have e1 : rowD l = .tdict (l.map (·.1)) (l.map fun p => .int p.2) := by unfold rowD; rw [if_neg hne]
  have e2 : fitD (rowD l) (keyD k) = .tdict (l.map (·.1)) (l.map fun p => .int p.2) := by
    rw [e1]; rfl
  refine ⟨a, by rw [e2]; simp only [itemD_lst, itemD_tup, itemD_idict, itemD_tdict, keyOf_keyD, opt_bind_some, h1], ?_⟩
  rw [e2]
  simp only [putD_lst, putD_idict, putD_tdict, keyOf_keyD, opt_bind_some]
  have h3 : putK (l.map (·.1)) (l.map fun p => D.int p.2) k (.int (a + v)) = (l.map (·.1), setK (l.map (·.1)) (l.map fun p => D.int p.2) k (.int (a + v))) := by unfold putK; rw [if_pos hk]
  rw [h3]
  simp only [List.length_map]
  rw [if_pos hl, h2 hn v]
  unfold rowD bump
  rw [if_pos hk, if_neg (by simpa using hne)]
  congr 2
  simp only [List.map_map]
  apply List.map_congr_left
  intro p _
  show p.1 = (if p.1 = k then (p.1, p.2 + v) else p).1
  split <;> rfl
end Mine
end
section
open PySem PySem.W PyProof.Rows PySem.Spec PySem.SeqAt
set_option maxRecDepth 100000
set_option linter.all false
namespace Mine
noncomputable def kAdd : Know := k0 (fun x => x = nm_new_callers) (fun _ => none) (fun _ => none)
noncomputable def bdAdd : DenS := (den kAdd 30).Ss kf_1 sf_1 (bodyAt topB 1)
noncomputable def fAdd : List D → Option D := fnD bdAdd [nm_target, nm_source] [] 2
noncomputable def pairD (p : List Scal × Int) : D := .tup [keyD p.1, .int p.2]
theorem zipD_row : ∀ l : Row, zipD (l.map fun p => keyD p.1) (l.map fun p => D.int p.2) = l.map pairD
  | [] => rfl
  | p :: l => by simp [zipD, pairD, zipD_row l]
theorem nodup_mid {l1 l2 : Row} {p : List Scal × Int} (h : ((l1 ++ p :: l2).map (·.1)).Nodup) : p.1 ∉ l1.map (·.1) := by
  rw [List.map_append, List.map_cons] at h
  have := (List.nodup_append.mp h).2.2
  intro hm
  exact this _ hm p.1 List.mem_cons_self rfl

theorem row_hit (l : Row) (k : List Scal) (b : Bool) (h : decide (k ∈ l.map (·.1)) = b) : cmpD .In (keyD k) (rowD l) = some b := by
  rw [cmpD_in, if_pos (rowD_comp l), rowD_in, h]
abbrev AddI (l : Row) (k : List Scal) (v : Int) : List D → Rho → Prop := fun ds ρ => ∃ l1 l2, l = l1 ++ l2 ∧ ds = l2.map pairD ∧ ρ nm_new_callers = some (.own (rowD l1)) ∧ ρ nm_source = some (.frz (rowD [(k, v)]))
abbrev AddJ (l : Row) (k : List Scal) (v : Int) : List D → Rho → Prop := fun ds ρ => (ds = [pairD (k, v)] ∧ ρ nm_new_callers = some (.own (rowD l))) ∨ (ds = [] ∧ ρ nm_new_callers = some (.own (rowD (bump l k v))))
theorem add_ok (l : Row) (k : List Scal) (v : Int) (hn : (l.map (·.1)).Nodup) (hl : l.length + 1 ≤ cap) : fAdd [rowD l, rowD [(k, v)]] = some (rowD (bump l k v)) := by
  refine fn_run rfl ?_
  unfold bdAdd
  have h : bodyAt topB 1 = bodyAt topB 1 := rfl
  conv at h => rhs; whnf
  rw [h]
  clear h
  dsimp only [ofs_ValueError, ofs_UUclassdictUU, ofs_UUdebugUU, ofs_UUnameUU, ofs_Llaw_counts, ofs_Llaw_far, ofs_Llaw_middle, ofs_a, ofs_add_callers, ofs_append, ofs_at, ofs_b, ofs_begin, ofs_bisect_left, ofs_caller, ofs_callers, ofs_calls, ofs_count, ofs_count_calls, ofs_counts, ofs_ends, ofs_enumerate, ofs_far, ofs_farthest, ofs_func, ofs_here, ofs_hi, ofs_i, ofs_index, ofs_insert, ofs_insort_left, ofs_isinstance, ofs_items, ofs_j, ofs_k, ofs_key, ofs_law, ofs_left, ofs_len, ofs_list, ofs_lo, ofs_long, ofs_many, ofs_max, ofs_mid, ofs_middle, ofs_min, ofs_nc, ofs_new_callers, ofs_number, ofs_one, ofs_order, ofs_other, ofs_place, ofs_range, ofs_row, ofs_script, ofs_sorted, ofs_source, ofs_sum, ofs_table, ofs_target, ofs_there, ofs_tie, ofs_ties, ofs_tuple, ofs_values, ofs_waiting, ofs_x, ofs_zip, den_Ss, den_S, den_E, den_I, den_B, E_int, E_str, E_bool, E_none, E_name, E_bin, E_cmp, E_andV, E_tup, E_lst, E_upto, E_sub_name, E_sub_con, E_sub_bin, E_sub_sub, E_sub_call, E_dict0, E_dict1, E_comp, E_call, E_meth, N_lname, N_isi, B_and0, B_and, B_or0, B_or, B_cmp, B_call, I_call2, I_name, I_lst, I_tup, I_sub, I_bin, I_enum, I_items, S_assignC, S_assign_name, S_assign_con, S_assign_bin, S_assign_call, S_assign_sub, S_assign_cmp, S_assign_ifx, S_assign_lst, S_assign_tup, S_assign_dict, S_assign_boo, S_tup, S_unpack_call, S_setSub, S_augSub, S_augName, S_if, S_while, S_for_name, S_for_call, S_for_lst, S_for_tup, S_for_sub, S_ret, S_retNone, S_mut, Ss_nil, Ss_cons, L_nil, L_cons, dTests_nil, dTests_cons, N1_len, N1_sum, N1_sorted, N1_max, N1_min, N1_list, N2_max, N2_min, N2_isi, N_lrange, I_range, I_enumerate, I_items0, I_values, S_appendN, S_insertN, k0_T, k0_M, k0_mu, k0_K, S_k0, callE, bMut, kAdd]
  simp only [List.map_cons, List.map_nil, List.cons_append, List.nil_append, rho0_cons]
  refine run_seq (run_assign (.fresh, .idict [] []) (upd (upd (upd (rho0 [] []) nm_source (.frz (rowD [(k, v)]))) nm_target (.frz (rowD l))) nm_new_callers (.own (.idict [] []))) rfl ?_ rfl ?_)
  · simp (decide := true) only [dPut, if_true]
  refine run_seq (run_for (l.map pairD) ?_ (AddI l k v) ⟨[], l, rfl, rfl, rfl, rfl⟩ ?_ ?_)
  · rw [q_items (by decide +kernel) (nmF (d := rowD l) rfl _ (by decide +kernel)) (rowD_vals l) frz_nl, rowD_keys, zipD_row]
  · rintro d ds ρ ⟨l1, l2, h1, h2, h3, h4⟩
    cases l2 with
    | nil => cases h2
    | cons p l2 =>
      cases h2
      have hp := rowD_put l1 p.1 p.2 (nodup_mid (h1 ▸ hn)) (by rw [h1] at hl; simp at hl; exact om_70 hl)
      refine ⟨upd (upd ρ nm_func (.frz (keyD p.1))) nm_caller (.frz (.int p.2)), rfl, run_seq (run_eq .next (upd (upd (upd ρ nm_func (.frz (keyD p.1))) nm_caller (.frz (.int p.2))) nm_new_callers (.own (rowD (l1 ++ [p])))) ?_ (run_nil ⟨l1 ++ [p], l2, by simp [h1], rfl, rfl, h4⟩))⟩
      exact q_setSub (q_frz (nmF (d := .int p.2) rfl _ (by decide +kernel)) frz_nl) (by decide +kernel) (q_frz (nmF (d := keyD p.1) rfl _ (by decide +kernel)) frz_nl) h3 hp
  · rintro ρ ⟨l1, l2, h1, h2, h3, h4⟩
    cases l2 with
    | cons p l2 => cases h2
    | nil =>
      rw [List.append_nil] at h1
      subst h1
      refine run_seq (run_for [pairD (k, v)] ?_ (AddJ l k v) (.inl ⟨rfl, h3⟩) ?_ ?_)
      · rw [q_items (by decide +kernel) (nmF h4 _ (by decide +kernel)) (rowD_vals _) frz_nl, rowD_keys, zipD_row]
        rfl
      · rintro d ds ρ (⟨e1, h5⟩ | ⟨e1, h5⟩)
        · cases e1
          refine ⟨upd (upd ρ nm_func (.frz (keyD k))) nm_caller (.frz (.int v)), rfl, ?_⟩
          by_cases hk : k ∈ l.map (·.1)
          · obtain ⟨a, hi, hp⟩ := rowD_bump l k v hk hn (by exact om_71 hl)
            refine run_seq (run_if true ?_ (run_seq (run_if false ?_ (run_seq (run_eq .next (upd (upd (upd ρ nm_func (.frz (keyD k))) nm_caller (.frz (.int v))) nm_new_callers (.own (rowD (bump l k v)))) ?_ (run_nil (run_nil (run_nil (.inr ⟨rfl, rfl⟩)))))))))
            · exact q_cmp rfl (nmF (d := keyD k) rfl _ (by decide +kernel)) (nmO h5 _ (by decide +kernel)) (row_hit l k true (decide_eq_true hk))
            · exact q_isTup (by decide +kernel) (nmF (d := .int v) rfl _ (by decide +kernel))
            · exact q_augSub (by decide +kernel) (q_frz (nmF (d := keyD k) rfl _ (by decide +kernel)) frz_nl) h5 hi (q_frz (nmF (d := .int v) rfl _ (by decide +kernel)) frz_nl) hp
          · have hp := rowD_put l k v hk hl
            refine run_seq (run_if false ?_ (run_seq (run_eq .next (upd (upd (upd ρ nm_func (.frz (keyD k))) nm_caller (.frz (.int v))) nm_new_callers (.own (rowD (bump l k v)))) ?_ (run_nil (run_nil (.inr ⟨rfl, rfl⟩))))))
            · exact q_cmp rfl (nmF (d := keyD k) rfl _ (by decide +kernel)) (nmO h5 _ (by decide +kernel)) (row_hit l k false (decide_eq_false hk))
            · have hb : bump l k v = l ++ [(k, v)] := if_neg hk
              rw [hb]
              exact q_setSub (q_frz (nmF (d := .int v) rfl _ (by decide +kernel)) frz_nl) (by decide +kernel) (q_frz (nmF (d := keyD k) rfl _ (by decide +kernel)) frz_nl) h5 hp
        · cases e1
      · rintro ρ (⟨e1, h5⟩ | ⟨e1, h5⟩)
        · cases e1
        · exact run_seq (run_ret (.frozen, rowD (bump l k v)) (nmF (lay_own h5) _ (by decide +kernel)) frz_nl rfl)
end Mine
end
section
open PySem PySem.W PyProof.Rows PySem.Spec PySem.SeqAt
set_option maxRecDepth 100000
set_option linter.all false
namespace Mine
theorem dTurns_flat {f : D → Option (List D)} {g : D → List D} : ∀ {ds : List D}, (∀ d ∈ ds, f d = some (g d)) → dTurns f ds = some (ds.flatMap g)
  | [], _ => rfl
  | d :: ds, h => by
    unfold dTurns
    rw [h d List.mem_cons_self, opt_bind_some, dTurns_flat fun e he => h e (List.mem_cons_of_mem _ he), opt_map_some]
    simp
theorem comp_flat {κ : Kap} {FI0 FI : Expr → Expr → Rho → Option (List D)} {FE : Expr → Den} {FB : Expr → DenB} {elt t it : Expr} {ifs : List Expr} {gs : List Comprehension} {scope : Scope} {ρ : Rho} {ds : List D} (g : D → List D)
    (hs : scopeOk scope κ = true ∧ ((⟨t, it, ifs, 0⟩ :: gs : List Comprehension).all fun g => decide (g.is_async = 0)) = true ∧ noSet it = true ∧ ((targetNames t).all fun x => (rhoC scope ρ x).isNone) = true) (hi : FI0 t it ρ = some ds)
    (ht : ∀ d ∈ ds, dTurn (kapC scope κ) (stoC scope) FE FB FI elt ⟨t, it, ifs, 0⟩ gs (rhoC scope ρ) d = some (g d)) (hc : (ds.flatMap g).length ≤ cap) : dComp κ FI0 FE FB FI elt (⟨t, it, ifs, 0⟩ :: gs) scope ρ = some (ds.flatMap g) := by
  unfold dComp
  simp only
  rw [if_pos hs, hi, opt_bind_some, dTurns_flat ht, opt_bind_some, if_pos hc]
theorem comp_map {κ : Kap} {FI0 FI : Expr → Expr → Rho → Option (List D)} {FE : Expr → Den} {FB : Expr → DenB} {elt t it : Expr} {ifs : List Expr} {gs : List Comprehension} {scope : Scope} {ρ : Rho} {ds : List D} (f : D → D)
    (hs : scopeOk scope κ = true ∧ ((⟨t, it, ifs, 0⟩ :: gs : List Comprehension).all fun g => decide (g.is_async = 0)) = true ∧ noSet it = true ∧ ((targetNames t).all fun x => (rhoC scope ρ x).isNone) = true) (hi : FI0 t it ρ = some ds)
    (ht : ∀ d ∈ ds, dTurn (kapC scope κ) (stoC scope) FE FB FI elt ⟨t, it, ifs, 0⟩ gs (rhoC scope ρ) d = some [f d]) (hc : ds.length ≤ cap) : dComp κ FI0 FE FB FI elt (⟨t, it, ifs, 0⟩ :: gs) scope ρ = some (ds.map f) := by
  have e : ds.flatMap (fun d => [f d]) = ds.map f := by
    clear ht hi hc
    induction ds with
    | nil => rfl
    | cons d ds ih => rw [List.flatMap_cons, ih]; rfl
  rw [← e]
  exact comp_flat _ hs hi ht (by rw [e]; simpa using hc)
theorem comp_list {κ : Kap} {FI0 FI : Expr → Expr → Rho → Option (List D)} {FE : Expr → Den} {FB : Expr → DenB} {elt t it : Expr} {ifs : List Expr} {gs : List Comprehension} {scope : Scope} {ρ : Rho} {ds : List D} (outs : List D)
    (hs : scopeOk scope κ = true ∧ ((⟨t, it, ifs, 0⟩ :: gs : List Comprehension).all fun g => decide (g.is_async = 0)) = true ∧ noSet it = true ∧ ((targetNames t).all fun x => (rhoC scope ρ x).isNone) = true) (hi : FI0 t it ρ = some ds)
    (hl : ds.length = outs.length) (ht : ∀ (i : Nat) d o, ds[i]? = some d → outs[i]? = some o → dTurn (kapC scope κ) (stoC scope) FE FB FI elt ⟨t, it, ifs, 0⟩ gs (rhoC scope ρ) d = some [o]) (hc : ds.length ≤ cap) : dComp κ FI0 FE FB FI elt (⟨t, it, ifs, 0⟩ :: gs) scope ρ = some outs := by
  have key : ∀ {f : D → Option (List D)} (ds outs : List D), ds.length = outs.length → (∀ (i : Nat) d o, ds[i]? = some d → outs[i]? = some o → f d = some [o]) → dTurns f ds = some outs := by
    intro f ds
    induction ds with
    | nil => intro outs h _; cases outs with
      | nil => rfl
      | cons o os => simp at h
    | cons d ds ih =>
      intro outs h hf
      cases outs with
      | nil => simp at h
      | cons o os =>
        unfold dTurns
        rw [hf 0 d o rfl rfl, opt_bind_some, ih os (by simpa using h) (fun i d o h1 h2 => hf (i + 1) d o (by simpa using h1) (by simpa using h2)), opt_map_some]
        rfl
  unfold dComp
  simp only
  rw [if_pos hs, hi, opt_bind_some, key ds outs hl ht, opt_bind_some, if_pos (by exact om_72 hl hc)]
theorem lst_comp (ds : List D) : (D.lst ds).comp = true := rfl
theorem tup_comp (ds : List D) : (D.tup ds).comp = true := rfl
theorem int_comp (i : Int) : (D.int i).comp = false := rfl
theorem comp_filter {κ : Kap} {FI0 FI : Expr → Expr → Rho → Option (List D)} {FE : Expr → Den} {FB : Expr → DenB} {elt t it : Expr} {ifs : List Expr} {gs : List Comprehension} {scope : Scope} {ρ : Rho} {ds : List D} (p : D → Bool) (f : D → D)
    (hs : scopeOk scope κ = true ∧ ((⟨t, it, ifs, 0⟩ :: gs : List Comprehension).all fun g => decide (g.is_async = 0)) = true ∧ noSet it = true ∧ ((targetNames t).all fun x => (rhoC scope ρ x).isNone) = true) (hi : FI0 t it ρ = some ds)
    (ht : ∀ d ∈ ds, dTurn (kapC scope κ) (stoC scope) FE FB FI elt ⟨t, it, ifs, 0⟩ gs (rhoC scope ρ) d = some (if p d then [f d] else [])) (hc : ds.length ≤ cap) : dComp κ FI0 FE FB FI elt (⟨t, it, ifs, 0⟩ :: gs) scope ρ = some ((ds.filter p).map f) := by
  have e : ds.flatMap (fun d => if p d then [f d] else []) = (ds.filter p).map f := by
    clear ht hi hc
    induction ds with
    | nil => rfl
    | cons d ds ih => rw [List.flatMap_cons, ih]; cases hp : p d <;> simp [hp]
  rw [← e]
  exact comp_flat _ hs hi ht (by rw [e, List.length_map]; exact Nat.le_trans (List.length_filter_le _ _) hc)
theorem opt_map_of {α β : Type} {x : Option α} {f : α → β} {a : α} {b : β} (h : x = some a) (e : f a = b) : x.map f = some b := by rw [h, ← e]; rfl
theorem turn1 {κ : Kap} {sto : Str → Bool} {FI : Expr → Expr → Rho → Option (List D)} {FE : Expr → Den} {FB : Expr → DenB} {elt t it : Expr} {ifs : List Expr} {ρ0 ρ' : Rho} {d : D} (h1 : dTarget κ sto t d ρ0 = some ρ') (b : Bool) (h2 : dTests FB ifs ρ' = some b) (y : Fl × D)
    (h3 : b = true → FE elt ρ' = some y ∧ y.1 ≠ .loose) : dTurn κ sto FE FB FI elt ⟨t, it, ifs, 0⟩ [] ρ0 d = some (if b then [y.2] else []) := by
  unfold dTurn
  rw [h1, opt_bind_some, h2, opt_bind_some]
  cases b with
  | false => rfl
  | true =>
    obtain ⟨e, hl⟩ := h3 rfl
    simp only [if_true]
    unfold dGens
    rw [e, opt_bind_some, if_neg hl]
theorem turn0 {κ : Kap} {sto : Str → Bool} {FI : Expr → Expr → Rho → Option (List D)} {FE : Expr → Den} {FB : Expr → DenB} {elt t it : Expr} {ρ0 ρ' : Rho} {d : D} (h1 : dTarget κ sto t d ρ0 = some ρ') (y : Fl × D)
    (h3 : FE elt ρ' = some y) (hl : y.1 ≠ .loose) : dTurn κ sto FE FB FI elt ⟨t, it, [], 0⟩ [] ρ0 d = some [y.2] := turn1 h1 true rfl y fun _ => ⟨h3, hl⟩
theorem run_assignC {κ : Kap} {sto mu : Str → Bool} {x : Str} {p : Pos} {scope : Scope} {vp : Pos} {f : Rho → Option (List D)} {ρ : Rho} {Q : Flo → Rho → Prop} (out : List D) (ρ' : Rho) (e : f ρ = some out) (h1 : dPut κ sto mu x (.fresh, .lst out) ρ = some ρ') (h : Q .next ρ') :
    Run (dAssignC κ sto mu x p scope vp f) ρ Q := ⟨_, ρ', by simp [dAssignC, e, h1], h⟩

/-! ## _law_counts -/
abbrev Tie := Nat × Nat
noncomputable def tieD (t : Tie) : D := .tup [.int (t.1 : Int), .int (t.2 : Int)]
/-- how many ends of ties lie at v -/
noncomputable def inc (ts : List Tie) (v : Nat) : Int := (ts.map fun t => (if t.1 = v then (1 : Int) else 0) + (if t.2 = v then 1 else 0)).sum
noncomputable def rowSum (l : Row) : Int := (l.map (·.2)).sum
theorem bump_nodup (l : Row) (k : List Scal) (v : Int) (h : (l.map (·.1)).Nodup) : ((bump l k v).map (·.1)).Nodup := by
  unfold bump
  split
  · have e : (l.map (fun p => if p.1 = k then (p.1, p.2 + v) else p)).map (·.1) = l.map (·.1) := by
      simp only [List.map_map]
      apply List.map_congr_left
      intro p _
      show (if p.1 = k then (p.1, p.2 + v) else p).1 = p.1
      split <;> rfl
    rw [e]; exact h
  · rename_i hk
    rw [List.map_append]
    refine List.nodup_append.mpr ⟨h, by simp, fun a ha b hb => ?_⟩
    simp at hb
    subst hb
    exact fun e => hk (e ▸ ha)
theorem bump_length (l : Row) (k : List Scal) (v : Int) : (bump l k v).length ≤ l.length + 1 := by unfold bump; split <;> simp
theorem bump_sum (l : Row) (k : List Scal) (v : Int) (h : (l.map (·.1)).Nodup) : rowSum (bump l k v) = rowSum l + v := by
  unfold bump
  split
  · rename_i hk
    induction l with
    | nil => simp at hk
    | cons p l ih =>
      rw [List.map_cons, List.nodup_cons] at h
      by_cases hp : p.1 = k
      · have hno : ∀ q ∈ l, q.1 ≠ k := fun q hq e => h.1 (List.mem_map.mpr ⟨q, hq, by rw [e, hp]⟩)
        have e : l.map (fun p => if p.1 = k then (p.1, p.2 + v) else p) = l := by
          conv => rhs; rw [← List.map_id l]
          apply List.map_congr_left
          intro q hq
          simp [hno q hq]
        simp only [rowSum, List.map_cons, hp, if_true, List.sum_cons] at *
        rw [e]; exact om_73
      · have hk' : k ∈ l.map (·.1) := by
          rw [List.map_cons] at hk
          rcases List.mem_cons.mp hk with q | q
          · exact absurd q.symm hp
          · exact q
        have := ih h.2 hk'
        simp only [rowSum, List.map_cons, hp, if_false, List.sum_cons] at *
        exact om_74 this
  · simp [rowSum]

noncomputable def fCount : List D → Option D := fnD ((den kB 30).Ss kf_2 sf_2 (bodyAt topB 2)) [nm_callers] [] 1
noncomputable def tCnt (f : Str) : Option (List D → Option D) := if f = nm_add_callers then some fAdd else if f = nm_count_calls then some fCount else none
theorem T_tCnt_len : tCnt nm_len = none := rfl
theorem T_tCnt_sum : tCnt nm_sum = none := rfl
theorem T_tCnt_sorted : tCnt nm_sorted = none := rfl
theorem T_tCnt_max : tCnt nm_max = none := rfl
theorem T_tCnt_min : tCnt nm_min = none := rfl
theorem T_tCnt_list : tCnt nm_list = none := rfl
theorem T_tCnt_range : tCnt nm_range = none := rfl
theorem T_tCnt_enumerate : tCnt nm_enumerate = none := rfl
theorem T_tCnt_isinstance : tCnt nm_isinstance = none := rfl
theorem T_tCnt_add_callers : tCnt nm_add_callers = some fAdd := rfl
theorem T_tCnt_count_calls : tCnt nm_count_calls = some fCount := rfl
noncomputable def kCnt : Know := k0 (fun x => x = nm_calls) tCnt (fun _ => none)
noncomputable def bdCnt : DenS := (den kCnt 30).Ss kf_8 sf_8 (bodyAt topB 8)
noncomputable def fCnt : List D → Option D := fnD bdCnt [nm_ties, nm_many] [] 2
noncomputable def tkey (v : Nat) : List Scal := [.str "t", .int (v : Int), .str "t"]

theorem rows_item {rows : List Row} {i : Nat} {r : Row} (h : rows[i]? = some r) (hi : i < 300) : itemD (.lst (rows.map rowD)) (.int (i : Int)) = some (rowD r) := by
  simp only [itemD_lst, itemD_tup, itemD_idict, itemD_tdict]
  rw [if_pos (by exact om_75 hi)]
  simp [h]
theorem rows_put {rows : List Row} {i : Nat} {r : Row} (h : i < rows.length) : putD (fitD (.lst (rows.map rowD)) (.int (i : Int))) (.int (i : Int)) (rowD r) = some (.lst ((rows.set i r).map rowD)) := by
  simp only [fitD_nil, fitD_int, fitD_lst, fitD_tdict, putD_lst, putD_idict, putD_tdict]
  rw [if_pos ⟨by exact om_67, by simpa using h⟩]
  simp [List.map_set]
theorem disp1 (j : Nat) : putD (fitD (D.idict [] []) (D.tup [.str "t", .int (j : Int), .str "t"])) (D.tup [.str "t", .int (j : Int), .str "t"]) (.int 1) = some (rowD [(tkey j, 1)]) := rowD_put [] (tkey j) 1 (by simp) (by decide)
theorem inc_snoc (ts : List Tie) (t : Tie) (v : Nat) : inc (ts ++ [t]) v = inc ts v + ((if t.1 = v then (1 : Int) else 0) + (if t.2 = v then 1 else 0)) := by simp [inc]
abbrev RowI (ts : List Tie) (m : Nat) : List D → Rho → Prop := fun ds ρ => ∃ (t1 t2 : List Tie) (rows : List Row), ts = t1 ++ t2 ∧ ds = t2.map tieD ∧ ρ nm_calls = some (.own (.lst (rows.map rowD))) ∧ rows.length = m ∧
      ∀ (v : Nat) r, rows[v]? = some r → (r.map (·.1)).Nodup ∧ rowSum r = inc t1 v ∧ r.length ≤ 2 * t1.length
theorem cnt_ok (ts : List Tie) (m : Nat) (hm : m ≤ 40) (ht : ts.length ≤ 40) (hb : ∀ t ∈ ts, t.1 < m ∧ t.2 < m) : fCnt [.lst (ts.map tieD), .int (m : Int)] = some (.lst ((List.range m).map fun v => .int (inc ts v))) := by
  refine fn_run rfl ?_
  unfold bdCnt
  have h : bodyAt topB 8 = bodyAt topB 8 := rfl
  conv at h => rhs; whnf
  rw [h]
  clear h
  dsimp only [ofs_ValueError, ofs_UUclassdictUU, ofs_UUdebugUU, ofs_UUnameUU, ofs_Llaw_counts, ofs_Llaw_far, ofs_Llaw_middle, ofs_a, ofs_add_callers, ofs_append, ofs_at, ofs_b, ofs_begin, ofs_bisect_left, ofs_caller, ofs_callers, ofs_calls, ofs_count, ofs_count_calls, ofs_counts, ofs_ends, ofs_enumerate, ofs_far, ofs_farthest, ofs_func, ofs_here, ofs_hi, ofs_i, ofs_index, ofs_insert, ofs_insort_left, ofs_isinstance, ofs_items, ofs_j, ofs_k, ofs_key, ofs_law, ofs_left, ofs_len, ofs_list, ofs_lo, ofs_long, ofs_many, ofs_max, ofs_mid, ofs_middle, ofs_min, ofs_nc, ofs_new_callers, ofs_number, ofs_one, ofs_order, ofs_other, ofs_place, ofs_range, ofs_row, ofs_script, ofs_sorted, ofs_source, ofs_sum, ofs_table, ofs_target, ofs_there, ofs_tie, ofs_ties, ofs_tuple, ofs_values, ofs_waiting, ofs_x, ofs_zip, den_Ss, den_S, den_E, den_I, den_B, E_int, E_str, E_bool, E_none, E_name, E_bin, E_cmp, E_andV, E_tup, E_lst, E_upto, E_sub_name, E_sub_con, E_sub_bin, E_sub_sub, E_sub_call, E_dict0, E_dict1, E_comp, E_call, E_meth, N_lname, N_isi, B_and0, B_and, B_or0, B_or, B_cmp, B_call, I_call2, I_name, I_lst, I_tup, I_sub, I_bin, I_enum, I_items, S_assignC, S_assign_name, S_assign_con, S_assign_bin, S_assign_call, S_assign_sub, S_assign_cmp, S_assign_ifx, S_assign_lst, S_assign_tup, S_assign_dict, S_assign_boo, S_tup, S_unpack_call, S_setSub, S_augSub, S_augName, S_if, S_while, S_for_name, S_for_call, S_for_lst, S_for_tup, S_for_sub, S_ret, S_retNone, S_mut, Ss_nil, Ss_cons, L_nil, L_cons, dTests_nil, dTests_cons, N1_len, N1_sum, N1_sorted, N1_max, N1_min, N1_list, N2_max, N2_min, N2_isi, N_lrange, I_range, I_enumerate, I_items0, I_values, S_appendN, S_insertN, k0_T, k0_M, k0_mu, k0_K, S_k0, callE, bMut, T_tCnt_len, T_tCnt_sum, T_tCnt_sorted, T_tCnt_max, T_tCnt_min, T_tCnt_list, T_tCnt_range, T_tCnt_enumerate, T_tCnt_isinstance, T_tCnt_add_callers, T_tCnt_count_calls, kCnt]
  simp only [List.map_cons, List.map_nil, List.cons_append, List.nil_append, rho0_cons]
  have e : List.replicate m (D.idict [] []) = (rangeD (m : Int)).map fun _ => .idict [] [] := by
    simp only [rangeD, List.map_map, Int.toNat_natCast]
    rw [show ((fun _ : D => D.idict [] []) ∘ fun i : Nat => D.int (i : Int)) = fun _ => D.idict [] [] from rfl, List.map_const', List.length_range]
  refine run_seq (run_assignC (List.replicate m (.idict [] [])) (upd (upd (upd (rho0 [] []) nm_many (.frz (.int m))) nm_ties (.frz (.lst (ts.map tieD)))) nm_calls (.own (.lst (List.replicate m (.idict [] []))))) ?_ ?_ ?_)
  · rw [e]
    refine comp_map _ ⟨by decide +kernel, rfl, rfl, rfl⟩ ?_ (fun d hd => ?_) (by simp [rangeD]; have : cap = 200 := rfl; exact om_76 hm this)
    · try dsimp only [ofs_ValueError, ofs_UUclassdictUU, ofs_UUdebugUU, ofs_UUnameUU, ofs_Llaw_counts, ofs_Llaw_far, ofs_Llaw_middle, ofs_a, ofs_add_callers, ofs_append, ofs_at, ofs_b, ofs_begin, ofs_bisect_left, ofs_caller, ofs_callers, ofs_calls, ofs_count, ofs_count_calls, ofs_counts, ofs_ends, ofs_enumerate, ofs_far, ofs_farthest, ofs_func, ofs_here, ofs_hi, ofs_i, ofs_index, ofs_insert, ofs_insort_left, ofs_isinstance, ofs_items, ofs_j, ofs_k, ofs_key, ofs_law, ofs_left, ofs_len, ofs_list, ofs_lo, ofs_long, ofs_many, ofs_max, ofs_mid, ofs_middle, ofs_min, ofs_nc, ofs_new_callers, ofs_number, ofs_one, ofs_order, ofs_other, ofs_place, ofs_range, ofs_row, ofs_script, ofs_sorted, ofs_source, ofs_sum, ofs_table, ofs_target, ofs_there, ofs_tie, ofs_ties, ofs_tuple, ofs_values, ofs_waiting, ofs_x, ofs_zip, den_Ss, den_S, den_E, den_I, den_B, E_int, E_str, E_bool, E_none, E_name, E_bin, E_cmp, E_andV, E_tup, E_lst, E_upto, E_sub_name, E_sub_con, E_sub_bin, E_sub_sub, E_sub_call, E_dict0, E_dict1, E_comp, E_call, E_meth, N_lname, N_isi, B_and0, B_and, B_or0, B_or, B_cmp, B_call, I_call2, I_name, I_lst, I_tup, I_sub, I_bin, I_enum, I_items, S_assignC, S_assign_name, S_assign_con, S_assign_bin, S_assign_call, S_assign_sub, S_assign_cmp, S_assign_ifx, S_assign_lst, S_assign_tup, S_assign_dict, S_assign_boo, S_tup, S_unpack_call, S_setSub, S_augSub, S_augName, S_if, S_while, S_for_name, S_for_call, S_for_lst, S_for_tup, S_for_sub, S_ret, S_retNone, S_mut, Ss_nil, Ss_cons, L_nil, L_cons, dTests_nil, dTests_cons, N1_len, N1_sum, N1_sorted, N1_max, N1_min, N1_list, N2_max, N2_min, N2_isi, N_lrange, I_range, I_enumerate, I_items0, I_values, S_appendN, S_insertN, k0_T, k0_M, k0_mu, k0_K, S_k0, callE, bMut, T_tCnt_len, T_tCnt_sum, T_tCnt_sorted, T_tCnt_max, T_tCnt_min, T_tCnt_list, T_tCnt_range, T_tCnt_enumerate, T_tCnt_isinstance, T_tCnt_add_callers, T_tCnt_count_calls]
      simp (decide := true) only [dItRange, dName, upd_at, opt_bind_some, lsOf_lst, itOf_int, blOf_bool, if_true, if_false, Bool.false_eq_true, reduceCtorEq, and_self, List.map_cons, List.map_nil, List.cons_append, List.nil_append, List.append_nil]
      rw [if_pos (by exact om_77 hm)]
    · obtain ⟨i, hi, rfl⟩ : ∃ i : Nat, i < m ∧ d = .int (i : Int) := by
        simp [rangeD] at hd; obtain ⟨i, h1, h2⟩ := hd; exact ⟨i, h1, h2.symm⟩
      exact turn0 rfl (.fresh, .idict [] []) rfl (by simp)
  · simp (decide := true) only [dPut, if_true]
  refine run_seq (run_for (ts.map tieD) ?_ (RowI ts m) ⟨[], ts, List.replicate m [], rfl, rfl, ?_, by simp, ?_⟩ ?_ ?_)
  · simp (decide := true) only [dItList, dName, upd_at, if_true, if_false, opt_bind_some, lsOf_lst, itOf_int, blOf_bool]
  · have : (List.replicate m ([] : Row)).map rowD = List.replicate m (.idict [] []) := by simp [rowD]
    rw [this]; rfl
  · intro v r hv
    rw [List.getElem?_replicate] at hv
    split at hv
    · cases hv; exact ⟨List.nodup_nil, by simp [rowSum, inc], by simp⟩
    · cases hv
  · rintro d ds ρ ⟨t1, t2, rows, h1, h2, h3, h4, h5⟩
    cases t2 with
    | nil => cases h2
    | cons t t2 =>
      cases h2
      have hbt := hb t (by rw [h1]; simp)
      have hlt : t1.length + 1 ≤ 40 := by rw [h1] at ht; simp at ht; exact om_78 ht
      obtain ⟨a, b⟩ := t
      simp only at hbt
      have ha : a < rows.length := by exact om_79 h4 hbt
      obtain ⟨n1, s1, l1⟩ := h5 a rows[a] (List.getElem?_eq_getElem ha)
      generalize hra : rows[a] = ra at n1 s1 l1
      have hga : rows[a]? = some ra := by rw [List.getElem?_eq_getElem ha, hra]
      have add1 := add_ok ra (tkey b) 1 n1 (by have : cap = 200 := rfl; exact om_80 hlt l1 this)
      let rows1 := rows.set a (bump ra (tkey b) 1)
      have hlen1 : rows1.length = m := by simp [rows1, h4]
      have hb1 : b < rows1.length := by exact om_81 hbt hlen1
      have h51 : ∀ (v : Nat) r, rows1[v]? = some r → (r.map (·.1)).Nodup ∧ rowSum r = inc t1 v + (if a = v then 1 else 0) ∧ r.length ≤ 2 * t1.length + 1 := by
        intro v r hv
        simp only [rows1, List.getElem?_set] at hv
        by_cases hav : a = v
        · subst hav
          simp only [if_true, ha] at hv
          cases hv
          exact ⟨bump_nodup _ _ _ n1, by rw [bump_sum _ _ _ n1, s1]; simp, by have := bump_length ra (tkey b) 1; exact om_82 l1 this⟩
        · simp only [hav, if_false] at hv
          obtain ⟨x, y, z⟩ := h5 v r hv
          exact ⟨x, by simp [hav, y], by exact om_83 z⟩
      obtain ⟨n2, s2, l2⟩ := h51 b rows1[b] (List.getElem?_eq_getElem hb1)
      generalize hrb : rows1[b] = rb at n2 s2 l2
      have hgb : rows1[b]? = some rb := by rw [List.getElem?_eq_getElem hb1, hrb]
      have add2 := add_ok rb (tkey a) 1 n2 (by have : cap = 200 := rfl; exact om_84 hlt l2 this)
      have i1 := rows_item hga (by exact om_85 hm hbt)
      have i2 := rows_item hgb (by exact om_86 hm hlen1 hb1)
      have p1 : putD (fitD (.lst (rows.map rowD)) (.int (a : Int))) (.int (a : Int)) (rowD (bump ra (tkey b) 1)) = some (.lst (rows1.map rowD)) := rows_put ha
      have p2 : putD (fitD (.lst (rows1.map rowD)) (.int (b : Int))) (.int (b : Int)) (rowD (bump rb (tkey a) 1)) = some (.lst ((rows1.set b (bump rb (tkey a) 1)).map rowD)) := rows_put hb1
      refine ⟨upd (upd ρ nm_one (.frz (.int a))) nm_other (.frz (.int b)), rfl, ?_⟩
      refine run_seq (run_eq .next (upd (upd (upd ρ nm_one (.frz (.int a))) nm_other (.frz (.int b))) nm_calls (.own (.lst (rows1.map rowD)))) ?_ ?_)
      · have d1 := disp1 b
        refine q_setSub (q_frz (q_call (xs := [(.frozen, rowD ra), (.fresh, rowD [(tkey b, 1)])]) (by decide +kernel) (q_cons rfl (q_sub (nmO h3 _ (by decide +kernel)) (nmF (d := .int (a : Int)) rfl _ (by decide +kernel)) rfl i1) (q_cons rfl (q_dict1 (k := keyD (tkey b)) (q_frz (q_tup (xs := [(.frozen, .str "t"), (.frozen, .int (b : Int)), (.frozen, .str "t")]) (q_cons rfl rfl (q_cons rfl (nmF rfl _ (by decide +kernel)) (q_cons rfl rfl q_nil))) ⟨rfl, Nat.le_of_ble_eq_true rfl⟩) fre_nl) rfl d1) q_nil)) add1 rfl) frz_nl) (by decide +kernel) (q_frz (nmF (d := .int (a : Int)) rfl _ (by decide +kernel)) frz_nl) h3 p1
      refine run_seq (run_eq .next (upd (upd (upd (upd ρ nm_one (.frz (.int a))) nm_other (.frz (.int b))) nm_calls (.own (.lst (rows1.map rowD)))) nm_calls (.own (.lst ((rows1.set b (bump rb (tkey a) 1)).map rowD)))) ?_ ?_)
      · have d1 := disp1 a
        refine q_setSub (q_frz (q_call (xs := [(.frozen, rowD rb), (.fresh, rowD [(tkey a, 1)])]) (by decide +kernel) (q_cons rfl (q_sub (nmO (d := .lst (rows1.map rowD)) rfl _ (by decide +kernel)) (nmF (d := .int (b : Int)) rfl _ (by decide +kernel)) rfl i2) (q_cons rfl (q_dict1 (k := keyD (tkey a)) (q_frz (q_tup (xs := [(.frozen, .str "t"), (.frozen, .int (a : Int)), (.frozen, .str "t")]) (q_cons rfl rfl (q_cons rfl (nmF rfl _ (by decide +kernel)) (q_cons rfl rfl q_nil))) ⟨rfl, Nat.le_of_ble_eq_true rfl⟩) fre_nl) rfl d1) q_nil)) add2 rfl) frz_nl) (by decide +kernel) (q_frz (nmF (d := .int (b : Int)) rfl _ (by decide +kernel)) frz_nl) rfl p2
      refine run_nil ⟨t1 ++ [(a, b)], t2, rows1.set b (bump rb (tkey a) 1), by simp [h1], rfl, rfl, by simp [hlen1], fun v r hv => ?_⟩
      rw [inc_snoc]
      simp only [List.getElem?_set] at hv
      by_cases hbv : b = v
      · subst hbv
        simp only [if_true, hb1] at hv
        cases hv
        refine ⟨bump_nodup _ _ _ n2, ?_, ?_⟩
        · rw [bump_sum _ _ _ n2, s2]; simp; exact om_87
        · have := bump_length rb (tkey a) 1; simp; exact om_88 l2 this
      · simp only [hbv, if_false] at hv
        obtain ⟨x, y, z⟩ := h51 v r hv
        refine ⟨x, ?_, by simp; exact om_89 z⟩
        rw [y]; simp [hbv]
  · rintro ρ ⟨t1, t2, rows, h1, h2, h3, h4, h5⟩
    cases t2 with
    | cons t t2 => cases h2
    | nil =>
      rw [List.append_nil] at h1
      subst h1
      refine run_seq (run_ret (.fresh, .lst ((List.range m).map fun v => .int (inc ts v))) ?_ (by simp) rfl)
      refine opt_map_of (comp_list _ ⟨by decide +kernel, rfl, rfl, rfl⟩ (ds := rows.map rowD) ?_ (by simp [h4]) (fun i d o hd ho => ?_) (by simp [h4]; have : cap = 200 := rfl; exact om_76 hm this)) rfl
      · try dsimp only [ofs_ValueError, ofs_UUclassdictUU, ofs_UUdebugUU, ofs_UUnameUU, ofs_Llaw_counts, ofs_Llaw_far, ofs_Llaw_middle, ofs_a, ofs_add_callers, ofs_append, ofs_at, ofs_b, ofs_begin, ofs_bisect_left, ofs_caller, ofs_callers, ofs_calls, ofs_count, ofs_count_calls, ofs_counts, ofs_ends, ofs_enumerate, ofs_far, ofs_farthest, ofs_func, ofs_here, ofs_hi, ofs_i, ofs_index, ofs_insert, ofs_insort_left, ofs_isinstance, ofs_items, ofs_j, ofs_k, ofs_key, ofs_law, ofs_left, ofs_len, ofs_list, ofs_lo, ofs_long, ofs_many, ofs_max, ofs_mid, ofs_middle, ofs_min, ofs_nc, ofs_new_callers, ofs_number, ofs_one, ofs_order, ofs_other, ofs_place, ofs_range, ofs_row, ofs_script, ofs_sorted, ofs_source, ofs_sum, ofs_table, ofs_target, ofs_there, ofs_tie, ofs_ties, ofs_tuple, ofs_values, ofs_waiting, ofs_x, ofs_zip, den_Ss, den_S, den_E, den_I, den_B, E_int, E_str, E_bool, E_none, E_name, E_bin, E_cmp, E_andV, E_tup, E_lst, E_upto, E_sub_name, E_sub_con, E_sub_bin, E_sub_sub, E_sub_call, E_dict0, E_dict1, E_comp, E_call, E_meth, N_lname, N_isi, B_and0, B_and, B_or0, B_or, B_cmp, B_call, I_call2, I_name, I_lst, I_tup, I_sub, I_bin, I_enum, I_items, S_assignC, S_assign_name, S_assign_con, S_assign_bin, S_assign_call, S_assign_sub, S_assign_cmp, S_assign_ifx, S_assign_lst, S_assign_tup, S_assign_dict, S_assign_boo, S_tup, S_unpack_call, S_setSub, S_augSub, S_augName, S_if, S_while, S_for_name, S_for_call, S_for_lst, S_for_tup, S_for_sub, S_ret, S_retNone, S_mut, Ss_nil, Ss_cons, L_nil, L_cons, dTests_nil, dTests_cons, N1_len, N1_sum, N1_sorted, N1_max, N1_min, N1_list, N2_max, N2_min, N2_isi, N_lrange, I_range, I_enumerate, I_items0, I_values, S_appendN, S_insertN, k0_T, k0_M, k0_mu, k0_K, S_k0, callE, bMut, T_tCnt_len, T_tCnt_sum, T_tCnt_sorted, T_tCnt_max, T_tCnt_min, T_tCnt_list, T_tCnt_range, T_tCnt_enumerate, T_tCnt_isinstance, T_tCnt_add_callers, T_tCnt_count_calls]
        exact q_list (nmF (lay_own h3) _ (by decide +kernel)) rfl (by decide)
      · rw [List.getElem?_map] at hd ho
        obtain ⟨r, hr, rfl⟩ := Option.map_eq_some_iff.mp hd
        obtain ⟨v, hv, rfl⟩ := Option.map_eq_some_iff.mp ho
        have hvi : v = i := by
          rw [List.getElem?_range] at hv
          · exact (Option.some.inj hv).symm
          · rcases Nat.lt_or_ge i m with q | q
            · exact q
            · rw [List.getElem?_eq_none (by simpa using q)] at hv; cases hv
        subst hvi
        obtain ⟨x, y, z⟩ := h5 v r hr
        have hc : fCount [rowD r] = some (.int (rowSum r)) := count_ok (rowD r) (List.map (fun p : List Scal × Int => p.2) r) (by rw [rowD_vals, List.map_map]; rfl)
        rw [y] at hc
        refine turn0 rfl (.frozen, .int (inc ts v)) ?_ (by simp)
        try dsimp only [ofs_ValueError, ofs_UUclassdictUU, ofs_UUdebugUU, ofs_UUnameUU, ofs_Llaw_counts, ofs_Llaw_far, ofs_Llaw_middle, ofs_a, ofs_add_callers, ofs_append, ofs_at, ofs_b, ofs_begin, ofs_bisect_left, ofs_caller, ofs_callers, ofs_calls, ofs_count, ofs_count_calls, ofs_counts, ofs_ends, ofs_enumerate, ofs_far, ofs_farthest, ofs_func, ofs_here, ofs_hi, ofs_i, ofs_index, ofs_insert, ofs_insort_left, ofs_isinstance, ofs_items, ofs_j, ofs_k, ofs_key, ofs_law, ofs_left, ofs_len, ofs_list, ofs_lo, ofs_long, ofs_many, ofs_max, ofs_mid, ofs_middle, ofs_min, ofs_nc, ofs_new_callers, ofs_number, ofs_one, ofs_order, ofs_other, ofs_place, ofs_range, ofs_row, ofs_script, ofs_sorted, ofs_source, ofs_sum, ofs_table, ofs_target, ofs_there, ofs_tie, ofs_ties, ofs_tuple, ofs_values, ofs_waiting, ofs_x, ofs_zip, den_Ss, den_S, den_E, den_I, den_B, E_int, E_str, E_bool, E_none, E_name, E_bin, E_cmp, E_andV, E_tup, E_lst, E_upto, E_sub_name, E_sub_con, E_sub_bin, E_sub_sub, E_sub_call, E_dict0, E_dict1, E_comp, E_call, E_meth, N_lname, N_isi, B_and0, B_and, B_or0, B_or, B_cmp, B_call, I_call2, I_name, I_lst, I_tup, I_sub, I_bin, I_enum, I_items, S_assignC, S_assign_name, S_assign_con, S_assign_bin, S_assign_call, S_assign_sub, S_assign_cmp, S_assign_ifx, S_assign_lst, S_assign_tup, S_assign_dict, S_assign_boo, S_tup, S_unpack_call, S_setSub, S_augSub, S_augName, S_if, S_while, S_for_name, S_for_call, S_for_lst, S_for_tup, S_for_sub, S_ret, S_retNone, S_mut, Ss_nil, Ss_cons, L_nil, L_cons, dTests_nil, dTests_cons, N1_len, N1_sum, N1_sorted, N1_max, N1_min, N1_list, N2_max, N2_min, N2_isi, N_lrange, I_range, I_enumerate, I_items0, I_values, S_appendN, S_insertN, k0_T, k0_M, k0_mu, k0_K, S_k0, callE, bMut, T_tCnt_len, T_tCnt_sum, T_tCnt_sorted, T_tCnt_max, T_tCnt_min, T_tCnt_list, T_tCnt_range, T_tCnt_enumerate, T_tCnt_isinstance, T_tCnt_add_callers, T_tCnt_count_calls]
        exact q_call (by decide +kernel) (q_cons rfl (nmF (d := rowD r) rfl _ (by decide +kernel)) q_nil) hc rfl
end Mine
end
section
open PySem PySem.W PyProof.Rows PySem.Spec PySem.SeqAt
set_option maxRecDepth 100000
set_option linter.all false
namespace Mine
theorem nodup_lt : ∀ (m : Nat) (W : List Nat), W.Nodup → (∀ v ∈ W, v < m) → W.length ≤ m
  | 0, W, _, h => by
    cases W with
    | nil => simp
    | cons v W => exact absurd (h v List.mem_cons_self) (Nat.not_lt_zero _)
  | m + 1, W, hn, h => by
    have h1 := nodup_lt m (W.filter (fun v => !(v == m))) (hn.sublist List.filter_sublist) fun v hv => by
      have := List.mem_filter.mp hv
      have h2 := h v this.1
      have h3 : v ≠ m := by simpa using this.2
      exact om_90 h2 h3
    have h4 : W.length ≤ (W.filter (fun v => !(v == m))).length + 1 := by
      clear h h1
      induction W with
      | nil => simp
      | cons v W ih =>
        rw [List.nodup_cons] at hn
        have ih := ih hn.2
        by_cases hv : v = m
        · subst hv
          have : W.filter (fun u => !(u == v)) = W := List.filter_eq_self.mpr fun u hu => by
            have : u ≠ v := fun e => hn.1 (e ▸ hu)
            simpa using this
          rw [List.filter_cons_of_neg (by simp), this]; simp
        · rw [List.filter_cons_of_pos (by simpa using hv)]; simp; exact om_91 ih
    exact om_92 h1 h4

noncomputable def adj (ts : List Tie) (u v : Nat) : Prop := (u, v) ∈ ts ∨ (v, u) ∈ ts
theorem adj_symm {ts : List Tie} {u v : Nat} (h : adj ts u v) : adj ts v u := h.symm
/-- how far all are from s, as a walk from s finds it -/
structure DistOk (ts : List Tie) (m s : Nat) (dist : Nat → Nat) : Prop where
  zero : dist s = 0
  step : ∀ u v, adj ts u v → dist u = dist v + 1 ∨ dist v = dist u + 1
  uniq : ∀ v u1 u2, v < m → adj ts v u1 → adj ts v u2 → dist u1 + 1 = dist v → dist u2 + 1 = dist v → u1 = u2
  back : ∀ v, v < m → v ≠ s → ∃ u, u < m ∧ adj ts v u ∧ dist u + 1 = dist v

noncomputable def farD (dist : Nat → Nat) (W : List Nat) : D := .idict (W.map fun v : Nat => (v : Int)) (W.map fun v => .int (dist v : Int))
noncomputable def natsD (W : List Nat) : D := .lst (W.map fun v : Nat => .int (v : Int))
theorem far_get (dist : Nat → Nat) : ∀ (W : List Nat) (v : Nat), v ∈ W → getK (W.map fun v : Nat => (v : Int)) (W.map fun v => D.int (dist v : Int)) (v : Int) = some (.int (dist v))
  | [], _, h => by cases h
  | u :: W, v, h => by
    simp only [List.map_cons, Mine.getK_cons, Mine.getK_nl, Mine.getK_ln]
    by_cases q : u = v
    · subst q; simp
    · have : ¬ ((u : Int) = (v : Int)) := by exact om_93 q
      rw [if_neg this]
      exact far_get dist W v ((List.mem_cons.mp h).resolve_left fun e => q e.symm)
theorem int_mem (W : List Nat) (v : Nat) : ((v : Int) ∈ W.map fun v : Nat => (v : Int)) ↔ v ∈ W := by
  simp only [List.mem_map]
  constructor
  · rintro ⟨u, hu, e⟩
    have : u = v := by exact om_94 e
    exact this ▸ hu
  · exact fun h => ⟨v, h, rfl⟩
theorem far_item (dist : Nat → Nat) (W : List Nat) (v : Nat) (h : v ∈ W) : itemD (farD dist W) (.int (v : Int)) = some (.int (dist v)) := far_get dist W v h
theorem far_in (dist : Nat → Nat) (W : List Nat) (v : Nat) : inD (fitD (farD dist W) (.int (v : Int))) (.int (v : Int)) = some (decide (v ∈ W)) := by
  have e : fitD (farD dist W) (.int (v : Int)) = farD dist W := fitD_int _ _
  rw [e]
  simp only [inD_lst, inD_idict, inD_tdict, farD]
  congr 1
  exact decide_eq_decide.mpr (int_mem W v)
theorem far_put (dist : Nat → Nat) (W : List Nat) (v : Nat) (h : v ∉ W) (hl : W.length + 1 ≤ cap) : putD (fitD (farD dist W) (.int (v : Int))) (.int (v : Int)) (.int (dist v)) = some (farD dist (W ++ [v])) := by
  have e : fitD (farD dist W) (.int (v : Int)) = farD dist W := fitD_int _ _
  rw [e]
  have h2 : ¬ ((v : Int) ∈ W.map fun v : Nat => (v : Int)) := fun q => h ((int_mem W v).mp q)
  simp only [putD_lst, putD_idict, putD_tdict, farD]
  have h3 : putK (W.map fun v : Nat => (v : Int)) (W.map fun v => D.int (dist v : Int)) (v : Int) (.int (dist v)) = ((W.map fun v : Nat => (v : Int)) ++ [(v : Int)], (W.map fun v => D.int (dist v : Int)) ++ [.int (dist v)]) := by unfold putK; rw [if_neg h2]
  rw [h3]
  simp only [List.length_append, List.length_map, List.length_singleton]
  rw [if_pos hl]
  simp
theorem far_comp (dist : Nat → Nat) (W : List Nat) : (farD dist W).comp = true := rfl
theorem nats_app (W : List Nat) (v : Nat) (hl : W.length + 1 ≤ cap) : appD (natsD W) (.int (v : Int)) = some (natsD (W ++ [v])) := by
  exact (if_pos (by rw [List.length_map]; exact hl)).trans (by rw [natsD, List.map_append]; rfl)

noncomputable def kFar : Know := k0 (fun x => x = nm_far || x = nm_waiting) (fun _ => none) (fun _ => none)
noncomputable def bdFar : DenS := (den kFar 30).Ss kf_7 sf_7 (bodyAt topB 7)
noncomputable def fFar : List D → Option D := fnD bdFar [nm_ties, nm_place, nm_many] [] 3
/-- the walk so far -/
structure WalkOk (ts : List Tie) (m s : Nat) (dist : Nat → Nat) (W : List Nat) : Prop where
  nd : W.Nodup
  lt : ∀ v ∈ W, v < m
  src : s ∈ W
  closer : ∀ v ∈ W, ∀ u, adj ts v u → dist u + 1 = dist v → u ∈ W
theorem cmp_eq_nat (x y : Nat) : cmpD .Eq (.int (x : Int)) (.int (y : Int)) = some (decide (x = y)) := by
  have h : okPy 8 (.int (x : Int)) = true ∧ okPy 8 (.int (y : Int)) = true := by simp [okPy]
  simp only [cmpD_eq, cmpD_ne, cmpD_lt, cmpD_gt, cmpD_in, cmpD_notIn, cmpD_is, eqD_int, h.1, h.2, Bool.and_self, if_true]
  congr 1
  exact decide_eq_decide.mpr (by exact om_95)
theorem cmp_notin_far (dist : Nat → Nat) (W : List Nat) (v : Nat) : cmpD .NotIn (.int (v : Int)) (farD dist W) = some (decide (v ∉ W)) := by
  simp only [cmpD_eq, cmpD_ne, cmpD_lt, cmpD_gt, cmpD_in, cmpD_notIn, cmpD_is, far_comp, if_true, far_in, opt_map_some]
  congr 1
  simp

structure FarSt (ts : List Tie) (m s : Nat) (dist : Nat → Nat) (i h : Nat) (W : List Nat) (ρ : Rho) : Prop where
  far : ρ nm_far = some (.own (farD dist W))
  wait : ρ nm_waiting = some (.own (natsD W))
  ties : ρ nm_ties = some (.frz (.lst (ts.map tieD)))
  many : ρ nm_many = some (.frz (.int (m : Int)))
  here : ρ nm_here = some (.frz (.int (h : Int)))
  ok : WalkOk ts m s dist W
  proc : ∀ (j : Nat) v, j < i → W[j]? = some v → ∀ u, adj ts v u → u ∈ W
  get : W[i]? = some h
theorem FarSt.upd {ts : List Tie} {m s : Nat} {dist : Nat → Nat} {i h : Nat} {W : List Nat} {ρ : Rho} (F : FarSt ts m s dist i h W ρ) (x : Str) (b : Bd) (hx : x ≠ nm_far ∧ x ≠ nm_waiting ∧ x ≠ nm_ties ∧ x ≠ nm_many ∧ x ≠ nm_here) : FarSt ts m s dist i h W (Mine.upd ρ x b) :=
  ⟨by rw [upd_at, if_neg (Ne.symm hx.1)]; exact F.far, by rw [upd_at, if_neg (Ne.symm hx.2.1)]; exact F.wait, by rw [upd_at, if_neg (Ne.symm hx.2.2.1)]; exact F.ties, by rw [upd_at, if_neg (Ne.symm hx.2.2.2.1)]; exact F.many, by rw [upd_at, if_neg (Ne.symm hx.2.2.2.2)]; exact F.here, F.ok, F.proc, F.get⟩

theorem WalkOk.add {ts : List Tie} {m s : Nat} {dist : Nat → Nat} {W : List Nat} (h : WalkOk ts m s dist W) (hD : DistOk ts m s dist) {x y : Nat} (hx : x ∈ W) (ha : adj ts x y) (hy : y ∉ W) (hm : y < m) :
    dist y = dist x + 1 ∧ WalkOk ts m s dist (W ++ [y]) := by
  have e : dist y = dist x + 1 := by
    rcases hD.step x y ha with q | q
    · exact absurd (h.closer x hx y ha q.symm) hy
    · exact q
  refine ⟨e, ?_, ?_, ?_, ?_⟩
  · refine List.nodup_append.mpr ⟨h.nd, by simp, fun a hA b hB => ?_⟩
    have : b = y := by simpa using hB
    subst this
    exact fun q => hy (q ▸ hA)
  · intro v hv
    rcases List.mem_append.mp hv with q | q
    · exact h.lt v q
    · rw [List.mem_singleton.mp q]; exact hm
  · exact List.mem_append_left _ h.src
  · intro v hv u hu q
    rcases List.mem_append.mp hv with hv | hv
    · exact List.mem_append_left _ (h.closer v hv u hu q)
    · have := List.mem_singleton.mp hv
      subst this
      have : u = x := hD.uniq v u x hm hu ha.symm q (by exact om_96 e)
      rw [this]
      exact List.mem_append_left _ hx
theorem WalkOk.all {ts : List Tie} {m s : Nat} {dist : Nat → Nat} {W : List Nat} (h : WalkOk ts m s dist W) (hD : DistOk ts m s dist) (hp : ∀ v ∈ W, ∀ u, adj ts v u → u ∈ W) : ∀ v, v < m → v ∈ W := by
  have key : ∀ k v, v < m → dist v = k → v ∈ W := by
    intro k
    induction k using Nat.strongRecOn with
    | _ k ih =>
      intro v hv hk
      by_cases q : v = s
      · rw [q]; exact h.src
      · obtain ⟨u, hu, ha, e⟩ := hD.back v hv q
        exact hp u (ih (dist u) (by exact om_97 hk e) u hu rfl) v ha.symm
  exact fun v hv => key _ v hv rfl
end Mine
end
section
open PySem PySem.W PyProof.Rows PySem.Spec PySem.SeqAt
set_option maxRecDepth 100000
set_option linter.all false
namespace Mine
abbrev FarI (ts : List Tie) (m s : Nat) (dist : Nat → Nat) : Nat → Nat → List D → Rho → Prop := fun k i ds ρ => ∃ W, ds = W.map (fun v : Nat => D.int (v : Int)) ∧ ρ nm_far = some (.own (farD dist W)) ∧ ρ nm_waiting = some (.own (natsD W)) ∧ ρ nm_ties = some (.frz (.lst (ts.map tieD))) ∧ ρ nm_many = some (.frz (.int (m : Int))) ∧
      WalkOk ts m s dist W ∧ (∀ (j : Nat) v, j < i → W[j]? = some v → ∀ u, adj ts v u → u ∈ W) ∧ i ≤ W.length ∧ k = m - i
abbrev FarT (ts : List Tie) (m s : Nat) (dist : Nat → Nat) (i hh : Nat) : List D → Rho → Prop := fun ds ρ => ∃ W' t1 t2, ts = t1 ++ t2 ∧ ds = t2.map tieD ∧ FarSt ts m s dist i hh W' ρ ∧ ∀ u, adj t1 hh u → u ∈ W'
abbrev FarP (ts t1 : List Tie) (m s : Nat) (dist : Nat → Nat) (i hh a b : Nat) : List D → Rho → Prop := fun ds ρ => ∃ W' qs ps, [(a, b), (b, a)] = qs ++ ps ∧ ds = ps.map tieD ∧ FarSt ts m s dist i hh W' ρ ∧ (∀ u, adj t1 hh u → u ∈ W') ∧ ∀ p ∈ qs, p.1 = hh → p.2 ∈ W'
theorem far_ok (ts : List Tie) (m s : Nat) (dist : Nat → Nat) (hs : s < m) (hm : m < 40) (ht : ts.length ≤ 40) (hb : ∀ t ∈ ts, t.1 < m ∧ t.2 < m) (hD : DistOk ts m s dist) :
    fFar [.lst (ts.map tieD), .int (s : Int), .int (m : Int)] = some (.lst ((List.range m).map fun v => .int (dist v : Int))) := by
  refine fn_run rfl ?_
  unfold bdFar
  have h : bodyAt topB 7 = bodyAt topB 7 := rfl
  conv at h => rhs; whnf
  rw [h]
  clear h
  dsimp only [ofs_ValueError, ofs_UUclassdictUU, ofs_UUdebugUU, ofs_UUnameUU, ofs_Llaw_counts, ofs_Llaw_far, ofs_Llaw_middle, ofs_a, ofs_add_callers, ofs_append, ofs_at, ofs_b, ofs_begin, ofs_bisect_left, ofs_caller, ofs_callers, ofs_calls, ofs_count, ofs_count_calls, ofs_counts, ofs_ends, ofs_enumerate, ofs_far, ofs_farthest, ofs_func, ofs_here, ofs_hi, ofs_i, ofs_index, ofs_insert, ofs_insort_left, ofs_isinstance, ofs_items, ofs_j, ofs_k, ofs_key, ofs_law, ofs_left, ofs_len, ofs_list, ofs_lo, ofs_long, ofs_many, ofs_max, ofs_mid, ofs_middle, ofs_min, ofs_nc, ofs_new_callers, ofs_number, ofs_one, ofs_order, ofs_other, ofs_place, ofs_range, ofs_row, ofs_script, ofs_sorted, ofs_source, ofs_sum, ofs_table, ofs_target, ofs_there, ofs_tie, ofs_ties, ofs_tuple, ofs_values, ofs_waiting, ofs_x, ofs_zip, den_Ss, den_S, den_E, den_I, den_B, E_int, E_str, E_bool, E_none, E_name, E_bin, E_cmp, E_andV, E_tup, E_lst, E_upto, E_sub_name, E_sub_con, E_sub_bin, E_sub_sub, E_sub_call, E_dict0, E_dict1, E_comp, E_call, E_meth, N_lname, N_isi, B_and0, B_and, B_or0, B_or, B_cmp, B_call, I_call2, I_name, I_lst, I_tup, I_sub, I_bin, I_enum, I_items, S_assignC, S_assign_name, S_assign_con, S_assign_bin, S_assign_call, S_assign_sub, S_assign_cmp, S_assign_ifx, S_assign_lst, S_assign_tup, S_assign_dict, S_assign_boo, S_tup, S_unpack_call, S_setSub, S_augSub, S_augName, S_if, S_while, S_for_name, S_for_call, S_for_lst, S_for_tup, S_for_sub, S_ret, S_retNone, S_mut, Ss_nil, Ss_cons, L_nil, L_cons, dTests_nil, dTests_cons, N1_len, N1_sum, N1_sorted, N1_max, N1_min, N1_list, N2_max, N2_min, N2_isi, N_lrange, I_range, I_enumerate, I_items0, I_values, S_appendN, S_insertN, k0_T, k0_M, k0_mu, k0_K, S_k0, callE, bMut, kFar]
  simp only [List.map_cons, List.map_nil, List.cons_append, List.nil_append, rho0_cons]
  have capE : cap = 200 := rfl
  refine run_seq (run_eq .next (upd (upd (upd (upd (upd (rho0 [] []) nm_many (.frz (.int m))) nm_place (.frz (.int s))) nm_ties (.frz (.lst (ts.map tieD)))) nm_far (.own (farD dist [s]))) nm_waiting (.own (natsD [s]))) ?_ ?_)
  · have hf := far_put dist [] s (by simp) (by simp; exact om_98 capE)
    have hz : (dist s : Int) = 0 := by rw [hD.zero]; rfl
    rw [hz] at hf
    have hf' : putD (fitD (.idict [] []) (.int (s : Int))) (.int (s : Int)) (.int 0) = some (farD dist [s]) := hf
    refine tup_names (f := .fresh) (g := .fresh) (d := farD dist [s]) (d2 := natsD [s]) (b := true) (c := true) (by decide +kernel) ?_ ?_ rfl rfl
    · dsimp only [ofs_ValueError, ofs_UUclassdictUU, ofs_UUdebugUU, ofs_UUnameUU, ofs_Llaw_counts, ofs_Llaw_far, ofs_Llaw_middle, ofs_a, ofs_add_callers, ofs_append, ofs_at, ofs_b, ofs_begin, ofs_bisect_left, ofs_caller, ofs_callers, ofs_calls, ofs_count, ofs_count_calls, ofs_counts, ofs_ends, ofs_enumerate, ofs_far, ofs_farthest, ofs_func, ofs_here, ofs_hi, ofs_i, ofs_index, ofs_insert, ofs_insort_left, ofs_isinstance, ofs_items, ofs_j, ofs_k, ofs_key, ofs_law, ofs_left, ofs_len, ofs_list, ofs_lo, ofs_long, ofs_many, ofs_max, ofs_mid, ofs_middle, ofs_min, ofs_nc, ofs_new_callers, ofs_number, ofs_one, ofs_order, ofs_other, ofs_place, ofs_range, ofs_row, ofs_script, ofs_sorted, ofs_source, ofs_sum, ofs_table, ofs_target, ofs_there, ofs_tie, ofs_ties, ofs_tuple, ofs_values, ofs_waiting, ofs_x, ofs_zip, den_Ss, den_S, den_E, den_I, den_B, E_int, E_str, E_bool, E_none, E_name, E_bin, E_cmp, E_andV, E_tup, E_lst, E_upto, E_sub_name, E_sub_con, E_sub_bin, E_sub_sub, E_sub_call, E_dict0, E_dict1, E_comp, E_call, E_meth, N_lname, N_isi, B_and0, B_and, B_or0, B_or, B_cmp, B_call, I_call2, I_name, I_lst, I_tup, I_sub, I_bin, I_enum, I_items, S_assignC, S_assign_name, S_assign_con, S_assign_bin, S_assign_call, S_assign_sub, S_assign_cmp, S_assign_ifx, S_assign_lst, S_assign_tup, S_assign_dict, S_assign_boo, S_tup, S_unpack_call, S_setSub, S_augSub, S_augName, S_if, S_while, S_for_name, S_for_call, S_for_lst, S_for_tup, S_for_sub, S_ret, S_retNone, S_mut, Ss_nil, Ss_cons, L_nil, L_cons, dTests_nil, dTests_cons, N1_len, N1_sum, N1_sorted, N1_max, N1_min, N1_list, N2_max, N2_min, N2_isi, N_lrange, I_range, I_enumerate, I_items0, I_values, S_appendN, S_insertN, k0_T, k0_M, k0_mu, k0_K, S_k0, callE, bMut]
      simp (decide := true) only [dDict1, dFrz, dName, upd_at, opt_bind_some, lsOf_lst, itOf_int, blOf_bool, opt_map_some, if_true, if_false, hf']
    · dsimp only [ofs_ValueError, ofs_UUclassdictUU, ofs_UUdebugUU, ofs_UUnameUU, ofs_Llaw_counts, ofs_Llaw_far, ofs_Llaw_middle, ofs_a, ofs_add_callers, ofs_append, ofs_at, ofs_b, ofs_begin, ofs_bisect_left, ofs_caller, ofs_callers, ofs_calls, ofs_count, ofs_count_calls, ofs_counts, ofs_ends, ofs_enumerate, ofs_far, ofs_farthest, ofs_func, ofs_here, ofs_hi, ofs_i, ofs_index, ofs_insert, ofs_insort_left, ofs_isinstance, ofs_items, ofs_j, ofs_k, ofs_key, ofs_law, ofs_left, ofs_len, ofs_list, ofs_lo, ofs_long, ofs_many, ofs_max, ofs_mid, ofs_middle, ofs_min, ofs_nc, ofs_new_callers, ofs_number, ofs_one, ofs_order, ofs_other, ofs_place, ofs_range, ofs_row, ofs_script, ofs_sorted, ofs_source, ofs_sum, ofs_table, ofs_target, ofs_there, ofs_tie, ofs_ties, ofs_tuple, ofs_values, ofs_waiting, ofs_x, ofs_zip, den_Ss, den_S, den_E, den_I, den_B, E_int, E_str, E_bool, E_none, E_name, E_bin, E_cmp, E_andV, E_tup, E_lst, E_upto, E_sub_name, E_sub_con, E_sub_bin, E_sub_sub, E_sub_call, E_dict0, E_dict1, E_comp, E_call, E_meth, N_lname, N_isi, B_and0, B_and, B_or0, B_or, B_cmp, B_call, I_call2, I_name, I_lst, I_tup, I_sub, I_bin, I_enum, I_items, S_assignC, S_assign_name, S_assign_con, S_assign_bin, S_assign_call, S_assign_sub, S_assign_cmp, S_assign_ifx, S_assign_lst, S_assign_tup, S_assign_dict, S_assign_boo, S_tup, S_unpack_call, S_setSub, S_augSub, S_augName, S_if, S_while, S_for_name, S_for_call, S_for_lst, S_for_tup, S_for_sub, S_ret, S_retNone, S_mut, Ss_nil, Ss_cons, L_nil, L_cons, dTests_nil, dTests_cons, N1_len, N1_sum, N1_sorted, N1_max, N1_min, N1_list, N2_max, N2_min, N2_isi, N_lrange, I_range, I_enumerate, I_items0, I_values, S_appendN, S_insertN, k0_T, k0_M, k0_mu, k0_K, S_k0, callE, bMut]
      simp (decide := true) only [dLst, dCons, dNil, dName, upd_at, opt_bind_some, lsOf_lst, itOf_int, blOf_bool, opt_map_some, if_true, if_false, st_name, st_con, st_bin, st_call, st_sub, st_cmp, st_ifx, st_lst, st_tup, st_dict, st_boo, st_comp, reduceCtorEq, Bool.false_eq_true]
      rfl
  refine run_seq (run_own rfl (run_grow ⟨rfl, rfl⟩ (FarI ts m s dist) ⟨m, [.int s], hm, [s], rfl, rfl, rfl, rfl, rfl, ?_, fun j v hj => absurd hj (Nat.not_lt_zero _), Nat.zero_le _, rfl⟩ ?_ ?_ ?_))
  · refine ⟨by simp, fun v hv => by rw [List.mem_singleton.mp hv]; exact hs, by simp, fun v hv u ha e => ?_⟩
    rw [List.mem_singleton.mp hv, hD.zero] at e; exact absurd_om (om_99 e)
  · rintro k i ds ρ ⟨W, rfl, h1, h2, _⟩
    exact h2
  · rintro k i ds ρ d ⟨W, rfl, h1, h2, h3, h4, h5, h6, h7, rfl⟩ hd
    rw [List.getElem?_map] at hd
    obtain ⟨hh, hW, rfl⟩ := Option.map_eq_some_iff.mp hd
    have hhW : hh ∈ W := List.mem_of_getElem? hW
    have hhm := h5.lt hh hhW
    refine ⟨upd ρ nm_here (.frz (.int (hh : Int))), rfl, ?_⟩
    have F0 : FarSt ts m s dist i hh W (upd ρ nm_here (.frz (.int (hh : Int)))) := ⟨h1, h2, h3, h4, rfl, h5, h6, hW⟩
    have hnt : ownOf (upd ρ nm_here (.frz (.int (hh : Int)))) nm_ties = none := own_frz F0.ties
    refine run_seq (run_notown hnt (run_for (ts.map tieD) ?_ (FarT ts m s dist i hh) ⟨W, [], ts, rfl, rfl, F0, fun u hu => by rcases hu with hu | hu <;> cases hu⟩ ?_ ?_))
    · exact q_list (nmF F0.ties _ (by decide +kernel)) rfl (by decide)
    · rintro d ds ρ ⟨W', t1, t2, e1, e2, F, hp⟩
      cases t2 with
      | nil => cases e2
      | cons t t2 =>
        cases e2
        obtain ⟨a, b⟩ := t
        have hmem : (a, b) ∈ ts := by rw [e1]; simp
        refine ⟨upd (upd ρ nm_one (.frz (.int a))) nm_other (.frz (.int b)), rfl, run_seq ?_⟩
        have F1 := (F.upd nm_one (.frz (.int (a : Int))) (by decide)).upd nm_other (.frz (.int (b : Int))) (by decide)
        have hit : dItList false (dLst (dCons (Expr.Tuple [Expr.Name nm_one { line := 52, col := 31, endLine := 52, endCol := 34 }, Expr.Name nm_other { line := 52, col := 36, endLine := 52, endCol := 41 }] 0 { line := 52, col := 30, endLine := 52, endCol := 42 }) (dTup (dCons (Expr.Name nm_one { line := 52, col := 31, endLine := 52, endCol := 34 }) (dName kf_7 nm_one) (dCons (Expr.Name nm_other { line := 52, col := 36, endLine := 52, endCol := 41 }) (dName kf_7 nm_other) dNil)))
            (dCons (Expr.Tuple [Expr.Name nm_other { line := 52, col := 45, endLine := 52, endCol := 50 }, Expr.Name nm_one { line := 52, col := 52, endLine := 52, endCol := 55 }] 0 { line := 52, col := 44, endLine := 52, endCol := 56 }) (dTup (dCons (Expr.Name nm_other { line := 52, col := 45, endLine := 52, endCol := 50 }) (dName kf_7 nm_other) (dCons (Expr.Name nm_one { line := 52, col := 52, endLine := 52, endCol := 55 }) (dName kf_7 nm_one) dNil))) dNil)))
            (upd (upd ρ nm_one (Bd.frz (D.int a))) nm_other (Bd.frz (D.int b))) = some ([(a, b), (b, a)].map tieD) := by
          have ea : upd (upd ρ nm_one (Bd.frz (D.int a))) nm_other (Bd.frz (D.int b)) nm_one = some (.frz (.int (a : Int))) := rfl
          have eb : upd (upd ρ nm_one (Bd.frz (D.int a))) nm_other (Bd.frz (D.int b)) nm_other = some (.frz (.int (b : Int))) := rfl
          exact q_list (fx := .fresh) (q_lst (xs := [(.fresh, tieD (a, b)), (.fresh, tieD (b, a))]) (q_cons rfl (q_tup (xs := [(.frozen, .int (a : Int)), (.frozen, .int (b : Int))]) (q_cons rfl (nmF ea _ (by decide +kernel)) (q_cons rfl (nmF eb _ (by decide +kernel)) q_nil)) ⟨rfl, Nat.le_of_ble_eq_true rfl⟩) (q_cons rfl (q_tup (xs := [(.frozen, .int (b : Int)), (.frozen, .int (a : Int))]) (q_cons rfl (nmF eb _ (by decide +kernel)) (q_cons rfl (nmF ea _ (by decide +kernel)) q_nil)) ⟨rfl, Nat.le_of_ble_eq_true rfl⟩) q_nil)) ⟨rfl, Nat.le_of_ble_eq_true rfl⟩) rfl (by decide)
        refine run_for _ hit (FarP ts t1 m s dist i hh a b) ⟨W', [], [(a, b), (b, a)], rfl, rfl, F1, hp, fun p hp => by cases hp⟩ ?_ ?_
        · rintro d ds ρ ⟨W', qs, ps, g1, g2, F, hp, hq⟩
          cases ps with
          | nil => cases g2
          | cons p ps =>
            cases g2
            obtain ⟨x, y⟩ := p
            have hxy : adj ts x y ∧ y < m := by
              have := hb _ hmem
              have hm2 : (x, y) ∈ [(a, b), (b, a)] := by rw [g1]; simp
              rcases List.mem_cons.mp hm2 with q | q
              · cases q; exact ⟨Or.inl hmem, this.2⟩
              · have q := List.mem_singleton.mp q
                cases q; exact ⟨Or.inr hmem, this.1⟩
            refine ⟨upd (upd ρ nm_at (.frz (.int x))) nm_there (.frz (.int y)), rfl, ?_⟩
            have F2 := (F.upd nm_at (.frz (.int (x : Int))) (by decide)).upd nm_there (.frz (.int (y : Int))) (by decide)
            have eAt : upd (upd ρ nm_at (.frz (.int (x : Int)))) nm_there (.frz (.int (y : Int))) nm_at = some (.frz (.int x)) := rfl
            have eTh : upd (upd ρ nm_at (.frz (.int (x : Int)))) nm_there (.frz (.int (y : Int))) nm_there = some (.frz (.int y)) := rfl
            generalize upd (upd ρ nm_at (.frz (.int (x : Int)))) nm_there (.frz (.int (y : Int))) = ρ at F2 eAt eTh
            refine run_seq (run_if (decide (x = hh ∧ y ∉ W')) ?_ ?_)
            · have c1 := cmp_eq_nat x hh
              have c2 := cmp_notin_far dist W' y
              by_cases q1 : x = hh
              · subst q1
                by_cases q2 : y ∈ W'
                · rw [decide_eq_false (fun h => h.2 q2)]
                  rw [decide_eq_true rfl] at c1
                  rw [decide_eq_false (fun h => h q2)] at c2
                  exact q_and (q_cmp rfl (nmF eAt _ (by decide +kernel)) (nmF F2.here _ (by decide +kernel)) c1) (q_andF (q_cmp rfl (nmF eTh _ (by decide +kernel)) (nmO F2.far _ (by decide +kernel)) c2))
                · rw [decide_eq_true ⟨rfl, q2⟩]
                  rw [decide_eq_true rfl] at c1
                  rw [decide_eq_true q2] at c2
                  exact q_and (q_cmp rfl (nmF eAt _ (by decide +kernel)) (nmF F2.here _ (by decide +kernel)) c1) (q_and (q_cmp rfl (nmF eTh _ (by decide +kernel)) (nmO F2.far _ (by decide +kernel)) c2) rfl)
              · rw [decide_eq_false (fun h => q1 h.1)]
                rw [decide_eq_false q1] at c1
                exact q_andF (q_cmp rfl (nmF eAt _ (by decide +kernel)) (nmF F2.here _ (by decide +kernel)) c1)
            by_cases hc : x = hh ∧ y ∉ W'
            · simp only [hc, not_false_eq_true, and_self, decide_true, if_true]
              obtain ⟨rfl, hy⟩ := hc
              have hxW : x ∈ W' := List.mem_of_getElem? F2.get
              obtain ⟨ed, okW⟩ := F2.ok.add hD hxW hxy.1 hy hxy.2
              have hlen := nodup_lt m (W' ++ [y]) okW.nd okW.lt
              rw [List.length_append, List.length_singleton] at hlen
              have i1 := far_item dist W' x hxW
              have p1 := far_put dist W' y hy (by exact om_100 hm capE hlen)
              rw [show ((dist y : Nat) : Int) = (dist x : Int) + 1 by exact om_101 ed] at p1
              have p2 := nats_app W' y (by exact om_100 hm capE hlen)
              refine run_seq (run_eq .next (upd ρ nm_far (.own (farD dist (W' ++ [y])))) ?_ (run_seq (run_eq .next (upd (upd ρ nm_far (.own (farD dist (W' ++ [y])))) nm_waiting (.own (natsD (W' ++ [y])))) ?_ (run_nil (run_nil ⟨W' ++ [y], qs ++ [(x, y)], ps, by rw [g1]; simp, rfl, ?_, fun u hu => List.mem_append_left _ (hp u hu), fun p hp hx => ?_⟩)))))
              · exact q_setSub (q_frz (q_bin (q_sub (nmO F2.far _ (by decide +kernel)) (nmF F2.here _ (by decide +kernel)) (far_comp _ _) i1) rfl (binD_add _ _)) frz_nl) (by decide +kernel) (q_frz (nmF eTh _ (by decide +kernel)) frz_nl) F2.far p1
              · exact q_append (by decide +kernel) (q_frz (nmF eTh _ (by decide +kernel)) frz_nl) F2.wait p2
              · exact ⟨rfl, rfl, F2.ties, F2.many, F2.here, okW, fun j v hj hv u hu => by
                  have hjl : j < W'.length := Nat.lt_trans hj (List.getElem?_eq_some_iff.mp F2.get).1
                  rw [List.getElem?_append_left hjl] at hv
                  exact List.mem_append_left _ (F2.proc j v hj hv u hu), by rw [List.getElem?_append_left (List.getElem?_eq_some_iff.mp F2.get).1]; exact F2.get⟩
              · rcases List.mem_append.mp hp with q | q
                · exact List.mem_append_left _ (hq p q hx)
                · rw [List.mem_singleton.mp q]; simp
            · simp only [hc, decide_false, Bool.false_eq_true, if_false]
              refine run_nil (run_nil ⟨W', qs ++ [(x, y)], ps, by rw [g1]; simp, rfl, F2, hp, fun p hp hx => ?_⟩)
              rcases List.mem_append.mp hp with q | q
              · exact hq p q hx
              · have q := List.mem_singleton.mp q
                subst q
                exact Classical.byContradiction fun hn => hc ⟨hx, hn⟩
        · rintro ρ ⟨W', qs, ps, g1, g2, F, hp, hq⟩
          cases ps with
          | cons p ps => cases g2
          | nil =>
            rw [List.append_nil] at g1
            subst g1
            refine run_nil ⟨W', t1 ++ [(a, b)], t2, by rw [e1]; simp, rfl, F, fun u hu => ?_⟩
            rcases hu with hu | hu
            · rcases List.mem_append.mp hu with hu | hu
              · exact hp u (Or.inl hu)
              · have hu := List.mem_singleton.mp hu
                cases hu
                exact hq (hh, b) (by simp) rfl
            · rcases List.mem_append.mp hu with hu | hu
              · exact hp u (Or.inr hu)
              · have hu := List.mem_singleton.mp hu
                cases hu
                exact hq (hh, a) (by simp) rfl
    · rintro ρ ⟨W', t1, t2, e1, e2, F, hp⟩
      cases t2 with
      | cons t t2 => cases e2
      | nil =>
        rw [List.append_nil] at e1
        subst e1
        have hlen := nodup_lt m W' F.ok.nd F.ok.lt
        have hi : i < W'.length := (List.getElem?_eq_some_iff.mp F.get).1
        refine run_nil ⟨m - (i + 1), _, by exact om_102 hlen hi, W', rfl, F.far, F.wait, F.ties, F.many, F.ok, fun j v hj hv u hu => ?_, by exact om_103 hi, rfl⟩
        by_cases q : j < i
        · exact F.proc j v q hv u hu
        · have : j = i := by exact om_104 hj q
          subst this
          rw [F.get] at hv
          cases hv
          exact hp u hu
  · rintro k i ds ρ ⟨W, rfl, h1, h2, h3, h4, h5, h6, h7, rfl⟩ hd
    have hi : W.length ≤ i := by
      rw [List.getElem?_map, Option.map_eq_none_iff] at hd
      exact List.getElem?_eq_none_iff.mp hd
    have hall := h5.all hD fun v hv u hu => by
      obtain ⟨j, hj, e⟩ := List.mem_iff_getElem.mp hv
      exact h6 j v (by exact om_105 hi hj) (by rw [List.getElem?_eq_getElem hj, e]) u hu
    refine run_seq (run_ret (.fresh, .lst ((List.range m).map fun v => .int (dist v : Int))) ?_ (by simp) rfl)
    have e : ((List.range m).map fun v : Nat => D.int (dist v : Int)) = (rangeD (m : Int)).map fun d => match d with | .int i => .int (dist i.toNat : Int) | d => d := by
      simp [rangeD]
    rw [e]
    refine opt_map_of (comp_map _ ⟨by decide +kernel, rfl, rfl, rfl⟩ ?_ (fun d hd => ?_) (by simp [rangeD]; exact om_106 hm capE)) rfl
    · try dsimp only [ofs_ValueError, ofs_UUclassdictUU, ofs_UUdebugUU, ofs_UUnameUU, ofs_Llaw_counts, ofs_Llaw_far, ofs_Llaw_middle, ofs_a, ofs_add_callers, ofs_append, ofs_at, ofs_b, ofs_begin, ofs_bisect_left, ofs_caller, ofs_callers, ofs_calls, ofs_count, ofs_count_calls, ofs_counts, ofs_ends, ofs_enumerate, ofs_far, ofs_farthest, ofs_func, ofs_here, ofs_hi, ofs_i, ofs_index, ofs_insert, ofs_insort_left, ofs_isinstance, ofs_items, ofs_j, ofs_k, ofs_key, ofs_law, ofs_left, ofs_len, ofs_list, ofs_lo, ofs_long, ofs_many, ofs_max, ofs_mid, ofs_middle, ofs_min, ofs_nc, ofs_new_callers, ofs_number, ofs_one, ofs_order, ofs_other, ofs_place, ofs_range, ofs_row, ofs_script, ofs_sorted, ofs_source, ofs_sum, ofs_table, ofs_target, ofs_there, ofs_tie, ofs_ties, ofs_tuple, ofs_values, ofs_waiting, ofs_x, ofs_zip, den_Ss, den_S, den_E, den_I, den_B, E_int, E_str, E_bool, E_none, E_name, E_bin, E_cmp, E_andV, E_tup, E_lst, E_upto, E_sub_name, E_sub_con, E_sub_bin, E_sub_sub, E_sub_call, E_dict0, E_dict1, E_comp, E_call, E_meth, N_lname, N_isi, B_and0, B_and, B_or0, B_or, B_cmp, B_call, I_call2, I_name, I_lst, I_tup, I_sub, I_bin, I_enum, I_items, S_assignC, S_assign_name, S_assign_con, S_assign_bin, S_assign_call, S_assign_sub, S_assign_cmp, S_assign_ifx, S_assign_lst, S_assign_tup, S_assign_dict, S_assign_boo, S_tup, S_unpack_call, S_setSub, S_augSub, S_augName, S_if, S_while, S_for_name, S_for_call, S_for_lst, S_for_tup, S_for_sub, S_ret, S_retNone, S_mut, Ss_nil, Ss_cons, L_nil, L_cons, dTests_nil, dTests_cons, N1_len, N1_sum, N1_sorted, N1_max, N1_min, N1_list, N2_max, N2_min, N2_isi, N_lrange, I_range, I_enumerate, I_items0, I_values, S_appendN, S_insertN, k0_T, k0_M, k0_mu, k0_K, S_k0, callE, bMut]
      exact q_range (by decide +kernel) (nmF (lay_frz h4) _ (by decide +kernel)) (by exact om_107 hm)
    · obtain ⟨v, hv, rfl⟩ : ∃ v : Nat, v < m ∧ d = .int (v : Int) := by
        simp [rangeD] at hd; obtain ⟨v, h1, h2⟩ := hd; exact ⟨v, h1, h2.symm⟩
      refine turn0 rfl (.frozen, .int (dist v : Int)) ?_ (by simp)
      have i1 := far_item dist W v (hall v hv)
      have ef : (upd (rhoC { kind := ScopeKind.function, names := [(Str.ofString ".0", NameKind.local), (nm_there, NameKind.local), (nm_far, NameKind.free)], isGenerator := false, isCoroutine := false } (lay ρ)) nm_there (Bd.frz (D.int (v : Int)))) nm_far = some (.frz (farD dist W)) := by
        exact lay_own h1
      try dsimp only [ofs_ValueError, ofs_UUclassdictUU, ofs_UUdebugUU, ofs_UUnameUU, ofs_Llaw_counts, ofs_Llaw_far, ofs_Llaw_middle, ofs_a, ofs_add_callers, ofs_append, ofs_at, ofs_b, ofs_begin, ofs_bisect_left, ofs_caller, ofs_callers, ofs_calls, ofs_count, ofs_count_calls, ofs_counts, ofs_ends, ofs_enumerate, ofs_far, ofs_farthest, ofs_func, ofs_here, ofs_hi, ofs_i, ofs_index, ofs_insert, ofs_insort_left, ofs_isinstance, ofs_items, ofs_j, ofs_k, ofs_key, ofs_law, ofs_left, ofs_len, ofs_list, ofs_lo, ofs_long, ofs_many, ofs_max, ofs_mid, ofs_middle, ofs_min, ofs_nc, ofs_new_callers, ofs_number, ofs_one, ofs_order, ofs_other, ofs_place, ofs_range, ofs_row, ofs_script, ofs_sorted, ofs_source, ofs_sum, ofs_table, ofs_target, ofs_there, ofs_tie, ofs_ties, ofs_tuple, ofs_values, ofs_waiting, ofs_x, ofs_zip, den_Ss, den_S, den_E, den_I, den_B, E_int, E_str, E_bool, E_none, E_name, E_bin, E_cmp, E_andV, E_tup, E_lst, E_upto, E_sub_name, E_sub_con, E_sub_bin, E_sub_sub, E_sub_call, E_dict0, E_dict1, E_comp, E_call, E_meth, N_lname, N_isi, B_and0, B_and, B_or0, B_or, B_cmp, B_call, I_call2, I_name, I_lst, I_tup, I_sub, I_bin, I_enum, I_items, S_assignC, S_assign_name, S_assign_con, S_assign_bin, S_assign_call, S_assign_sub, S_assign_cmp, S_assign_ifx, S_assign_lst, S_assign_tup, S_assign_dict, S_assign_boo, S_tup, S_unpack_call, S_setSub, S_augSub, S_augName, S_if, S_while, S_for_name, S_for_call, S_for_lst, S_for_tup, S_for_sub, S_ret, S_retNone, S_mut, Ss_nil, Ss_cons, L_nil, L_cons, dTests_nil, dTests_cons, N1_len, N1_sum, N1_sorted, N1_max, N1_min, N1_list, N2_max, N2_min, N2_isi, N_lrange, I_range, I_enumerate, I_items0, I_values, S_appendN, S_insertN, k0_T, k0_M, k0_mu, k0_K, S_k0, callE, bMut]
      exact q_sub (nmF ef _ (by decide +kernel)) (nmF rfl _ (by decide +kernel)) (far_comp _ _) i1
end Mine
end
section
open PySem PySem.W PyProof.Rows PySem.Spec PySem.SeqAt
set_option maxRecDepth 100000
set_option linter.all false
namespace Mine
noncomputable def endsOf (L : List Nat) (H : List Tie) : List Nat := L.filter fun v => decide (inc H v = 1)
noncomputable def restL (L : List Nat) (H : List Tie) : List Nat := L.filter fun v => decide (v ∉ endsOf L H)
noncomputable def restH (L : List Nat) (H : List Tie) : List Tie := H.filter fun t => decide (t.1 ∈ restL L H) && decide (t.2 ∈ restL L H)
noncomputable def midGo : Nat → List Nat → List Tie → Option (List Nat)
  | 0, L, H => some L
  | k + 1, L, H => if L.length ≤ 2 then some L else if endsOf L H = [] then none else midGo k (restL L H) (restH L H)
noncomputable def midD : Option (List Nat) → D
  | some L => natsD L
  | none => .none
noncomputable def tMid (f : Str) : Option (List D → Option D) := if f = nm_Llaw_counts then some fCnt else none
theorem T_tMid_len : tMid nm_len = none := rfl
theorem T_tMid_sum : tMid nm_sum = none := rfl
theorem T_tMid_sorted : tMid nm_sorted = none := rfl
theorem T_tMid_max : tMid nm_max = none := rfl
theorem T_tMid_min : tMid nm_min = none := rfl
theorem T_tMid_list : tMid nm_list = none := rfl
theorem T_tMid_range : tMid nm_range = none := rfl
theorem T_tMid_enumerate : tMid nm_enumerate = none := rfl
theorem T_tMid_isinstance : tMid nm_isinstance = none := rfl
theorem T_tMid_Llaw_counts : tMid nm_Llaw_counts = some fCnt := rfl
noncomputable def kMid : Know := k0 (fun _ => false) tMid (fun _ => none)
noncomputable def bdMid : DenS := (den kMid 30).Ss kf_9 sf_9 (bodyAt topB 9)
noncomputable def fMid : List D → Option D := fnD bdMid [nm_ties, nm_many] [] 2
theorem okPys_ints : ∀ (L : List Nat) (k : Nat), okPys k (L.map fun v : Nat => D.int (v : Int)) = true
  | [], k => by simp [okPys]
  | v :: L, k => by simp [okPys, okPy, okPys_ints L k]
theorem any_nats (v : Nat) (L : List Nat) : ((L.map fun v : Nat => D.int (v : Int)).any fun y => eqD y (.int (v : Int))) = decide (v ∈ L) := by
  induction L with
  | nil => rfl
  | cons u L ih =>
    rw [List.map_cons, List.any_cons, ih, eqD_int]
    by_cases q : u = v
    · subst q; simp
    · have h1 : ¬ ((u : Int) = (v : Int)) := by exact om_93 q
      have h2 : ¬ v = u := fun e => q e.symm
      simp [h1, h2]
theorem in_nats (L : List Nat) (v : Nat) : inD (fitD (natsD L) (.int (v : Int))) (.int (v : Int)) = some (decide (v ∈ L)) := by
  have h1 := okPys_ints L 8
  have h2 : okPy 8 (.int (v : Int)) = true := by simp [okPy]
  simp only [natsD, fitD_nil, fitD_int, fitD_lst, fitD_tdict, inD_lst, inD_idict, inD_tdict, h1, h2, Bool.and_self, if_true, any_nats]
theorem cmp_in_nats (L : List Nat) (v : Nat) : cmpD .In (.int (v : Int)) (natsD L) = some (decide (v ∈ L)) := by
  have : (natsD L).comp = true := rfl
  simp only [cmpD_eq, cmpD_ne, cmpD_lt, cmpD_gt, cmpD_in, cmpD_notIn, cmpD_is, this, if_true, in_nats]
theorem cmp_notin_nats (L : List Nat) (v : Nat) : cmpD .NotIn (.int (v : Int)) (natsD L) = some (decide (v ∉ L)) := by
  have : (natsD L).comp = true := rfl
  simp only [cmpD_eq, cmpD_ne, cmpD_lt, cmpD_gt, cmpD_in, cmpD_notIn, cmpD_is, this, if_true, in_nats, opt_map_some]
  congr 1
  simp
theorem cmp_nil_nats (L : List Nat) : cmpD .Eq (natsD L) (.lst []) = some (decide (L = [])) := by
  have h1 := okPys_ints L 7
  have h2 : okPy 8 (natsD L) = true := by unfold natsD okPy; exact h1
  have h3 : okPy 8 (.lst []) = true := by simp [okPy, okPys]
  simp only [cmpD_eq, cmpD_ne, cmpD_lt, cmpD_gt, cmpD_in, cmpD_notIn, cmpD_is, h2, h3, Bool.and_self, if_true]
  congr 1
  cases L with
  | nil => simp only [natsD, List.map_nil, eqD_lst, eqDs_nil]; rfl
  | cons u L => simp only [natsD, List.map_cons, eqD_lst, eqDs_cn]; rfl
theorem cmp_eq1 (x : Int) : cmpD .Eq (.int x) (.int 1) = some (decide (x = 1)) := by
  have h : okPy 8 (.int x) = true ∧ okPy 8 (.int 1) = true := by simp [okPy]
  simp only [cmpD_eq, cmpD_ne, cmpD_lt, cmpD_gt, cmpD_in, cmpD_notIn, cmpD_is, eqD_int, h.1, h.2, Bool.and_self, if_true]
noncomputable def qNat (q : Nat → Bool) : D → Bool
  | .int i => q i.toNat
  | _ => false
noncomputable def qTie (q : Tie → Bool) : D → Bool
  | .tup [.int a, .int b] => q (a.toNat, b.toNat)
  | _ => false
theorem filt_nats (q : Nat → Bool) : ∀ L : List Nat, (((L.map fun v : Nat => D.int (v : Int)).filter (qNat q)).map id) = (L.filter q).map fun v : Nat => D.int (v : Int)
  | [] => rfl
  | v :: L => by
    have ih := filt_nats q L
    have e : qNat q (.int (v : Int)) = q v := rfl
    rw [List.map_cons, List.filter_cons, List.filter_cons, e]
    cases q v
    · simpa using ih
    · simpa using ih
theorem filt_ties (q : Tie → Bool) : ∀ L : List Tie, (((L.map tieD).filter (qTie q)).map id) = (L.filter q).map tieD
  | [] => rfl
  | t :: L => by
    have ih := filt_ties q L
    have e : qTie q (tieD t) = q t := rfl
    rw [List.map_cons, List.filter_cons, List.filter_cons, e]
    cases q t
    · simpa using ih
    · simpa using ih
theorem midGo_some {k : Nat} {L : List Nat} {H : List Tie} (h : L.length ≤ 2) : midGo k L H = some L := by
  cases k with
  | zero => rfl
  | succ k => simp [midGo, h]
theorem restL_lt {L : List Nat} {H : List Tie} (h : endsOf L H ≠ []) : (restL L H).length < L.length := by
  obtain ⟨v, hv⟩ := List.exists_mem_of_ne_nil _ h
  have hL : v ∈ L := (List.mem_filter.mp hv).1
  have hs : (restL L H).Sublist L := List.filter_sublist
  refine Nat.lt_of_le_of_ne hs.length_le fun e => ?_
  have : restL L H = L := hs.eq_of_length e
  rw [← this] at hL
  have := (List.mem_filter.mp hL).2
  simp at this
  exact this hv
theorem counts_item (H : List Tie) (m v : Nat) (h : v < m) (hm : m < 300) : itemD (.lst ((List.range m).map fun v => .int (inc H v))) (.int (v : Int)) = some (.int (inc H v)) := by
  simp only [itemD_lst, itemD_tup, itemD_idict, itemD_tdict]
  rw [if_pos (by exact om_108 h hm)]
  simp [h]
abbrev MidI (ts : List Tie) (m : Nat) : Nat → Rho → Prop := fun k ρ => ∃ L H, ρ nm_left = some (.frz (natsD L)) ∧ ρ nm_here = some (.frz (.lst (H.map tieD))) ∧ ρ nm_many = some (.frz (.int (m : Int))) ∧ (∀ v ∈ L, v < m) ∧ H.length ≤ 40 ∧ (∀ t ∈ H, t.1 < m ∧ t.2 < m) ∧ L.length ≤ k ∧ L.length ≤ m ∧ midGo k L H = midGo m (List.range m) ts
theorem mid_ok (ts : List Tie) (m : Nat) (hm : m < 40) (ht : ts.length ≤ 40) (hb : ∀ t ∈ ts, t.1 < m ∧ t.2 < m) :
    fMid [.lst (ts.map tieD), .int (m : Int)] = some (midD (midGo m (List.range m) ts)) := by
  refine fn_run rfl ?_
  unfold bdMid
  have h : bodyAt topB 9 = bodyAt topB 9 := rfl
  conv at h => rhs; whnf
  rw [h]
  clear h
  dsimp only [ofs_ValueError, ofs_UUclassdictUU, ofs_UUdebugUU, ofs_UUnameUU, ofs_Llaw_counts, ofs_Llaw_far, ofs_Llaw_middle, ofs_a, ofs_add_callers, ofs_append, ofs_at, ofs_b, ofs_begin, ofs_bisect_left, ofs_caller, ofs_callers, ofs_calls, ofs_count, ofs_count_calls, ofs_counts, ofs_ends, ofs_enumerate, ofs_far, ofs_farthest, ofs_func, ofs_here, ofs_hi, ofs_i, ofs_index, ofs_insert, ofs_insort_left, ofs_isinstance, ofs_items, ofs_j, ofs_k, ofs_key, ofs_law, ofs_left, ofs_len, ofs_list, ofs_lo, ofs_long, ofs_many, ofs_max, ofs_mid, ofs_middle, ofs_min, ofs_nc, ofs_new_callers, ofs_number, ofs_one, ofs_order, ofs_other, ofs_place, ofs_range, ofs_row, ofs_script, ofs_sorted, ofs_source, ofs_sum, ofs_table, ofs_target, ofs_there, ofs_tie, ofs_ties, ofs_tuple, ofs_values, ofs_waiting, ofs_x, ofs_zip, den_Ss, den_S, den_E, den_I, den_B, E_int, E_str, E_bool, E_none, E_name, E_bin, E_cmp, E_andV, E_tup, E_lst, E_upto, E_sub_name, E_sub_con, E_sub_bin, E_sub_sub, E_sub_call, E_dict0, E_dict1, E_comp, E_call, E_meth, N_lname, N_isi, B_and0, B_and, B_or0, B_or, B_cmp, B_call, I_call2, I_name, I_lst, I_tup, I_sub, I_bin, I_enum, I_items, S_assignC, S_assign_name, S_assign_con, S_assign_bin, S_assign_call, S_assign_sub, S_assign_cmp, S_assign_ifx, S_assign_lst, S_assign_tup, S_assign_dict, S_assign_boo, S_tup, S_unpack_call, S_setSub, S_augSub, S_augName, S_if, S_while, S_for_name, S_for_call, S_for_lst, S_for_tup, S_for_sub, S_ret, S_retNone, S_mut, Ss_nil, Ss_cons, L_nil, L_cons, dTests_nil, dTests_cons, N1_len, N1_sum, N1_sorted, N1_max, N1_min, N1_list, N2_max, N2_min, N2_isi, N_lrange, I_range, I_enumerate, I_items0, I_values, S_appendN, S_insertN, k0_T, k0_M, k0_mu, k0_K, S_k0, callE, bMut, T_tMid_len, T_tMid_sum, T_tMid_sorted, T_tMid_max, T_tMid_min, T_tMid_list, T_tMid_range, T_tMid_enumerate, T_tMid_isinstance, T_tMid_Llaw_counts, kMid]
  simp only [List.map_cons, List.map_nil, List.cons_append, List.nil_append, rho0_cons]
  have capE : cap = 200 := rfl
  refine run_seq (run_eq .next (upd (upd (upd (upd (rho0 [] []) nm_many (.frz (.int m))) nm_ties (.frz (.lst (ts.map tieD)))) nm_left (.frz (natsD (List.range m)))) nm_here (.frz (.lst (ts.map tieD)))) ?_ ?_)
  · refine tup_names (f := .fresh) (g := .fresh) (d := natsD (List.range m)) (d2 := .lst (ts.map tieD)) (b := false) (c := false) (by decide +kernel) ?_ ?_ rfl rfl
    · dsimp only [ofs_ValueError, ofs_UUclassdictUU, ofs_UUdebugUU, ofs_UUnameUU, ofs_Llaw_counts, ofs_Llaw_far, ofs_Llaw_middle, ofs_a, ofs_add_callers, ofs_append, ofs_at, ofs_b, ofs_begin, ofs_bisect_left, ofs_caller, ofs_callers, ofs_calls, ofs_count, ofs_count_calls, ofs_counts, ofs_ends, ofs_enumerate, ofs_far, ofs_farthest, ofs_func, ofs_here, ofs_hi, ofs_i, ofs_index, ofs_insert, ofs_insort_left, ofs_isinstance, ofs_items, ofs_j, ofs_k, ofs_key, ofs_law, ofs_left, ofs_len, ofs_list, ofs_lo, ofs_long, ofs_many, ofs_max, ofs_mid, ofs_middle, ofs_min, ofs_nc, ofs_new_callers, ofs_number, ofs_one, ofs_order, ofs_other, ofs_place, ofs_range, ofs_row, ofs_script, ofs_sorted, ofs_source, ofs_sum, ofs_table, ofs_target, ofs_there, ofs_tie, ofs_ties, ofs_tuple, ofs_values, ofs_waiting, ofs_x, ofs_zip, den_Ss, den_S, den_E, den_I, den_B, E_int, E_str, E_bool, E_none, E_name, E_bin, E_cmp, E_andV, E_tup, E_lst, E_upto, E_sub_name, E_sub_con, E_sub_bin, E_sub_sub, E_sub_call, E_dict0, E_dict1, E_comp, E_call, E_meth, N_lname, N_isi, B_and0, B_and, B_or0, B_or, B_cmp, B_call, I_call2, I_name, I_lst, I_tup, I_sub, I_bin, I_enum, I_items, S_assignC, S_assign_name, S_assign_con, S_assign_bin, S_assign_call, S_assign_sub, S_assign_cmp, S_assign_ifx, S_assign_lst, S_assign_tup, S_assign_dict, S_assign_boo, S_tup, S_unpack_call, S_setSub, S_augSub, S_augName, S_if, S_while, S_for_name, S_for_call, S_for_lst, S_for_tup, S_for_sub, S_ret, S_retNone, S_mut, Ss_nil, Ss_cons, L_nil, L_cons, dTests_nil, dTests_cons, N1_len, N1_sum, N1_sorted, N1_max, N1_min, N1_list, N2_max, N2_min, N2_isi, N_lrange, I_range, I_enumerate, I_items0, I_values, S_appendN, S_insertN, k0_T, k0_M, k0_mu, k0_K, S_k0, callE, bMut, T_tMid_len, T_tMid_sum, T_tMid_sorted, T_tMid_max, T_tMid_min, T_tMid_list, T_tMid_range, T_tMid_enumerate, T_tMid_isinstance, T_tMid_Llaw_counts]
      have e : D.lst (rangeD (m : Int)) = natsD (List.range m) := by simp [rangeD, natsD]
      rw [← e]
      exact q_listRange (by decide +kernel) (nmF rfl _ (by decide +kernel)) (by exact om_107 hm)
    · dsimp only [ofs_ValueError, ofs_UUclassdictUU, ofs_UUdebugUU, ofs_UUnameUU, ofs_Llaw_counts, ofs_Llaw_far, ofs_Llaw_middle, ofs_a, ofs_add_callers, ofs_append, ofs_at, ofs_b, ofs_begin, ofs_bisect_left, ofs_caller, ofs_callers, ofs_calls, ofs_count, ofs_count_calls, ofs_counts, ofs_ends, ofs_enumerate, ofs_far, ofs_farthest, ofs_func, ofs_here, ofs_hi, ofs_i, ofs_index, ofs_insert, ofs_insort_left, ofs_isinstance, ofs_items, ofs_j, ofs_k, ofs_key, ofs_law, ofs_left, ofs_len, ofs_list, ofs_lo, ofs_long, ofs_many, ofs_max, ofs_mid, ofs_middle, ofs_min, ofs_nc, ofs_new_callers, ofs_number, ofs_one, ofs_order, ofs_other, ofs_place, ofs_range, ofs_row, ofs_script, ofs_sorted, ofs_source, ofs_sum, ofs_table, ofs_target, ofs_there, ofs_tie, ofs_ties, ofs_tuple, ofs_values, ofs_waiting, ofs_x, ofs_zip, den_Ss, den_S, den_E, den_I, den_B, E_int, E_str, E_bool, E_none, E_name, E_bin, E_cmp, E_andV, E_tup, E_lst, E_upto, E_sub_name, E_sub_con, E_sub_bin, E_sub_sub, E_sub_call, E_dict0, E_dict1, E_comp, E_call, E_meth, N_lname, N_isi, B_and0, B_and, B_or0, B_or, B_cmp, B_call, I_call2, I_name, I_lst, I_tup, I_sub, I_bin, I_enum, I_items, S_assignC, S_assign_name, S_assign_con, S_assign_bin, S_assign_call, S_assign_sub, S_assign_cmp, S_assign_ifx, S_assign_lst, S_assign_tup, S_assign_dict, S_assign_boo, S_tup, S_unpack_call, S_setSub, S_augSub, S_augName, S_if, S_while, S_for_name, S_for_call, S_for_lst, S_for_tup, S_for_sub, S_ret, S_retNone, S_mut, Ss_nil, Ss_cons, L_nil, L_cons, dTests_nil, dTests_cons, N1_len, N1_sum, N1_sorted, N1_max, N1_min, N1_list, N2_max, N2_min, N2_isi, N_lrange, I_range, I_enumerate, I_items0, I_values, S_appendN, S_insertN, k0_T, k0_M, k0_mu, k0_K, S_k0, callE, bMut, T_tMid_len, T_tMid_sum, T_tMid_sorted, T_tMid_max, T_tMid_min, T_tMid_list, T_tMid_range, T_tMid_enumerate, T_tMid_isinstance, T_tMid_Llaw_counts]
      exact q_listOf (by decide +kernel) (nmF (d := .lst (ts.map tieD)) rfl _ (by decide +kernel)) frz_nl
  refine run_seq (run_while (MidI ts m) ⟨m, hm, List.range m, ts, rfl, rfl, rfl, by simp, ht, hb, by simp, by simp, rfl⟩ ?_)
  rintro k ρ ⟨L, H, h1, h2, h3, h4, h5, h6, h7, h7m, h8⟩
  refine ⟨decide (2 < L.length), ?_, ?_⟩
  · have e : bfnD nm_len [(Fl.frozen, natsD L)] = some (.frozen, .int (L.length : Int)) := congrArg (fun n : Nat => some (Fl.frozen, D.int (n : Int))) (List.length_map _)
    exact q_cmp rfl (q_bfn (by decide +kernel) (q_cons rfl (nmF h1 _ (by decide +kernel)) q_nil) e) rfl ((cmpD_gt _ _).trans (congrArg some (decide_eq_decide.mpr Int.ofNat_lt)))
  by_cases hlt : 2 < L.length
  · simp only [hlt, decide_true, if_true]
    obtain ⟨k, rfl⟩ : ∃ j, k = j + 1 := ⟨k - 1, by exact om_109 h7 hlt⟩
    rw [midGo, if_neg (by exact om_110 hlt)] at h8
    have hcnt := cnt_ok H m (by exact om_111 hm) h5 h6
    refine run_seq (run_assign (.frozen, .lst ((List.range m).map fun v => .int (inc H v))) _ ?_ rfl rfl ?_)
    · exact q_call (by decide +kernel) (q_cons rfl (nmF h2 _ (by decide +kernel)) (q_cons rfl (nmF h3 _ (by decide +kernel)) q_nil)) hcnt rfl
    generalize hρ1 : upd ρ nm_counts _ = ρ1
    have a1 : ρ1 nm_left = some (.frz (natsD L)) := by rw [← hρ1]; exact h1
    have a2 : ρ1 nm_here = some (.frz (.lst (H.map tieD))) := by rw [← hρ1]; exact h2
    have a3 : ρ1 nm_many = some (.frz (.int (m : Int))) := by rw [← hρ1]; exact h3
    have a4 : ρ1 nm_counts = some (.frz (.lst ((List.range m).map fun v => .int (inc H v)))) := by rw [← hρ1]; rfl
    refine run_seq (run_assignC ((endsOf L H).map fun v : Nat => .int (v : Int)) (upd ρ1 nm_ends (.frz (natsD (endsOf L H)))) ?_ ?_ ?_)
    · unfold endsOf
      rw [← filt_nats]
      refine comp_filter (qNat _) id ⟨by decide +kernel, rfl, rfl, rfl⟩ ?_ (fun d hd => ?_) (by simp; exact om_112 hm capE h7m)
      · try dsimp only [ofs_ValueError, ofs_UUclassdictUU, ofs_UUdebugUU, ofs_UUnameUU, ofs_Llaw_counts, ofs_Llaw_far, ofs_Llaw_middle, ofs_a, ofs_add_callers, ofs_append, ofs_at, ofs_b, ofs_begin, ofs_bisect_left, ofs_caller, ofs_callers, ofs_calls, ofs_count, ofs_count_calls, ofs_counts, ofs_ends, ofs_enumerate, ofs_far, ofs_farthest, ofs_func, ofs_here, ofs_hi, ofs_i, ofs_index, ofs_insert, ofs_insort_left, ofs_isinstance, ofs_items, ofs_j, ofs_k, ofs_key, ofs_law, ofs_left, ofs_len, ofs_list, ofs_lo, ofs_long, ofs_many, ofs_max, ofs_mid, ofs_middle, ofs_min, ofs_nc, ofs_new_callers, ofs_number, ofs_one, ofs_order, ofs_other, ofs_place, ofs_range, ofs_row, ofs_script, ofs_sorted, ofs_source, ofs_sum, ofs_table, ofs_target, ofs_there, ofs_tie, ofs_ties, ofs_tuple, ofs_values, ofs_waiting, ofs_x, ofs_zip, den_Ss, den_S, den_E, den_I, den_B, E_int, E_str, E_bool, E_none, E_name, E_bin, E_cmp, E_andV, E_tup, E_lst, E_upto, E_sub_name, E_sub_con, E_sub_bin, E_sub_sub, E_sub_call, E_dict0, E_dict1, E_comp, E_call, E_meth, N_lname, N_isi, B_and0, B_and, B_or0, B_or, B_cmp, B_call, I_call2, I_name, I_lst, I_tup, I_sub, I_bin, I_enum, I_items, S_assignC, S_assign_name, S_assign_con, S_assign_bin, S_assign_call, S_assign_sub, S_assign_cmp, S_assign_ifx, S_assign_lst, S_assign_tup, S_assign_dict, S_assign_boo, S_tup, S_unpack_call, S_setSub, S_augSub, S_augName, S_if, S_while, S_for_name, S_for_call, S_for_lst, S_for_tup, S_for_sub, S_ret, S_retNone, S_mut, Ss_nil, Ss_cons, L_nil, L_cons, dTests_nil, dTests_cons, N1_len, N1_sum, N1_sorted, N1_max, N1_min, N1_list, N2_max, N2_min, N2_isi, N_lrange, I_range, I_enumerate, I_items0, I_values, S_appendN, S_insertN, k0_T, k0_M, k0_mu, k0_K, S_k0, callE, bMut, T_tMid_len, T_tMid_sum, T_tMid_sorted, T_tMid_max, T_tMid_min, T_tMid_list, T_tMid_range, T_tMid_enumerate, T_tMid_isinstance, T_tMid_Llaw_counts]
        exact q_list (nmF a1 _ (by decide +kernel)) rfl (by decide)
      · obtain ⟨v, hv, rfl⟩ := List.mem_map.mp hd
        have hc := counts_item H m v (h4 v hv) (by exact om_113 hm)
        have eq : qNat (fun v => decide (inc H v = 1)) (.int (v : Int)) = decide (inc H v = 1) := rfl
        rw [eq]
        refine turn1 rfl (decide (inc H v = 1)) ?_ (.frozen, .int (v : Int)) fun _ => ⟨?_, by simp⟩
        · generalize hρ2 : upd (rhoC _ ρ1) nm_place _ = ρ2
          have b1 : ρ2 nm_counts = some (.frz (.lst ((List.range m).map fun v => .int (inc H v)))) := by rw [← hρ2]; exact a4
          have b2 : ρ2 nm_place = some (.frz (.int (v : Int))) := by rw [← hρ2]; rfl
          try dsimp only [ofs_ValueError, ofs_UUclassdictUU, ofs_UUdebugUU, ofs_UUnameUU, ofs_Llaw_counts, ofs_Llaw_far, ofs_Llaw_middle, ofs_a, ofs_add_callers, ofs_append, ofs_at, ofs_b, ofs_begin, ofs_bisect_left, ofs_caller, ofs_callers, ofs_calls, ofs_count, ofs_count_calls, ofs_counts, ofs_ends, ofs_enumerate, ofs_far, ofs_farthest, ofs_func, ofs_here, ofs_hi, ofs_i, ofs_index, ofs_insert, ofs_insort_left, ofs_isinstance, ofs_items, ofs_j, ofs_k, ofs_key, ofs_law, ofs_left, ofs_len, ofs_list, ofs_lo, ofs_long, ofs_many, ofs_max, ofs_mid, ofs_middle, ofs_min, ofs_nc, ofs_new_callers, ofs_number, ofs_one, ofs_order, ofs_other, ofs_place, ofs_range, ofs_row, ofs_script, ofs_sorted, ofs_source, ofs_sum, ofs_table, ofs_target, ofs_there, ofs_tie, ofs_ties, ofs_tuple, ofs_values, ofs_waiting, ofs_x, ofs_zip, den_Ss, den_S, den_E, den_I, den_B, E_int, E_str, E_bool, E_none, E_name, E_bin, E_cmp, E_andV, E_tup, E_lst, E_upto, E_sub_name, E_sub_con, E_sub_bin, E_sub_sub, E_sub_call, E_dict0, E_dict1, E_comp, E_call, E_meth, N_lname, N_isi, B_and0, B_and, B_or0, B_or, B_cmp, B_call, I_call2, I_name, I_lst, I_tup, I_sub, I_bin, I_enum, I_items, S_assignC, S_assign_name, S_assign_con, S_assign_bin, S_assign_call, S_assign_sub, S_assign_cmp, S_assign_ifx, S_assign_lst, S_assign_tup, S_assign_dict, S_assign_boo, S_tup, S_unpack_call, S_setSub, S_augSub, S_augName, S_if, S_while, S_for_name, S_for_call, S_for_lst, S_for_tup, S_for_sub, S_ret, S_retNone, S_mut, Ss_nil, Ss_cons, L_nil, L_cons, dTests_nil, dTests_cons, N1_len, N1_sum, N1_sorted, N1_max, N1_min, N1_list, N2_max, N2_min, N2_isi, N_lrange, I_range, I_enumerate, I_items0, I_values, S_appendN, S_insertN, k0_T, k0_M, k0_mu, k0_K, S_k0, callE, bMut, T_tMid_len, T_tMid_sum, T_tMid_sorted, T_tMid_max, T_tMid_min, T_tMid_list, T_tMid_range, T_tMid_enumerate, T_tMid_isinstance, T_tMid_Llaw_counts]
          exact q_one (q_cmp rfl (q_sub (nmF b1 _ (by decide +kernel)) (nmF b2 _ (by decide +kernel)) rfl hc) rfl (cmp_eq1 _))
        · dsimp only [ofs_ValueError, ofs_UUclassdictUU, ofs_UUdebugUU, ofs_UUnameUU, ofs_Llaw_counts, ofs_Llaw_far, ofs_Llaw_middle, ofs_a, ofs_add_callers, ofs_append, ofs_at, ofs_b, ofs_begin, ofs_bisect_left, ofs_caller, ofs_callers, ofs_calls, ofs_count, ofs_count_calls, ofs_counts, ofs_ends, ofs_enumerate, ofs_far, ofs_farthest, ofs_func, ofs_here, ofs_hi, ofs_i, ofs_index, ofs_insert, ofs_insort_left, ofs_isinstance, ofs_items, ofs_j, ofs_k, ofs_key, ofs_law, ofs_left, ofs_len, ofs_list, ofs_lo, ofs_long, ofs_many, ofs_max, ofs_mid, ofs_middle, ofs_min, ofs_nc, ofs_new_callers, ofs_number, ofs_one, ofs_order, ofs_other, ofs_place, ofs_range, ofs_row, ofs_script, ofs_sorted, ofs_source, ofs_sum, ofs_table, ofs_target, ofs_there, ofs_tie, ofs_ties, ofs_tuple, ofs_values, ofs_waiting, ofs_x, ofs_zip, den_Ss, den_S, den_E, den_I, den_B, E_int, E_str, E_bool, E_none, E_name, E_bin, E_cmp, E_andV, E_tup, E_lst, E_upto, E_sub_name, E_sub_con, E_sub_bin, E_sub_sub, E_sub_call, E_dict0, E_dict1, E_comp, E_call, E_meth, N_lname, N_isi, B_and0, B_and, B_or0, B_or, B_cmp, B_call, I_call2, I_name, I_lst, I_tup, I_sub, I_bin, I_enum, I_items, S_assignC, S_assign_name, S_assign_con, S_assign_bin, S_assign_call, S_assign_sub, S_assign_cmp, S_assign_ifx, S_assign_lst, S_assign_tup, S_assign_dict, S_assign_boo, S_tup, S_unpack_call, S_setSub, S_augSub, S_augName, S_if, S_while, S_for_name, S_for_call, S_for_lst, S_for_tup, S_for_sub, S_ret, S_retNone, S_mut, Ss_nil, Ss_cons, L_nil, L_cons, dTests_nil, dTests_cons, N1_len, N1_sum, N1_sorted, N1_max, N1_min, N1_list, N2_max, N2_min, N2_isi, N_lrange, I_range, I_enumerate, I_items0, I_values, S_appendN, S_insertN, k0_T, k0_M, k0_mu, k0_K, S_k0, callE, bMut, T_tMid_len, T_tMid_sum, T_tMid_sorted, T_tMid_max, T_tMid_min, T_tMid_list, T_tMid_range, T_tMid_enumerate, T_tMid_isinstance, T_tMid_Llaw_counts]
          exact nmF rfl _ (by decide +kernel)
    · rfl
    generalize hρ2 : upd ρ1 nm_ends _ = ρ2
    have b1 : ρ2 nm_left = some (.frz (natsD L)) := by rw [← hρ2]; exact a1
    have b2 : ρ2 nm_here = some (.frz (.lst (H.map tieD))) := by rw [← hρ2]; exact a2
    have b3 : ρ2 nm_many = some (.frz (.int (m : Int))) := by rw [← hρ2]; exact a3
    have b4 : ρ2 nm_ends = some (.frz (natsD (endsOf L H))) := by rw [← hρ2]; rfl
    refine run_seq (run_assignC ((restL L H).map fun v : Nat => .int (v : Int)) (upd ρ2 nm_left (.frz (natsD (restL L H)))) ?_ ?_ ?_)
    · unfold restL
      rw [← filt_nats]
      refine comp_filter (qNat _) id ⟨by decide +kernel, rfl, rfl, rfl⟩ ?_ (fun d hd => ?_) (by simp; exact om_112 hm capE h7m)
      · try dsimp only [ofs_ValueError, ofs_UUclassdictUU, ofs_UUdebugUU, ofs_UUnameUU, ofs_Llaw_counts, ofs_Llaw_far, ofs_Llaw_middle, ofs_a, ofs_add_callers, ofs_append, ofs_at, ofs_b, ofs_begin, ofs_bisect_left, ofs_caller, ofs_callers, ofs_calls, ofs_count, ofs_count_calls, ofs_counts, ofs_ends, ofs_enumerate, ofs_far, ofs_farthest, ofs_func, ofs_here, ofs_hi, ofs_i, ofs_index, ofs_insert, ofs_insort_left, ofs_isinstance, ofs_items, ofs_j, ofs_k, ofs_key, ofs_law, ofs_left, ofs_len, ofs_list, ofs_lo, ofs_long, ofs_many, ofs_max, ofs_mid, ofs_middle, ofs_min, ofs_nc, ofs_new_callers, ofs_number, ofs_one, ofs_order, ofs_other, ofs_place, ofs_range, ofs_row, ofs_script, ofs_sorted, ofs_source, ofs_sum, ofs_table, ofs_target, ofs_there, ofs_tie, ofs_ties, ofs_tuple, ofs_values, ofs_waiting, ofs_x, ofs_zip, den_Ss, den_S, den_E, den_I, den_B, E_int, E_str, E_bool, E_none, E_name, E_bin, E_cmp, E_andV, E_tup, E_lst, E_upto, E_sub_name, E_sub_con, E_sub_bin, E_sub_sub, E_sub_call, E_dict0, E_dict1, E_comp, E_call, E_meth, N_lname, N_isi, B_and0, B_and, B_or0, B_or, B_cmp, B_call, I_call2, I_name, I_lst, I_tup, I_sub, I_bin, I_enum, I_items, S_assignC, S_assign_name, S_assign_con, S_assign_bin, S_assign_call, S_assign_sub, S_assign_cmp, S_assign_ifx, S_assign_lst, S_assign_tup, S_assign_dict, S_assign_boo, S_tup, S_unpack_call, S_setSub, S_augSub, S_augName, S_if, S_while, S_for_name, S_for_call, S_for_lst, S_for_tup, S_for_sub, S_ret, S_retNone, S_mut, Ss_nil, Ss_cons, L_nil, L_cons, dTests_nil, dTests_cons, N1_len, N1_sum, N1_sorted, N1_max, N1_min, N1_list, N2_max, N2_min, N2_isi, N_lrange, I_range, I_enumerate, I_items0, I_values, S_appendN, S_insertN, k0_T, k0_M, k0_mu, k0_K, S_k0, callE, bMut, T_tMid_len, T_tMid_sum, T_tMid_sorted, T_tMid_max, T_tMid_min, T_tMid_list, T_tMid_range, T_tMid_enumerate, T_tMid_isinstance, T_tMid_Llaw_counts]
        exact q_list (nmF b1 _ (by decide +kernel)) rfl (by decide)
      · obtain ⟨v, hv, rfl⟩ := List.mem_map.mp hd
        have eq : qNat (fun v => decide (v ∉ endsOf L H)) (.int (v : Int)) = decide (v ∉ endsOf L H) := rfl
        rw [eq]
        refine turn1 rfl (decide (v ∉ endsOf L H)) ?_ (.frozen, .int (v : Int)) fun _ => ⟨?_, by simp⟩
        · generalize hρ3 : upd (rhoC _ ρ2) nm_place _ = ρ3
          have c1 : ρ3 nm_ends = some (.frz (natsD (endsOf L H))) := by rw [← hρ3]; exact b4
          have c2 : ρ3 nm_place = some (.frz (.int (v : Int))) := by rw [← hρ3]; rfl
          try dsimp only [ofs_ValueError, ofs_UUclassdictUU, ofs_UUdebugUU, ofs_UUnameUU, ofs_Llaw_counts, ofs_Llaw_far, ofs_Llaw_middle, ofs_a, ofs_add_callers, ofs_append, ofs_at, ofs_b, ofs_begin, ofs_bisect_left, ofs_caller, ofs_callers, ofs_calls, ofs_count, ofs_count_calls, ofs_counts, ofs_ends, ofs_enumerate, ofs_far, ofs_farthest, ofs_func, ofs_here, ofs_hi, ofs_i, ofs_index, ofs_insert, ofs_insort_left, ofs_isinstance, ofs_items, ofs_j, ofs_k, ofs_key, ofs_law, ofs_left, ofs_len, ofs_list, ofs_lo, ofs_long, ofs_many, ofs_max, ofs_mid, ofs_middle, ofs_min, ofs_nc, ofs_new_callers, ofs_number, ofs_one, ofs_order, ofs_other, ofs_place, ofs_range, ofs_row, ofs_script, ofs_sorted, ofs_source, ofs_sum, ofs_table, ofs_target, ofs_there, ofs_tie, ofs_ties, ofs_tuple, ofs_values, ofs_waiting, ofs_x, ofs_zip, den_Ss, den_S, den_E, den_I, den_B, E_int, E_str, E_bool, E_none, E_name, E_bin, E_cmp, E_andV, E_tup, E_lst, E_upto, E_sub_name, E_sub_con, E_sub_bin, E_sub_sub, E_sub_call, E_dict0, E_dict1, E_comp, E_call, E_meth, N_lname, N_isi, B_and0, B_and, B_or0, B_or, B_cmp, B_call, I_call2, I_name, I_lst, I_tup, I_sub, I_bin, I_enum, I_items, S_assignC, S_assign_name, S_assign_con, S_assign_bin, S_assign_call, S_assign_sub, S_assign_cmp, S_assign_ifx, S_assign_lst, S_assign_tup, S_assign_dict, S_assign_boo, S_tup, S_unpack_call, S_setSub, S_augSub, S_augName, S_if, S_while, S_for_name, S_for_call, S_for_lst, S_for_tup, S_for_sub, S_ret, S_retNone, S_mut, Ss_nil, Ss_cons, L_nil, L_cons, dTests_nil, dTests_cons, N1_len, N1_sum, N1_sorted, N1_max, N1_min, N1_list, N2_max, N2_min, N2_isi, N_lrange, I_range, I_enumerate, I_items0, I_values, S_appendN, S_insertN, k0_T, k0_M, k0_mu, k0_K, S_k0, callE, bMut, T_tMid_len, T_tMid_sum, T_tMid_sorted, T_tMid_max, T_tMid_min, T_tMid_list, T_tMid_range, T_tMid_enumerate, T_tMid_isinstance, T_tMid_Llaw_counts]
          exact q_one (q_cmp rfl (nmF c2 _ (by decide +kernel)) (nmF c1 _ (by decide +kernel)) (cmp_notin_nats _ _))
        · dsimp only [ofs_ValueError, ofs_UUclassdictUU, ofs_UUdebugUU, ofs_UUnameUU, ofs_Llaw_counts, ofs_Llaw_far, ofs_Llaw_middle, ofs_a, ofs_add_callers, ofs_append, ofs_at, ofs_b, ofs_begin, ofs_bisect_left, ofs_caller, ofs_callers, ofs_calls, ofs_count, ofs_count_calls, ofs_counts, ofs_ends, ofs_enumerate, ofs_far, ofs_farthest, ofs_func, ofs_here, ofs_hi, ofs_i, ofs_index, ofs_insert, ofs_insort_left, ofs_isinstance, ofs_items, ofs_j, ofs_k, ofs_key, ofs_law, ofs_left, ofs_len, ofs_list, ofs_lo, ofs_long, ofs_many, ofs_max, ofs_mid, ofs_middle, ofs_min, ofs_nc, ofs_new_callers, ofs_number, ofs_one, ofs_order, ofs_other, ofs_place, ofs_range, ofs_row, ofs_script, ofs_sorted, ofs_source, ofs_sum, ofs_table, ofs_target, ofs_there, ofs_tie, ofs_ties, ofs_tuple, ofs_values, ofs_waiting, ofs_x, ofs_zip, den_Ss, den_S, den_E, den_I, den_B, E_int, E_str, E_bool, E_none, E_name, E_bin, E_cmp, E_andV, E_tup, E_lst, E_upto, E_sub_name, E_sub_con, E_sub_bin, E_sub_sub, E_sub_call, E_dict0, E_dict1, E_comp, E_call, E_meth, N_lname, N_isi, B_and0, B_and, B_or0, B_or, B_cmp, B_call, I_call2, I_name, I_lst, I_tup, I_sub, I_bin, I_enum, I_items, S_assignC, S_assign_name, S_assign_con, S_assign_bin, S_assign_call, S_assign_sub, S_assign_cmp, S_assign_ifx, S_assign_lst, S_assign_tup, S_assign_dict, S_assign_boo, S_tup, S_unpack_call, S_setSub, S_augSub, S_augName, S_if, S_while, S_for_name, S_for_call, S_for_lst, S_for_tup, S_for_sub, S_ret, S_retNone, S_mut, Ss_nil, Ss_cons, L_nil, L_cons, dTests_nil, dTests_cons, N1_len, N1_sum, N1_sorted, N1_max, N1_min, N1_list, N2_max, N2_min, N2_isi, N_lrange, I_range, I_enumerate, I_items0, I_values, S_appendN, S_insertN, k0_T, k0_M, k0_mu, k0_K, S_k0, callE, bMut, T_tMid_len, T_tMid_sum, T_tMid_sorted, T_tMid_max, T_tMid_min, T_tMid_list, T_tMid_range, T_tMid_enumerate, T_tMid_isinstance, T_tMid_Llaw_counts]
          exact nmF rfl _ (by decide +kernel)
    · rfl
    generalize hρ3 : upd ρ2 nm_left _ = ρ3
    have c1 : ρ3 nm_left = some (.frz (natsD (restL L H))) := by rw [← hρ3]; rfl
    have c2 : ρ3 nm_here = some (.frz (.lst (H.map tieD))) := by rw [← hρ3]; exact b2
    have c3 : ρ3 nm_many = some (.frz (.int (m : Int))) := by rw [← hρ3]; exact b3
    have c4 : ρ3 nm_ends = some (.frz (natsD (endsOf L H))) := by rw [← hρ3]; exact b4
    refine run_seq (run_assignC ((restH L H).map tieD) (upd ρ3 nm_here (.frz (.lst ((restH L H).map tieD)))) ?_ ?_ ?_)
    · unfold restH
      rw [← filt_ties]
      refine comp_filter (qTie _) id ⟨by decide +kernel, rfl, rfl, rfl⟩ ?_ (fun d hd => ?_) (by simp; exact om_114 capE h5)
      · try dsimp only [ofs_ValueError, ofs_UUclassdictUU, ofs_UUdebugUU, ofs_UUnameUU, ofs_Llaw_counts, ofs_Llaw_far, ofs_Llaw_middle, ofs_a, ofs_add_callers, ofs_append, ofs_at, ofs_b, ofs_begin, ofs_bisect_left, ofs_caller, ofs_callers, ofs_calls, ofs_count, ofs_count_calls, ofs_counts, ofs_ends, ofs_enumerate, ofs_far, ofs_farthest, ofs_func, ofs_here, ofs_hi, ofs_i, ofs_index, ofs_insert, ofs_insort_left, ofs_isinstance, ofs_items, ofs_j, ofs_k, ofs_key, ofs_law, ofs_left, ofs_len, ofs_list, ofs_lo, ofs_long, ofs_many, ofs_max, ofs_mid, ofs_middle, ofs_min, ofs_nc, ofs_new_callers, ofs_number, ofs_one, ofs_order, ofs_other, ofs_place, ofs_range, ofs_row, ofs_script, ofs_sorted, ofs_source, ofs_sum, ofs_table, ofs_target, ofs_there, ofs_tie, ofs_ties, ofs_tuple, ofs_values, ofs_waiting, ofs_x, ofs_zip, den_Ss, den_S, den_E, den_I, den_B, E_int, E_str, E_bool, E_none, E_name, E_bin, E_cmp, E_andV, E_tup, E_lst, E_upto, E_sub_name, E_sub_con, E_sub_bin, E_sub_sub, E_sub_call, E_dict0, E_dict1, E_comp, E_call, E_meth, N_lname, N_isi, B_and0, B_and, B_or0, B_or, B_cmp, B_call, I_call2, I_name, I_lst, I_tup, I_sub, I_bin, I_enum, I_items, S_assignC, S_assign_name, S_assign_con, S_assign_bin, S_assign_call, S_assign_sub, S_assign_cmp, S_assign_ifx, S_assign_lst, S_assign_tup, S_assign_dict, S_assign_boo, S_tup, S_unpack_call, S_setSub, S_augSub, S_augName, S_if, S_while, S_for_name, S_for_call, S_for_lst, S_for_tup, S_for_sub, S_ret, S_retNone, S_mut, Ss_nil, Ss_cons, L_nil, L_cons, dTests_nil, dTests_cons, N1_len, N1_sum, N1_sorted, N1_max, N1_min, N1_list, N2_max, N2_min, N2_isi, N_lrange, I_range, I_enumerate, I_items0, I_values, S_appendN, S_insertN, k0_T, k0_M, k0_mu, k0_K, S_k0, callE, bMut, T_tMid_len, T_tMid_sum, T_tMid_sorted, T_tMid_max, T_tMid_min, T_tMid_list, T_tMid_range, T_tMid_enumerate, T_tMid_isinstance, T_tMid_Llaw_counts]
        exact q_list (nmF c2 _ (by decide +kernel)) rfl (by decide)
      · obtain ⟨t, ht, rfl⟩ := List.mem_map.mp hd
        obtain ⟨x, y⟩ := t
        have eq : qTie (fun t => decide (t.1 ∈ restL L H) && decide (t.2 ∈ restL L H)) (tieD (x, y)) = (decide (x ∈ restL L H) && decide (y ∈ restL L H)) := rfl
        rw [eq]
        refine turn1 rfl (decide (x ∈ restL L H) && decide (y ∈ restL L H)) ?_ (.frozen, tieD (x, y)) fun _ => ⟨?_, by simp⟩
        · generalize hρ4 : upd (rhoC _ ρ3) nm_tie _ = ρ4
          have d1 : ρ4 nm_left = some (.frz (natsD (restL L H))) := by rw [← hρ4]; exact c1
          have d2 : ρ4 nm_tie = some (.frz (tieD (x, y))) := by rw [← hρ4]; rfl
          have i0 : itemD (tieD (x, y)) (.int 0) = some (.int (x : Int)) := rfl
          have i1 : itemD (tieD (x, y)) (.int 1) = some (.int (y : Int)) := rfl
          have ic : (tieD (x, y)).comp = true := rfl
          try dsimp only [ofs_ValueError, ofs_UUclassdictUU, ofs_UUdebugUU, ofs_UUnameUU, ofs_Llaw_counts, ofs_Llaw_far, ofs_Llaw_middle, ofs_a, ofs_add_callers, ofs_append, ofs_at, ofs_b, ofs_begin, ofs_bisect_left, ofs_caller, ofs_callers, ofs_calls, ofs_count, ofs_count_calls, ofs_counts, ofs_ends, ofs_enumerate, ofs_far, ofs_farthest, ofs_func, ofs_here, ofs_hi, ofs_i, ofs_index, ofs_insert, ofs_insort_left, ofs_isinstance, ofs_items, ofs_j, ofs_k, ofs_key, ofs_law, ofs_left, ofs_len, ofs_list, ofs_lo, ofs_long, ofs_many, ofs_max, ofs_mid, ofs_middle, ofs_min, ofs_nc, ofs_new_callers, ofs_number, ofs_one, ofs_order, ofs_other, ofs_place, ofs_range, ofs_row, ofs_script, ofs_sorted, ofs_source, ofs_sum, ofs_table, ofs_target, ofs_there, ofs_tie, ofs_ties, ofs_tuple, ofs_values, ofs_waiting, ofs_x, ofs_zip, den_Ss, den_S, den_E, den_I, den_B, E_int, E_str, E_bool, E_none, E_name, E_bin, E_cmp, E_andV, E_tup, E_lst, E_upto, E_sub_name, E_sub_con, E_sub_bin, E_sub_sub, E_sub_call, E_dict0, E_dict1, E_comp, E_call, E_meth, N_lname, N_isi, B_and0, B_and, B_or0, B_or, B_cmp, B_call, I_call2, I_name, I_lst, I_tup, I_sub, I_bin, I_enum, I_items, S_assignC, S_assign_name, S_assign_con, S_assign_bin, S_assign_call, S_assign_sub, S_assign_cmp, S_assign_ifx, S_assign_lst, S_assign_tup, S_assign_dict, S_assign_boo, S_tup, S_unpack_call, S_setSub, S_augSub, S_augName, S_if, S_while, S_for_name, S_for_call, S_for_lst, S_for_tup, S_for_sub, S_ret, S_retNone, S_mut, Ss_nil, Ss_cons, L_nil, L_cons, dTests_nil, dTests_cons, N1_len, N1_sum, N1_sorted, N1_max, N1_min, N1_list, N2_max, N2_min, N2_isi, N_lrange, I_range, I_enumerate, I_items0, I_values, S_appendN, S_insertN, k0_T, k0_M, k0_mu, k0_K, S_k0, callE, bMut, T_tMid_len, T_tMid_sum, T_tMid_sorted, T_tMid_max, T_tMid_min, T_tMid_list, T_tMid_range, T_tMid_enumerate, T_tMid_isinstance, T_tMid_Llaw_counts]
          exact q_one (q_and2 (q_cmp rfl (q_sub (nmF d2 _ (by decide +kernel)) rfl rfl i0) (nmF d1 _ (by decide +kernel)) (cmp_in_nats _ _)) (q_cmp rfl (q_sub (nmF d2 _ (by decide +kernel)) rfl rfl i1) (nmF d1 _ (by decide +kernel)) (cmp_in_nats _ _)))
        · dsimp only [ofs_ValueError, ofs_UUclassdictUU, ofs_UUdebugUU, ofs_UUnameUU, ofs_Llaw_counts, ofs_Llaw_far, ofs_Llaw_middle, ofs_a, ofs_add_callers, ofs_append, ofs_at, ofs_b, ofs_begin, ofs_bisect_left, ofs_caller, ofs_callers, ofs_calls, ofs_count, ofs_count_calls, ofs_counts, ofs_ends, ofs_enumerate, ofs_far, ofs_farthest, ofs_func, ofs_here, ofs_hi, ofs_i, ofs_index, ofs_insert, ofs_insort_left, ofs_isinstance, ofs_items, ofs_j, ofs_k, ofs_key, ofs_law, ofs_left, ofs_len, ofs_list, ofs_lo, ofs_long, ofs_many, ofs_max, ofs_mid, ofs_middle, ofs_min, ofs_nc, ofs_new_callers, ofs_number, ofs_one, ofs_order, ofs_other, ofs_place, ofs_range, ofs_row, ofs_script, ofs_sorted, ofs_source, ofs_sum, ofs_table, ofs_target, ofs_there, ofs_tie, ofs_ties, ofs_tuple, ofs_values, ofs_waiting, ofs_x, ofs_zip, den_Ss, den_S, den_E, den_I, den_B, E_int, E_str, E_bool, E_none, E_name, E_bin, E_cmp, E_andV, E_tup, E_lst, E_upto, E_sub_name, E_sub_con, E_sub_bin, E_sub_sub, E_sub_call, E_dict0, E_dict1, E_comp, E_call, E_meth, N_lname, N_isi, B_and0, B_and, B_or0, B_or, B_cmp, B_call, I_call2, I_name, I_lst, I_tup, I_sub, I_bin, I_enum, I_items, S_assignC, S_assign_name, S_assign_con, S_assign_bin, S_assign_call, S_assign_sub, S_assign_cmp, S_assign_ifx, S_assign_lst, S_assign_tup, S_assign_dict, S_assign_boo, S_tup, S_unpack_call, S_setSub, S_augSub, S_augName, S_if, S_while, S_for_name, S_for_call, S_for_lst, S_for_tup, S_for_sub, S_ret, S_retNone, S_mut, Ss_nil, Ss_cons, L_nil, L_cons, dTests_nil, dTests_cons, N1_len, N1_sum, N1_sorted, N1_max, N1_min, N1_list, N2_max, N2_min, N2_isi, N_lrange, I_range, I_enumerate, I_items0, I_values, S_appendN, S_insertN, k0_T, k0_M, k0_mu, k0_K, S_k0, callE, bMut, T_tMid_len, T_tMid_sum, T_tMid_sorted, T_tMid_max, T_tMid_min, T_tMid_list, T_tMid_range, T_tMid_enumerate, T_tMid_isinstance, T_tMid_Llaw_counts]
          exact nmF rfl _ (by decide +kernel)
    · rfl
    generalize hρ4 : upd ρ3 nm_here _ = ρ4
    have d1 : ρ4 nm_left = some (.frz (natsD (restL L H))) := by rw [← hρ4]; exact c1
    have d2 : ρ4 nm_here = some (.frz (.lst ((restH L H).map tieD))) := by rw [← hρ4]; rfl
    have d3 : ρ4 nm_many = some (.frz (.int (m : Int))) := by rw [← hρ4]; exact c3
    have d4 : ρ4 nm_ends = some (.frz (natsD (endsOf L H))) := by rw [← hρ4]; exact c4
    refine run_seq (run_if (decide (endsOf L H = [])) ?_ ?_)
    · exact q_cmp rfl (nmF d4 _ (by decide +kernel)) rfl (cmp_nil_nats _)
    by_cases hE : endsOf L H = []
    · simp only [hE, decide_true, if_true] at h8 ⊢
      rw [← h8]
      exact run_seq (run_ret (.frozen, .none) rfl (by simp) rfl)
    · simp only [hE, decide_false, Bool.false_eq_true, if_false] at h8 ⊢
      have hr := restL_lt hE
      refine run_nil (run_nil ⟨k, by exact om_115, restL L H, restH L H, d1, d2, d3, fun v hv => h4 v (List.mem_filter.mp hv).1, Nat.le_trans (List.length_filter_le _ _) h5, fun t ht => h6 t (List.mem_filter.mp ht).1, by exact om_116 h7 hr, by exact om_117 h7m hr, h8⟩)
  · simp only [hlt, decide_false, Bool.false_eq_true, if_false]
    rw [midGo_some (by exact om_118 hlt)] at h8
    rw [← h8]
    exact run_seq (run_ret (.frozen, natsD L) (nmF (lay_frz h1) _ (by decide +kernel)) frz_nl rfl)
end Mine
end
section
open PySem PySem.W PyProof.Rows PySem.Spec PySem.SeqAt
set_option maxRecDepth 100000
set_option linter.all false
namespace Mine
noncomputable def tLaw (f : Str) : Option (List D → Option D) := if f = nm_Llaw_far then some fFar else if f = nm_Llaw_counts then some fCnt else if f = nm_Llaw_middle then some fMid else if f = nm_bisect_left then some fBis else none
noncomputable def mLaw (f : Str) : Option (D → List D → Option D) := if f = nm_insort_left then some fIns else none
theorem T_tLaw_len : tLaw nm_len = none := rfl
theorem T_tLaw_sum : tLaw nm_sum = none := rfl
theorem T_tLaw_sorted : tLaw nm_sorted = none := rfl
theorem T_tLaw_max : tLaw nm_max = none := rfl
theorem T_tLaw_min : tLaw nm_min = none := rfl
theorem T_tLaw_list : tLaw nm_list = none := rfl
theorem T_tLaw_range : tLaw nm_range = none := rfl
theorem T_tLaw_enumerate : tLaw nm_enumerate = none := rfl
theorem T_tLaw_isinstance : tLaw nm_isinstance = none := rfl
theorem T_tLaw_Llaw_far : tLaw nm_Llaw_far = some fFar := rfl
theorem T_tLaw_Llaw_counts : tLaw nm_Llaw_counts = some fCnt := rfl
theorem T_tLaw_Llaw_middle : tLaw nm_Llaw_middle = some fMid := rfl
theorem T_tLaw_bisect_left : tLaw nm_bisect_left = some fBis := rfl
theorem T_mLaw_len : mLaw nm_len = none := rfl
theorem T_mLaw_sum : mLaw nm_sum = none := rfl
theorem T_mLaw_sorted : mLaw nm_sorted = none := rfl
theorem T_mLaw_max : mLaw nm_max = none := rfl
theorem T_mLaw_min : mLaw nm_min = none := rfl
theorem T_mLaw_list : mLaw nm_list = none := rfl
theorem T_mLaw_range : mLaw nm_range = none := rfl
theorem T_mLaw_enumerate : mLaw nm_enumerate = none := rfl
theorem T_mLaw_isinstance : mLaw nm_isinstance = none := rfl
theorem T_mLaw_insort_left : mLaw nm_insort_left = some fIns := rfl
noncomputable def kLaw : Know := k0 (fun x => x = nm_order) tLaw mLaw
noncomputable def bdLaw : DenS := (den kLaw 30).Ss kf_10 sf_10 (bodyAt topB 10)
noncomputable def maxI : List Int → Int
  | [] => 0
  | m :: ms => maxL m ms
noncomputable def minI : List Int → Int
  | [] => 0
  | m :: ms => minL m ms
theorem bfn_max (fl : Fl) (L : List Int) (h : L ≠ []) : bfnD nm_max [(fl, .lst (L.map .int))] = some (.frozen, .int (maxI L)) := by
  cases L with
  | nil => exact absurd rfl h
  | cons x L =>
    show bfnL nm_max _ = _
    unfold bfnL
    rw [if_neg (by decide), intsOf_map]; rfl
theorem bfn_min (fl : Fl) (L : List Int) (h : L ≠ []) : bfnD nm_min [(fl, .lst (L.map .int))] = some (.frozen, .int (minI L)) := by
  cases L with
  | nil => exact absurd rfl h
  | cons x L =>
    show bfnL nm_min _ = _
    unfold bfnL
    rw [if_neg (by decide), intsOf_map]; rfl
theorem bfn_sum (fl : Fl) (L : List Int) (h : ∀ x ∈ L, -300 ≤ x ∧ x ≤ 300) : bfnD nm_sum [(fl, .lst (L.map .int))] = some (.frozen, .int L.sum) := by
  have ha : (L.all fun x => decide (-300 ≤ x ∧ x ≤ 300)) = true := by simpa using h
  show bfnL nm_sum _ = _
  unfold bfnL
  rw [if_neg (by decide), intsOf_map]
  exact if_pos ha
theorem bfn_sorted (fl : Fl) (L : List Int) (h : L.length < 64) : bfnD nm_sorted [(fl, .lst (L.map .int))] = some (.fresh, .lst ((isort L).map .int)) := by
  show bfnL nm_sorted _ = _
  unfold bfnL
  rw [if_neg (by decide), intsOf_map]
  exact if_pos h
theorem bfn_len (fl : Fl) (ds : List D) : bfnD nm_len [(fl, .lst ds)] = some (.frozen, .int ds.length) := rfl
theorem bfn_min2 (f g : Fl) (a b : Int) : bfnD nm_min [(f, .int a), (g, .int b)] = some (.frozen, .int (if b < a then b else a)) := rfl
theorem ints_item (L : List Int) (i : Nat) (x : Int) (h : L[i]? = some x) (hi : i < 300) : itemD (.lst (L.map .int)) (.int (i : Int)) = some (.int x) := by
  simp only [itemD_lst, itemD_tup, itemD_idict, itemD_tdict]
  rw [if_pos (by exact om_75 hi)]
  simp [h]
theorem cmp_eq_int (x y : Int) : cmpD .Eq (.int x) (.int y) = some (decide (x = y)) := by
  have h : okPy 8 (.int x) = true ∧ okPy 8 (.int y) = true := by simp [okPy]
  simp only [cmpD_eq, cmpD_ne, cmpD_lt, cmpD_gt, cmpD_in, cmpD_notIn, cmpD_is, eqD_int, h.1, h.2, Bool.and_self, if_true]
theorem cmp_ne_int (x y : Int) : cmpD .NotEq (.int x) (.int y) = some (!decide (x = y)) := by
  have h : okPy 8 (.int x) = true ∧ okPy 8 (.int y) = true := by simp [okPy]
  simp only [cmpD_eq, cmpD_ne, cmpD_lt, cmpD_gt, cmpD_in, cmpD_notIn, cmpD_is, eqD_int, h.1, h.2, Bool.and_self, if_true]
theorem cmp_eqN (a b : Nat) : cmpD .Eq (.int (a : Int)) (.int (b : Int)) = some (decide (a = b)) :=
  (cmp_eq_int a b).trans (congrArg some (decide_eq_decide.mpr Int.ofNat_inj))
theorem cmp_neN (a b : Nat) : cmpD .NotEq (.int (a : Int)) (.int (b : Int)) = some (!decide (a = b)) :=
  (cmp_ne_int a b).trans (congrArg (fun c => some (!c)) (decide_eq_decide.mpr Int.ofNat_inj))
theorem cmp_neF {x y : Int} (h : x = y) : cmpD .NotEq (.int x) (.int y) = some false :=
  (cmp_ne_int x y).trans (congrArg (fun c => some (!c)) (decide_eq_true h))
theorem int_2 : ((2 : Nat) : Int) = 2 := rfl
theorem okPys_int : ∀ (L : List Int) (k : Nat), okPys k (L.map .int) = true
  | [], k => by simp [okPys]
  | v :: L, k => by simp [okPys, okPy, okPys_int L k]
theorem eqDs_int : ∀ (L L' : List Int), eqDs (L.map .int) (L'.map .int) = decide (L = L')
  | [], [] => eqDs_nil
  | [], _ :: _ => by rw [List.map_nil, List.map_cons, eqDs_nc]; rfl
  | _ :: _, [] => by rw [List.map_nil, List.map_cons, eqDs_cn]; rfl
  | x :: L, y :: L' => by simp only [List.map_cons, eqDs_cons, eqD_int, eqDs_int L L', List.cons.injEq, Bool.decide_and]
theorem cmp_eq_ints (L L' : List Int) : cmpD .Eq (.lst (L.map .int)) (.lst (L'.map .int)) = some (decide (L = L')) := by
  have h1 : okPy 8 (.lst (L.map .int)) = true := by unfold okPy; exact okPys_int L 7
  have h2 : okPy 8 (.lst (L'.map .int)) = true := by unfold okPy; exact okPys_int L' 7
  simp only [cmpD_eq, cmpD_ne, cmpD_lt, cmpD_gt, cmpD_in, cmpD_notIn, cmpD_is, h1, h2, Bool.and_self, if_true, eqD_lst, eqDs_int]
theorem cmp_ne_ints (L L' : List Int) : cmpD .NotEq (.lst (L.map .int)) (.lst (L'.map .int)) = some (!decide (L = L')) := by
  have h1 : okPy 8 (.lst (L.map .int)) = true := by unfold okPy; exact okPys_int L 7
  have h2 : okPy 8 (.lst (L'.map .int)) = true := by unfold okPy; exact okPys_int L' 7
  simp only [cmpD_eq, cmpD_ne, cmpD_lt, cmpD_gt, cmpD_in, cmpD_notIn, cmpD_is, h1, h2, Bool.and_self, if_true, eqD_lst, eqDs_int]
theorem natsD_ints (L : List Nat) : natsD L = .lst ((L.map fun v : Nat => (v : Int)).map .int) := by simp [natsD]
theorem cmp_ne_nats (L : List Nat) : cmpD .NotEq (natsD L) (.lst (L.map fun v : Nat => .int (v : Int))) = some false := by
  have e : (L.map fun v : Nat => D.int (v : Int)) = (L.map fun v : Nat => (v : Int)).map .int := by simp
  rw [natsD_ints, e, cmp_ne_ints]
  simp
noncomputable def qInt (q : Int → Bool) : D → Bool
  | .int i => q i
  | _ => false
theorem filt_ints (q : Int → Bool) : ∀ L : List Int, (((L.map .int).filter (qInt q)).map id) = (L.filter q).map .int
  | [] => rfl
  | v :: L => by
    have ih := filt_ints q L
    have e : qInt q (.int v) = q v := rfl
    rw [List.map_cons, List.filter_cons, List.filter_cons, e]
    cases q v
    · simpa using ih
    · simpa using ih
theorem split_sorted (x : Int) : ∀ L : List Int, L.Pairwise (· ≤ ·) → ∃ k, k ≤ L.length ∧ (∀ (i : Nat) y, L[i]? = some y → (y < x ↔ i < k)) ∧ (L.take k ++ x :: L.drop k).Pairwise (· ≤ ·)
  | [], _ => ⟨0, by simp, by simp, by simp⟩
  | y :: L, h => by
    obtain ⟨h1, h2⟩ := List.pairwise_cons.mp h
    by_cases q : y < x
    · obtain ⟨k, hk, hi, hs⟩ := split_sorted x L h2
      refine ⟨k + 1, by simp; exact om_119 hk, fun i z hz => ?_, ?_⟩
      · cases i with
        | zero => simp at hz; subst hz; simp [q]
        | succ i => rw [hi i z (by simpa using hz)]; exact om_120
      · rw [List.take_succ_cons, List.drop_succ_cons, List.cons_append]
        refine List.pairwise_cons.mpr ⟨fun z hz => ?_, hs⟩
        rcases List.mem_append.mp hz with hz | hz
        · exact h1 z (List.mem_of_mem_take hz)
        · rcases List.mem_cons.mp hz with hz | hz
          · exact om_121 q hz
          · exact h1 z (List.mem_of_mem_drop hz)
    · refine ⟨0, by simp, fun i z hz => ?_, ?_⟩
      · have : z ∈ y :: L := List.mem_of_getElem? hz
        rcases List.mem_cons.mp this with e | e
        · exact om_122 q e
        · have := h1 z e; exact om_123 q this
      · simp only [List.take_zero, List.nil_append, List.drop_zero]
        refine List.pairwise_cons.mpr ⟨fun z hz => ?_, h⟩
        rcases List.mem_cons.mp hz with e | e
        · exact om_124 q e
        · have := h1 z e; exact om_125 q this
theorem found_sorted (x : Int) (L : List Int) (h : L.Pairwise (· ≤ ·)) (hx : x ∈ L) (k : Nat) (hk : ∀ (i : Nat) y, L[i]? = some y → (y < x ↔ i < k)) : L[k]? = some x := by
  obtain ⟨j, hj, e⟩ := List.mem_iff_getElem.mp hx
  have h1 := hk j x (by rw [List.getElem?_eq_getElem hj, e])
  have hkj : k ≤ j := by exact om_126 h1
  have hkl : k < L.length := by exact om_127 hj hkj
  have h2 := hk k L[k] (List.getElem?_eq_getElem hkl)
  have h3 : L[k] ≤ L[j] := by
    by_cases q : k = j
    · subst q; exact Int.le_refl _
    · exact List.pairwise_iff_getElem.mp h k j hkl hj (by exact om_128 hkj q)
  rw [List.getElem?_eq_getElem hkl]
  congr 1
  exact om_129 e h2 h3
theorem split_perm {α : Type} (L : List α) (x : α) (k : Nat) : (L.take k ++ x :: L.drop k).Perm (x :: L) := by
  have := @List.perm_middle _ x (L.take k) (L.drop k)
  rwa [List.take_append_drop] at this
noncomputable def rowI (δ : Nat → Nat → Nat) (m a : Nat) : List Int := (List.range m).map fun v => (δ a v : Int)
noncomputable def eccI (ecc : Nat → Nat) (m : Nat) : List Int := (List.range m).map fun v => (ecc v : Int)
noncomputable def incI (ts : List Tie) (m : Nat) : List Int := (List.range m).map fun v => inc ts v
/-- what the law asks -/
structure LawFacts (m : Nat) (ts : List Tie) (δ : Nat → Nat → Nat) (ecc : Nat → Nat) (rad long : Nat) (M : List Nat) : Prop where
  m0 : 0 < m
  m9 : m ≤ 9
  tl : ts.length ≤ 8
  tb : ∀ t ∈ ts, t.1 < m ∧ t.2 < m
  dist : ∀ s, s < m → DistOk ts m s (δ s)
  eccE : ∀ v, v < m → maxI (rowI δ m v) = ecc v
  radE : minI (eccI ecc m) = rad
  longE : maxI (eccI ecc m) = long
  small : rad ≤ 40
  lsmall : long ≤ 40
  mid : midGo m (List.range m) ts = some M
  midE : M = (List.range m).filter fun v => decide (ecc v = rad)
  two : ∀ a b, M = [a, b] → δ a b = 1
  far2 : ∀ b o, b < m → o < m → δ b o = ecc b → ecc o = long
  len : (long : Int) = 2 * rad - M.length + 1
  over : ∀ a b, b < a → a < m → δ a b = long → ∀ c ∈ M, δ a c + δ c b = long
  csum : (incI ts m).sum = 2 * ts.length
  cmax : 1 < m → maxI (incI ts m) ≤ ((incI ts m).filter fun c => decide (c = 1)).length
  incb : ∀ v, -300 ≤ inc ts v ∧ inc ts v ≤ 300
  each : ∀ a k, a < m → ecc a = long → k ≤ long → ∃ v, v < m ∧ δ a v = k
noncomputable def ties8 (ns : List Int) : List Tie := (ns.take 8).mapIdx fun k n => ((n.fmod ((k : Int) + 1)).toNat, k + 1)
noncomputable def tableD (δ : Nat → Nat → Nat) (m : Nat) : D := .lst ((List.range m).map fun a => .lst ((rowI δ m a).map .int))
theorem table_item (δ : Nat → Nat → Nat) (m a : Nat) (h : a < m) (hm : m < 300) : itemD (tableD δ m) (.int (a : Int)) = some (.lst ((rowI δ m a).map .int)) := by
  simp only [itemD_lst, itemD_tup, itemD_idict, itemD_tdict, tableD]
  rw [if_pos (by exact om_108 h hm)]
  simp [h]
theorem row_item (δ : Nat → Nat → Nat) (m a b : Nat) (h : b < m) (hm : m < 300) : itemD (.lst ((rowI δ m a).map .int)) (.int (b : Int)) = some (.int (δ a b)) := ints_item _ _ _ (by simp [rowI, h]) (by exact om_130 h hm)
structure LawSt (ns : List Int) (m : Nat) (ts : List Tie) (δ : Nat → Nat → Nat) (ecc : Nat → Nat) (M : List Nat) (ρ : Rho) : Prop where
  script : ρ nm_script = some (.frz (.lst (ns.map .int)))
  many : ρ nm_many = some (.frz (.int (m : Int)))
  ties : ρ nm_ties = some (.frz (.lst (ts.map tieD)))
  table : ρ nm_table = some (.frz (tableD δ m))
  farthest : ρ nm_farthest = some (.frz (.lst ((eccI ecc m).map .int)))
  middle : ρ nm_middle = some (.frz (natsD M))
theorem LawSt.upd {ns : List Int} {m : Nat} {ts : List Tie} {δ : Nat → Nat → Nat} {ecc : Nat → Nat} {M : List Nat} {ρ : Rho} (S : LawSt ns m ts δ ecc M ρ) (x : Str) (b : Bd) (hx : x ≠ nm_script ∧ x ≠ nm_many ∧ x ≠ nm_ties ∧ x ≠ nm_table ∧ x ≠ nm_farthest ∧ x ≠ nm_middle) : LawSt ns m ts δ ecc M (Mine.upd ρ x b) :=
  ⟨by rw [upd_at, if_neg (Ne.symm hx.1)]; exact S.script, by rw [upd_at, if_neg (Ne.symm hx.2.1)]; exact S.many, by rw [upd_at, if_neg (Ne.symm hx.2.2.1)]; exact S.ties, by rw [upd_at, if_neg (Ne.symm hx.2.2.2.1)]; exact S.table, by rw [upd_at, if_neg (Ne.symm hx.2.2.2.2.1)]; exact S.farthest, by rw [upd_at, if_neg (Ne.symm hx.2.2.2.2.2)]; exact S.middle⟩
abbrev LawA (ns : List Int) (m : Nat) (ts : List Tie) (δ : Nat → Nat → Nat) (ecc : Nat → Nat) (M : List Nat) (one long : Nat) : List D → Rho → Prop := fun ds ρ => (∀ d ∈ ds, ∃ a : Nat, a < m ∧ d = .int (a : Int)) ∧ LawSt ns m ts δ ecc M ρ ∧ ρ nm_one = some (.frz (.int (one : Int))) ∧ ρ nm_long = some (.frz (.int (long : Int)))
abbrev LawB (ns : List Int) (m : Nat) (ts : List Tie) (δ : Nat → Nat → Nat) (ecc : Nat → Nat) (M : List Nat) (one long : Nat) (a : Nat) : List D → Rho → Prop := fun es ρ => (∀ d ∈ es, ∃ b : Nat, b < a ∧ d = .int (b : Int)) ∧ LawSt ns m ts δ ecc M ρ ∧ ρ nm_one = some (.frz (.int (one : Int))) ∧ ρ nm_long = some (.frz (.int (long : Int))) ∧ ρ nm_a = some (.frz (.int (a : Int)))
abbrev LawO (ns : List Int) (m : Nat) (ts : List Tie) (δ : Nat → Nat → Nat) (ecc : Nat → Nat) (M : List Nat) (one long : Nat) : List D → Rho → Prop := fun ds ρ => ∃ L1 L2 so : List Int, rowI δ m one = L1 ++ L2 ∧ ds = L2.map .int ∧ LawSt ns m ts δ ecc M ρ ∧ ρ nm_one = some (.frz (.int (one : Int))) ∧ ρ nm_long = some (.frz (.int (long : Int))) ∧ ρ nm_order = some (.own (.lst (so.map .int))) ∧ so.Pairwise (· ≤ ·) ∧ so.Perm L1
theorem maxL_mem : ∀ (L : List Int) (m : Int), maxL m L ∈ m :: L ∧ ∀ x ∈ m :: L, x ≤ maxL m L
  | [], m => by simp [maxL]
  | y :: L, m => by
    unfold maxL
    obtain ⟨h1, h2⟩ := maxL_mem L (if y > m then y else m)
    refine ⟨?_, fun x hx => ?_⟩
    · rcases List.mem_cons.mp h1 with q | q
      · rw [q]; split <;> simp
      · exact List.mem_cons_of_mem _ (List.mem_cons_of_mem _ q)
    · have h3 := h2 _ List.mem_cons_self
      generalize maxL (if y > m then y else m) L = mx at h2 h3 ⊢
      rcases List.mem_cons.mp hx with q | q
      · subst q; split at h3 <;> omega
      · rcases List.mem_cons.mp q with q | q
        · subst q; split at h3 <;> omega
        · exact h2 x (List.mem_cons_of_mem _ q)
theorem minL_mem : ∀ (L : List Int) (m : Int), minL m L ∈ m :: L ∧ ∀ x ∈ m :: L, minL m L ≤ x
  | [], m => by simp [minL]
  | y :: L, m => by
    unfold minL
    obtain ⟨h1, h2⟩ := minL_mem L (if y < m then y else m)
    refine ⟨?_, fun x hx => ?_⟩
    · rcases List.mem_cons.mp h1 with q | q
      · rw [q]; split <;> simp
      · exact List.mem_cons_of_mem _ (List.mem_cons_of_mem _ q)
    · have h3 := h2 _ List.mem_cons_self
      generalize minL (if y < m then y else m) L = mx at h2 h3 ⊢
      rcases List.mem_cons.mp hx with q | q
      · subst q; split at h3 <;> omega
      · rcases List.mem_cons.mp q with q | q
        · subst q; split at h3 <;> omega
        · exact h2 x (List.mem_cons_of_mem _ q)
theorem maxI_mem (L : List Int) (h : L ≠ []) : maxI L ∈ L := by
  cases L with
  | nil => exact absurd rfl h
  | cons x L => exact (maxL_mem L x).1
theorem maxI_le (L : List Int) (x : Int) (h : x ∈ L) : x ≤ maxI L := by
  cases L with
  | nil => cases h
  | cons y L => exact (maxL_mem L y).2 x h
theorem minI_mem (L : List Int) (h : L ≠ []) : minI L ∈ L := by
  cases L with
  | nil => exact absurd rfl h
  | cons x L => exact (minL_mem L x).1
theorem minI_le (L : List Int) (x : Int) (h : x ∈ L) : minI L ≤ x := by
  cases L with
  | nil => cases h
  | cons y L => exact (minL_mem L y).2 x h
set_option maxHeartbeats 4000000 in
theorem law_run (ns : List Int) (hn : ns.length ≤ 63) (m : Nat) (hm : m = 1 + min 8 ns.length) (ts : List Tie) (hts : ts = ties8 ns) (δ : Nat → Nat → Nat) (ecc : Nat → Nat) (rad long : Nat) (M : List Nat) (F : LawFacts m ts δ ecc rad long M) :
    Run bdLaw (rho0 [nm_script] [.frz (.lst (ns.map .int))]) (RetD (.bool true)) := by
  unfold bdLaw
  have h : bodyAt topB 10 = bodyAt topB 10 := rfl
  conv at h => rhs; whnf
  rw [h]
  clear h
  have m9 := F.m9
  dsimp only [ofs_ValueError, ofs_UUclassdictUU, ofs_UUdebugUU, ofs_UUnameUU, ofs_Llaw_counts, ofs_Llaw_far, ofs_Llaw_middle, ofs_a, ofs_add_callers, ofs_append, ofs_at, ofs_b, ofs_begin, ofs_bisect_left, ofs_caller, ofs_callers, ofs_calls, ofs_count, ofs_count_calls, ofs_counts, ofs_ends, ofs_enumerate, ofs_far, ofs_farthest, ofs_func, ofs_here, ofs_hi, ofs_i, ofs_index, ofs_insert, ofs_insort_left, ofs_isinstance, ofs_items, ofs_j, ofs_k, ofs_key, ofs_law, ofs_left, ofs_len, ofs_list, ofs_lo, ofs_long, ofs_many, ofs_max, ofs_mid, ofs_middle, ofs_min, ofs_nc, ofs_new_callers, ofs_number, ofs_one, ofs_order, ofs_other, ofs_place, ofs_range, ofs_row, ofs_script, ofs_sorted, ofs_source, ofs_sum, ofs_table, ofs_target, ofs_there, ofs_tie, ofs_ties, ofs_tuple, ofs_values, ofs_waiting, ofs_x, ofs_zip, den_Ss, den_S, den_E, den_I, den_B, E_int, E_str, E_bool, E_none, E_name, E_bin, E_cmp, E_andV, E_tup, E_lst, E_upto, E_sub_name, E_sub_con, E_sub_bin, E_sub_sub, E_sub_call, E_dict0, E_dict1, E_comp, E_call, E_meth, N_lname, N_isi, B_and0, B_and, B_or0, B_or, B_cmp, B_call, I_call2, I_name, I_lst, I_tup, I_sub, I_bin, I_enum, I_items, S_assignC, S_assign_name, S_assign_con, S_assign_bin, S_assign_call, S_assign_sub, S_assign_cmp, S_assign_ifx, S_assign_lst, S_assign_tup, S_assign_dict, S_assign_boo, S_tup, S_unpack_call, S_setSub, S_augSub, S_augName, S_if, S_while, S_for_name, S_for_call, S_for_lst, S_for_tup, S_for_sub, S_ret, S_retNone, S_mut, Ss_nil, Ss_cons, L_nil, L_cons, dTests_nil, dTests_cons, N1_len, N1_sum, N1_sorted, N1_max, N1_min, N1_list, N2_max, N2_min, N2_isi, N_lrange, I_range, I_enumerate, I_items0, I_values, S_appendN, S_insertN, k0_T, k0_M, k0_mu, k0_K, S_k0, callE, bMut, T_tLaw_len, T_tLaw_sum, T_tLaw_sorted, T_tLaw_max, T_tLaw_min, T_tLaw_list, T_tLaw_range, T_tLaw_enumerate, T_tLaw_isinstance, T_tLaw_Llaw_far, T_tLaw_Llaw_counts, T_tLaw_Llaw_middle, T_tLaw_bisect_left, T_mLaw_len, T_mLaw_sum, T_mLaw_sorted, T_mLaw_max, T_mLaw_min, T_mLaw_list, T_mLaw_range, T_mLaw_enumerate, T_mLaw_isinstance, T_mLaw_insort_left, kLaw]
  simp only [List.map_cons, List.map_nil, List.cons_append, List.nil_append, rho0_cons]
  have capE : cap = 200 := rfl
  refine run_seq (run_assign (.frozen, .int (m : Int)) _ ?_ rfl rfl ?_)
  · have e : bfnD nm_min [(Fl.frozen, D.int 8), (Fl.frozen, D.int ((ns.map D.int).length : Int))] = some (.frozen, .int ((m : Int) - 1)) := by
      rw [bfn_min2, List.length_map]
      congr 3
      split <;> omega
    have e2 : binD .Add (.int 1) (.int ((m : Int) - 1)) = some (.frozen, .int (m : Int)) := congrArg (fun i => some (Fl.frozen, D.int i)) (by exact om_131)
    have e1 := bfn_len .frozen (ns.map D.int)
    have e0 : upd (rho0 [] []) nm_script (.frz (.lst (ns.map .int))) nm_script = some (.frz (.lst (ns.map .int))) := rfl
    repeat' first | with_reducible assumption | exact q_nil | refine' q_cmp rfl _ _ _ | refine' q_bin _ _ _ | refine' q_sub _ _ _ _ | refine' q_cons rfl _ _ | refine' q_bfn (by decide +kernel) _ _ | refine' q_call (by decide +kernel) _ _ _ | refine' q_meth (by decide +kernel) _ _ _ | refine' q_lst _ _ | refine' q_tup _ _ | refine' q_frz _ _ | refine' q_dict1 _ _ _ | refine' q_tests _ | refine' q_val _ | refine' q_list _ _ _ | refine' q_enum (by decide +kernel) _ _ _ | refine' nmF _ _ (by decide +kernel) | exact frz_nl | exact fre_nl | with_reducible exact rfl | (show D.comp _ = true; exact rfl) | (show (_ || _) = true; exact rfl) | (show lsOf _ = _; exact rfl) | (show _ ∨ _ ≠ Fl.loose; exact Or.inr (by decide)) | (show _ ∧ _ ≤ cap; exact ⟨rfl, Nat.le_of_ble_eq_true rfl⟩) | assumption
  generalize hρ1 : upd _ nm_many _ = ρ1
  have a1 : ρ1 nm_script = some (.frz (.lst (ns.map .int))) := by rw [← hρ1]; rfl
  have a2 : ρ1 nm_many = some (.frz (.int (m : Int))) := by rw [← hρ1]; rfl
  clear hρ1
  refine run_seq (run_assignC (ts.map tieD) (upd ρ1 nm_ties (.frz (.lst (ts.map tieD)))) ?_ ?_ ?_)
  · refine comp_list _ ⟨by decide +kernel, rfl, rfl, rfl⟩ (ds := enumD ((ns.take 8).map .int)) ?_ (by rw [hts]; simp [enumD, ties8]) (fun i d o hd ho => ?_) (by simp [enumD]; exact om_132 capE)
    · try dsimp only [ofs_ValueError, ofs_UUclassdictUU, ofs_UUdebugUU, ofs_UUnameUU, ofs_Llaw_counts, ofs_Llaw_far, ofs_Llaw_middle, ofs_a, ofs_add_callers, ofs_append, ofs_at, ofs_b, ofs_begin, ofs_bisect_left, ofs_caller, ofs_callers, ofs_calls, ofs_count, ofs_count_calls, ofs_counts, ofs_ends, ofs_enumerate, ofs_far, ofs_farthest, ofs_func, ofs_here, ofs_hi, ofs_i, ofs_index, ofs_insert, ofs_insort_left, ofs_isinstance, ofs_items, ofs_j, ofs_k, ofs_key, ofs_law, ofs_left, ofs_len, ofs_list, ofs_lo, ofs_long, ofs_many, ofs_max, ofs_mid, ofs_middle, ofs_min, ofs_nc, ofs_new_callers, ofs_number, ofs_one, ofs_order, ofs_other, ofs_place, ofs_range, ofs_row, ofs_script, ofs_sorted, ofs_source, ofs_sum, ofs_table, ofs_target, ofs_there, ofs_tie, ofs_ties, ofs_tuple, ofs_values, ofs_waiting, ofs_x, ofs_zip, den_Ss, den_S, den_E, den_I, den_B, E_int, E_str, E_bool, E_none, E_name, E_bin, E_cmp, E_andV, E_tup, E_lst, E_upto, E_sub_name, E_sub_con, E_sub_bin, E_sub_sub, E_sub_call, E_dict0, E_dict1, E_comp, E_call, E_meth, N_lname, N_isi, B_and0, B_and, B_or0, B_or, B_cmp, B_call, I_call2, I_name, I_lst, I_tup, I_sub, I_bin, I_enum, I_items, S_assignC, S_assign_name, S_assign_con, S_assign_bin, S_assign_call, S_assign_sub, S_assign_cmp, S_assign_ifx, S_assign_lst, S_assign_tup, S_assign_dict, S_assign_boo, S_tup, S_unpack_call, S_setSub, S_augSub, S_augName, S_if, S_while, S_for_name, S_for_call, S_for_lst, S_for_tup, S_for_sub, S_ret, S_retNone, S_mut, Ss_nil, Ss_cons, L_nil, L_cons, dTests_nil, dTests_cons, N1_len, N1_sum, N1_sorted, N1_max, N1_min, N1_list, N2_max, N2_min, N2_isi, N_lrange, I_range, I_enumerate, I_items0, I_values, S_appendN, S_insertN, k0_T, k0_M, k0_mu, k0_K, S_k0, callE, bMut, T_tLaw_len, T_tLaw_sum, T_tLaw_sorted, T_tLaw_max, T_tLaw_min, T_tLaw_list, T_tLaw_range, T_tLaw_enumerate, T_tLaw_isinstance, T_tLaw_Llaw_far, T_tLaw_Llaw_counts, T_tLaw_Llaw_middle, T_tLaw_bisect_left, T_mLaw_len, T_mLaw_sum, T_mLaw_sorted, T_mLaw_max, T_mLaw_min, T_mLaw_list, T_mLaw_range, T_mLaw_enumerate, T_mLaw_isinstance, T_mLaw_insort_left]
      simp (decide := true) only [dItEnum, dUpto, nmF a1, opt_bind_some, lsOf_lst, itOf_int, blOf_bool, if_true, if_false, Bool.false_eq_true, reduceCtorEq, and_self, List.map_cons, List.map_nil, List.cons_append, List.nil_append, List.append_nil]
      rw [← List.map_take]
      rfl
    · unfold enumD at hd
      rw [List.getElem?_mapIdx, List.getElem?_map] at hd
      rw [hts, List.getElem?_map, ties8, List.getElem?_mapIdx] at ho
      cases hx : (ns.take 8)[i]? with
      | none => rw [hx] at hd; cases hd
      | some x =>
        rw [hx] at hd ho
        cases hd
        cases ho
        have hnn : 0 ≤ x.fmod ((i : Int) + 1) := Int.fmod_nonneg_of_pos x (by exact om_133)
        refine turn0 rfl (.fresh, tieD ((x.fmod ((i : Int) + 1)).toNat, i + 1)) ?_ (by simp)
        generalize hρ2 : upd (upd (rhoC _ ρ1) nm_k _) nm_number _ = ρ2
        have b1 : ρ2 nm_k = some (.frz (.int (i : Int))) := by rw [← hρ2]; rfl
        have b2 : ρ2 nm_number = some (.frz (.int x)) := by rw [← hρ2]; rfl
        have h0 : ((i : Int) + 1) ≠ 0 := by exact om_134
        try dsimp only [ofs_ValueError, ofs_UUclassdictUU, ofs_UUdebugUU, ofs_UUnameUU, ofs_Llaw_counts, ofs_Llaw_far, ofs_Llaw_middle, ofs_a, ofs_add_callers, ofs_append, ofs_at, ofs_b, ofs_begin, ofs_bisect_left, ofs_caller, ofs_callers, ofs_calls, ofs_count, ofs_count_calls, ofs_counts, ofs_ends, ofs_enumerate, ofs_far, ofs_farthest, ofs_func, ofs_here, ofs_hi, ofs_i, ofs_index, ofs_insert, ofs_insort_left, ofs_isinstance, ofs_items, ofs_j, ofs_k, ofs_key, ofs_law, ofs_left, ofs_len, ofs_list, ofs_lo, ofs_long, ofs_many, ofs_max, ofs_mid, ofs_middle, ofs_min, ofs_nc, ofs_new_callers, ofs_number, ofs_one, ofs_order, ofs_other, ofs_place, ofs_range, ofs_row, ofs_script, ofs_sorted, ofs_source, ofs_sum, ofs_table, ofs_target, ofs_there, ofs_tie, ofs_ties, ofs_tuple, ofs_values, ofs_waiting, ofs_x, ofs_zip, den_Ss, den_S, den_E, den_I, den_B, E_int, E_str, E_bool, E_none, E_name, E_bin, E_cmp, E_andV, E_tup, E_lst, E_upto, E_sub_name, E_sub_con, E_sub_bin, E_sub_sub, E_sub_call, E_dict0, E_dict1, E_comp, E_call, E_meth, N_lname, N_isi, B_and0, B_and, B_or0, B_or, B_cmp, B_call, I_call2, I_name, I_lst, I_tup, I_sub, I_bin, I_enum, I_items, S_assignC, S_assign_name, S_assign_con, S_assign_bin, S_assign_call, S_assign_sub, S_assign_cmp, S_assign_ifx, S_assign_lst, S_assign_tup, S_assign_dict, S_assign_boo, S_tup, S_unpack_call, S_setSub, S_augSub, S_augName, S_if, S_while, S_for_name, S_for_call, S_for_lst, S_for_tup, S_for_sub, S_ret, S_retNone, S_mut, Ss_nil, Ss_cons, L_nil, L_cons, dTests_nil, dTests_cons, N1_len, N1_sum, N1_sorted, N1_max, N1_min, N1_list, N2_max, N2_min, N2_isi, N_lrange, I_range, I_enumerate, I_items0, I_values, S_appendN, S_insertN, k0_T, k0_M, k0_mu, k0_K, S_k0, callE, bMut, T_tLaw_len, T_tLaw_sum, T_tLaw_sorted, T_tLaw_max, T_tLaw_min, T_tLaw_list, T_tLaw_range, T_tLaw_enumerate, T_tLaw_isinstance, T_tLaw_Llaw_far, T_tLaw_Llaw_counts, T_tLaw_Llaw_middle, T_tLaw_bisect_left, T_mLaw_len, T_mLaw_sum, T_mLaw_sorted, T_mLaw_max, T_mLaw_min, T_mLaw_list, T_mLaw_range, T_mLaw_enumerate, T_mLaw_isinstance, T_mLaw_insort_left]
        have e1 : (((x.fmod ((i : Int) + 1)).toNat : Nat) : Int) = x.fmod ((i : Int) + 1) := Int.toNat_of_nonneg hnn
        have e3 : binD .Add (.int (i : Int)) (.int 1) = some (.frozen, .int ((i : Int) + 1)) := rfl
        have e4 : binD .Mod (.int x) (.int ((i : Int) + 1)) = some (.frozen, .int (((x.fmod ((i : Int) + 1)).toNat : Nat) : Int)) := by
          rw [e1, binD_mod]; exact if_pos h0
        refine q_tup (xs := [(.frozen, .int (((x.fmod ((i : Int) + 1)).toNat : Nat) : Int)), (.frozen, .int ((i : Int) + 1))]) ?_ ⟨rfl, Nat.le_of_ble_eq_true rfl⟩
        repeat' first | with_reducible assumption | exact q_nil | refine' q_cmp rfl _ _ _ | refine' q_bin _ _ _ | refine' q_sub _ _ _ _ | refine' q_cons rfl _ _ | refine' q_bfn (by decide +kernel) _ _ | refine' q_call (by decide +kernel) _ _ _ | refine' q_meth (by decide +kernel) _ _ _ | refine' q_lst _ _ | refine' q_tup _ _ | refine' q_frz _ _ | refine' q_dict1 _ _ _ | refine' q_tests _ | refine' q_val _ | refine' q_list _ _ _ | refine' q_enum (by decide +kernel) _ _ _ | refine' nmF _ _ (by decide +kernel) | exact frz_nl | exact fre_nl | with_reducible exact rfl | (show D.comp _ = true; exact rfl) | (show (_ || _) = true; exact rfl) | (show lsOf _ = _; exact rfl) | (show _ ∨ _ ≠ Fl.loose; exact Or.inr (by decide)) | (show _ ∧ _ ≤ cap; exact ⟨rfl, Nat.le_of_ble_eq_true rfl⟩) | assumption
  · rfl
  generalize hρ2 : upd _ nm_ties _ = ρ2
  have b1 : ρ2 nm_script = some (.frz (.lst (ns.map .int))) := by rw [← hρ2]; exact a1
  have b2 : ρ2 nm_many = some (.frz (.int (m : Int))) := by rw [← hρ2]; exact a2
  have b3 : ρ2 nm_ties = some (.frz (.lst (ts.map tieD))) := by rw [← hρ2]; rfl
  clear hρ2
  refine run_seq (run_assignC ((List.range m).map fun a => D.lst ((rowI δ m a).map .int)) (upd ρ2 nm_table (.frz (tableD δ m))) ?_ ?_ ?_)
  · refine comp_list _ ⟨by decide +kernel, rfl, rfl, rfl⟩ (ds := rangeD (m : Int)) ?_ (by simp [rangeD]) (fun i d o hd ho => ?_) (by simp [rangeD]; exact om_135 m9 capE)
    · try dsimp only [ofs_ValueError, ofs_UUclassdictUU, ofs_UUdebugUU, ofs_UUnameUU, ofs_Llaw_counts, ofs_Llaw_far, ofs_Llaw_middle, ofs_a, ofs_add_callers, ofs_append, ofs_at, ofs_b, ofs_begin, ofs_bisect_left, ofs_caller, ofs_callers, ofs_calls, ofs_count, ofs_count_calls, ofs_counts, ofs_ends, ofs_enumerate, ofs_far, ofs_farthest, ofs_func, ofs_here, ofs_hi, ofs_i, ofs_index, ofs_insert, ofs_insort_left, ofs_isinstance, ofs_items, ofs_j, ofs_k, ofs_key, ofs_law, ofs_left, ofs_len, ofs_list, ofs_lo, ofs_long, ofs_many, ofs_max, ofs_mid, ofs_middle, ofs_min, ofs_nc, ofs_new_callers, ofs_number, ofs_one, ofs_order, ofs_other, ofs_place, ofs_range, ofs_row, ofs_script, ofs_sorted, ofs_source, ofs_sum, ofs_table, ofs_target, ofs_there, ofs_tie, ofs_ties, ofs_tuple, ofs_values, ofs_waiting, ofs_x, ofs_zip, den_Ss, den_S, den_E, den_I, den_B, E_int, E_str, E_bool, E_none, E_name, E_bin, E_cmp, E_andV, E_tup, E_lst, E_upto, E_sub_name, E_sub_con, E_sub_bin, E_sub_sub, E_sub_call, E_dict0, E_dict1, E_comp, E_call, E_meth, N_lname, N_isi, B_and0, B_and, B_or0, B_or, B_cmp, B_call, I_call2, I_name, I_lst, I_tup, I_sub, I_bin, I_enum, I_items, S_assignC, S_assign_name, S_assign_con, S_assign_bin, S_assign_call, S_assign_sub, S_assign_cmp, S_assign_ifx, S_assign_lst, S_assign_tup, S_assign_dict, S_assign_boo, S_tup, S_unpack_call, S_setSub, S_augSub, S_augName, S_if, S_while, S_for_name, S_for_call, S_for_lst, S_for_tup, S_for_sub, S_ret, S_retNone, S_mut, Ss_nil, Ss_cons, L_nil, L_cons, dTests_nil, dTests_cons, N1_len, N1_sum, N1_sorted, N1_max, N1_min, N1_list, N2_max, N2_min, N2_isi, N_lrange, I_range, I_enumerate, I_items0, I_values, S_appendN, S_insertN, k0_T, k0_M, k0_mu, k0_K, S_k0, callE, bMut, T_tLaw_len, T_tLaw_sum, T_tLaw_sorted, T_tLaw_max, T_tLaw_min, T_tLaw_list, T_tLaw_range, T_tLaw_enumerate, T_tLaw_isinstance, T_tLaw_Llaw_far, T_tLaw_Llaw_counts, T_tLaw_Llaw_middle, T_tLaw_bisect_left, T_mLaw_len, T_mLaw_sum, T_mLaw_sorted, T_mLaw_max, T_mLaw_min, T_mLaw_list, T_mLaw_range, T_mLaw_enumerate, T_mLaw_isinstance, T_mLaw_insort_left]
      exact q_range (by decide +kernel) (nmF b2 _ (by decide +kernel)) (by exact om_136 m9)
    · unfold rangeD at hd
      rw [List.getElem?_map] at hd ho
      cases hx : (List.range m)[i]? with
      | none => rw [hx] at ho; cases ho
      | some x =>
        rw [Int.toNat_natCast, hx] at hd
        rw [hx] at ho
        cases hd
        cases ho
        have hxm : x < m := List.mem_range.mp (List.mem_of_getElem? hx)
        have hf := far_ok ts m x (δ x) hxm (by exact om_137 m9) (by have := F.tl; exact om_138 this) F.tb (F.dist x hxm)
        have e : ((List.range m).map fun v => D.int (δ x v : Int)) = (rowI δ m x).map .int := by simp [rowI]
        rw [e] at hf
        refine turn0 rfl (.frozen, .lst ((rowI δ m x).map .int)) ?_ (by simp)
        generalize hρ3 : upd (rhoC _ ρ2) nm_place _ = ρ3
        have c1 : ρ3 nm_many = some (.frz (.int (m : Int))) := by rw [← hρ3]; exact b2
        have c2 : ρ3 nm_ties = some (.frz (.lst (ts.map tieD))) := by rw [← hρ3]; exact b3
        have c3 : ρ3 nm_place = some (.frz (.int (x : Int))) := by rw [← hρ3]; rfl
        try dsimp only [ofs_ValueError, ofs_UUclassdictUU, ofs_UUdebugUU, ofs_UUnameUU, ofs_Llaw_counts, ofs_Llaw_far, ofs_Llaw_middle, ofs_a, ofs_add_callers, ofs_append, ofs_at, ofs_b, ofs_begin, ofs_bisect_left, ofs_caller, ofs_callers, ofs_calls, ofs_count, ofs_count_calls, ofs_counts, ofs_ends, ofs_enumerate, ofs_far, ofs_farthest, ofs_func, ofs_here, ofs_hi, ofs_i, ofs_index, ofs_insert, ofs_insort_left, ofs_isinstance, ofs_items, ofs_j, ofs_k, ofs_key, ofs_law, ofs_left, ofs_len, ofs_list, ofs_lo, ofs_long, ofs_many, ofs_max, ofs_mid, ofs_middle, ofs_min, ofs_nc, ofs_new_callers, ofs_number, ofs_one, ofs_order, ofs_other, ofs_place, ofs_range, ofs_row, ofs_script, ofs_sorted, ofs_source, ofs_sum, ofs_table, ofs_target, ofs_there, ofs_tie, ofs_ties, ofs_tuple, ofs_values, ofs_waiting, ofs_x, ofs_zip, den_Ss, den_S, den_E, den_I, den_B, E_int, E_str, E_bool, E_none, E_name, E_bin, E_cmp, E_andV, E_tup, E_lst, E_upto, E_sub_name, E_sub_con, E_sub_bin, E_sub_sub, E_sub_call, E_dict0, E_dict1, E_comp, E_call, E_meth, N_lname, N_isi, B_and0, B_and, B_or0, B_or, B_cmp, B_call, I_call2, I_name, I_lst, I_tup, I_sub, I_bin, I_enum, I_items, S_assignC, S_assign_name, S_assign_con, S_assign_bin, S_assign_call, S_assign_sub, S_assign_cmp, S_assign_ifx, S_assign_lst, S_assign_tup, S_assign_dict, S_assign_boo, S_tup, S_unpack_call, S_setSub, S_augSub, S_augName, S_if, S_while, S_for_name, S_for_call, S_for_lst, S_for_tup, S_for_sub, S_ret, S_retNone, S_mut, Ss_nil, Ss_cons, L_nil, L_cons, dTests_nil, dTests_cons, N1_len, N1_sum, N1_sorted, N1_max, N1_min, N1_list, N2_max, N2_min, N2_isi, N_lrange, I_range, I_enumerate, I_items0, I_values, S_appendN, S_insertN, k0_T, k0_M, k0_mu, k0_K, S_k0, callE, bMut, T_tLaw_len, T_tLaw_sum, T_tLaw_sorted, T_tLaw_max, T_tLaw_min, T_tLaw_list, T_tLaw_range, T_tLaw_enumerate, T_tLaw_isinstance, T_tLaw_Llaw_far, T_tLaw_Llaw_counts, T_tLaw_Llaw_middle, T_tLaw_bisect_left, T_mLaw_len, T_mLaw_sum, T_mLaw_sorted, T_mLaw_max, T_mLaw_min, T_mLaw_list, T_mLaw_range, T_mLaw_enumerate, T_mLaw_isinstance, T_mLaw_insort_left]
        repeat' first | with_reducible assumption | exact q_nil | refine' q_cmp rfl _ _ _ | refine' q_bin _ _ _ | refine' q_sub _ _ _ _ | refine' q_cons rfl _ _ | refine' q_bfn (by decide +kernel) _ _ | refine' q_call (by decide +kernel) _ _ _ | refine' q_meth (by decide +kernel) _ _ _ | refine' q_lst _ _ | refine' q_tup _ _ | refine' q_frz _ _ | refine' q_dict1 _ _ _ | refine' q_tests _ | refine' q_val _ | refine' q_list _ _ _ | refine' q_enum (by decide +kernel) _ _ _ | refine' nmF _ _ (by decide +kernel) | exact frz_nl | exact fre_nl | with_reducible exact rfl | (show D.comp _ = true; exact rfl) | (show (_ || _) = true; exact rfl) | (show lsOf _ = _; exact rfl) | (show _ ∨ _ ≠ Fl.loose; exact Or.inr (by decide)) | (show _ ∧ _ ≤ cap; exact ⟨rfl, Nat.le_of_ble_eq_true rfl⟩) | assumption
  · rfl
  generalize hρ3 : upd _ nm_table _ = ρ3
  have c1 : ρ3 nm_script = some (.frz (.lst (ns.map .int))) := by rw [← hρ3]; exact b1
  have c2 : ρ3 nm_many = some (.frz (.int (m : Int))) := by rw [← hρ3]; exact b2
  have c3 : ρ3 nm_ties = some (.frz (.lst (ts.map tieD))) := by rw [← hρ3]; exact b3
  have c4 : ρ3 nm_table = some (.frz (tableD δ m)) := by rw [← hρ3]; rfl
  clear hρ3
  refine run_seq (run_eq .next (upd (upd ρ3 nm_farthest (.frz (.lst ((eccI ecc m).map .int)))) nm_middle (.frz (natsD M))) ?_ ?_)
  · have hmid := mid_ok ts m (by exact om_137 m9) (by have := F.tl; exact om_138 this) F.tb
    rw [F.mid] at hmid
    refine tup_names (f := .fresh) (g := .frozen) (d := .lst ((eccI ecc m).map .int)) (d2 := natsD M) (b := false) (c := false) (by decide +kernel) ?_ ?_ rfl rfl
    rotate_left
    · dsimp only [ofs_ValueError, ofs_UUclassdictUU, ofs_UUdebugUU, ofs_UUnameUU, ofs_Llaw_counts, ofs_Llaw_far, ofs_Llaw_middle, ofs_a, ofs_add_callers, ofs_append, ofs_at, ofs_b, ofs_begin, ofs_bisect_left, ofs_caller, ofs_callers, ofs_calls, ofs_count, ofs_count_calls, ofs_counts, ofs_ends, ofs_enumerate, ofs_far, ofs_farthest, ofs_func, ofs_here, ofs_hi, ofs_i, ofs_index, ofs_insert, ofs_insort_left, ofs_isinstance, ofs_items, ofs_j, ofs_k, ofs_key, ofs_law, ofs_left, ofs_len, ofs_list, ofs_lo, ofs_long, ofs_many, ofs_max, ofs_mid, ofs_middle, ofs_min, ofs_nc, ofs_new_callers, ofs_number, ofs_one, ofs_order, ofs_other, ofs_place, ofs_range, ofs_row, ofs_script, ofs_sorted, ofs_source, ofs_sum, ofs_table, ofs_target, ofs_there, ofs_tie, ofs_ties, ofs_tuple, ofs_values, ofs_waiting, ofs_x, ofs_zip, den_Ss, den_S, den_E, den_I, den_B, E_int, E_str, E_bool, E_none, E_name, E_bin, E_cmp, E_andV, E_tup, E_lst, E_upto, E_sub_name, E_sub_con, E_sub_bin, E_sub_sub, E_sub_call, E_dict0, E_dict1, E_comp, E_call, E_meth, N_lname, N_isi, B_and0, B_and, B_or0, B_or, B_cmp, B_call, I_call2, I_name, I_lst, I_tup, I_sub, I_bin, I_enum, I_items, S_assignC, S_assign_name, S_assign_con, S_assign_bin, S_assign_call, S_assign_sub, S_assign_cmp, S_assign_ifx, S_assign_lst, S_assign_tup, S_assign_dict, S_assign_boo, S_tup, S_unpack_call, S_setSub, S_augSub, S_augName, S_if, S_while, S_for_name, S_for_call, S_for_lst, S_for_tup, S_for_sub, S_ret, S_retNone, S_mut, Ss_nil, Ss_cons, L_nil, L_cons, dTests_nil, dTests_cons, N1_len, N1_sum, N1_sorted, N1_max, N1_min, N1_list, N2_max, N2_min, N2_isi, N_lrange, I_range, I_enumerate, I_items0, I_values, S_appendN, S_insertN, k0_T, k0_M, k0_mu, k0_K, S_k0, callE, bMut, T_tLaw_len, T_tLaw_sum, T_tLaw_sorted, T_tLaw_max, T_tLaw_min, T_tLaw_list, T_tLaw_range, T_tLaw_enumerate, T_tLaw_isinstance, T_tLaw_Llaw_far, T_tLaw_Llaw_counts, T_tLaw_Llaw_middle, T_tLaw_bisect_left, T_mLaw_len, T_mLaw_sum, T_mLaw_sorted, T_mLaw_max, T_mLaw_min, T_mLaw_list, T_mLaw_range, T_mLaw_enumerate, T_mLaw_isinstance, T_mLaw_insort_left]
      repeat' first | with_reducible assumption | exact q_nil | refine' q_cmp rfl _ _ _ | refine' q_bin _ _ _ | refine' q_sub _ _ _ _ | refine' q_cons rfl _ _ | refine' q_bfn (by decide +kernel) _ _ | refine' q_call (by decide +kernel) _ _ _ | refine' q_meth (by decide +kernel) _ _ _ | refine' q_lst _ _ | refine' q_tup _ _ | refine' q_frz _ _ | refine' q_dict1 _ _ _ | refine' q_tests _ | refine' q_val _ | refine' q_list _ _ _ | refine' q_enum (by decide +kernel) _ _ _ | refine' nmF _ _ (by decide +kernel) | exact frz_nl | exact fre_nl | with_reducible exact rfl | (show D.comp _ = true; exact rfl) | (show (_ || _) = true; exact rfl) | (show lsOf _ = _; exact rfl) | (show _ ∨ _ ≠ Fl.loose; exact Or.inr (by decide)) | (show _ ∧ _ ≤ cap; exact ⟨rfl, Nat.le_of_ble_eq_true rfl⟩) | assumption
    dsimp only [ofs_ValueError, ofs_UUclassdictUU, ofs_UUdebugUU, ofs_UUnameUU, ofs_Llaw_counts, ofs_Llaw_far, ofs_Llaw_middle, ofs_a, ofs_add_callers, ofs_append, ofs_at, ofs_b, ofs_begin, ofs_bisect_left, ofs_caller, ofs_callers, ofs_calls, ofs_count, ofs_count_calls, ofs_counts, ofs_ends, ofs_enumerate, ofs_far, ofs_farthest, ofs_func, ofs_here, ofs_hi, ofs_i, ofs_index, ofs_insert, ofs_insort_left, ofs_isinstance, ofs_items, ofs_j, ofs_k, ofs_key, ofs_law, ofs_left, ofs_len, ofs_list, ofs_lo, ofs_long, ofs_many, ofs_max, ofs_mid, ofs_middle, ofs_min, ofs_nc, ofs_new_callers, ofs_number, ofs_one, ofs_order, ofs_other, ofs_place, ofs_range, ofs_row, ofs_script, ofs_sorted, ofs_source, ofs_sum, ofs_table, ofs_target, ofs_there, ofs_tie, ofs_ties, ofs_tuple, ofs_values, ofs_waiting, ofs_x, ofs_zip, den_Ss, den_S, den_E, den_I, den_B, E_int, E_str, E_bool, E_none, E_name, E_bin, E_cmp, E_andV, E_tup, E_lst, E_upto, E_sub_name, E_sub_con, E_sub_bin, E_sub_sub, E_sub_call, E_dict0, E_dict1, E_comp, E_call, E_meth, N_lname, N_isi, B_and0, B_and, B_or0, B_or, B_cmp, B_call, I_call2, I_name, I_lst, I_tup, I_sub, I_bin, I_enum, I_items, S_assignC, S_assign_name, S_assign_con, S_assign_bin, S_assign_call, S_assign_sub, S_assign_cmp, S_assign_ifx, S_assign_lst, S_assign_tup, S_assign_dict, S_assign_boo, S_tup, S_unpack_call, S_setSub, S_augSub, S_augName, S_if, S_while, S_for_name, S_for_call, S_for_lst, S_for_tup, S_for_sub, S_ret, S_retNone, S_mut, Ss_nil, Ss_cons, L_nil, L_cons, dTests_nil, dTests_cons, N1_len, N1_sum, N1_sorted, N1_max, N1_min, N1_list, N2_max, N2_min, N2_isi, N_lrange, I_range, I_enumerate, I_items0, I_values, S_appendN, S_insertN, k0_T, k0_M, k0_mu, k0_K, S_k0, callE, bMut, T_tLaw_len, T_tLaw_sum, T_tLaw_sorted, T_tLaw_max, T_tLaw_min, T_tLaw_list, T_tLaw_range, T_tLaw_enumerate, T_tLaw_isinstance, T_tLaw_Llaw_far, T_tLaw_Llaw_counts, T_tLaw_Llaw_middle, T_tLaw_bisect_left, T_mLaw_len, T_mLaw_sum, T_mLaw_sorted, T_mLaw_max, T_mLaw_min, T_mLaw_list, T_mLaw_range, T_mLaw_enumerate, T_mLaw_isinstance, T_mLaw_insort_left]
    generalize hX : dComp kf_10 _ _ _ _ _ _ _ ρ3 = X
    have hXe : X = some ((eccI ecc m).map .int) := by
      rw [← hX]
      refine comp_list _ ⟨by decide +kernel, rfl, rfl, rfl⟩ (ds := (List.range m).map fun a => D.lst ((rowI δ m a).map .int)) ?_ (by simp [eccI]) (fun i d o hd ho => ?_) (by simp; exact om_135 m9 capE)
      · try dsimp only [ofs_ValueError, ofs_UUclassdictUU, ofs_UUdebugUU, ofs_UUnameUU, ofs_Llaw_counts, ofs_Llaw_far, ofs_Llaw_middle, ofs_a, ofs_add_callers, ofs_append, ofs_at, ofs_b, ofs_begin, ofs_bisect_left, ofs_caller, ofs_callers, ofs_calls, ofs_count, ofs_count_calls, ofs_counts, ofs_ends, ofs_enumerate, ofs_far, ofs_farthest, ofs_func, ofs_here, ofs_hi, ofs_i, ofs_index, ofs_insert, ofs_insort_left, ofs_isinstance, ofs_items, ofs_j, ofs_k, ofs_key, ofs_law, ofs_left, ofs_len, ofs_list, ofs_lo, ofs_long, ofs_many, ofs_max, ofs_mid, ofs_middle, ofs_min, ofs_nc, ofs_new_callers, ofs_number, ofs_one, ofs_order, ofs_other, ofs_place, ofs_range, ofs_row, ofs_script, ofs_sorted, ofs_source, ofs_sum, ofs_table, ofs_target, ofs_there, ofs_tie, ofs_ties, ofs_tuple, ofs_values, ofs_waiting, ofs_x, ofs_zip, den_Ss, den_S, den_E, den_I, den_B, E_int, E_str, E_bool, E_none, E_name, E_bin, E_cmp, E_andV, E_tup, E_lst, E_upto, E_sub_name, E_sub_con, E_sub_bin, E_sub_sub, E_sub_call, E_dict0, E_dict1, E_comp, E_call, E_meth, N_lname, N_isi, B_and0, B_and, B_or0, B_or, B_cmp, B_call, I_call2, I_name, I_lst, I_tup, I_sub, I_bin, I_enum, I_items, S_assignC, S_assign_name, S_assign_con, S_assign_bin, S_assign_call, S_assign_sub, S_assign_cmp, S_assign_ifx, S_assign_lst, S_assign_tup, S_assign_dict, S_assign_boo, S_tup, S_unpack_call, S_setSub, S_augSub, S_augName, S_if, S_while, S_for_name, S_for_call, S_for_lst, S_for_tup, S_for_sub, S_ret, S_retNone, S_mut, Ss_nil, Ss_cons, L_nil, L_cons, dTests_nil, dTests_cons, N1_len, N1_sum, N1_sorted, N1_max, N1_min, N1_list, N2_max, N2_min, N2_isi, N_lrange, I_range, I_enumerate, I_items0, I_values, S_appendN, S_insertN, k0_T, k0_M, k0_mu, k0_K, S_k0, callE, bMut, T_tLaw_len, T_tLaw_sum, T_tLaw_sorted, T_tLaw_max, T_tLaw_min, T_tLaw_list, T_tLaw_range, T_tLaw_enumerate, T_tLaw_isinstance, T_tLaw_Llaw_far, T_tLaw_Llaw_counts, T_tLaw_Llaw_middle, T_tLaw_bisect_left, T_mLaw_len, T_mLaw_sum, T_mLaw_sorted, T_mLaw_max, T_mLaw_min, T_mLaw_list, T_mLaw_range, T_mLaw_enumerate, T_mLaw_isinstance, T_mLaw_insort_left]
        repeat' first | with_reducible assumption | exact q_nil | refine' q_cmp rfl _ _ _ | refine' q_bin _ _ _ | refine' q_sub _ _ _ _ | refine' q_cons rfl _ _ | refine' q_bfn (by decide +kernel) _ _ | refine' q_call (by decide +kernel) _ _ _ | refine' q_meth (by decide +kernel) _ _ _ | refine' q_lst _ _ | refine' q_tup _ _ | refine' q_frz _ _ | refine' q_dict1 _ _ _ | refine' q_tests _ | refine' q_val _ | refine' q_list _ _ _ | refine' q_enum (by decide +kernel) _ _ _ | refine' nmF _ _ (by decide +kernel) | exact frz_nl | exact fre_nl | with_reducible exact rfl | (show D.comp _ = true; exact rfl) | (show (_ || _) = true; exact rfl) | (show lsOf _ = _; exact rfl) | (show _ ∨ _ ≠ Fl.loose; exact Or.inr (by decide)) | (show _ ∧ _ ≤ cap; exact ⟨rfl, Nat.le_of_ble_eq_true rfl⟩) | assumption
      · unfold eccI at ho
        rw [List.getElem?_map] at hd ho
        rw [List.getElem?_map] at ho
        cases hx : (List.range m)[i]? with
        | none => rw [hx] at ho; cases ho
        | some x =>
          rw [hx] at hd ho
          cases hd
          cases ho
          have hxm : x < m := List.mem_range.mp (List.mem_of_getElem? hx)
          have hne : rowI δ m x ≠ [] := by
            intro e
            have := congrArg List.length e
            simp [rowI] at this
            exact absurd_om (om_139 hxm this)
          have hmx := bfn_max .frozen (rowI δ m x) hne
          rw [F.eccE x hxm] at hmx
          refine turn0 rfl (.frozen, .int (ecc x : Int)) ?_ (by simp)
          generalize hρ4 : upd (rhoC _ ρ3) nm_row _ = ρ4
          have d1 : ρ4 nm_row = some (.frz (.lst ((rowI δ m x).map .int))) := by rw [← hρ4]; rfl
          try dsimp only [ofs_ValueError, ofs_UUclassdictUU, ofs_UUdebugUU, ofs_UUnameUU, ofs_Llaw_counts, ofs_Llaw_far, ofs_Llaw_middle, ofs_a, ofs_add_callers, ofs_append, ofs_at, ofs_b, ofs_begin, ofs_bisect_left, ofs_caller, ofs_callers, ofs_calls, ofs_count, ofs_count_calls, ofs_counts, ofs_ends, ofs_enumerate, ofs_far, ofs_farthest, ofs_func, ofs_here, ofs_hi, ofs_i, ofs_index, ofs_insert, ofs_insort_left, ofs_isinstance, ofs_items, ofs_j, ofs_k, ofs_key, ofs_law, ofs_left, ofs_len, ofs_list, ofs_lo, ofs_long, ofs_many, ofs_max, ofs_mid, ofs_middle, ofs_min, ofs_nc, ofs_new_callers, ofs_number, ofs_one, ofs_order, ofs_other, ofs_place, ofs_range, ofs_row, ofs_script, ofs_sorted, ofs_source, ofs_sum, ofs_table, ofs_target, ofs_there, ofs_tie, ofs_ties, ofs_tuple, ofs_values, ofs_waiting, ofs_x, ofs_zip, den_Ss, den_S, den_E, den_I, den_B, E_int, E_str, E_bool, E_none, E_name, E_bin, E_cmp, E_andV, E_tup, E_lst, E_upto, E_sub_name, E_sub_con, E_sub_bin, E_sub_sub, E_sub_call, E_dict0, E_dict1, E_comp, E_call, E_meth, N_lname, N_isi, B_and0, B_and, B_or0, B_or, B_cmp, B_call, I_call2, I_name, I_lst, I_tup, I_sub, I_bin, I_enum, I_items, S_assignC, S_assign_name, S_assign_con, S_assign_bin, S_assign_call, S_assign_sub, S_assign_cmp, S_assign_ifx, S_assign_lst, S_assign_tup, S_assign_dict, S_assign_boo, S_tup, S_unpack_call, S_setSub, S_augSub, S_augName, S_if, S_while, S_for_name, S_for_call, S_for_lst, S_for_tup, S_for_sub, S_ret, S_retNone, S_mut, Ss_nil, Ss_cons, L_nil, L_cons, dTests_nil, dTests_cons, N1_len, N1_sum, N1_sorted, N1_max, N1_min, N1_list, N2_max, N2_min, N2_isi, N_lrange, I_range, I_enumerate, I_items0, I_values, S_appendN, S_insertN, k0_T, k0_M, k0_mu, k0_K, S_k0, callE, bMut, T_tLaw_len, T_tLaw_sum, T_tLaw_sorted, T_tLaw_max, T_tLaw_min, T_tLaw_list, T_tLaw_range, T_tLaw_enumerate, T_tLaw_isinstance, T_tLaw_Llaw_far, T_tLaw_Llaw_counts, T_tLaw_Llaw_middle, T_tLaw_bisect_left, T_mLaw_len, T_mLaw_sum, T_mLaw_sorted, T_mLaw_max, T_mLaw_min, T_mLaw_list, T_mLaw_range, T_mLaw_enumerate, T_mLaw_isinstance, T_mLaw_insort_left]
          repeat' first | with_reducible assumption | exact q_nil | refine' q_cmp rfl _ _ _ | refine' q_bin _ _ _ | refine' q_sub _ _ _ _ | refine' q_cons rfl _ _ | refine' q_bfn (by decide +kernel) _ _ | refine' q_call (by decide +kernel) _ _ _ | refine' q_meth (by decide +kernel) _ _ _ | refine' q_lst _ _ | refine' q_tup _ _ | refine' q_frz _ _ | refine' q_dict1 _ _ _ | refine' q_tests _ | refine' q_val _ | refine' q_list _ _ _ | refine' q_enum (by decide +kernel) _ _ _ | refine' nmF _ _ (by decide +kernel) | exact frz_nl | exact fre_nl | with_reducible exact rfl | (show D.comp _ = true; exact rfl) | (show (_ || _) = true; exact rfl) | (show lsOf _ = _; exact rfl) | (show _ ∨ _ ≠ Fl.loose; exact Or.inr (by decide)) | (show _ ∧ _ ≤ cap; exact ⟨rfl, Nat.le_of_ble_eq_true rfl⟩) | assumption
    rw [hXe]
    rfl
  generalize hρ4 : upd (upd ρ3 nm_farthest _) nm_middle _ = ρ4
  have S : LawSt ns m ts δ ecc M ρ4 := ⟨by rw [← hρ4]; exact c1, by rw [← hρ4]; exact c2, by rw [← hρ4]; exact c3, by rw [← hρ4]; exact c4, by rw [← hρ4]; rfl, by rw [← hρ4]; rfl⟩
  clear hρ4 c1 c2 c3 c4 b1 b2 b3 a1 a2
  have hne : eccI ecc m ≠ [] := by
    intro e
    have h0 := F.m0
    have := congrArg List.length e
    simp [eccI] at this
    exact absurd_om (om_140 h0 this)
  have hMlt : ∀ v ∈ M, v < m := fun v hv => by rw [F.midE] at hv; exact List.mem_range.mp (List.mem_filter.mp hv).1
  have hMlen : M.length ≤ m := by rw [F.midE]; exact Nat.le_trans (List.length_filter_le _ _) (by simp)
  have bmax := bfn_max .frozen (eccI ecc m) hne
  rw [F.longE] at bmax
  have bmin := bfn_min .frozen (eccI ecc m) hne
  rw [F.radE] at bmin
  refine run_seq (run_if false ?_ ?_)
  · have hs : cmpD .Is (natsD M) .none = some false := rfl
    have hm := S.middle
    refine q_or (q_cmp rfl (nmF hm _ (by decide +kernel)) rfl hs) (q_or (q_cmp rfl (nmF hm _ (by decide +kernel)) (q_comp ?_) (cmp_ne_nats M)) rfl)
    · have e := filt_nats (fun v => decide (ecc v = rad)) (List.range m)
      rw [← F.midE] at e
      rw [← e]
      refine comp_filter (qNat _) id ⟨by decide +kernel, rfl, rfl, rfl⟩ ?_ (fun d hd => ?_) (by simp; exact om_135 m9 capE)
      · try dsimp only [ofs_ValueError, ofs_UUclassdictUU, ofs_UUdebugUU, ofs_UUnameUU, ofs_Llaw_counts, ofs_Llaw_far, ofs_Llaw_middle, ofs_a, ofs_add_callers, ofs_append, ofs_at, ofs_b, ofs_begin, ofs_bisect_left, ofs_caller, ofs_callers, ofs_calls, ofs_count, ofs_count_calls, ofs_counts, ofs_ends, ofs_enumerate, ofs_far, ofs_farthest, ofs_func, ofs_here, ofs_hi, ofs_i, ofs_index, ofs_insert, ofs_insort_left, ofs_isinstance, ofs_items, ofs_j, ofs_k, ofs_key, ofs_law, ofs_left, ofs_len, ofs_list, ofs_lo, ofs_long, ofs_many, ofs_max, ofs_mid, ofs_middle, ofs_min, ofs_nc, ofs_new_callers, ofs_number, ofs_one, ofs_order, ofs_other, ofs_place, ofs_range, ofs_row, ofs_script, ofs_sorted, ofs_source, ofs_sum, ofs_table, ofs_target, ofs_there, ofs_tie, ofs_ties, ofs_tuple, ofs_values, ofs_waiting, ofs_x, ofs_zip, den_Ss, den_S, den_E, den_I, den_B, E_int, E_str, E_bool, E_none, E_name, E_bin, E_cmp, E_andV, E_tup, E_lst, E_upto, E_sub_name, E_sub_con, E_sub_bin, E_sub_sub, E_sub_call, E_dict0, E_dict1, E_comp, E_call, E_meth, N_lname, N_isi, B_and0, B_and, B_or0, B_or, B_cmp, B_call, I_call2, I_name, I_lst, I_tup, I_sub, I_bin, I_enum, I_items, S_assignC, S_assign_name, S_assign_con, S_assign_bin, S_assign_call, S_assign_sub, S_assign_cmp, S_assign_ifx, S_assign_lst, S_assign_tup, S_assign_dict, S_assign_boo, S_tup, S_unpack_call, S_setSub, S_augSub, S_augName, S_if, S_while, S_for_name, S_for_call, S_for_lst, S_for_tup, S_for_sub, S_ret, S_retNone, S_mut, Ss_nil, Ss_cons, L_nil, L_cons, dTests_nil, dTests_cons, N1_len, N1_sum, N1_sorted, N1_max, N1_min, N1_list, N2_max, N2_min, N2_isi, N_lrange, I_range, I_enumerate, I_items0, I_values, S_appendN, S_insertN, k0_T, k0_M, k0_mu, k0_K, S_k0, callE, bMut, T_tLaw_len, T_tLaw_sum, T_tLaw_sorted, T_tLaw_max, T_tLaw_min, T_tLaw_list, T_tLaw_range, T_tLaw_enumerate, T_tLaw_isinstance, T_tLaw_Llaw_far, T_tLaw_Llaw_counts, T_tLaw_Llaw_middle, T_tLaw_bisect_left, T_mLaw_len, T_mLaw_sum, T_mLaw_sorted, T_mLaw_max, T_mLaw_min, T_mLaw_list, T_mLaw_range, T_mLaw_enumerate, T_mLaw_isinstance, T_mLaw_insort_left]
        refine (q_range (by decide +kernel) (nmF S.many _ (by decide +kernel)) (by exact om_136 m9)).trans ?_
        simp [rangeD]
      · obtain ⟨v, hv, rfl⟩ := List.mem_map.mp hd
        have hvm := List.mem_range.mp hv
        have eq : qNat (fun v => decide (ecc v = rad)) (.int (v : Int)) = decide (ecc v = rad) := rfl
        rw [eq]
        refine turn1 rfl (decide (ecc v = rad)) ?_ (.frozen, .int (v : Int)) fun _ => ⟨?_, by simp⟩
        · generalize hρ5 : upd (rhoC _ ρ4) nm_place _ = ρ5
          have d1 : ρ5 nm_farthest = some (.frz (.lst ((eccI ecc m).map .int))) := by rw [← hρ5]; exact S.farthest
          have d2 : ρ5 nm_place = some (.frz (.int (v : Int))) := by rw [← hρ5]; rfl
          have hit := ints_item (eccI ecc m) v (ecc v) (by simp [eccI, hvm]) (by exact om_141 m9 hvm)
          have hc := cmp_eqN (ecc v) rad
          try dsimp only [ofs_ValueError, ofs_UUclassdictUU, ofs_UUdebugUU, ofs_UUnameUU, ofs_Llaw_counts, ofs_Llaw_far, ofs_Llaw_middle, ofs_a, ofs_add_callers, ofs_append, ofs_at, ofs_b, ofs_begin, ofs_bisect_left, ofs_caller, ofs_callers, ofs_calls, ofs_count, ofs_count_calls, ofs_counts, ofs_ends, ofs_enumerate, ofs_far, ofs_farthest, ofs_func, ofs_here, ofs_hi, ofs_i, ofs_index, ofs_insert, ofs_insort_left, ofs_isinstance, ofs_items, ofs_j, ofs_k, ofs_key, ofs_law, ofs_left, ofs_len, ofs_list, ofs_lo, ofs_long, ofs_many, ofs_max, ofs_mid, ofs_middle, ofs_min, ofs_nc, ofs_new_callers, ofs_number, ofs_one, ofs_order, ofs_other, ofs_place, ofs_range, ofs_row, ofs_script, ofs_sorted, ofs_source, ofs_sum, ofs_table, ofs_target, ofs_there, ofs_tie, ofs_ties, ofs_tuple, ofs_values, ofs_waiting, ofs_x, ofs_zip, den_Ss, den_S, den_E, den_I, den_B, E_int, E_str, E_bool, E_none, E_name, E_bin, E_cmp, E_andV, E_tup, E_lst, E_upto, E_sub_name, E_sub_con, E_sub_bin, E_sub_sub, E_sub_call, E_dict0, E_dict1, E_comp, E_call, E_meth, N_lname, N_isi, B_and0, B_and, B_or0, B_or, B_cmp, B_call, I_call2, I_name, I_lst, I_tup, I_sub, I_bin, I_enum, I_items, S_assignC, S_assign_name, S_assign_con, S_assign_bin, S_assign_call, S_assign_sub, S_assign_cmp, S_assign_ifx, S_assign_lst, S_assign_tup, S_assign_dict, S_assign_boo, S_tup, S_unpack_call, S_setSub, S_augSub, S_augName, S_if, S_while, S_for_name, S_for_call, S_for_lst, S_for_tup, S_for_sub, S_ret, S_retNone, S_mut, Ss_nil, Ss_cons, L_nil, L_cons, dTests_nil, dTests_cons, N1_len, N1_sum, N1_sorted, N1_max, N1_min, N1_list, N2_max, N2_min, N2_isi, N_lrange, I_range, I_enumerate, I_items0, I_values, S_appendN, S_insertN, k0_T, k0_M, k0_mu, k0_K, S_k0, callE, bMut, T_tLaw_len, T_tLaw_sum, T_tLaw_sorted, T_tLaw_max, T_tLaw_min, T_tLaw_list, T_tLaw_range, T_tLaw_enumerate, T_tLaw_isinstance, T_tLaw_Llaw_far, T_tLaw_Llaw_counts, T_tLaw_Llaw_middle, T_tLaw_bisect_left, T_mLaw_len, T_mLaw_sum, T_mLaw_sorted, T_mLaw_max, T_mLaw_min, T_mLaw_list, T_mLaw_range, T_mLaw_enumerate, T_mLaw_isinstance, T_mLaw_insort_left]
          refine q_one ?_
          repeat' first | with_reducible assumption | exact q_nil | refine' q_cmp rfl _ _ _ | refine' q_bin _ _ _ | refine' q_sub _ _ _ _ | refine' q_cons rfl _ _ | refine' q_bfn (by decide +kernel) _ _ | refine' q_call (by decide +kernel) _ _ _ | refine' q_meth (by decide +kernel) _ _ _ | refine' q_lst _ _ | refine' q_tup _ _ | refine' q_frz _ _ | refine' q_dict1 _ _ _ | refine' q_tests _ | refine' q_val _ | refine' q_list _ _ _ | refine' q_enum (by decide +kernel) _ _ _ | refine' nmF _ _ (by decide +kernel) | exact frz_nl | exact fre_nl | with_reducible exact rfl | (show D.comp _ = true; exact rfl) | (show (_ || _) = true; exact rfl) | (show lsOf _ = _; exact rfl) | (show _ ∨ _ ≠ Fl.loose; exact Or.inr (by decide)) | (show _ ∧ _ ≤ cap; exact ⟨rfl, Nat.le_of_ble_eq_true rfl⟩) | assumption
        · try dsimp only [ofs_ValueError, ofs_UUclassdictUU, ofs_UUdebugUU, ofs_UUnameUU, ofs_Llaw_counts, ofs_Llaw_far, ofs_Llaw_middle, ofs_a, ofs_add_callers, ofs_append, ofs_at, ofs_b, ofs_begin, ofs_bisect_left, ofs_caller, ofs_callers, ofs_calls, ofs_count, ofs_count_calls, ofs_counts, ofs_ends, ofs_enumerate, ofs_far, ofs_farthest, ofs_func, ofs_here, ofs_hi, ofs_i, ofs_index, ofs_insert, ofs_insort_left, ofs_isinstance, ofs_items, ofs_j, ofs_k, ofs_key, ofs_law, ofs_left, ofs_len, ofs_list, ofs_lo, ofs_long, ofs_many, ofs_max, ofs_mid, ofs_middle, ofs_min, ofs_nc, ofs_new_callers, ofs_number, ofs_one, ofs_order, ofs_other, ofs_place, ofs_range, ofs_row, ofs_script, ofs_sorted, ofs_source, ofs_sum, ofs_table, ofs_target, ofs_there, ofs_tie, ofs_ties, ofs_tuple, ofs_values, ofs_waiting, ofs_x, ofs_zip, den_Ss, den_S, den_E, den_I, den_B, E_int, E_str, E_bool, E_none, E_name, E_bin, E_cmp, E_andV, E_tup, E_lst, E_upto, E_sub_name, E_sub_con, E_sub_bin, E_sub_sub, E_sub_call, E_dict0, E_dict1, E_comp, E_call, E_meth, N_lname, N_isi, B_and0, B_and, B_or0, B_or, B_cmp, B_call, I_call2, I_name, I_lst, I_tup, I_sub, I_bin, I_enum, I_items, S_assignC, S_assign_name, S_assign_con, S_assign_bin, S_assign_call, S_assign_sub, S_assign_cmp, S_assign_ifx, S_assign_lst, S_assign_tup, S_assign_dict, S_assign_boo, S_tup, S_unpack_call, S_setSub, S_augSub, S_augName, S_if, S_while, S_for_name, S_for_call, S_for_lst, S_for_tup, S_for_sub, S_ret, S_retNone, S_mut, Ss_nil, Ss_cons, L_nil, L_cons, dTests_nil, dTests_cons, N1_len, N1_sum, N1_sorted, N1_max, N1_min, N1_list, N2_max, N2_min, N2_isi, N_lrange, I_range, I_enumerate, I_items0, I_values, S_appendN, S_insertN, k0_T, k0_M, k0_mu, k0_K, S_k0, callE, bMut, T_tLaw_len, T_tLaw_sum, T_tLaw_sorted, T_tLaw_max, T_tLaw_min, T_tLaw_list, T_tLaw_range, T_tLaw_enumerate, T_tLaw_isinstance, T_tLaw_Llaw_far, T_tLaw_Llaw_counts, T_tLaw_Llaw_middle, T_tLaw_bisect_left, T_mLaw_len, T_mLaw_sum, T_mLaw_sorted, T_mLaw_max, T_mLaw_min, T_mLaw_list, T_mLaw_range, T_mLaw_enumerate, T_mLaw_isinstance, T_mLaw_insort_left]
          exact nmF rfl _ (by decide +kernel)
  simp only [Bool.false_eq_true, if_false]
  refine run_nil ?_
  refine run_seq (run_if false ?_ ?_)
  · have hl : bfnD nm_len [(Fl.frozen, natsD M)] = some (.frozen, .int (M.length : Int)) := by
      rw [show natsD M = .lst (M.map fun v : Nat => .int (v : Int)) from rfl, bfn_len, List.length_map]
    have hm := S.middle
    have ht := S.table
    by_cases q : M.length = 2
    · obtain ⟨a, b, hab⟩ : ∃ a b, M = [a, b] := by
        match M, q with
        | [a, b], _ => exact ⟨a, b, rfl⟩
      have ha := hMlt a (by rw [hab]; simp)
      have hb := hMlt b (by rw [hab]; simp)
      have h2 := F.two a b hab
      have i0 : itemD (natsD M) (.int 0) = some (.int (a : Int)) := by rw [hab]; rfl
      have i1 : itemD (natsD M) (.int 1) = some (.int (b : Int)) := by rw [hab]; rfl
      have i2 := table_item δ m a ha (by exact om_142 m9)
      have i3 := row_item δ m a b hb (by exact om_142 m9)
      rw [h2] at i3
      have hc : cmpD .Eq (.int (M.length : Int)) (.int 2) = some true := by rw [q]; exact cmp_eqN 2 2
      have hc1 : cmpD .NotEq (.int ((1 : Nat) : Int)) (.int 1) = some false := cmp_neN 1 1
      refine q_and (q_cmp (fx := .frozen) (fy := .frozen) rfl ?_ ?_ hc) (q_andF (q_cmp (fx := .frozen) (fy := .frozen) rfl ?_ ?_ hc1))
      repeat' first | with_reducible assumption | exact q_nil | refine' q_cmp rfl _ _ _ | refine' q_bin _ _ _ | refine' q_sub _ _ _ _ | refine' q_cons rfl _ _ | refine' q_bfn (by decide +kernel) _ _ | refine' q_call (by decide +kernel) _ _ _ | refine' q_meth (by decide +kernel) _ _ _ | refine' q_lst _ _ | refine' q_tup _ _ | refine' q_frz _ _ | refine' q_dict1 _ _ _ | refine' q_tests _ | refine' q_val _ | refine' q_list _ _ _ | refine' q_enum (by decide +kernel) _ _ _ | refine' nmF _ _ (by decide +kernel) | exact frz_nl | exact fre_nl | with_reducible exact rfl | (show D.comp _ = true; exact rfl) | (show (_ || _) = true; exact rfl) | (show lsOf _ = _; exact rfl) | (show _ ∨ _ ≠ Fl.loose; exact Or.inr (by decide)) | (show _ ∧ _ ≤ cap; exact ⟨rfl, Nat.le_of_ble_eq_true rfl⟩) | assumption
    · have hc : cmpD .Eq (.int (M.length : Int)) (.int 2) = some false := (cmp_eqN M.length 2).trans (congrArg some (decide_eq_false q))
      refine q_andF (q_cmp (fx := .frozen) (fy := .frozen) rfl ?_ ?_ hc)
      repeat' first | with_reducible assumption | exact q_nil | refine' q_cmp rfl _ _ _ | refine' q_bin _ _ _ | refine' q_sub _ _ _ _ | refine' q_cons rfl _ _ | refine' q_bfn (by decide +kernel) _ _ | refine' q_call (by decide +kernel) _ _ _ | refine' q_meth (by decide +kernel) _ _ _ | refine' q_lst _ _ | refine' q_tup _ _ | refine' q_frz _ _ | refine' q_dict1 _ _ _ | refine' q_tests _ | refine' q_val _ | refine' q_list _ _ _ | refine' q_enum (by decide +kernel) _ _ _ | refine' nmF _ _ (by decide +kernel) | exact frz_nl | exact fre_nl | with_reducible exact rfl | (show D.comp _ = true; exact rfl) | (show (_ || _) = true; exact rfl) | (show lsOf _ = _; exact rfl) | (show _ ∨ _ ≠ Fl.loose; exact Or.inr (by decide)) | (show _ ∧ _ ≤ cap; exact ⟨rfl, Nat.le_of_ble_eq_true rfl⟩) | assumption
  simp only [Bool.false_eq_true, if_false]
  refine run_nil ?_
  try dsimp only
  let x0 : Int := (ns ++ [0]).head (by simp)
  let b0 : Nat := (x0.fmod (m : Int)).toNat
  have m0 := F.m0
  have hb0 : (b0 : Int) = x0.fmod (m : Int) := Int.toNat_of_nonneg (Int.fmod_nonneg_of_pos _ (by exact om_143 m0))
  have hb1 : b0 < m := by have := Int.fmod_lt_of_pos x0 (show (0 : Int) < m by exact om_143 m0); exact om_144 hb0 this
  refine run_seq (run_assign (.frozen, .lst ((rowI δ m b0).map .int)) _ ?_ rfl rfl ?_)
  · have e1 : binD .Add (.lst (ns.map .int)) (.lst [.int 0]) = some (.fresh, .lst ((ns ++ [0]).map .int)) := by
      simp only [binD_add, binD_sub, binD_mul, binD_mod, binD_fdiv, binD_app]
      rw [if_pos (by simp; exact om_145 hn capE)]
      simp
    have e2 : itemD (.lst ((ns ++ [0]).map .int)) (.int 0) = some (.int x0) := ints_item (ns ++ [0]) 0 x0 (by rw [← List.head?_eq_getElem?]; exact List.head?_eq_some_head _) (by exact om_146)
    have e3 : binD .Mod (.int x0) (.int (m : Int)) = some (.frozen, .int (b0 : Int)) := by
      simp only [binD_add, binD_sub, binD_mul, binD_mod, binD_fdiv, binD_app]
      rw [if_pos (by exact om_147 hb1), hb0]
    have i2 := table_item δ m b0 hb1 (by exact om_142 m9)
    have h1 := S.script
    have h2 := S.many
    have h3 := S.table
    repeat' first | with_reducible assumption | exact q_nil | refine' q_cmp rfl _ _ _ | refine' q_bin _ _ _ | refine' q_sub _ _ _ _ | refine' q_cons rfl _ _ | refine' q_bfn (by decide +kernel) _ _ | refine' q_call (by decide +kernel) _ _ _ | refine' q_meth (by decide +kernel) _ _ _ | refine' q_lst _ _ | refine' q_tup _ _ | refine' q_frz _ _ | refine' q_dict1 _ _ _ | refine' q_tests _ | refine' q_val _ | refine' q_list _ _ _ | refine' q_enum (by decide +kernel) _ _ _ | refine' nmF _ _ (by decide +kernel) | exact frz_nl | exact fre_nl | with_reducible exact rfl | (show D.comp _ = true; exact rfl) | (show (_ || _) = true; exact rfl) | (show lsOf _ = _; exact rfl) | (show _ ∨ _ ≠ Fl.loose; exact Or.inr (by decide)) | (show _ ∧ _ ≤ cap; exact ⟨rfl, Nat.le_of_ble_eq_true rfl⟩) | assumption
  generalize hρ5 : upd ρ4 nm_begin _ = ρ5
  have S5 : LawSt ns m ts δ ecc M ρ5 := by rw [← hρ5]; exact S.upd _ _ (by decide)
  have b5 : ρ5 nm_begin = some (.frz (.lst ((rowI δ m b0).map .int))) := by rw [← hρ5]; rfl
  clear hρ5
  have hrne : ∀ a, rowI δ m a ≠ [] := by
    intro a e
    have := congrArg List.length e
    simp [rowI] at this
    exact absurd_om (om_139 hb1 this)
  have hbm := bfn_max .frozen (rowI δ m b0) (hrne b0)
  have hmm := maxI_mem (rowI δ m b0) (hrne b0)
  rw [F.eccE b0 hb1] at hbm hmm
  let one : Nat := (rowI δ m b0).idxOf (ecc b0 : Int)
  have ho1 : one < m := by
    have := List.idxOf_lt_length_iff.mpr hmm
    have e : (rowI δ m b0).length = m := by simp [rowI]
    exact e ▸ this
  have ho2 : δ b0 one = ecc b0 := by
    have := List.getElem_idxOf (List.idxOf_lt_length_iff.mpr hmm)
    have h2 : (rowI δ m b0)[one]'(List.idxOf_lt_length_iff.mpr hmm) = (δ b0 one : Int) := by simp [rowI]
    have h3 : (δ b0 one : Int) = (ecc b0 : Int) := h2 ▸ this
    exact om_94 h3
  have hlong := F.far2 b0 one hb1 ho1 ho2
  refine run_seq (run_assign (.frozen, .int (one : Int)) _ ?_ rfl rfl ?_)
  · have e1 : methD nm_index (.lst ((rowI δ m b0).map .int)) [(Fl.frozen, .int (ecc b0 : Int))] = some (.frozen, .int (one : Int)) := by
      simp (decide := true) only [methD_lst, if_true, intsOf_map, opt_bind_some, lsOf_lst, itOf_int, blOf_bool, idxD]
      rw [if_pos ⟨hmm, by simp [rowI]; exact om_148 m9⟩]
    repeat' first | with_reducible assumption | exact q_nil | refine' q_cmp rfl _ _ _ | refine' q_bin _ _ _ | refine' q_sub _ _ _ _ | refine' q_cons rfl _ _ | refine' q_bfn (by decide +kernel) _ _ | refine' q_call (by decide +kernel) _ _ _ | refine' q_meth (by decide +kernel) _ _ _ | refine' q_lst _ _ | refine' q_tup _ _ | refine' q_frz _ _ | refine' q_dict1 _ _ _ | refine' q_tests _ | refine' q_val _ | refine' q_list _ _ _ | refine' q_enum (by decide +kernel) _ _ _ | refine' nmF _ _ (by decide +kernel) | exact frz_nl | exact fre_nl | with_reducible exact rfl | (show D.comp _ = true; exact rfl) | (show (_ || _) = true; exact rfl) | (show lsOf _ = _; exact rfl) | (show _ ∨ _ ≠ Fl.loose; exact Or.inr (by decide)) | (show _ ∧ _ ≤ cap; exact ⟨rfl, Nat.le_of_ble_eq_true rfl⟩) | assumption
  generalize hρ6 : upd ρ5 nm_one _ = ρ6
  have S6 : LawSt ns m ts δ ecc M ρ6 := by rw [← hρ6]; exact S5.upd _ _ (by decide)
  have b6 : ρ6 nm_one = some (.frz (.int (one : Int))) := by rw [← hρ6]; rfl
  clear hρ6 S5 b5
  refine run_seq (run_assign (.frozen, .int (long : Int)) _ ?_ rfl rfl ?_)
  · have hom := bfn_max .frozen (rowI δ m one) (hrne one)
    rw [F.eccE one ho1, hlong] at hom
    have i2 := table_item δ m one ho1 (by exact om_142 m9)
    have h3 := S6.table
    repeat' first | with_reducible assumption | exact q_nil | refine' q_cmp rfl _ _ _ | refine' q_bin _ _ _ | refine' q_sub _ _ _ _ | refine' q_cons rfl _ _ | refine' q_bfn (by decide +kernel) _ _ | refine' q_call (by decide +kernel) _ _ _ | refine' q_meth (by decide +kernel) _ _ _ | refine' q_lst _ _ | refine' q_tup _ _ | refine' q_frz _ _ | refine' q_dict1 _ _ _ | refine' q_tests _ | refine' q_val _ | refine' q_list _ _ _ | refine' q_enum (by decide +kernel) _ _ _ | refine' nmF _ _ (by decide +kernel) | exact frz_nl | exact fre_nl | with_reducible exact rfl | (show D.comp _ = true; exact rfl) | (show (_ || _) = true; exact rfl) | (show lsOf _ = _; exact rfl) | (show _ ∨ _ ≠ Fl.loose; exact Or.inr (by decide)) | (show _ ∧ _ ≤ cap; exact ⟨rfl, Nat.le_of_ble_eq_true rfl⟩) | assumption
  generalize hρ7 : upd ρ6 nm_long _ = ρ7
  have S7 : LawSt ns m ts δ ecc M ρ7 := by rw [← hρ7]; exact S6.upd _ _ (by decide)
  have b7 : ρ7 nm_one = some (.frz (.int (one : Int))) := by rw [← hρ7]; exact b6
  have l7 : ρ7 nm_long = some (.frz (.int (long : Int))) := by rw [← hρ7]; rfl
  clear hρ7 S6 b6
  refine run_seq (run_if false ?_ ?_)
  · have hl : bfnD nm_len [(Fl.frozen, natsD M)] = some (.frozen, .int (M.length : Int)) := by
      rw [show natsD M = .lst (M.map fun v : Nat => .int (v : Int)) from rfl, bfn_len, List.length_map]
    have hs := F.small
    have e1 : binD .Mult (.int 2) (.int (rad : Int)) = some (.frozen, .int (2 * rad)) := by
      simp only [binD_add, binD_sub, binD_mul, binD_mod, binD_fdiv, binD_app]
      rw [if_pos (by exact om_149)]
    have e2 : binD .Sub (.int (2 * rad)) (.int (M.length : Int)) = some (.frozen, .int (2 * rad - M.length)) := rfl
    have e3 : binD .Add (.int (2 * rad - M.length)) (.int 1) = some (.frozen, .int (long : Int)) := by rw [F.len]; rfl
    have h1 := S7.farthest
    have h2 := S7.middle
    have hc := cmp_neF (x := (long : Int)) rfl
    refine q_or (q_cmp (fx := .frozen) (fy := .frozen) rfl ?_ ?_ hc) (q_or (q_cmp (fx := .frozen) (fy := .frozen) rfl ?_ ?_ hc) rfl)
    repeat' first | with_reducible assumption | exact q_nil | refine' q_cmp rfl _ _ _ | refine' q_bin _ _ _ | refine' q_sub _ _ _ _ | refine' q_cons rfl _ _ | refine' q_bfn (by decide +kernel) _ _ | refine' q_call (by decide +kernel) _ _ _ | refine' q_meth (by decide +kernel) _ _ _ | refine' q_lst _ _ | refine' q_tup _ _ | refine' q_frz _ _ | refine' q_dict1 _ _ _ | refine' q_tests _ | refine' q_val _ | refine' q_list _ _ _ | refine' q_enum (by decide +kernel) _ _ _ | refine' nmF _ _ (by decide +kernel) | exact frz_nl | exact fre_nl | with_reducible exact rfl | (show D.comp _ = true; exact rfl) | (show (_ || _) = true; exact rfl) | (show lsOf _ = _; exact rfl) | (show _ ∨ _ ≠ Fl.loose; exact Or.inr (by decide)) | (show _ ∧ _ ≤ cap; exact ⟨rfl, Nat.le_of_ble_eq_true rfl⟩) | assumption
  simp only [Bool.false_eq_true, if_false]
  refine run_nil ?_
  try dsimp only
  refine run_seq (run_for (rangeD (m : Int)) ?_ (LawA ns m ts δ ecc M one long) ⟨?_, S7, b7, l7⟩ ?_ ?_)
  · exact q_range (by decide +kernel) (nmF S7.many _ (by decide +kernel)) (by exact om_136 m9)
  · intro d hd
    simp [rangeD] at hd
    obtain ⟨a, h1, h2⟩ := hd
    exact ⟨a, h1, h2.symm⟩
  · rintro d ds ρ ⟨hds, S, b1, l1⟩
    obtain ⟨a, ham, rfl⟩ := hds d List.mem_cons_self
    refine ⟨upd ρ nm_a (.frz (.int (a : Int))), rfl, ?_⟩
    have S1 := S.upd nm_a (.frz (.int (a : Int))) (by decide)
    refine run_seq (run_for (rangeD (a : Int)) ?_ (LawB ns m ts δ ecc M one long a) ⟨?_, S1, b1, l1, rfl⟩ ?_ ?_)
    · exact q_range (by decide +kernel) (nmF (d := .int (a : Int)) rfl _ (by decide +kernel)) (by exact om_150 m9 ham)
    · intro d hd
      simp [rangeD] at hd
      obtain ⟨b, h1, h2⟩ := hd
      exact ⟨b, h1, h2.symm⟩
    · rintro d es ρ ⟨hes, S, b1, l1, a1⟩
      obtain ⟨b, hba, rfl⟩ := hes d List.mem_cons_self
      refine ⟨upd ρ nm_b (.frz (.int (b : Int))), rfl, ?_⟩
      have S1 := S.upd nm_b (.frz (.int (b : Int))) (by decide)
      have b2 : upd ρ nm_b (.frz (.int (b : Int))) nm_b = some (.frz (.int (b : Int))) := rfl
      have a2 : upd ρ nm_b (.frz (.int (b : Int))) nm_a = some (.frz (.int (a : Int))) := a1
      have l2 : upd ρ nm_b (.frz (.int (b : Int))) nm_long = some (.frz (.int (long : Int))) := l1
      have o2 : upd ρ nm_b (.frz (.int (b : Int))) nm_one = some (.frz (.int (one : Int))) := b1
      generalize upd ρ nm_b (.frz (.int (b : Int))) = ρ8 at S1 b2 a2 l2 o2
      have ht : (tableD δ m).comp = true := rfl
      have i1 := table_item δ m a ham (by exact om_142 m9)
      have i2 := row_item δ m a b (by exact om_46 ham hba) (by exact om_142 m9)
      refine run_seq (run_if false ?_ (run_nil (run_nil ⟨fun d hd => hes d (List.mem_cons_of_mem _ hd), S1, o2, l2, a2⟩)))
      have t2 := S1.table
      by_cases q : δ a b = long
      · have hc : cmpD .Eq (.int (δ a b : Int)) (.int (long : Int)) = some true := (cmp_eqN _ _).trans (congrArg some (decide_eq_true q))
        have hz : cmpD .NotEq (.lst []) (.lst []) = some false := cmp_ne_ints [] []
        refine q_and (q_cmp (fx := .frozen) (fy := .frozen) rfl ?_ ?_ hc) (q_andF (q_cmp (fy := .fresh) rfl (q_comp ?_) rfl hz))
        rotate_left 2
        · have hov := F.over a b hba ham q
          have e := filt_nats (fun c => !decide (δ a c + δ c b = long)) M
          have e0 : M.filter (fun c => !decide (δ a c + δ c b = long)) = [] := by
            rw [List.filter_eq_nil_iff]
            intro c hc
            have := hov c hc
            simp [this]
          rw [e0] at e
          rw [show ([] : List D) = List.map (fun v : Nat => D.int (v : Int)) [] from rfl, ← e]
          refine comp_filter (qNat _) id ⟨by decide +kernel, rfl, rfl, rfl⟩ ?_ (fun d hd => ?_) (by simp; exact om_151 m9 capE hMlen)
          · try dsimp only [ofs_ValueError, ofs_UUclassdictUU, ofs_UUdebugUU, ofs_UUnameUU, ofs_Llaw_counts, ofs_Llaw_far, ofs_Llaw_middle, ofs_a, ofs_add_callers, ofs_append, ofs_at, ofs_b, ofs_begin, ofs_bisect_left, ofs_caller, ofs_callers, ofs_calls, ofs_count, ofs_count_calls, ofs_counts, ofs_ends, ofs_enumerate, ofs_far, ofs_farthest, ofs_func, ofs_here, ofs_hi, ofs_i, ofs_index, ofs_insert, ofs_insort_left, ofs_isinstance, ofs_items, ofs_j, ofs_k, ofs_key, ofs_law, ofs_left, ofs_len, ofs_list, ofs_lo, ofs_long, ofs_many, ofs_max, ofs_mid, ofs_middle, ofs_min, ofs_nc, ofs_new_callers, ofs_number, ofs_one, ofs_order, ofs_other, ofs_place, ofs_range, ofs_row, ofs_script, ofs_sorted, ofs_source, ofs_sum, ofs_table, ofs_target, ofs_there, ofs_tie, ofs_ties, ofs_tuple, ofs_values, ofs_waiting, ofs_x, ofs_zip, den_Ss, den_S, den_E, den_I, den_B, E_int, E_str, E_bool, E_none, E_name, E_bin, E_cmp, E_andV, E_tup, E_lst, E_upto, E_sub_name, E_sub_con, E_sub_bin, E_sub_sub, E_sub_call, E_dict0, E_dict1, E_comp, E_call, E_meth, N_lname, N_isi, B_and0, B_and, B_or0, B_or, B_cmp, B_call, I_call2, I_name, I_lst, I_tup, I_sub, I_bin, I_enum, I_items, S_assignC, S_assign_name, S_assign_con, S_assign_bin, S_assign_call, S_assign_sub, S_assign_cmp, S_assign_ifx, S_assign_lst, S_assign_tup, S_assign_dict, S_assign_boo, S_tup, S_unpack_call, S_setSub, S_augSub, S_augName, S_if, S_while, S_for_name, S_for_call, S_for_lst, S_for_tup, S_for_sub, S_ret, S_retNone, S_mut, Ss_nil, Ss_cons, L_nil, L_cons, dTests_nil, dTests_cons, N1_len, N1_sum, N1_sorted, N1_max, N1_min, N1_list, N2_max, N2_min, N2_isi, N_lrange, I_range, I_enumerate, I_items0, I_values, S_appendN, S_insertN, k0_T, k0_M, k0_mu, k0_K, S_k0, callE, bMut, T_tLaw_len, T_tLaw_sum, T_tLaw_sorted, T_tLaw_max, T_tLaw_min, T_tLaw_list, T_tLaw_range, T_tLaw_enumerate, T_tLaw_isinstance, T_tLaw_Llaw_far, T_tLaw_Llaw_counts, T_tLaw_Llaw_middle, T_tLaw_bisect_left, T_mLaw_len, T_mLaw_sum, T_mLaw_sorted, T_mLaw_max, T_mLaw_min, T_mLaw_list, T_mLaw_range, T_mLaw_enumerate, T_mLaw_isinstance, T_mLaw_insort_left]
            exact q_list (nmF S1.middle _ (by decide +kernel)) rfl (by decide)
          · obtain ⟨c, hc, rfl⟩ := List.mem_map.mp hd
            have hcm := hMlt c hc
            have eq : qNat (fun c => !decide (δ a c + δ c b = long)) (.int (c : Int)) = !decide (δ a c + δ c b = long) := rfl
            rw [eq]
            refine turn1 rfl (!decide (δ a c + δ c b = long)) ?_ (.frozen, .int (c : Int)) fun _ => ⟨?_, by simp⟩
            · generalize hρ9 : upd (rhoC _ ρ8) nm_place _ = ρ9
              have d1 : ρ9 nm_table = some (.frz (tableD δ m)) := by rw [← hρ9]; exact S1.table
              have d2 : ρ9 nm_a = some (.frz (.int (a : Int))) := by rw [← hρ9]; exact a2
              have d3 : ρ9 nm_b = some (.frz (.int (b : Int))) := by rw [← hρ9]; exact b2
              have d4 : ρ9 nm_long = some (.frz (.int (long : Int))) := by rw [← hρ9]; exact l2
              have d5 : ρ9 nm_place = some (.frz (.int (c : Int))) := by rw [← hρ9]; rfl
              have i3 := table_item δ m c hcm (by exact om_142 m9)
              have i4 := row_item δ m a c hcm (by exact om_142 m9)
              have i5 := row_item δ m c b (by exact om_46 ham hba) (by exact om_142 m9)
              have e1 : binD .Add (.int (δ a c : Int)) (.int (δ c b : Int)) = some (.frozen, .int ((δ a c + δ c b : Nat) : Int)) := rfl
              try dsimp only [ofs_ValueError, ofs_UUclassdictUU, ofs_UUdebugUU, ofs_UUnameUU, ofs_Llaw_counts, ofs_Llaw_far, ofs_Llaw_middle, ofs_a, ofs_add_callers, ofs_append, ofs_at, ofs_b, ofs_begin, ofs_bisect_left, ofs_caller, ofs_callers, ofs_calls, ofs_count, ofs_count_calls, ofs_counts, ofs_ends, ofs_enumerate, ofs_far, ofs_farthest, ofs_func, ofs_here, ofs_hi, ofs_i, ofs_index, ofs_insert, ofs_insort_left, ofs_isinstance, ofs_items, ofs_j, ofs_k, ofs_key, ofs_law, ofs_left, ofs_len, ofs_list, ofs_lo, ofs_long, ofs_many, ofs_max, ofs_mid, ofs_middle, ofs_min, ofs_nc, ofs_new_callers, ofs_number, ofs_one, ofs_order, ofs_other, ofs_place, ofs_range, ofs_row, ofs_script, ofs_sorted, ofs_source, ofs_sum, ofs_table, ofs_target, ofs_there, ofs_tie, ofs_ties, ofs_tuple, ofs_values, ofs_waiting, ofs_x, ofs_zip, den_Ss, den_S, den_E, den_I, den_B, E_int, E_str, E_bool, E_none, E_name, E_bin, E_cmp, E_andV, E_tup, E_lst, E_upto, E_sub_name, E_sub_con, E_sub_bin, E_sub_sub, E_sub_call, E_dict0, E_dict1, E_comp, E_call, E_meth, N_lname, N_isi, B_and0, B_and, B_or0, B_or, B_cmp, B_call, I_call2, I_name, I_lst, I_tup, I_sub, I_bin, I_enum, I_items, S_assignC, S_assign_name, S_assign_con, S_assign_bin, S_assign_call, S_assign_sub, S_assign_cmp, S_assign_ifx, S_assign_lst, S_assign_tup, S_assign_dict, S_assign_boo, S_tup, S_unpack_call, S_setSub, S_augSub, S_augName, S_if, S_while, S_for_name, S_for_call, S_for_lst, S_for_tup, S_for_sub, S_ret, S_retNone, S_mut, Ss_nil, Ss_cons, L_nil, L_cons, dTests_nil, dTests_cons, N1_len, N1_sum, N1_sorted, N1_max, N1_min, N1_list, N2_max, N2_min, N2_isi, N_lrange, I_range, I_enumerate, I_items0, I_values, S_appendN, S_insertN, k0_T, k0_M, k0_mu, k0_K, S_k0, callE, bMut, T_tLaw_len, T_tLaw_sum, T_tLaw_sorted, T_tLaw_max, T_tLaw_min, T_tLaw_list, T_tLaw_range, T_tLaw_enumerate, T_tLaw_isinstance, T_tLaw_Llaw_far, T_tLaw_Llaw_counts, T_tLaw_Llaw_middle, T_tLaw_bisect_left, T_mLaw_len, T_mLaw_sum, T_mLaw_sorted, T_mLaw_max, T_mLaw_min, T_mLaw_list, T_mLaw_range, T_mLaw_enumerate, T_mLaw_isinstance, T_mLaw_insort_left]
              have hc := cmp_neN (δ a c + δ c b) long
              refine q_one ?_
              repeat' first | with_reducible assumption | exact q_nil | refine' q_cmp rfl _ _ _ | refine' q_bin _ _ _ | refine' q_sub _ _ _ _ | refine' q_cons rfl _ _ | refine' q_bfn (by decide +kernel) _ _ | refine' q_call (by decide +kernel) _ _ _ | refine' q_meth (by decide +kernel) _ _ _ | refine' q_lst _ _ | refine' q_tup _ _ | refine' q_frz _ _ | refine' q_dict1 _ _ _ | refine' q_tests _ | refine' q_val _ | refine' q_list _ _ _ | refine' q_enum (by decide +kernel) _ _ _ | refine' nmF _ _ (by decide +kernel) | exact frz_nl | exact fre_nl | with_reducible exact rfl | (show D.comp _ = true; exact rfl) | (show (_ || _) = true; exact rfl) | (show lsOf _ = _; exact rfl) | (show _ ∨ _ ≠ Fl.loose; exact Or.inr (by decide)) | (show _ ∧ _ ≤ cap; exact ⟨rfl, Nat.le_of_ble_eq_true rfl⟩) | assumption
            · try dsimp only [ofs_ValueError, ofs_UUclassdictUU, ofs_UUdebugUU, ofs_UUnameUU, ofs_Llaw_counts, ofs_Llaw_far, ofs_Llaw_middle, ofs_a, ofs_add_callers, ofs_append, ofs_at, ofs_b, ofs_begin, ofs_bisect_left, ofs_caller, ofs_callers, ofs_calls, ofs_count, ofs_count_calls, ofs_counts, ofs_ends, ofs_enumerate, ofs_far, ofs_farthest, ofs_func, ofs_here, ofs_hi, ofs_i, ofs_index, ofs_insert, ofs_insort_left, ofs_isinstance, ofs_items, ofs_j, ofs_k, ofs_key, ofs_law, ofs_left, ofs_len, ofs_list, ofs_lo, ofs_long, ofs_many, ofs_max, ofs_mid, ofs_middle, ofs_min, ofs_nc, ofs_new_callers, ofs_number, ofs_one, ofs_order, ofs_other, ofs_place, ofs_range, ofs_row, ofs_script, ofs_sorted, ofs_source, ofs_sum, ofs_table, ofs_target, ofs_there, ofs_tie, ofs_ties, ofs_tuple, ofs_values, ofs_waiting, ofs_x, ofs_zip, den_Ss, den_S, den_E, den_I, den_B, E_int, E_str, E_bool, E_none, E_name, E_bin, E_cmp, E_andV, E_tup, E_lst, E_upto, E_sub_name, E_sub_con, E_sub_bin, E_sub_sub, E_sub_call, E_dict0, E_dict1, E_comp, E_call, E_meth, N_lname, N_isi, B_and0, B_and, B_or0, B_or, B_cmp, B_call, I_call2, I_name, I_lst, I_tup, I_sub, I_bin, I_enum, I_items, S_assignC, S_assign_name, S_assign_con, S_assign_bin, S_assign_call, S_assign_sub, S_assign_cmp, S_assign_ifx, S_assign_lst, S_assign_tup, S_assign_dict, S_assign_boo, S_tup, S_unpack_call, S_setSub, S_augSub, S_augName, S_if, S_while, S_for_name, S_for_call, S_for_lst, S_for_tup, S_for_sub, S_ret, S_retNone, S_mut, Ss_nil, Ss_cons, L_nil, L_cons, dTests_nil, dTests_cons, N1_len, N1_sum, N1_sorted, N1_max, N1_min, N1_list, N2_max, N2_min, N2_isi, N_lrange, I_range, I_enumerate, I_items0, I_values, S_appendN, S_insertN, k0_T, k0_M, k0_mu, k0_K, S_k0, callE, bMut, T_tLaw_len, T_tLaw_sum, T_tLaw_sorted, T_tLaw_max, T_tLaw_min, T_tLaw_list, T_tLaw_range, T_tLaw_enumerate, T_tLaw_isinstance, T_tLaw_Llaw_far, T_tLaw_Llaw_counts, T_tLaw_Llaw_middle, T_tLaw_bisect_left, T_mLaw_len, T_mLaw_sum, T_mLaw_sorted, T_mLaw_max, T_mLaw_min, T_mLaw_list, T_mLaw_range, T_mLaw_enumerate, T_mLaw_isinstance, T_mLaw_insort_left]
              exact nmF rfl _ (by decide +kernel)
        all_goals repeat' first | with_reducible assumption | exact q_nil | refine' q_cmp rfl _ _ _ | refine' q_bin _ _ _ | refine' q_sub _ _ _ _ | refine' q_cons rfl _ _ | refine' q_bfn (by decide +kernel) _ _ | refine' q_call (by decide +kernel) _ _ _ | refine' q_meth (by decide +kernel) _ _ _ | refine' q_lst _ _ | refine' q_tup _ _ | refine' q_frz _ _ | refine' q_dict1 _ _ _ | refine' q_tests _ | refine' q_val _ | refine' q_list _ _ _ | refine' q_enum (by decide +kernel) _ _ _ | refine' nmF _ _ (by decide +kernel) | exact frz_nl | exact fre_nl | with_reducible exact rfl | (show D.comp _ = true; exact rfl) | (show (_ || _) = true; exact rfl) | (show lsOf _ = _; exact rfl) | (show _ ∨ _ ≠ Fl.loose; exact Or.inr (by decide)) | (show _ ∧ _ ≤ cap; exact ⟨rfl, Nat.le_of_ble_eq_true rfl⟩) | assumption
      · have hc : cmpD .Eq (.int (δ a b : Int)) (.int (long : Int)) = some false := (cmp_eqN _ _).trans (congrArg some (decide_eq_false q))
        refine q_andF (q_cmp (fx := .frozen) (fy := .frozen) rfl ?_ ?_ hc)
        repeat' first | with_reducible assumption | exact q_nil | refine' q_cmp rfl _ _ _ | refine' q_bin _ _ _ | refine' q_sub _ _ _ _ | refine' q_cons rfl _ _ | refine' q_bfn (by decide +kernel) _ _ | refine' q_call (by decide +kernel) _ _ _ | refine' q_meth (by decide +kernel) _ _ _ | refine' q_lst _ _ | refine' q_tup _ _ | refine' q_frz _ _ | refine' q_dict1 _ _ _ | refine' q_tests _ | refine' q_val _ | refine' q_list _ _ _ | refine' q_enum (by decide +kernel) _ _ _ | refine' nmF _ _ (by decide +kernel) | exact frz_nl | exact fre_nl | with_reducible exact rfl | (show D.comp _ = true; exact rfl) | (show (_ || _) = true; exact rfl) | (show lsOf _ = _; exact rfl) | (show _ ∨ _ ≠ Fl.loose; exact Or.inr (by decide)) | (show _ ∧ _ ≤ cap; exact ⟨rfl, Nat.le_of_ble_eq_true rfl⟩) | assumption
    · rintro ρ ⟨_, S, b1, l1, a1⟩
      exact run_nil ⟨fun d hd => hds d (List.mem_cons_of_mem _ hd), S, b1, l1⟩
  rintro ρ8 ⟨_, S8, b8, l8⟩
  have hcnt := cnt_ok ts m (by exact om_152 m9) (by have := F.tl; exact om_138 this) F.tb
  have ec : ((List.range m).map fun v => D.int (inc ts v)) = (incI ts m).map .int := by simp [incI]
  rw [ec] at hcnt
  refine run_seq (run_assign (.frozen, .lst ((incI ts m).map .int)) _ ?_ rfl rfl ?_)
  · have h1 := S8.ties
    have h2 := S8.many
    repeat' first | with_reducible assumption | exact q_nil | refine' q_cmp rfl _ _ _ | refine' q_bin _ _ _ | refine' q_sub _ _ _ _ | refine' q_cons rfl _ _ | refine' q_bfn (by decide +kernel) _ _ | refine' q_call (by decide +kernel) _ _ _ | refine' q_meth (by decide +kernel) _ _ _ | refine' q_lst _ _ | refine' q_tup _ _ | refine' q_frz _ _ | refine' q_dict1 _ _ _ | refine' q_tests _ | refine' q_val _ | refine' q_list _ _ _ | refine' q_enum (by decide +kernel) _ _ _ | refine' nmF _ _ (by decide +kernel) | exact frz_nl | exact fre_nl | with_reducible exact rfl | (show D.comp _ = true; exact rfl) | (show (_ || _) = true; exact rfl) | (show lsOf _ = _; exact rfl) | (show _ ∨ _ ≠ Fl.loose; exact Or.inr (by decide)) | (show _ ∧ _ ≤ cap; exact ⟨rfl, Nat.le_of_ble_eq_true rfl⟩) | assumption
  generalize hρ9 : upd ρ8 nm_counts _ = ρ9
  have S9 : LawSt ns m ts δ ecc M ρ9 := by rw [← hρ9]; exact S8.upd _ _ (by decide)
  have b9 : ρ9 nm_one = some (.frz (.int (one : Int))) := by rw [← hρ9]; exact b8
  have l9 : ρ9 nm_long = some (.frz (.int (long : Int))) := by rw [← hρ9]; exact l8
  have c9 : ρ9 nm_counts = some (.frz (.lst ((incI ts m).map .int))) := by rw [← hρ9]; rfl
  clear hρ9 S8 b8 l8
  have hine : incI ts m ≠ [] := by
    intro e
    have := congrArg List.length e
    simp [incI] at this
    exact absurd_om (om_139 ho1 this)
  refine run_seq (run_if false ?_ ?_)
  · have e1 := bfn_sum .frozen (incI ts m) (fun x hx => by
      obtain ⟨v, _, rfl⟩ := List.mem_map.mp hx
      exact F.incb v)
    rw [F.csum] at e1
    have e2 : binD .Mult (.int 2) (.int (ts.length : Int)) = some (.frozen, .int (2 * ts.length)) := by
      simp only [binD_add, binD_sub, binD_mul, binD_mod, binD_fdiv, binD_app]
      rw [if_pos (by exact om_149)]
    have e3 := bfn_max .frozen (incI ts m) hine
    have h1 := S9.ties
    have h2 := S9.many
    have hlt := bfn_len .frozen (ts.map tieD)
    rw [List.length_map] at hlt
    have hc := cmp_neF (x := 2 * (ts.length : Int)) rfl
    refine q_or (q_cmp (fx := .frozen) (fy := .frozen) rfl ?_ ?_ hc) (q_or ?_ rfl)
    · repeat' first | with_reducible assumption | exact q_nil | refine' q_cmp rfl _ _ _ | refine' q_bin _ _ _ | refine' q_sub _ _ _ _ | refine' q_cons rfl _ _ | refine' q_bfn (by decide +kernel) _ _ | refine' q_call (by decide +kernel) _ _ _ | refine' q_meth (by decide +kernel) _ _ _ | refine' q_lst _ _ | refine' q_tup _ _ | refine' q_frz _ _ | refine' q_dict1 _ _ _ | refine' q_tests _ | refine' q_val _ | refine' q_list _ _ _ | refine' q_enum (by decide +kernel) _ _ _ | refine' nmF _ _ (by decide +kernel) | exact frz_nl | exact fre_nl | with_reducible exact rfl | (show D.comp _ = true; exact rfl) | (show (_ || _) = true; exact rfl) | (show lsOf _ = _; exact rfl) | (show _ ∨ _ ≠ Fl.loose; exact Or.inr (by decide)) | (show _ ∧ _ ≤ cap; exact ⟨rfl, Nat.le_of_ble_eq_true rfl⟩) | assumption
    · repeat' first | with_reducible assumption | exact q_nil | refine' q_cmp rfl _ _ _ | refine' q_bin _ _ _ | refine' q_sub _ _ _ _ | refine' q_cons rfl _ _ | refine' q_bfn (by decide +kernel) _ _ | refine' q_call (by decide +kernel) _ _ _ | refine' q_meth (by decide +kernel) _ _ _ | refine' q_lst _ _ | refine' q_tup _ _ | refine' q_frz _ _ | refine' q_dict1 _ _ _ | refine' q_tests _ | refine' q_val _ | refine' q_list _ _ _ | refine' q_enum (by decide +kernel) _ _ _ | refine' nmF _ _ (by decide +kernel) | exact frz_nl | exact fre_nl | with_reducible exact rfl | (show D.comp _ = true; exact rfl) | (show (_ || _) = true; exact rfl) | (show lsOf _ = _; exact rfl) | (show _ ∨ _ ≠ Fl.loose; exact Or.inr (by decide)) | (show _ ∧ _ ≤ cap; exact ⟨rfl, Nat.le_of_ble_eq_true rfl⟩) | assumption
    have e4 : cmpD .Gt (.int (m : Int)) (.int 1) = some (decide (1 < m)) := by
      simp only [cmpD_eq, cmpD_ne, cmpD_lt, cmpD_gt, cmpD_in, cmpD_notIn, cmpD_is]
      congr 1
      exact decide_eq_decide.mpr (by exact om_153)
    by_cases q : 1 < m
    · have hcm := F.cmax q
      rw [decide_eq_true q] at e4
      have e5 : cmpD .Gt (.int (maxI (incI ts m))) (.int ((((incI ts m).filter fun c => decide (c = 1)).map D.int).length : Int)) = some false := by
        rw [List.length_map]
        simp only [cmpD_eq, cmpD_ne, cmpD_lt, cmpD_gt, cmpD_in, cmpD_notIn, cmpD_is]
        congr 1
        exact decide_eq_false (by exact om_154 hcm)
      have hlc := bfn_len .fresh (((incI ts m).filter fun c => decide (c = 1)).map D.int)
      refine q_and (q_cmp (fx := .frozen) (fy := .frozen) rfl ?_ ?_ e4) (q_andF (q_cmp rfl (q_bfn (by decide +kernel) ?_ e3) (q_bfn (by decide +kernel) (q_cons rfl (q_comp ?_) q_nil) hlc) e5))
      · repeat' first | with_reducible assumption | exact q_nil | refine' q_cmp rfl _ _ _ | refine' q_bin _ _ _ | refine' q_sub _ _ _ _ | refine' q_cons rfl _ _ | refine' q_bfn (by decide +kernel) _ _ | refine' q_call (by decide +kernel) _ _ _ | refine' q_meth (by decide +kernel) _ _ _ | refine' q_lst _ _ | refine' q_tup _ _ | refine' q_frz _ _ | refine' q_dict1 _ _ _ | refine' q_tests _ | refine' q_val _ | refine' q_list _ _ _ | refine' q_enum (by decide +kernel) _ _ _ | refine' nmF _ _ (by decide +kernel) | exact frz_nl | exact fre_nl | with_reducible exact rfl | (show D.comp _ = true; exact rfl) | (show (_ || _) = true; exact rfl) | (show lsOf _ = _; exact rfl) | (show _ ∨ _ ≠ Fl.loose; exact Or.inr (by decide)) | (show _ ∧ _ ≤ cap; exact ⟨rfl, Nat.le_of_ble_eq_true rfl⟩) | assumption
      · repeat' first | with_reducible assumption | exact q_nil | refine' q_cmp rfl _ _ _ | refine' q_bin _ _ _ | refine' q_sub _ _ _ _ | refine' q_cons rfl _ _ | refine' q_bfn (by decide +kernel) _ _ | refine' q_call (by decide +kernel) _ _ _ | refine' q_meth (by decide +kernel) _ _ _ | refine' q_lst _ _ | refine' q_tup _ _ | refine' q_frz _ _ | refine' q_dict1 _ _ _ | refine' q_tests _ | refine' q_val _ | refine' q_list _ _ _ | refine' q_enum (by decide +kernel) _ _ _ | refine' nmF _ _ (by decide +kernel) | exact frz_nl | exact fre_nl | with_reducible exact rfl | (show D.comp _ = true; exact rfl) | (show (_ || _) = true; exact rfl) | (show lsOf _ = _; exact rfl) | (show _ ∨ _ ≠ Fl.loose; exact Or.inr (by decide)) | (show _ ∧ _ ≤ cap; exact ⟨rfl, Nat.le_of_ble_eq_true rfl⟩) | assumption
      · repeat' first | with_reducible assumption | exact q_nil | refine' q_cmp rfl _ _ _ | refine' q_bin _ _ _ | refine' q_sub _ _ _ _ | refine' q_cons rfl _ _ | refine' q_bfn (by decide +kernel) _ _ | refine' q_call (by decide +kernel) _ _ _ | refine' q_meth (by decide +kernel) _ _ _ | refine' q_lst _ _ | refine' q_tup _ _ | refine' q_frz _ _ | refine' q_dict1 _ _ _ | refine' q_tests _ | refine' q_val _ | refine' q_list _ _ _ | refine' q_enum (by decide +kernel) _ _ _ | refine' nmF _ _ (by decide +kernel) | exact frz_nl | exact fre_nl | with_reducible exact rfl | (show D.comp _ = true; exact rfl) | (show (_ || _) = true; exact rfl) | (show lsOf _ = _; exact rfl) | (show _ ∨ _ ≠ Fl.loose; exact Or.inr (by decide)) | (show _ ∧ _ ≤ cap; exact ⟨rfl, Nat.le_of_ble_eq_true rfl⟩) | assumption
      · rw [← filt_ints]
        refine comp_filter (qInt _) id ⟨by decide +kernel, rfl, rfl, rfl⟩ ?_ (fun d hd => ?_) (by simp [incI]; exact om_135 m9 capE)
        · try dsimp only [ofs_ValueError, ofs_UUclassdictUU, ofs_UUdebugUU, ofs_UUnameUU, ofs_Llaw_counts, ofs_Llaw_far, ofs_Llaw_middle, ofs_a, ofs_add_callers, ofs_append, ofs_at, ofs_b, ofs_begin, ofs_bisect_left, ofs_caller, ofs_callers, ofs_calls, ofs_count, ofs_count_calls, ofs_counts, ofs_ends, ofs_enumerate, ofs_far, ofs_farthest, ofs_func, ofs_here, ofs_hi, ofs_i, ofs_index, ofs_insert, ofs_insort_left, ofs_isinstance, ofs_items, ofs_j, ofs_k, ofs_key, ofs_law, ofs_left, ofs_len, ofs_list, ofs_lo, ofs_long, ofs_many, ofs_max, ofs_mid, ofs_middle, ofs_min, ofs_nc, ofs_new_callers, ofs_number, ofs_one, ofs_order, ofs_other, ofs_place, ofs_range, ofs_row, ofs_script, ofs_sorted, ofs_source, ofs_sum, ofs_table, ofs_target, ofs_there, ofs_tie, ofs_ties, ofs_tuple, ofs_values, ofs_waiting, ofs_x, ofs_zip, den_Ss, den_S, den_E, den_I, den_B, E_int, E_str, E_bool, E_none, E_name, E_bin, E_cmp, E_andV, E_tup, E_lst, E_upto, E_sub_name, E_sub_con, E_sub_bin, E_sub_sub, E_sub_call, E_dict0, E_dict1, E_comp, E_call, E_meth, N_lname, N_isi, B_and0, B_and, B_or0, B_or, B_cmp, B_call, I_call2, I_name, I_lst, I_tup, I_sub, I_bin, I_enum, I_items, S_assignC, S_assign_name, S_assign_con, S_assign_bin, S_assign_call, S_assign_sub, S_assign_cmp, S_assign_ifx, S_assign_lst, S_assign_tup, S_assign_dict, S_assign_boo, S_tup, S_unpack_call, S_setSub, S_augSub, S_augName, S_if, S_while, S_for_name, S_for_call, S_for_lst, S_for_tup, S_for_sub, S_ret, S_retNone, S_mut, Ss_nil, Ss_cons, L_nil, L_cons, dTests_nil, dTests_cons, N1_len, N1_sum, N1_sorted, N1_max, N1_min, N1_list, N2_max, N2_min, N2_isi, N_lrange, I_range, I_enumerate, I_items0, I_values, S_appendN, S_insertN, k0_T, k0_M, k0_mu, k0_K, S_k0, callE, bMut, T_tLaw_len, T_tLaw_sum, T_tLaw_sorted, T_tLaw_max, T_tLaw_min, T_tLaw_list, T_tLaw_range, T_tLaw_enumerate, T_tLaw_isinstance, T_tLaw_Llaw_far, T_tLaw_Llaw_counts, T_tLaw_Llaw_middle, T_tLaw_bisect_left, T_mLaw_len, T_mLaw_sum, T_mLaw_sorted, T_mLaw_max, T_mLaw_min, T_mLaw_list, T_mLaw_range, T_mLaw_enumerate, T_mLaw_isinstance, T_mLaw_insort_left]
          exact q_list (nmF c9 _ (by decide +kernel)) rfl (by decide)
        · obtain ⟨c, hc, rfl⟩ := List.mem_map.mp hd
          have eq : qInt (fun c => decide (c = 1)) (.int c) = decide (c = 1) := rfl
          rw [eq]
          refine turn1 rfl (decide (c = 1)) ?_ (.frozen, .int c) fun _ => ⟨?_, by simp⟩
          · generalize hρ10 : upd (rhoC _ ρ9) nm_count _ = ρ10
            have d1 : ρ10 nm_count = some (.frz (.int c)) := by rw [← hρ10]; rfl
            try dsimp only [ofs_ValueError, ofs_UUclassdictUU, ofs_UUdebugUU, ofs_UUnameUU, ofs_Llaw_counts, ofs_Llaw_far, ofs_Llaw_middle, ofs_a, ofs_add_callers, ofs_append, ofs_at, ofs_b, ofs_begin, ofs_bisect_left, ofs_caller, ofs_callers, ofs_calls, ofs_count, ofs_count_calls, ofs_counts, ofs_ends, ofs_enumerate, ofs_far, ofs_farthest, ofs_func, ofs_here, ofs_hi, ofs_i, ofs_index, ofs_insert, ofs_insort_left, ofs_isinstance, ofs_items, ofs_j, ofs_k, ofs_key, ofs_law, ofs_left, ofs_len, ofs_list, ofs_lo, ofs_long, ofs_many, ofs_max, ofs_mid, ofs_middle, ofs_min, ofs_nc, ofs_new_callers, ofs_number, ofs_one, ofs_order, ofs_other, ofs_place, ofs_range, ofs_row, ofs_script, ofs_sorted, ofs_source, ofs_sum, ofs_table, ofs_target, ofs_there, ofs_tie, ofs_ties, ofs_tuple, ofs_values, ofs_waiting, ofs_x, ofs_zip, den_Ss, den_S, den_E, den_I, den_B, E_int, E_str, E_bool, E_none, E_name, E_bin, E_cmp, E_andV, E_tup, E_lst, E_upto, E_sub_name, E_sub_con, E_sub_bin, E_sub_sub, E_sub_call, E_dict0, E_dict1, E_comp, E_call, E_meth, N_lname, N_isi, B_and0, B_and, B_or0, B_or, B_cmp, B_call, I_call2, I_name, I_lst, I_tup, I_sub, I_bin, I_enum, I_items, S_assignC, S_assign_name, S_assign_con, S_assign_bin, S_assign_call, S_assign_sub, S_assign_cmp, S_assign_ifx, S_assign_lst, S_assign_tup, S_assign_dict, S_assign_boo, S_tup, S_unpack_call, S_setSub, S_augSub, S_augName, S_if, S_while, S_for_name, S_for_call, S_for_lst, S_for_tup, S_for_sub, S_ret, S_retNone, S_mut, Ss_nil, Ss_cons, L_nil, L_cons, dTests_nil, dTests_cons, N1_len, N1_sum, N1_sorted, N1_max, N1_min, N1_list, N2_max, N2_min, N2_isi, N_lrange, I_range, I_enumerate, I_items0, I_values, S_appendN, S_insertN, k0_T, k0_M, k0_mu, k0_K, S_k0, callE, bMut, T_tLaw_len, T_tLaw_sum, T_tLaw_sorted, T_tLaw_max, T_tLaw_min, T_tLaw_list, T_tLaw_range, T_tLaw_enumerate, T_tLaw_isinstance, T_tLaw_Llaw_far, T_tLaw_Llaw_counts, T_tLaw_Llaw_middle, T_tLaw_bisect_left, T_mLaw_len, T_mLaw_sum, T_mLaw_sorted, T_mLaw_max, T_mLaw_min, T_mLaw_list, T_mLaw_range, T_mLaw_enumerate, T_mLaw_isinstance, T_mLaw_insort_left]
            have hc := cmp_eq_int c 1
            refine q_one ?_
            repeat' first | with_reducible assumption | exact q_nil | refine' q_cmp rfl _ _ _ | refine' q_bin _ _ _ | refine' q_sub _ _ _ _ | refine' q_cons rfl _ _ | refine' q_bfn (by decide +kernel) _ _ | refine' q_call (by decide +kernel) _ _ _ | refine' q_meth (by decide +kernel) _ _ _ | refine' q_lst _ _ | refine' q_tup _ _ | refine' q_frz _ _ | refine' q_dict1 _ _ _ | refine' q_tests _ | refine' q_val _ | refine' q_list _ _ _ | refine' q_enum (by decide +kernel) _ _ _ | refine' nmF _ _ (by decide +kernel) | exact frz_nl | exact fre_nl | with_reducible exact rfl | (show D.comp _ = true; exact rfl) | (show (_ || _) = true; exact rfl) | (show lsOf _ = _; exact rfl) | (show _ ∨ _ ≠ Fl.loose; exact Or.inr (by decide)) | (show _ ∧ _ ≤ cap; exact ⟨rfl, Nat.le_of_ble_eq_true rfl⟩) | assumption
          · try dsimp only [ofs_ValueError, ofs_UUclassdictUU, ofs_UUdebugUU, ofs_UUnameUU, ofs_Llaw_counts, ofs_Llaw_far, ofs_Llaw_middle, ofs_a, ofs_add_callers, ofs_append, ofs_at, ofs_b, ofs_begin, ofs_bisect_left, ofs_caller, ofs_callers, ofs_calls, ofs_count, ofs_count_calls, ofs_counts, ofs_ends, ofs_enumerate, ofs_far, ofs_farthest, ofs_func, ofs_here, ofs_hi, ofs_i, ofs_index, ofs_insert, ofs_insort_left, ofs_isinstance, ofs_items, ofs_j, ofs_k, ofs_key, ofs_law, ofs_left, ofs_len, ofs_list, ofs_lo, ofs_long, ofs_many, ofs_max, ofs_mid, ofs_middle, ofs_min, ofs_nc, ofs_new_callers, ofs_number, ofs_one, ofs_order, ofs_other, ofs_place, ofs_range, ofs_row, ofs_script, ofs_sorted, ofs_source, ofs_sum, ofs_table, ofs_target, ofs_there, ofs_tie, ofs_ties, ofs_tuple, ofs_values, ofs_waiting, ofs_x, ofs_zip, den_Ss, den_S, den_E, den_I, den_B, E_int, E_str, E_bool, E_none, E_name, E_bin, E_cmp, E_andV, E_tup, E_lst, E_upto, E_sub_name, E_sub_con, E_sub_bin, E_sub_sub, E_sub_call, E_dict0, E_dict1, E_comp, E_call, E_meth, N_lname, N_isi, B_and0, B_and, B_or0, B_or, B_cmp, B_call, I_call2, I_name, I_lst, I_tup, I_sub, I_bin, I_enum, I_items, S_assignC, S_assign_name, S_assign_con, S_assign_bin, S_assign_call, S_assign_sub, S_assign_cmp, S_assign_ifx, S_assign_lst, S_assign_tup, S_assign_dict, S_assign_boo, S_tup, S_unpack_call, S_setSub, S_augSub, S_augName, S_if, S_while, S_for_name, S_for_call, S_for_lst, S_for_tup, S_for_sub, S_ret, S_retNone, S_mut, Ss_nil, Ss_cons, L_nil, L_cons, dTests_nil, dTests_cons, N1_len, N1_sum, N1_sorted, N1_max, N1_min, N1_list, N2_max, N2_min, N2_isi, N_lrange, I_range, I_enumerate, I_items0, I_values, S_appendN, S_insertN, k0_T, k0_M, k0_mu, k0_K, S_k0, callE, bMut, T_tLaw_len, T_tLaw_sum, T_tLaw_sorted, T_tLaw_max, T_tLaw_min, T_tLaw_list, T_tLaw_range, T_tLaw_enumerate, T_tLaw_isinstance, T_tLaw_Llaw_far, T_tLaw_Llaw_counts, T_tLaw_Llaw_middle, T_tLaw_bisect_left, T_mLaw_len, T_mLaw_sum, T_mLaw_sorted, T_mLaw_max, T_mLaw_min, T_mLaw_list, T_mLaw_range, T_mLaw_enumerate, T_mLaw_isinstance, T_mLaw_insort_left]
            exact nmF rfl _ (by decide +kernel)
    · rw [decide_eq_false q] at e4
      refine q_andF (q_cmp (fx := .frozen) (fy := .frozen) rfl ?_ ?_ e4)
      · repeat' first | with_reducible assumption | exact q_nil | refine' q_cmp rfl _ _ _ | refine' q_bin _ _ _ | refine' q_sub _ _ _ _ | refine' q_cons rfl _ _ | refine' q_bfn (by decide +kernel) _ _ | refine' q_call (by decide +kernel) _ _ _ | refine' q_meth (by decide +kernel) _ _ _ | refine' q_lst _ _ | refine' q_tup _ _ | refine' q_frz _ _ | refine' q_dict1 _ _ _ | refine' q_tests _ | refine' q_val _ | refine' q_list _ _ _ | refine' q_enum (by decide +kernel) _ _ _ | refine' nmF _ _ (by decide +kernel) | exact frz_nl | exact fre_nl | with_reducible exact rfl | (show D.comp _ = true; exact rfl) | (show (_ || _) = true; exact rfl) | (show lsOf _ = _; exact rfl) | (show _ ∨ _ ≠ Fl.loose; exact Or.inr (by decide)) | (show _ ∧ _ ≤ cap; exact ⟨rfl, Nat.le_of_ble_eq_true rfl⟩) | assumption
      · repeat' first | with_reducible assumption | exact q_nil | refine' q_cmp rfl _ _ _ | refine' q_bin _ _ _ | refine' q_sub _ _ _ _ | refine' q_cons rfl _ _ | refine' q_bfn (by decide +kernel) _ _ | refine' q_call (by decide +kernel) _ _ _ | refine' q_meth (by decide +kernel) _ _ _ | refine' q_lst _ _ | refine' q_tup _ _ | refine' q_frz _ _ | refine' q_dict1 _ _ _ | refine' q_tests _ | refine' q_val _ | refine' q_list _ _ _ | refine' q_enum (by decide +kernel) _ _ _ | refine' nmF _ _ (by decide +kernel) | exact frz_nl | exact fre_nl | with_reducible exact rfl | (show D.comp _ = true; exact rfl) | (show (_ || _) = true; exact rfl) | (show lsOf _ = _; exact rfl) | (show _ ∨ _ ≠ Fl.loose; exact Or.inr (by decide)) | (show _ ∧ _ ≤ cap; exact ⟨rfl, Nat.le_of_ble_eq_true rfl⟩) | assumption
  simp only [Bool.false_eq_true, if_false]
  refine run_nil ?_
  try dsimp only
  refine run_seq (run_assign (.fresh, .lst []) (upd ρ9 nm_order (.own (.lst []))) ?_ rfl rfl ?_)
  · rfl
  have io := table_item δ m one ho1 (by exact om_142 m9)
  refine run_seq (run_for ((rowI δ m one).map .int) ?_ (LawO ns m ts δ ecc M one long) ⟨[], rowI δ m one, [], rfl, rfl, S9.upd _ _ (by decide), b9, l9, rfl, List.Pairwise.nil, List.Perm.refl _⟩ ?_ ?_)
  · exact q_list (q_sub (nmF S9.table _ (by decide +kernel)) (nmF b9 _ (by decide +kernel)) rfl io) rfl (by decide)
  · rintro d ds ρ ⟨L1, L2, so, h1, h2, S, b, l, o, hs, hp⟩
    cases L2 with
    | nil => cases h2
    | cons x L2 =>
      cases h2
      refine ⟨upd ρ nm_number (.frz (.int x)), rfl, ?_⟩
      obtain ⟨k, hk, hi, hss⟩ := split_sorted x so hs
      have hlen : so.length < 40 := by
        have e1 := hp.length_eq
        have e2 := congrArg List.length h1
        simp [rowI] at e2
        exact om_155 m9 e1 e2
      have hins := ins_ok (so.map .int) (.int x) k (by simpa using hk) (by simpa using hlen) (fun i d hd => by
        rw [List.getElem?_map] at hd
        obtain ⟨y, hy, rfl⟩ := Option.map_eq_some_iff.mp hd
        show some (decide (y < x)) = _
        congr 1
        exact decide_eq_decide.mpr (hi i y hy))
      have e : (so.map D.int).take k ++ .int x :: (so.map .int).drop k = (so.take k ++ x :: so.drop k).map .int := by simp [List.map_take, List.map_drop]
      rw [e] at hins
      refine run_seq (run_eq .next (upd (upd ρ nm_number (.frz (.int x))) nm_order (.own (.lst ((so.take k ++ x :: so.drop k).map .int)))) ?_ (run_nil ⟨L1 ++ [x], L2, so.take k ++ x :: so.drop k, by rw [h1]; simp, rfl, (S.upd _ _ (by decide)).upd _ _ (by decide), b, l, rfl, hss, ?_⟩))
      · exact q_mut (by decide +kernel) (q_frz (nmF (d := .int x) rfl _ (by decide +kernel)) frz_nl) o hins
      · exact (split_perm so x k).trans ((hp.cons x).trans (List.perm_append_singleton x L1).symm)
  rintro ρ10 ⟨L1, L2, so, h1, h2, S, b, l, o, hs, hp⟩
  cases L2 with
  | cons x L2 => cases h2
  | nil =>
  rw [List.append_nil] at h1
  subst h1
  have hlen : so.length = m := by
    have e1 := hp.length_eq
    simpa [rowI] using e1
  have hso : so = isort (rowI δ m one) := sorted_unique (hp.trans (isort_perm _).symm) hs (isort_sorted _)
  try dsimp only
  refine run_seq (run_ret (.frozen, .bool true) ?_ (by simp) rfl)
  have t10 : lay ρ10 nm_table = some (.frz (tableD δ m)) := lay_frz S.table
  have o10 : lay ρ10 nm_order = some (.frz (.lst (so.map .int))) := lay_own o
  have b10 : lay ρ10 nm_one = some (.frz (.int (one : Int))) := lay_frz b
  have l10 : lay ρ10 nm_long = some (.frz (.int (long : Int))) := lay_frz l
  generalize lay ρ10 = ρ11 at t10 o10 b10 l10
  have hsort := bfn_sorted .frozen (rowI δ m one) (by simp [rowI]; exact om_156 m9)
  have hq : cmpD .Eq (.lst (so.map .int)) (.lst ((isort (rowI δ m one)).map .int)) = some true := by rw [← hso, cmp_eq_ints]; simp
  have hz : cmpD .Eq (.lst []) (.lst []) = some true := cmp_eq_ints [] []
  have hl40 := F.lsmall
  refine q_andV (q_val (q_cmp (fx := .frozen) (fy := .fresh) rfl ?_ ?_ hq)) (q_val (q_cmp (fy := .fresh) rfl (q_comp ?_) rfl hz))
  · repeat' first | with_reducible assumption | exact q_nil | refine' q_cmp rfl _ _ _ | refine' q_bin _ _ _ | refine' q_sub _ _ _ _ | refine' q_cons rfl _ _ | refine' q_bfn (by decide +kernel) _ _ | refine' q_call (by decide +kernel) _ _ _ | refine' q_meth (by decide +kernel) _ _ _ | refine' q_lst _ _ | refine' q_tup _ _ | refine' q_frz _ _ | refine' q_dict1 _ _ _ | refine' q_tests _ | refine' q_val _ | refine' q_list _ _ _ | refine' q_enum (by decide +kernel) _ _ _ | refine' nmF _ _ (by decide +kernel) | exact frz_nl | exact fre_nl | with_reducible exact rfl | (show D.comp _ = true; exact rfl) | (show (_ || _) = true; exact rfl) | (show lsOf _ = _; exact rfl) | (show _ ∨ _ ≠ Fl.loose; exact Or.inr (by decide)) | (show _ ∧ _ ≤ cap; exact ⟨rfl, Nat.le_of_ble_eq_true rfl⟩) | assumption
  · repeat' first | with_reducible assumption | exact q_nil | refine' q_cmp rfl _ _ _ | refine' q_bin _ _ _ | refine' q_sub _ _ _ _ | refine' q_cons rfl _ _ | refine' q_bfn (by decide +kernel) _ _ | refine' q_call (by decide +kernel) _ _ _ | refine' q_meth (by decide +kernel) _ _ _ | refine' q_lst _ _ | refine' q_tup _ _ | refine' q_frz _ _ | refine' q_dict1 _ _ _ | refine' q_tests _ | refine' q_val _ | refine' q_list _ _ _ | refine' q_enum (by decide +kernel) _ _ _ | refine' nmF _ _ (by decide +kernel) | exact frz_nl | exact fre_nl | with_reducible exact rfl | (show D.comp _ = true; exact rfl) | (show (_ || _) = true; exact rfl) | (show lsOf _ = _; exact rfl) | (show _ ∨ _ ≠ Fl.loose; exact Or.inr (by decide)) | (show _ ∧ _ ≤ cap; exact ⟨rfl, Nat.le_of_ble_eq_true rfl⟩) | assumption
  · have e := filt_nats (fun _ => false) (List.range (long + 1))
    have e0 : (List.range (long + 1)).filter (fun _ => false) = [] := by simp
    rw [e0] at e
    rw [show ([] : List D) = List.map (fun v : Nat => D.int (v : Int)) [] from rfl, ← e]
    refine comp_filter (qNat _) id ⟨by decide +kernel, rfl, rfl, rfl⟩ ?_ (fun d hd => ?_) (by simp; exact om_157 capE hl40)
    · have e1 : binD .Add (.int (long : Int)) (.int 1) = some (.frozen, .int ((long : Int) + 1)) := rfl
      have e2 : rangeD ((long : Int) + 1) = (List.range (long + 1)).map fun v : Nat => .int (v : Int) := by
        have : ((long : Int) + 1).toNat = long + 1 := by exact om_158
        simp [rangeD, this]
      try dsimp only [ofs_ValueError, ofs_UUclassdictUU, ofs_UUdebugUU, ofs_UUnameUU, ofs_Llaw_counts, ofs_Llaw_far, ofs_Llaw_middle, ofs_a, ofs_add_callers, ofs_append, ofs_at, ofs_b, ofs_begin, ofs_bisect_left, ofs_caller, ofs_callers, ofs_calls, ofs_count, ofs_count_calls, ofs_counts, ofs_ends, ofs_enumerate, ofs_far, ofs_farthest, ofs_func, ofs_here, ofs_hi, ofs_i, ofs_index, ofs_insert, ofs_insort_left, ofs_isinstance, ofs_items, ofs_j, ofs_k, ofs_key, ofs_law, ofs_left, ofs_len, ofs_list, ofs_lo, ofs_long, ofs_many, ofs_max, ofs_mid, ofs_middle, ofs_min, ofs_nc, ofs_new_callers, ofs_number, ofs_one, ofs_order, ofs_other, ofs_place, ofs_range, ofs_row, ofs_script, ofs_sorted, ofs_source, ofs_sum, ofs_table, ofs_target, ofs_there, ofs_tie, ofs_ties, ofs_tuple, ofs_values, ofs_waiting, ofs_x, ofs_zip, den_Ss, den_S, den_E, den_I, den_B, E_int, E_str, E_bool, E_none, E_name, E_bin, E_cmp, E_andV, E_tup, E_lst, E_upto, E_sub_name, E_sub_con, E_sub_bin, E_sub_sub, E_sub_call, E_dict0, E_dict1, E_comp, E_call, E_meth, N_lname, N_isi, B_and0, B_and, B_or0, B_or, B_cmp, B_call, I_call2, I_name, I_lst, I_tup, I_sub, I_bin, I_enum, I_items, S_assignC, S_assign_name, S_assign_con, S_assign_bin, S_assign_call, S_assign_sub, S_assign_cmp, S_assign_ifx, S_assign_lst, S_assign_tup, S_assign_dict, S_assign_boo, S_tup, S_unpack_call, S_setSub, S_augSub, S_augName, S_if, S_while, S_for_name, S_for_call, S_for_lst, S_for_tup, S_for_sub, S_ret, S_retNone, S_mut, Ss_nil, Ss_cons, L_nil, L_cons, dTests_nil, dTests_cons, N1_len, N1_sum, N1_sorted, N1_max, N1_min, N1_list, N2_max, N2_min, N2_isi, N_lrange, I_range, I_enumerate, I_items0, I_values, S_appendN, S_insertN, k0_T, k0_M, k0_mu, k0_K, S_k0, callE, bMut, T_tLaw_len, T_tLaw_sum, T_tLaw_sorted, T_tLaw_max, T_tLaw_min, T_tLaw_list, T_tLaw_range, T_tLaw_enumerate, T_tLaw_isinstance, T_tLaw_Llaw_far, T_tLaw_Llaw_counts, T_tLaw_Llaw_middle, T_tLaw_bisect_left, T_mLaw_len, T_mLaw_sum, T_mLaw_sorted, T_mLaw_max, T_mLaw_min, T_mLaw_list, T_mLaw_range, T_mLaw_enumerate, T_mLaw_isinstance, T_mLaw_insort_left]
      refine (q_range (k := (long : Int) + 1) (fl := .frozen) (by decide +kernel) ?_ (by exact om_159 hl40)).trans (congrArg some e2)
      repeat' first | with_reducible assumption | exact q_nil | refine' q_cmp rfl _ _ _ | refine' q_bin _ _ _ | refine' q_sub _ _ _ _ | refine' q_cons rfl _ _ | refine' q_bfn (by decide +kernel) _ _ | refine' q_call (by decide +kernel) _ _ _ | refine' q_meth (by decide +kernel) _ _ _ | refine' q_lst _ _ | refine' q_tup _ _ | refine' q_frz _ _ | refine' q_dict1 _ _ _ | refine' q_tests _ | refine' q_val _ | refine' q_list _ _ _ | refine' q_enum (by decide +kernel) _ _ _ | refine' nmF _ _ (by decide +kernel) | exact frz_nl | exact fre_nl | with_reducible exact rfl | (show D.comp _ = true; exact rfl) | (show (_ || _) = true; exact rfl) | (show lsOf _ = _; exact rfl) | (show _ ∨ _ ≠ Fl.loose; exact Or.inr (by decide)) | (show _ ∧ _ ≤ cap; exact ⟨rfl, Nat.le_of_ble_eq_true rfl⟩) | assumption
    · obtain ⟨f, hf, rfl⟩ := List.mem_map.mp hd
      have hfl := List.mem_range.mp hf
      have eq : qNat (fun _ => false) (.int (f : Int)) = false := rfl
      rw [eq]
      refine turn1 rfl false ?_ (.frozen, .int (f : Int)) fun q => by cases q
      generalize hρ12 : upd (rhoC _ ρ11) nm_far _ = ρ12
      have d1 : ρ12 nm_order = some (.frz (.lst (so.map .int))) := by rw [← hρ12]; exact o10
      have d2 : ρ12 nm_far = some (.frz (.int (f : Int))) := by rw [← hρ12]; rfl
      obtain ⟨v, hv, e⟩ := F.each one f ho1 hlong (by exact om_160 hfl)
      have hmem : (f : Int) ∈ so := hp.mem_iff.mpr (List.mem_map.mpr ⟨v, List.mem_range.mpr hv, by rw [e]⟩)
      obtain ⟨k, hk, hi, _⟩ := split_sorted (f : Int) so hs
      have hgk := found_sorted (f : Int) so hs hmem k hi
      have hbis := bis_two (so.map .int) (.int (f : Int)) k (by simpa using hk) (by simp; exact om_161 m9 hlen) (fun i d hd => by
        rw [List.getElem?_map] at hd
        obtain ⟨y, hy, rfl⟩ := Option.map_eq_some_iff.mp hd
        show some (decide (y < (f : Int))) = _
        congr 1
        exact decide_eq_decide.mpr (hi i y hy))
      have hit := ints_item so k (f : Int) hgk (by exact om_162 m9 hlen hk)
      try dsimp only [ofs_ValueError, ofs_UUclassdictUU, ofs_UUdebugUU, ofs_UUnameUU, ofs_Llaw_counts, ofs_Llaw_far, ofs_Llaw_middle, ofs_a, ofs_add_callers, ofs_append, ofs_at, ofs_b, ofs_begin, ofs_bisect_left, ofs_caller, ofs_callers, ofs_calls, ofs_count, ofs_count_calls, ofs_counts, ofs_ends, ofs_enumerate, ofs_far, ofs_farthest, ofs_func, ofs_here, ofs_hi, ofs_i, ofs_index, ofs_insert, ofs_insort_left, ofs_isinstance, ofs_items, ofs_j, ofs_k, ofs_key, ofs_law, ofs_left, ofs_len, ofs_list, ofs_lo, ofs_long, ofs_many, ofs_max, ofs_mid, ofs_middle, ofs_min, ofs_nc, ofs_new_callers, ofs_number, ofs_one, ofs_order, ofs_other, ofs_place, ofs_range, ofs_row, ofs_script, ofs_sorted, ofs_source, ofs_sum, ofs_table, ofs_target, ofs_there, ofs_tie, ofs_ties, ofs_tuple, ofs_values, ofs_waiting, ofs_x, ofs_zip, den_Ss, den_S, den_E, den_I, den_B, E_int, E_str, E_bool, E_none, E_name, E_bin, E_cmp, E_andV, E_tup, E_lst, E_upto, E_sub_name, E_sub_con, E_sub_bin, E_sub_sub, E_sub_call, E_dict0, E_dict1, E_comp, E_call, E_meth, N_lname, N_isi, B_and0, B_and, B_or0, B_or, B_cmp, B_call, I_call2, I_name, I_lst, I_tup, I_sub, I_bin, I_enum, I_items, S_assignC, S_assign_name, S_assign_con, S_assign_bin, S_assign_call, S_assign_sub, S_assign_cmp, S_assign_ifx, S_assign_lst, S_assign_tup, S_assign_dict, S_assign_boo, S_tup, S_unpack_call, S_setSub, S_augSub, S_augName, S_if, S_while, S_for_name, S_for_call, S_for_lst, S_for_tup, S_for_sub, S_ret, S_retNone, S_mut, Ss_nil, Ss_cons, L_nil, L_cons, dTests_nil, dTests_cons, N1_len, N1_sum, N1_sorted, N1_max, N1_min, N1_list, N2_max, N2_min, N2_isi, N_lrange, I_range, I_enumerate, I_items0, I_values, S_appendN, S_insertN, k0_T, k0_M, k0_mu, k0_K, S_k0, callE, bMut, T_tLaw_len, T_tLaw_sum, T_tLaw_sorted, T_tLaw_max, T_tLaw_min, T_tLaw_list, T_tLaw_range, T_tLaw_enumerate, T_tLaw_isinstance, T_tLaw_Llaw_far, T_tLaw_Llaw_counts, T_tLaw_Llaw_middle, T_tLaw_bisect_left, T_mLaw_len, T_mLaw_sum, T_mLaw_sorted, T_mLaw_max, T_mLaw_min, T_mLaw_list, T_mLaw_range, T_mLaw_enumerate, T_mLaw_isinstance, T_mLaw_insort_left]
      have hc := cmp_neF (x := (f : Int)) rfl
      refine q_one (q_cmp (fx := .frozen) (fy := .frozen) rfl ?_ ?_ hc)
      repeat' first | with_reducible assumption | exact q_nil | refine' q_cmp rfl _ _ _ | refine' q_bin _ _ _ | refine' q_sub _ _ _ _ | refine' q_cons rfl _ _ | refine' q_bfn (by decide +kernel) _ _ | refine' q_call (by decide +kernel) _ _ _ | refine' q_meth (by decide +kernel) _ _ _ | refine' q_lst _ _ | refine' q_tup _ _ | refine' q_frz _ _ | refine' q_dict1 _ _ _ | refine' q_tests _ | refine' q_val _ | refine' q_list _ _ _ | refine' q_enum (by decide +kernel) _ _ _ | refine' nmF _ _ (by decide +kernel) | exact frz_nl | exact fre_nl | with_reducible exact rfl | (show D.comp _ = true; exact rfl) | (show (_ || _) = true; exact rfl) | (show lsOf _ = _; exact rfl) | (show _ ∨ _ ≠ Fl.loose; exact Or.inr (by decide)) | (show _ ∧ _ ≤ cap; exact ⟨rfl, Nat.le_of_ble_eq_true rfl⟩) | assumption
end Mine
end
section
open PySem PySem.W PyProof.Rows PySem.Spec PySem.SeqAt
set_option linter.all false
namespace Mine
structure Tree (ts : List Tie) (m : Nat) (δ : Nat → Nat → Nat) : Prop where
  zero : ∀ a, δ a a = 0
  eq : ∀ a b, δ a b = 0 → a = b
  symm : ∀ a b, δ a b = δ b a
  step : ∀ a u v, adj ts u v → δ a u = δ a v + 1 ∨ δ a v = δ a u + 1
  uniq : ∀ a v u1 u2, adj ts v u1 → adj ts v u2 → δ a u1 + 1 = δ a v → δ a u2 + 1 = δ a v → u1 = u2
  back : ∀ a v, a < m → v < m → a ≠ v → ∃ u, u < m ∧ adj ts v u ∧ δ a u + 1 = δ a v
  up : ∀ t ∈ ts, t.1 < t.2
  lt : ∀ t ∈ ts, t.2 < m
  nd : ts.Nodup
  sum : ∀ a b, δ a b ≤ a + b

noncomputable def Par := { p : Nat → Nat // ∀ j, 0 < j → p j < j }
noncomputable def pdF (p : Par) : Nat → Nat → Nat → Nat
  | 0, _, _ => 0
  | n + 1, a, b => if a = b then 0 else if a < b then pdF p n a (p.1 b) + 1 else pdF p n (p.1 a) b + 1
theorem pdF_more (p : Par) : ∀ n m a b, a + b ≤ n → n ≤ m → pdF p n a b = pdF p m a b := by
  intro n
  induction n with
  | zero =>
    intro m a b h _
    have ha : a = 0 := by exact om_163 h
    have hb : b = 0 := by exact om_164 h
    subst ha hb
    cases m with
    | zero => rfl
    | succ m => exact (if_pos rfl).symm
  | succ n ih =>
    intro m a b h hm
    cases m with
    | zero => exact absurd_om (om_165 hm)
    | succ m =>
      show (if a = b then 0 else if a < b then pdF p n a (p.1 b) + 1 else pdF p n (p.1 a) b + 1) = if a = b then 0 else if a < b then pdF p m a (p.1 b) + 1 else pdF p m (p.1 a) b + 1
      by_cases q : a = b
      · rw [if_pos q, if_pos q]
      · rw [if_neg q, if_neg q]
        by_cases q2 : a < b
        · have := p.2 b (by exact om_166 q2)
          rw [if_pos q2, if_pos q2, ih m a (p.1 b) (by exact om_167 h this) (by exact om_168 hm)]
        · have := p.2 a (by exact om_169 q q2)
          rw [if_neg q2, if_neg q2, ih m (p.1 a) b (by exact om_170 h this) (by exact om_168 hm)]
noncomputable def pdist (p : Par) (a b : Nat) : Nat := pdF p (a + b) a b
theorem pdist_self (p : Par) (a : Nat) : pdist p a a = 0 := by
  unfold pdist
  cases a + a with
  | zero => rfl
  | succ n => exact if_pos rfl
theorem pdist_lt (p : Par) {a b : Nat} (h : a < b) : pdist p a b = pdist p a (p.1 b) + 1 := by
  have := p.2 b (by exact om_166 h)
  unfold pdist
  rw [show a + b = (a + b - 1) + 1 by exact om_171 this, pdF_more p (a + p.1 b) (a + b - 1) a (p.1 b) (by exact om_172) (by exact om_173 this)]
  exact (if_neg (by exact om_174 h)).trans (if_pos h)
theorem pdist_gt (p : Par) {a b : Nat} (h : b < a) : pdist p a b = pdist p (p.1 a) b + 1 := by
  have := p.2 a (by exact om_166 h)
  unfold pdist
  rw [show a + b = (a + b - 1) + 1 by exact om_175 this, pdF_more p (p.1 a + b) (a + b - 1) (p.1 a) b (by exact om_172) (by exact om_176 this)]
  exact (if_neg (by exact om_177 h)).trans (if_neg (by exact om_178 h))
theorem pdist_eq (p : Par) (a b : Nat) (h : pdist p a b = 0) : a = b := by
  rcases Nat.lt_trichotomy a b with q | q | q
  · rw [pdist_lt p q] at h; cases h
  · exact q
  · rw [pdist_gt p q] at h; cases h
theorem pdist_symm (p : Par) : ∀ n a b, a + b ≤ n → pdist p a b = pdist p b a := by
  intro n
  induction n with
  | zero => intro a b h; have : a = b := by exact om_179 h
            rw [this]
  | succ n ih =>
    intro a b h
    rcases Nat.lt_trichotomy a b with q | q | q
    · have := p.2 b (by exact om_166 q)
      rw [pdist_lt p q, pdist_gt p q, ih a (p.1 b) (by exact om_167 h this)]
    · rw [q]
    · have := p.2 a (by exact om_166 q)
      rw [pdist_lt p q, pdist_gt p q, ih b (p.1 a) (by exact om_180 h this)]
theorem pdist_sum (p : Par) : ∀ n a b, a + b ≤ n → pdist p a b ≤ a + b := by
  intro n
  induction n with
  | zero => intro a b h; have : a = b := by exact om_179 h
            rw [this, pdist_self]; exact om_181
  | succ n ih =>
    intro a b h
    rcases Nat.lt_trichotomy a b with q | q | q
    · have := p.2 b (by exact om_166 q)
      have := ih a (p.1 b) (by exact om_167 h this)
      rw [pdist_lt p q]; omega
    · rw [q, pdist_self]; exact om_181
    · have := p.2 a (by exact om_166 q)
      have := ih (p.1 a) b (by exact om_170 h this)
      rw [pdist_gt p q]; omega
theorem pdist_step (p : Par) : ∀ a v, 0 < v → pdist p a (p.1 v) = pdist p a v + 1 ∨ pdist p a v = pdist p a (p.1 v) + 1 := by
  intro a
  induction a using Nat.strongRecOn with
  | _ a ih =>
    intro v hv
    have hp := p.2 v hv
    rcases Nat.lt_trichotomy a v with q | q | q
    · exact Or.inr (pdist_lt p q)
    · subst q
      left
      rw [pdist_gt p hp, pdist_self, pdist_self]
    · have ha := p.2 a (by exact om_166 q)
      rw [pdist_gt p q, pdist_gt p (show p.1 v < a by exact om_182 hp q)]
      rcases ih (p.1 a) ha v hv with r | r <;> omega
/-- one is the other's parent -/
noncomputable def padj (p : Par) (u v : Nat) : Prop := (0 < v ∧ u = p.1 v) ∨ (0 < u ∧ v = p.1 u)
theorem pdist_child (p : Par) {a v u : Nat} (hu : 0 < u) (e : v = p.1 u) (h : a < u) : pdist p a u = pdist p a v + 1 := by rw [pdist_lt p h, e]
theorem pdist_uniq (p : Par) : ∀ a v u1 u2, padj p v u1 → padj p v u2 → pdist p a u1 + 1 = pdist p a v → pdist p a u2 + 1 = pdist p a v → u1 = u2 := by
  intro a
  induction a using Nat.strongRecOn with
  | _ a ih =>
    intro v u1 u2 h1 h2 e1 e2
    rcases Nat.lt_trichotomy a v with q | q | q
    · have key : ∀ u, padj p v u → pdist p a u + 1 = pdist p a v → u = p.1 v := by
        intro u h e
        rcases h with ⟨hu, hv⟩ | ⟨hv, hu⟩
        · have := p.2 u hu
          have := pdist_child p hu hv (show a < u by exact om_183 q hv this)
          exact absurd_om (om_184 e this)
        · exact hu
      rw [key u1 h1 e1, key u2 h2 e2]
    · subst q; rw [pdist_self] at e1; exact absurd_om (om_99 e1)
    · have ha := p.2 a (by exact om_166 q)
      have key : ∀ u, padj p v u → pdist p a u + 1 = pdist p a v → u = a ∨ u < a := by
        intro u h e
        rcases Nat.lt_trichotomy u a with r | r | r
        · exact Or.inr r
        · exact Or.inl r
        · exfalso
          rcases h with ⟨hu, hv⟩ | ⟨hv, hu⟩
          · have := pdist_child p hu hv r
            exact absurd_om (om_184 e this)
          · have := p.2 v hv
            exact absurd_om (om_185 q r hu this)
      have one : ∀ u w, padj p v u → padj p v w → pdist p a u + 1 = pdist p a v → pdist p a w + 1 = pdist p a v → u = a → u = w := by
        intro u w hu hw eu ew hua
        subst hua
        rw [pdist_self] at eu
        have : pdist p u w = 0 := by exact om_186 eu ew
        exact pdist_eq p u w this
      rcases key u1 h1 e1 with r1 | r1
      · exact one u1 u2 h1 h2 e1 e2 r1
      · rcases key u2 h2 e2 with r2 | r2
        · exact (one u2 u1 h2 h1 e2 e1 r2).symm
        · rw [pdist_gt p q, pdist_gt p r1] at e1
          rw [pdist_gt p q, pdist_gt p r2] at e2
          exact ih (p.1 a) ha v u1 u2 h1 h2 (by exact om_187 e1) (by exact om_187 e2)
theorem pdist_back (p : Par) : ∀ a v, a ≠ v → ∃ u, (u ≤ a ∨ u ≤ v) ∧ padj p v u ∧ pdist p a u + 1 = pdist p a v := by
  intro a
  induction a using Nat.strongRecOn with
  | _ a ih =>
    intro v hne
    rcases Nat.lt_trichotomy a v with q | q | q
    · have := p.2 v (by exact om_166 q)
      exact ⟨p.1 v, Or.inr (by exact om_188 this), Or.inr ⟨by exact om_166 this, rfl⟩, (pdist_lt p q).symm⟩
    · exact absurd q hne
    · have ha := p.2 a (by exact om_166 q)
      by_cases r : p.1 a = v
      · exact ⟨a, Or.inl (Nat.le_refl _), Or.inl ⟨by exact om_166 ha, r.symm⟩, by rw [pdist_self, pdist_gt p q, r, pdist_self]⟩
      · obtain ⟨u, hu, hadj, e⟩ := ih (p.1 a) ha v r
        have hua : u < a := by
          rcases Nat.lt_trichotomy u a with s | s | s
          · exact s
          · exfalso
            subst s
            rcases hadj with ⟨_, h⟩ | ⟨h0, h⟩
            · exact r h.symm
            · have := p.2 v h0; exact absurd_om (om_189 q h this)
          · exact absurd_om (om_190 q ha hu s)
        exact ⟨u, Or.inl (by exact om_188 hua), hadj, by rw [pdist_gt p q, pdist_gt p hua]; exact om_191 e⟩
/-- the ties of a tree told by its parents -/
theorem tree_of_par (p : Par) (ts : List Tie) (m : Nat) (h : ∀ u v, (u, v) ∈ ts ↔ (0 < v ∧ v < m ∧ u = p.1 v)) (hn : ts.Nodup) : Tree ts m (pdist p) := by
  have ha : ∀ u v, adj ts u v → padj p u v := by
    intro u v hadj
    rcases hadj with q | q
    · have := (h u v).mp q; exact Or.inl ⟨this.1, this.2.2⟩
    · have := (h v u).mp q; exact Or.inr ⟨this.1, this.2.2⟩
  refine ⟨pdist_self p, pdist_eq p, fun a b => pdist_symm p _ a b (Nat.le_refl _), fun a u v hadj => ?_, fun a v u1 u2 h1 h2 => pdist_uniq p a v u1 u2 (ha _ _ h1) (ha _ _ h2), fun a v ham hvm hne => ?_, ?_, ?_, hn, fun a b => pdist_sum p _ a b (Nat.le_refl _)⟩
  · rcases ha u v hadj with ⟨h0, rfl⟩ | ⟨h0, rfl⟩
    · exact pdist_step p a v h0
    · exact (pdist_step p a u h0).symm
  · obtain ⟨u, hu, hadj, e⟩ := pdist_back p a v hne
    have hum : u < m := by exact om_192 ham hvm hu
    refine ⟨u, hum, ?_, e⟩
    rcases hadj with ⟨h0, e⟩ | ⟨h0, e⟩
    · exact Or.inl ((h v u).mpr ⟨h0, hum, e⟩)
    · exact Or.inr ((h u v).mpr ⟨h0, hvm, e⟩)
  · intro t ht
    have := (h t.1 t.2).mp ht
    rw [this.2.2]
    exact p.2 _ this.1
  · intro t ht
    exact ((h t.1 t.2).mp ht).2.1
theorem Tree.distOk {ts : List Tie} {m : Nat} {δ : Nat → Nat → Nat} (T : Tree ts m δ) {s : Nat} (hs : s < m) : DistOk ts m s (δ s) :=
  ⟨T.zero s, fun u v h => T.step s u v h, fun v u1 u2 _ h1 h2 => T.uniq s v u1 u2 h1 h2, fun v hv hne => T.back s v hs hv (Ne.symm hne)⟩
end Mine
end
section
open PySem PySem.W PyProof.Rows PySem.Spec PySem.SeqAt
set_option linter.all false
namespace Mine
noncomputable def nbr (v : Nat) (t : Tie) : Option Nat := if t.1 = v then some t.2 else if t.2 = v then some t.1 else none
noncomputable def nbL (H : List Tie) (v : Nat) : List Nat := H.filterMap (nbr v)
theorem nbr_eq {v x : Nat} {t : Tie} (h : nbr v t = some x) : t = (v, x) ∨ t = (x, v) := by
  obtain ⟨a, b⟩ := t
  unfold nbr at h
  simp only at h
  split at h
  · rename_i q; cases h; left; rw [q]
  · split at h
    · rename_i q; cases h; right; rw [q]
    · cases h
theorem mem_nbL {H : List Tie} (hu : ∀ t ∈ H, t.1 < t.2) {v x : Nat} : x ∈ nbL H v ↔ adj H v x := by
  unfold nbL
  rw [List.mem_filterMap]
  constructor
  · rintro ⟨t, ht, e⟩
    rcases nbr_eq e with rfl | rfl
    · exact Or.inl ht
    · exact Or.inr ht
  · rintro (h | h)
    · exact ⟨_, h, by simp [nbr]⟩
    · have : ¬ x = v := by have := hu _ h; simp only at this; exact om_174 this
      exact ⟨_, h, by simp [nbr, this]⟩
theorem nodup_nbL {v : Nat} : ∀ {H : List Tie}, H.Nodup → (∀ t ∈ H, t.1 < t.2) → (nbL H v).Nodup
  | [], _, _ => List.nodup_nil
  | t :: H, hn, hu => by
    rw [List.nodup_cons] at hn
    have ih := nodup_nbL (v := v) hn.2 fun s hs => hu s (List.mem_cons_of_mem _ hs)
    unfold nbL at ih ⊢
    rw [List.filterMap_cons]
    cases e : nbr v t with
    | none => exact ih
    | some x =>
      simp only
      refine List.nodup_cons.mpr ⟨fun hx => ?_, ih⟩
      obtain ⟨s, hs, es⟩ := List.mem_filterMap.mp hx
      have ht1 := hu t List.mem_cons_self
      have hs1 := hu s (List.mem_cons_of_mem _ hs)
      have : t = s := by
        rcases nbr_eq e with r1 | r1 <;> rcases nbr_eq es with r2 | r2 <;> rw [r1] at ht1 ⊢ <;> rw [r2] at hs1 ⊢ <;> simp only at ht1 hs1
        · exact absurd_om (om_193 ht1 hs1)
        · exact absurd_om (om_193 ht1 hs1)
      exact hn.1 (this ▸ hs)
theorem inc_nbL {v : Nat} : ∀ {H : List Tie}, (∀ t ∈ H, t.1 < t.2) → inc H v = ((nbL H v).length : Int)
  | [], _ => rfl
  | t :: H, hu => by
    have ih := inc_nbL (v := v) fun s hs => hu s (List.mem_cons_of_mem (a := s) t hs)
    have ht := hu t List.mem_cons_self
    have e : inc (t :: H) v = ((if t.1 = v then (1 : Int) else 0) + (if t.2 = v then 1 else 0)) + inc H v := by simp [inc]
    rw [e, ih]
    unfold nbL
    rw [List.filterMap_cons]
    unfold nbr
    by_cases q1 : t.1 = v
    · have q2 : ¬ t.2 = v := by exact om_194 ht q1
      simp [q1, q2]; exact om_195
    · by_cases q2 : t.2 = v
      · simp [q1, q2]; exact om_195
      · simp [q1, q2]
noncomputable def HL (ts : List Tie) (L : List Nat) : List Tie := ts.filter fun t => decide (t.1 ∈ L) && decide (t.2 ∈ L)
theorem adj_HL {ts : List Tie} {L : List Nat} {u v : Nat} : adj (HL ts L) u v ↔ adj ts u v ∧ u ∈ L ∧ v ∈ L := by
  unfold adj HL
  simp only [List.mem_filter, Bool.and_eq_true, decide_eq_true_eq]
  constructor
  · rintro (⟨h, a, b⟩ | ⟨h, a, b⟩)
    · exact ⟨Or.inl h, a, b⟩
    · exact ⟨Or.inr h, b, a⟩
  · rintro ⟨h | h, a, b⟩
    · exact Or.inl ⟨h, a, b⟩
    · exact Or.inr ⟨h, b, a⟩
structure Sub (ts : List Tie) (m : Nat) (δ : Nat → Nat → Nat) (L : List Nat) : Prop where
  nd : L.Nodup
  lt : ∀ v ∈ L, v < m
  ne : L ≠ []
  conv : ∀ a ∈ L, ∀ b ∈ L, a ≠ b → ∃ u ∈ L, adj ts b u ∧ δ a u + 1 = δ a b

variable {ts : List Tie} {m : Nat} {δ : Nat → Nat → Nat} {L : List Nat}
theorem HL_up (T : Tree ts m δ) : ∀ t ∈ HL ts L, t.1 < t.2 := fun t h => T.up t (List.mem_filter.mp h).1
theorem HL_nd (T : Tree ts m δ) : (HL ts L).Nodup := T.nd.sublist List.filter_sublist
theorem two_of {α : Type} : ∀ {l : List α}, 2 ≤ l.length → ∃ a b r, l = a :: b :: r
  | a :: b :: r, _ => ⟨a, b, r, rfl⟩
  | [a], h => by simp at h
  | [], h => by simp at h
theorem leafU (T : Tree ts m δ) {v u1 u2 : Nat} (h : inc (HL ts L) v = 1) (hv : v ∈ L) (h1 : u1 ∈ L) (h2 : u2 ∈ L) (a1 : adj ts v u1) (a2 : adj ts v u2) : u1 = u2 := by
  rw [inc_nbL (HL_up T)] at h
  have m1 := (mem_nbL (HL_up T)).mpr (adj_HL.mpr ⟨a1, hv, h1⟩)
  have m2 := (mem_nbL (HL_up T)).mpr (adj_HL.mpr ⟨a2, hv, h2⟩)
  match e : nbL (HL ts L) v, h, m1, m2 with
  | [x], _, m1, m2 => rw [List.mem_singleton.mp m1, List.mem_singleton.mp m2]
  | [], h, _, _ => simp at h
  | x :: y :: r, h, _, _ => simp at h; exact absurd_om (om_196 h)
theorem other_of (S : Sub ts m δ L) (h2 : 2 ≤ L.length) (v : Nat) : ∃ a ∈ L, a ≠ v := by
  obtain ⟨a, b, r, e⟩ := two_of h2
  by_cases q : a = v
  · refine ⟨b, by rw [e]; simp, fun hb => ?_⟩
    have := S.nd
    rw [e, q, hb] at this
    simp at this
  · exact ⟨a, by rw [e]; simp, q⟩
theorem innerU (T : Tree ts m δ) (S : Sub ts m δ L) (h2 : 2 ≤ L.length) {v : Nat} (hv : v ∈ L) (h : inc (HL ts L) v ≠ 1) (u0 : Nat) : ∃ u ∈ L, u ≠ u0 ∧ adj ts v u := by
  obtain ⟨a, ha, hav⟩ := other_of S h2 v
  obtain ⟨x, hx, hxa, _⟩ := S.conv a ha v hv hav
  have hmem := (mem_nbL (HL_up T)).mpr (adj_HL.mpr ⟨hxa, hv, hx⟩)
  rw [inc_nbL (HL_up T)] at h
  have hlen : 2 ≤ (nbL (HL ts L) v).length := by
    have := List.length_pos_of_mem hmem
    exact om_197 h this
  obtain ⟨y, z, r, e⟩ := two_of hlen
  have hn := nodup_nbL (v := v) (HL_nd (L := L) T) (HL_up T)
  have hy := adj_HL.mp ((mem_nbL (HL_up T)).mp (show y ∈ nbL (HL ts L) v by rw [e]; simp))
  have hz := adj_HL.mp ((mem_nbL (HL_up T)).mp (show z ∈ nbL (HL ts L) v by rw [e]; simp))
  by_cases q : y = u0
  · refine ⟨z, hz.2.2, fun hzu => ?_, hz.1⟩
    rw [e, q, hzu] at hn
    simp at hn
  · exact ⟨y, hy.2.2, q, hy.1⟩

noncomputable def mx (f : Nat → Nat) : List Nat → Nat
  | [] => 0
  | x :: l => max (f x) (mx f l)
theorem mx_le {f : Nat → Nat} : ∀ {L : List Nat} {x : Nat}, x ∈ L → f x ≤ mx f L
  | y :: L, x, h => by
    unfold mx
    rcases List.mem_cons.mp h with q | q
    · rw [q]; exact om_198
    · have := mx_le (f := f) q; exact om_199 this
theorem mx_mem {f : Nat → Nat} : ∀ {L : List Nat}, L ≠ [] → ∃ x ∈ L, f x = mx f L
  | [x], _ => ⟨x, by simp, by simp [mx]⟩
  | x :: y :: L, _ => by
    obtain ⟨z, hz, e⟩ := mx_mem (f := f) (L := y :: L) (by simp)
    unfold mx
    by_cases q : f x ≤ mx f (y :: L)
    · exact ⟨z, List.mem_cons_of_mem _ hz, by exact om_200 e q⟩
    · exact ⟨x, List.mem_cons_self, by exact om_201 q⟩
noncomputable def eccL (δ : Nat → Nat → Nat) (L : List Nat) (v : Nat) : Nat := mx (δ v) L
theorem ecc_le {v x : Nat} (h : x ∈ L) : δ v x ≤ eccL δ L v := mx_le h
theorem ecc_mem (S : Sub ts m δ L) (v : Nat) : ∃ x ∈ L, δ v x = eccL δ L v := mx_mem S.ne
theorem ecc_eq (S : Sub ts m δ L) {v e : Nat} (h1 : ∀ x ∈ L, δ v x ≤ e) (h2 : ∃ x ∈ L, e ≤ δ v x) : eccL δ L v = e := by
  obtain ⟨x, hx, h⟩ := ecc_mem S v
  obtain ⟨y, hy, h'⟩ := h2
  have := h1 x hx
  have := ecc_le (δ := δ) (v := v) hy
  omega
/-- a step away -/
theorem away (T : Tree ts m δ) {a w n x : Nat} (hn : adj ts w n) (en : δ a n + 1 = δ a w) (hx : adj ts w x) (hne : x ≠ n) : δ a x = δ a w + 1 := by
  rcases T.step a w x hx with q | q
  · exact absurd (T.uniq a w x n hx hn q.symm en) hne
  · exact q
theorem far_leaf (T : Tree ts m δ) (S : Sub ts m δ L) (h2 : 2 ≤ L.length) {v w : Nat} (hv : v ∈ L) (hw : w ∈ L) (h : δ v w = eccL δ L v) : inc (HL ts L) w = 1 := by
  refine Classical.byContradiction fun hl => ?_
  by_cases q : v = w
  · subst q
    obtain ⟨x, hx, hxv⟩ := other_of S h2 v
    have := ecc_le (δ := δ) (v := v) hx
    rw [T.zero] at h
    have : δ v x = 0 := by exact om_202 h this
    exact hxv (T.eq v x this).symm
  · obtain ⟨n, hn, han, en⟩ := S.conv v hv w hw q
    obtain ⟨x, hx, hxn, hxa⟩ := innerU T S h2 hw hl n
    have := away T han en hxa hxn
    have := ecc_le (δ := δ) (v := v) hx
    omega
/-- the leaves left out -/
noncomputable def cut (ts : List Tie) (L : List Nat) : List Nat := L.filter fun v => decide (¬ inc (HL ts L) v = 1)
theorem mem_cut {v : Nat} : v ∈ cut ts L ↔ v ∈ L ∧ inc (HL ts L) v ≠ 1 := by simp [cut]
/-- a leaf's neighbour is none -/
theorem leaf_nb (T : Tree ts m δ) (S : Sub ts m δ L) (h3 : 3 ≤ L.length) {l u : Nat} (hl : l ∈ L) (hu : u ∈ L) (h : inc (HL ts L) l = 1) (ha : adj ts l u) : u ∈ cut ts L := by
  refine mem_cut.mpr ⟨hu, fun hu1 => ?_⟩
  have hlu : l ≠ u := by
    intro e
    rw [e] at ha
    rcases ha with q | q <;> · have := T.up _ q; simp only at this; exact absurd_om (om_203 this)
  obtain ⟨c, hc, hcl, hcu⟩ : ∃ c ∈ L, c ≠ l ∧ c ≠ u := by
    refine Classical.byContradiction fun hno => ?_
    have hsub : L ⊆ [l, u] := fun c hc => by
      by_cases q : c = l
      · rw [q]; simp
      · by_cases r : c = u
        · rw [r]; simp
        · exact absurd ⟨c, hc, q, r⟩ hno
    have := S.nd.length_le_of_subset hsub
    simp at this
    exact absurd_om (om_204 h3 this)
  obtain ⟨n, hn, han, en⟩ := S.conv c hc l hl hcl
  have e1 : n = u := leafU T h hl hn hu han ha
  obtain ⟨n2, hn2, han2, en2⟩ := S.conv c hc u hu hcu
  have e2 : n2 = l := leafU T hu1 hu hn2 hl han2 (adj_symm ha)
  rw [e1] at en
  rw [e2] at en2
  exact absurd_om (om_205 en en2)
theorem leaf_way (T : Tree ts m δ) (S : Sub ts m δ L) {l u x : Nat} (hl : l ∈ L) (hu : u ∈ L) (h : inc (HL ts L) l = 1) (ha : adj ts l u) (hx : x ∈ L) (hxl : x ≠ l) : δ l x = δ u x + 1 := by
  obtain ⟨n, hn, han, en⟩ := S.conv x hx l hl hxl
  have e1 : n = u := leafU T h hl hn hu han ha
  rw [e1] at en
  rw [T.symm l x, T.symm u x]
  exact om_206 en
theorem leaf_has (T : Tree ts m δ) (S : Sub ts m δ L) (h2 : 2 ≤ L.length) {l : Nat} (hl : l ∈ L) : ∃ u ∈ L, adj ts l u := by
  obtain ⟨a, ha, hal⟩ := other_of S h2 l
  obtain ⟨n, hn, han, _⟩ := S.conv a ha l hl hal
  exact ⟨n, hn, han⟩
theorem cut_sub (T : Tree ts m δ) (S : Sub ts m δ L) (h3 : 3 ≤ L.length) : Sub ts m δ (cut ts L) := by
  refine ⟨S.nd.sublist List.filter_sublist, fun v hv => S.lt v (mem_cut.mp hv).1, ?_, fun a ha b hb hab => ?_⟩
  · obtain ⟨v, hv, e⟩ := ecc_mem S (L.head S.ne)
    have hlf := far_leaf T S (by exact om_207 h3) (List.head_mem S.ne) hv e
    obtain ⟨u, hu, hadj⟩ := leaf_has T S (by exact om_207 h3) hv
    exact List.ne_nil_of_mem (leaf_nb T S h3 hv hu hlf hadj)
  · have ha' := mem_cut.mp ha
    have hb' := mem_cut.mp hb
    obtain ⟨u, hu, hadj, e⟩ := S.conv a ha'.1 b hb'.1 hab
    refine ⟨u, mem_cut.mpr ⟨hu, fun hlf => ?_⟩, hadj, e⟩
    by_cases q : a = u
    · exact ha'.2 (q ▸ hlf)
    · obtain ⟨n, hn, han, en⟩ := S.conv a ha'.1 u hu q
      have := leafU T hlf hu hn hb'.1 han (adj_symm hadj)
      rw [this] at en
      exact absurd_om (om_205 e en)
theorem ecc_cut (T : Tree ts m δ) (S : Sub ts m δ L) (h3 : 3 ≤ L.length) {v : Nat} (hv : v ∈ cut ts L) : eccL δ L v = eccL δ (cut ts L) v + 1 := by
  have hv' := mem_cut.mp hv
  refine ecc_eq S (fun x hx => ?_) ?_
  · by_cases q : inc (HL ts L) x = 1
    · have hxv : v ≠ x := fun e => hv'.2 (e ▸ q)
      obtain ⟨u, hu, hadj, e⟩ := S.conv v hv'.1 x hx hxv
      have := ecc_le (δ := δ) (v := v) (leaf_nb T S h3 hx hu q hadj)
      exact om_208 e this
    · have := ecc_le (δ := δ) (v := v) (mem_cut.mpr ⟨hx, q⟩)
      exact om_209 this
  · obtain ⟨w, hw, e⟩ := ecc_mem (cut_sub T S h3) v
    have hw' := mem_cut.mp hw
    by_cases q : v = w
    · subst q
      obtain ⟨x, hx, hxn, hxa⟩ := innerU T S (by exact om_207 h3) hv'.1 hv'.2 v
      refine ⟨x, hx, ?_⟩
      rw [T.zero] at e
      have : δ v x ≠ 0 := fun h0 => hxn (T.eq v x h0).symm
      exact om_210 e this
    · obtain ⟨n, hn, han, en⟩ := S.conv v hv'.1 w hw'.1 q
      obtain ⟨x, hx, hxn, hxa⟩ := innerU T S (by exact om_207 h3) hw'.1 hw'.2 n
      have := away T han en hxa hxn
      exact ⟨x, hx, by exact om_211 e this⟩
theorem ecc_leaf (T : Tree ts m δ) (S : Sub ts m δ L) (h3 : 3 ≤ L.length) {l u : Nat} (hl : l ∈ L) (hu : u ∈ L) (h : inc (HL ts L) l = 1) (ha : adj ts l u) : eccL δ L l = eccL δ L u + 1 := by
  have huc := leaf_nb T S h3 hl hu h ha
  refine ecc_eq S (fun x hx => ?_) ?_
  · by_cases q : x = l
    · rw [q, T.zero]; exact om_212
    · have := leaf_way T S hl hu h ha hx q
      have := ecc_le (δ := δ) (v := u) hx
      omega
  · obtain ⟨x, hx, e⟩ := ecc_mem S u
    by_cases q : x = l
    · obtain ⟨y, hy, hyl, hya⟩ := innerU T S (by exact om_207 h3) hu (mem_cut.mp huc).2 l
      have e1 : δ u y ≠ 0 := fun h0 => by
        have := T.eq u y h0
        rw [← this] at hya
        rcases hya with r | r <;> · have := T.up _ r; simp only at this; exact absurd_om (om_203 this)
      have e2 : δ u x = 1 := by
        rw [q]
        have hul : u ≠ l := by
          intro e
          rw [e] at ha
          rcases ha with r | r <;> · have := T.up _ r; simp only at this; exact absurd_om (om_203 this)
        have := leaf_way T S hl hu h ha hu hul
        rw [T.zero] at this
        rw [T.symm]; exact this
      have := leaf_way T S hl hu h ha hy hyl
      exact ⟨y, hy, by exact om_213 e e1 e2 this⟩
    · have := leaf_way T S hl hu h ha hx q
      exact ⟨x, hx, by exact om_211 e this⟩
end Mine
end
section
open PySem PySem.W PyProof.Rows PySem.Spec PySem.SeqAt
set_option linter.all false
namespace Mine
variable {ts : List Tie} {m : Nat} {δ : Nat → Nat → Nat} {L : List Nat}
theorem restL_cut : restL L (HL ts L) = cut ts L := by
  unfold restL cut
  refine List.filter_congr fun v hv => ?_
  simp [endsOf, hv]
theorem restH_cut : restH L (HL ts L) = HL ts (cut ts L) := by
  unfold restH
  rw [restL_cut]
  unfold HL
  rw [List.filter_filter]
  refine List.filter_congr fun t ht => ?_
  have hsub : ∀ v, v ∈ cut ts L → v ∈ L := fun v hv => (mem_cut.mp hv).1
  by_cases q1 : t.1 ∈ cut ts L
  · by_cases q2 : t.2 ∈ cut ts L
    · simp [q1, q2, hsub _ q1, hsub _ q2]
    · simp [q2]
  · simp [q1]
structure Strip (ts : List Tie) (δ : Nat → Nat → Nat) (L : List Nat) (rad long : Nat) (M : List Nat) : Prop where
  run : ∀ k, L.length ≤ k → midGo k L (HL ts L) = some M
  midE : M = L.filter fun v => decide (eccL δ L v = rad)
  radLe : ∀ v ∈ L, rad ≤ eccL δ L v
  radMem : ∃ v ∈ L, eccL δ L v = rad
  longLe : ∀ v ∈ L, eccL δ L v ≤ long
  longMem : ∃ v ∈ L, eccL δ L v = long
  len : long + M.length = 2 * rad + 1
  two : ∀ a b, M = [a, b] → δ a b = 1
  far2 : ∀ b ∈ L, ∀ o ∈ L, δ b o = eccL δ L b → eccL δ L o = long
  over : ∀ a ∈ L, ∀ b ∈ L, δ a b = long → ∀ c ∈ M, δ a c + δ c b = long
theorem strip_one (T : Tree ts m δ) (a : Nat) : Strip ts δ [a] 0 0 [a] := by
  have e : eccL δ [a] a = 0 := by simp [eccL, mx, T.zero]
  have z := T.zero a
  refine ⟨fun k _ => midGo_some (by simp), ?_, ?_, ?_, ?_, ?_, ?_, ?_, ?_, ?_⟩ <;> simp [e, z]
theorem strip_two (T : Tree ts m δ) (a b : Nat) (S : Sub ts m δ [a, b]) : Strip ts δ [a, b] 1 1 [a, b] := by
  have hab : a ≠ b := fun e => by have := S.nd; rw [e] at this; simp at this
  have e1 : δ a b = 1 := by
    obtain ⟨u, hu, _, e⟩ := S.conv a (by simp) b (by simp) hab
    rcases List.mem_cons.mp hu with q | q
    · rw [q, T.zero] at e; exact om_214 e
    · rw [List.mem_singleton.mp q] at e; exact absurd_om (om_215 e)
  have e2 : δ b a = 1 := by rw [T.symm]; exact e1
  have ea : eccL δ [a, b] a = 1 := by simp [eccL, mx, T.zero, e1]
  have eb : eccL δ [a, b] b = 1 := by simp [eccL, mx, T.zero, e2]
  have za := T.zero a
  have zb := T.zero b
  refine ⟨fun k _ => midGo_some (by simp), ?_, ?_, ?_, ?_, ?_, ?_, ?_, ?_, ?_⟩
  · simp [ea, eb]
  · simp [ea, eb]
  · exact ⟨a, by simp, ea⟩
  · simp [ea, eb]
  · exact ⟨a, by simp, ea⟩
  · simp
  · intro x y h; cases h; exact e1
  · simp [ea, eb]
  · simp [e1, e2, za, zb]
theorem strip_ok (T : Tree ts m δ) : ∀ n L, L.length ≤ n → Sub ts m δ L → ∃ rad long M, Strip ts δ L rad long M := by
  intro n
  induction n with
  | zero => intro L h S; exact absurd (List.length_eq_zero_iff.mp (by exact om_216 h)) S.ne
  | succ n ih =>
    intro L hn S
    by_cases h3 : 3 ≤ L.length
    · have Sc := cut_sub T S h3
      obtain ⟨v0, hv0, ev0⟩ := ecc_mem S (L.head S.ne)
      have hlf := far_leaf T S (by exact om_207 h3) (List.head_mem S.ne) hv0 ev0
      have hends : endsOf L (HL ts L) ≠ [] := List.ne_nil_of_mem (a := v0) (by simp [endsOf, hv0, hlf])
      have hlt := restL_lt hends
      rw [restL_cut] at hlt
      obtain ⟨rad, long, M, R⟩ := ih (cut ts L) (by exact om_116 hn hlt) Sc
      have leafE : ∀ l ∈ L, inc (HL ts L) l = 1 → ∃ u ∈ cut ts L, adj ts l u ∧ eccL δ L l = eccL δ (cut ts L) u + 2 := by
        intro l hl h
        obtain ⟨u, hu, ha⟩ := leaf_has T S (by exact om_207 h3) hl
        have huc := leaf_nb T S h3 hl hu h ha
        have := ecc_leaf T S h3 hl hu h ha
        have := ecc_cut T S h3 huc
        exact ⟨u, huc, ha, by omega⟩
      have cutE : ∀ v ∈ cut ts L, eccL δ L v = eccL δ (cut ts L) v + 1 := fun v hv => ecc_cut T S h3 hv
      have split : ∀ v ∈ L, v ∈ cut ts L ∨ inc (HL ts L) v = 1 := fun v hv => by
        by_cases q : inc (HL ts L) v = 1
        · exact Or.inr q
        · exact Or.inl (mem_cut.mpr ⟨hv, q⟩)
      have hsub : ∀ v, v ∈ cut ts L → v ∈ L := fun v hv => (mem_cut.mp hv).1
      have hM : ∀ c ∈ M, c ∈ cut ts L := fun c hc => by rw [R.midE] at hc; exact (List.mem_filter.mp hc).1
      have longTop : ∀ o ∈ L, eccL δ L o = long + 2 → o ∉ cut ts L := fun o ho e hc => by
        have := cutE o hc
        have := R.longLe o hc
        omega
      have far1 : ∀ b ∈ cut ts L, ∀ o ∈ L, δ b o = eccL δ L b → eccL δ L o = long + 2 := by
        intro b hb o ho e
        have hol := far_leaf T S (by exact om_207 h3) (hsub b hb) ho e
        obtain ⟨u, hu, hadj, eu⟩ := leafE o ho hol
        have hbo : b ≠ o := fun e2 => (mem_cut.mp hb).2 (e2 ▸ hol)
        have := leaf_way T S ho (hsub u hu) hol hadj (hsub b hb) hbo
        have := cutE b hb
        have := R.far2 b hb u hu (by rw [T.symm o b, T.symm u b] at *; omega)
        exact om_217 eu this
      have far2 : ∀ b ∈ L, ∀ o ∈ L, δ b o = eccL δ L b → eccL δ L o = long + 2 := by
        intro b hb o ho e
        rcases split b hb with hbc | hbl
        · exact far1 b hbc o ho e
        · obtain ⟨t, ht, hadj, et⟩ := leafE b hb hbl
          have hec := ecc_leaf T S h3 hb (hsub t ht) hbl hadj
          have hob : o ≠ b := by
            intro q
            rw [q, T.zero] at e
            exact absurd_om (om_218 e hec)
          have := leaf_way T S hb (hsub t ht) hbl hadj ho hob
          exact far1 t ht o ho (by exact om_219 e hec this)
      refine ⟨rad + 1, long + 2, M, ?_, ?_, ?_, ?_, ?_, ?_, ?_, R.two, far2, ?_⟩
      · intro k hk
        obtain ⟨k, rfl⟩ : ∃ j, k = j + 1 := ⟨k - 1, by exact om_220 hlt hk⟩
        rw [midGo, if_neg (by exact om_221 h3), if_neg hends, restL_cut, restH_cut]
        exact R.run k (by exact om_222 hlt hk)
      · conv => lhs; rw [R.midE]
        unfold cut
        rw [List.filter_filter]
        refine List.filter_congr fun v hv => ?_
        rcases split v hv with hc | hl
        · have e := cutE v hc
          have hnl := (mem_cut.mp hc).2
          have : decide (eccL δ L v = rad + 1) = decide (eccL δ (cut ts L) v = rad) := decide_eq_decide.mpr (by exact om_223 e)
          rw [this]
          unfold cut at *
          simp [hnl]
        · obtain ⟨u, hu, _, e⟩ := leafE v hv hl
          have := R.radLe u hu
          have h1 : ¬ eccL δ L v = rad + 1 := by exact om_224 e this
          simp [hl, h1]
      · intro v hv
        rcases split v hv with hc | hl
        · have := cutE v hc
          have := R.radLe v hc
          omega
        · obtain ⟨u, hu, _, e⟩ := leafE v hv hl
          have := R.radLe u hu
          exact om_225 e this
      · obtain ⟨v, hv, e⟩ := R.radMem
        exact ⟨v, hsub v hv, by rw [cutE v hv, e]⟩
      · intro v hv
        rcases split v hv with hc | hl
        · have := cutE v hc
          have := R.longLe v hc
          omega
        · obtain ⟨u, hu, _, e⟩ := leafE v hv hl
          have := R.longLe u hu
          exact om_226 e this
      · obtain ⟨v, hv, _⟩ := R.longMem
        obtain ⟨x, hx, e⟩ := ecc_mem S v
        exact ⟨x, hx, far1 v hv x hx e⟩
      · have := R.len
        exact om_227 this
      · intro a ha b hb e c hc
        have hcc := hM c hc
        have eb := ecc_le (δ := δ) (v := a) hb
        have ea := ecc_le (δ := δ) (v := b) ha
        rw [T.symm b a] at ea
        have top : ∀ v ∈ L, eccL δ L v ≤ long + 2 := by
          intro v hv
          rcases split v hv with hc | hl
          · have := cutE v hc
            have := R.longLe v hc
            omega
          · obtain ⟨u, hu, _, e⟩ := leafE v hv hl
            have := R.longLe u hu
            exact om_226 e this
        have ta := top a ha
        have tb := top b hb
        have hal : inc (HL ts L) a = 1 := (split a ha).resolve_left (longTop a ha (by exact om_228 e eb ta))
        have hbl : inc (HL ts L) b = 1 := (split b hb).resolve_left (longTop b hb (by exact om_228 e ea tb))
        obtain ⟨u, hu, hau, _⟩ := leafE a ha hal
        obtain ⟨w, hw, hbw, _⟩ := leafE b hb hbl
        have hab : b ≠ a := fun q => by rw [q, T.zero] at e; exact absurd_om (om_229 e)
        have hub : u ≠ b := fun q => (mem_cut.mp hu).2 (q ▸ hbl)
        have hca : c ≠ a := fun q => (mem_cut.mp hcc).2 (q ▸ hal)
        have hcb : c ≠ b := fun q => (mem_cut.mp hcc).2 (q ▸ hbl)
        have w1 := leaf_way T S ha (hsub u hu) hal hau hb hab
        have w2 := leaf_way T S hb (hsub w hw) hbl hbw (hsub u hu) hub
        have w3 := leaf_way T S ha (hsub u hu) hal hau (hsub c hcc) hca
        have w4 := leaf_way T S hb (hsub w hw) hbl hbw (hsub c hcc) hcb
        rw [T.symm b u] at w2
        rw [T.symm w u] at w2
        rw [T.symm b c, T.symm w c] at w4
        have := R.over u hu w hw (by exact om_230 e w1 w2) c hc
        exact om_231 w3 w4 this
    · match L, h3, S with
      | [], _, S => exact absurd rfl S.ne
      | [a], _, S => exact ⟨0, 0, [a], strip_one T a⟩
      | [a, b], _, S => exact ⟨1, 1, [a, b], strip_two T a b S⟩
      | a :: b :: c :: l, h3, _ => simp at h3
end Mine
end
section
open PySem PySem.W PyProof.Rows PySem.Spec PySem.SeqAt
set_option linter.all false
namespace Mine
noncomputable def par (ns : List Int) : Par := ⟨fun j => ((((ns.take 8)[j - 1]?).getD 0).fmod (j : Int)).toNat, fun j hj => by
  have := Int.fmod_lt_of_pos (((ns.take 8)[j - 1]?).getD 0) (show (0 : Int) < j by exact om_143 hj)
  have := Int.fmod_nonneg_of_pos (((ns.take 8)[j - 1]?).getD 0) (show (0 : Int) < j by exact om_143 hj)
  show ((((ns.take 8)[j - 1]?).getD 0).fmod (j : Int)).toNat < j
  omega⟩
theorem mem_ties8 (ns : List Int) (m : Nat) (hm : m = 1 + min 8 ns.length) (u v : Nat) : (u, v) ∈ ties8 ns ↔ (0 < v ∧ v < m ∧ u = (par ns).1 v) := by
  have hl : (ns.take 8).length = min 8 ns.length := by simp
  unfold ties8
  rw [List.mem_mapIdx]
  constructor
  · rintro ⟨i, hi, e⟩
    have e1 : ((ns.take 8)[i].fmod ((i : Int) + 1)).toNat = u := congrArg Prod.fst e
    have e2 : i + 1 = v := congrArg Prod.snd e
    subst e2
    refine ⟨by exact om_232, by exact om_233 hm hl hi, ?_⟩
    rw [← e1]
    show _ = ((((ns.take 8)[i + 1 - 1]?).getD 0).fmod ((i + 1 : Nat) : Int)).toNat
    rw [Nat.add_sub_cancel, List.getElem?_eq_getElem hi]
    rfl
  · rintro ⟨h0, hv, e⟩
    have hi : v - 1 < (ns.take 8).length := by exact om_234 hm hl h0 hv
    refine ⟨v - 1, hi, ?_⟩
    have e2 : ((v - 1 : Nat) : Int) + 1 = (v : Int) := by exact om_235 h0
    have e3 : v - 1 + 1 = v := by exact om_236 e2
    rw [e]
    show (((ns.take 8)[v - 1].fmod (((v - 1 : Nat) : Int) + 1)).toNat, v - 1 + 1) = (((((ns.take 8)[v - 1]?).getD 0).fmod (v : Int)).toNat, v)
    rw [e2, e3, List.getElem?_eq_getElem hi]
    rfl
theorem nodup_ties8 (ns : List Int) : (ties8 ns).Nodup := by
  unfold ties8
  refine List.pairwise_iff_getElem.mpr fun i j hi hj hij => ?_
  rw [List.getElem_mapIdx, List.getElem_mapIdx]
  intro e
  have := congrArg Prod.snd e
  simp only at this
  exact absurd_om (om_237 hij this)
variable {ts : List Tie} {m : Nat} {δ : Nat → Nat → Nat}
theorem sub_all (T : Tree ts m δ) (hm : 0 < m) : Sub ts m δ (List.range m) :=
  ⟨List.nodup_range, fun v hv => List.mem_range.mp hv, fun e => by have := congrArg List.length e; simp at this; exact absurd_om (om_140 hm this), fun a ha b hb hab => by
    obtain ⟨u, hu, h⟩ := T.back a b (List.mem_range.mp ha) (List.mem_range.mp hb) hab
    exact ⟨u, List.mem_range.mpr hu, h⟩⟩
theorem HL_all (T : Tree ts m δ) : HL ts (List.range m) = ts := by
  unfold HL
  refine List.filter_eq_self.mpr fun t ht => ?_
  have h1 := T.up t ht
  have h2 := T.lt t ht
  simp; exact om_238 h1 h2
theorem maxI_nat (f : Nat → Nat) (L : List Nat) (e : Nat) (h1 : ∀ x ∈ L, f x ≤ e) (h2 : ∃ x ∈ L, f x = e) : maxI (L.map fun v => (f v : Int)) = (e : Int) := by
  obtain ⟨x, hx, rfl⟩ := h2
  have a := maxI_le (L.map fun v => (f v : Int)) (f x : Int) (List.mem_map.mpr ⟨x, hx, rfl⟩)
  have b := maxI_mem (L.map fun v => (f v : Int)) (List.ne_nil_of_mem (List.mem_map.mpr ⟨x, hx, rfl⟩))
  obtain ⟨y, hy, e⟩ := List.mem_map.mp b
  have := h1 y hy
  rw [← e] at a ⊢
  exact om_239 a this
theorem minI_nat (f : Nat → Nat) (L : List Nat) (e : Nat) (h1 : ∀ x ∈ L, e ≤ f x) (h2 : ∃ x ∈ L, f x = e) : minI (L.map fun v => (f v : Int)) = (e : Int) := by
  obtain ⟨x, hx, rfl⟩ := h2
  have a := minI_le (L.map fun v => (f v : Int)) (f x : Int) (List.mem_map.mpr ⟨x, hx, rfl⟩)
  have b := minI_mem (L.map fun v => (f v : Int)) (List.ne_nil_of_mem (List.mem_map.mpr ⟨x, hx, rfl⟩))
  obtain ⟨y, hy, e⟩ := List.mem_map.mp b
  have := h1 y hy
  rw [← e] at a ⊢
  exact om_240 a this
theorem each_of (T : Tree ts m δ) {a : Nat} (ha : a < m) : ∀ n v, v < m → δ a v = n → ∀ k, k ≤ n → ∃ u, u < m ∧ δ a u = k := by
  intro n
  induction n with
  | zero => intro v hv e k hk; exact ⟨v, hv, by exact om_241 e hk⟩
  | succ n ih =>
    intro v hv e k hk
    by_cases q : k = n + 1
    · exact ⟨v, hv, by exact om_242 e q⟩
    · have hav : a ≠ v := fun h => by rw [h, T.zero] at e; exact absurd_om (om_243 e)
      obtain ⟨u, hu, _, h⟩ := T.back a v ha hv hav
      exact ih u hu (by exact om_244 e h) k (by exact om_245 hk q)
theorem one_hit (x : Nat) : ∀ m, x < m → ((List.range m).map fun v => if x = v then (1 : Int) else 0).sum = 1 := by
  have zero : ∀ m, m ≤ x → ((List.range m).map fun v => if x = v then (1 : Int) else 0).sum = 0 := by
    intro m
    induction m with
    | zero => intro _; rfl
    | succ m ih =>
      intro h
      rw [List.range_succ, List.map_append, List.sum_append, ih (by exact om_71 h)]
      have : ¬ x = m := by exact om_246 h
      simp [this]
  intro m
  induction m with
  | zero => intro h; exact absurd_om (om_247 h)
  | succ m ih =>
    intro h
    rw [List.range_succ, List.map_append, List.sum_append]
    by_cases q : x = m
    · rw [zero m (by exact om_12 q)]; simp [q]
    · rw [ih (by exact om_248 h q)]; simp [q]
theorem sum_add {α : Type} (f g : α → Int) : ∀ L : List α, (L.map fun v => f v + g v).sum = (L.map f).sum + (L.map g).sum
  | [] => rfl
  | x :: L => by simp [sum_add f g L]; exact om_249
theorem inc_sum (m : Nat) : ∀ ts : List Tie, (∀ t ∈ ts, t.1 < m ∧ t.2 < m) → (incI ts m).sum = 2 * ts.length
  | [], _ => by
    have : ∀ L : List Nat, (L.map fun v => inc [] v).sum = 0 := by
      intro L
      induction L with
      | nil => rfl
      | cons x L ih => rw [List.map_cons, List.sum_cons, ih]; rfl
    unfold incI
    rw [this]; rfl
  | t :: ts, h => by
    have ih := inc_sum m ts fun s hs => h s (List.mem_cons_of_mem _ hs)
    have ht := h t List.mem_cons_self
    unfold incI at ih ⊢
    have e : (fun v => inc (t :: ts) v) = fun v => ((if t.1 = v then (1 : Int) else 0) + (if t.2 = v then 1 else 0)) + inc ts v := by funext v; simp [inc]
    rw [e, sum_add, sum_add, one_hit t.1 m ht.1, one_hit t.2 m ht.2, ih, List.length_cons]
    exact om_250
theorem ones_low : ∀ A : List Int, (∀ a ∈ A, 1 ≤ a) → -((A.filter fun c => decide (c = 1)).length : Int) ≤ (A.map fun a => a - 2).sum
  | [], _ => by simp
  | x :: A, h => by
    have ih := ones_low A fun a ha => h a (List.mem_cons_of_mem _ ha)
    have hx := h x List.mem_cons_self
    rw [List.map_cons, List.sum_cons, List.filter_cons]
    by_cases q : x = 1
    · simp [q]; exact om_251 ih
    · simp [q]; exact om_252 ih hx q
theorem ones_ge : ∀ A : List Int, (∀ a ∈ A, 1 ≤ a) → ∀ x ∈ A, x ≠ 1 → x - 2 - ((A.filter fun c => decide (c = 1)).length : Int) ≤ (A.map fun a => a - 2).sum
  | [], _, _, hx, _ => by cases hx
  | y :: A, h, x, hx, h1 => by
    have h' : ∀ a ∈ A, 1 ≤ a := fun a ha => h a (List.mem_cons_of_mem _ ha)
    have hy := h y List.mem_cons_self
    rw [List.map_cons, List.sum_cons, List.filter_cons]
    rcases List.mem_cons.mp hx with q | q
    · have := ones_low A h'
      subst q
      simp [h1]; exact om_253 this
    · have ih := ones_ge A h' x q h1
      by_cases r : y = 1
      · simp [r]; exact om_254 ih
      · simp [r]; exact om_255 hy ih r
theorem sub_two (A : List Int) : (A.map fun a => a - 2).sum = A.sum - 2 * A.length := by
  induction A with
  | nil => rfl
  | cons x A ih => simp only [List.map_cons, List.sum_cons, List.length_cons, ih]; exact om_256
theorem max_ones (A : List Int) (h : ∀ a ∈ A, 1 ≤ a) (hs : A.sum = 2 * A.length - 2) (hne : A ≠ []) : maxI A ≤ (A.filter fun c => decide (c = 1)).length := by
  have hm := maxI_mem A hne
  by_cases q : maxI A = 1
  · have : maxI A ∈ A.filter fun c => decide (c = 1) := List.mem_filter.mpr ⟨hm, by simp [q]⟩
    have := List.length_pos_of_mem this
    exact om_257 q this
  · have := ones_ge A h _ hm q
    rw [sub_two, hs] at this
    exact om_258 this
theorem law_facts (ns : List Int) (m : Nat) (hm : m = 1 + min 8 ns.length) : ∃ rad long M, LawFacts m (ties8 ns) (pdist (par ns)) (eccL (pdist (par ns)) (List.range m)) rad long M := by
  have T := tree_of_par (par ns) (ties8 ns) m (mem_ties8 ns m hm) (nodup_ties8 ns)
  have S := sub_all T (by exact om_259 hm)
  obtain ⟨rad, long, M, R⟩ := strip_ok T m (List.range m) (by simp) S
  have hH := HL_all T
  have htl : (ties8 ns).length = m - 1 := by simp [ties8]; exact om_260 hm
  have htb : ∀ t ∈ ties8 ns, t.1 < m ∧ t.2 < m := fun t ht => ⟨Nat.lt_trans (T.up t ht) (T.lt t ht), T.lt t ht⟩
  have small : ∀ v, v < m → eccL (pdist (par ns)) (List.range m) v ≤ 18 := by
    intro v hv
    obtain ⟨x, hx, e⟩ := ecc_mem S v
    have := T.sum v x
    have := List.mem_range.mp hx
    omega
  refine ⟨rad, long, M, by exact om_259 hm, by exact om_261 hm, by exact om_262 hm htl, htb, fun s hs => T.distOk hs, ?_, ?_, ?_, ?_, ?_, ?_, R.midE, R.two, ?_, ?_, ?_, inc_sum m _ htb, ?_, ?_, ?_⟩
  · intro v hv
    exact maxI_nat (pdist (par ns) v) _ _ (fun x hx => ecc_le hx) (ecc_mem S v)
  · exact minI_nat _ _ _ R.radLe R.radMem
  · exact maxI_nat _ _ _ R.longLe R.longMem
  · obtain ⟨v, hv, e⟩ := R.radMem
    have := small v (List.mem_range.mp hv)
    exact om_263 e this
  · obtain ⟨v, hv, e⟩ := R.longMem
    have := small v (List.mem_range.mp hv)
    exact om_263 e this
  · have := R.run m (by simp)
    rwa [hH] at this
  · intro b o hb ho e
    exact R.far2 b (List.mem_range.mpr hb) o (List.mem_range.mpr ho) e
  · have := R.len
    exact om_264 this
  · intro a b hba ham e c hc
    exact R.over a (List.mem_range.mpr ham) b (List.mem_range.mpr (by exact om_182 hba ham)) e c hc
  · intro h1
    have hlen : (incI (ties8 ns) m).length = m := by simp [incI]
    refine max_ones _ (fun a ha => ?_) ?_ ?_
    · obtain ⟨v, hv, rfl⟩ := List.mem_map.mp ha
      obtain ⟨u, hu, hadj⟩ := leaf_has T S (by simp; exact om_265 h1) hv
      rw [inc_nbL T.up]
      have := List.length_pos_of_mem ((mem_nbL T.up).mpr hadj)
      exact om_266 this
    · rw [inc_sum m _ htb, hlen, htl]; exact om_267 h1
    · intro e
      rw [e] at hlen
      simp at hlen
      exact absurd_om (om_268 h1 hlen)
  · intro v
    rw [inc_nbL T.up]
    have : (nbL (ties8 ns) v).length ≤ (ties8 ns).length := List.length_filterMap_le _ _
    exact om_269 hm htl this
  · intro a k ha e hk
    obtain ⟨x, hx, h⟩ := ecc_mem S a
    exact each_of T ha _ x (List.mem_range.mp hx) rfl k (by exact om_270 e hk h)
end Mine
end
section
open PySem PySem.W PyProof.Rows PySem.Spec PySem.SeqAt
set_option linter.all false
namespace Mine
section
variable {prog : Program} {w : World} {G : Str → Option Value} {hb : Heap} {n : Nat}
theorem call_code {a : Addr} {fd : FuncData} {body : List Stmt} {ps : List Str} {k : Nat} {bd : DenS} (hf : FnAt hb a fd body) (hs : fscopeOk fd.scope ps = true) (hbi : Binds hb fd ps k []) (hlen : ps.length = k)
    (hbd : Exs prog w G hb n (kapF fd.scope) (stoF fd.scope) body bd) (A : Around) (s : Shared) (ds : List D) (vs : List Value) (d : D) (R : Room A (n + 1)) (hB : Base G hb) (hx : Ext hb s.heap) (r : Reps w (Fz [] s.heap) ds vs) (hk : ds.length = k)
    (e : Run bd (rho0 ps (ds.map .frz)) (RetD d)) (P : Result → Shared → Prop)
    (hQ : ∀ v h' tk, Ext s.heap h' → Rep w (Fz [] h') d v → P (.ok (.ret v)) { s with heap := h', toks := tk }) : codeAny (model prog w) A (.call (.ref a) ⟨vs, []⟩) P s := by
  obtain ⟨fl, ρ', e1, e⟩ := e
  have hvl : vs.length = k := by rw [r.length, hk]
  obtain ⟨o, ho, hd⟩ := hf.obj
  have hh : ∀ a ∈ ([] : List Addr), hb.get? a = none := fun _ h => nomatch h
  have hlt : ∀ a ∈ ([] : List Addr), (s.heap.get? a).isSome = true := fun _ h => nomatch h
  refine codeAny_call_function R.depth (hx _ _ ho) hd hf.co hf.gen hf.body (hf.code.keeps hx) (hbi vs s hvl hx _ _ _ _ ?_)
  rw [hf.clo, List.append_nil]
  have hpl : ps.length = vs.length := by rw [hvl, hlen]
  have hs' := hs
  simp only [fscopeOk, Bool.and_eq_true, decide_eq_true_eq, List.all_eq_true, Bool.not_eq_true', beq_eq_false_iff_ne, ne_eq, Bool.or_eq_true, beq_iff_eq] at hs'
  refine wpAny_newFunctionEnv_cells hf.kind (fun p hp => ?_) fun env he s₁ x => ?_
  · have hm := (List.of_mem_zip (show (p.1, p.2) ∈ ps.zip vs from hp)).1
    rcases hs'.2 p.1 hm with q | q
    · exact .inl q
    · refine .inr ⟨q, ?_⟩
      obtain ⟨c, hc⟩ := cellsFrom_has fd.scope.names (s.heap.objs.size + 1) p.1 (mem_of_lookup q)
      obtain ⟨c', hc'⟩ := lookup_isSome_of_mem hc
      rw [hc']; rfl
  · have he' : env = callEnvC fd s.heap.objs.size a := he
    subst he'
    obtain ⟨new, hnew, S, W, O, x1⟩ := frame_sim (a := a) (bs := ds.map .frz) (own := []) (wro := []) (ov := []) hB hx hh hlt hs hf.kind hf.gl hf.bl hpl (fun _ h => (nomatch h)) (fun _ h => (nomatch h)) List.nodup_nil
      (fun i v b y h1 h2 _ => by
        obtain ⟨d', rfl, q⟩ := reps_any r h1 h2
        exact q) x
    rw [List.append_nil] at S W O
    refine ⟨hB.nolimit.keeps (hx.trans x1), codeAny_func ?_⟩
    refine hbd (A.deeper _) _ new new [] _ s₁ _ fl ρ' (R.deeper _) S W O e1 _ fun rr h' tk own' wr' ov' st S' _ _ F => ?_
    have hfin : Ext s.heap h' := fun b o' q => st.keep b o' (fun hm => by have := (hnew b hm).1; rw [this] at q; cases q) (x1 b o' q)
    have hso : ∀ b ∈ ([] : List Addr), b ∈ own' := fun b hb' => nomatch hb'
    obtain ⟨h1, tk1, hs1⟩ := x.toInCall.same
    subst hs1
    cases fl with
    | ret d' =>
      have e : d' = d := e
      subst e
      obtain ⟨v, rfl, q⟩ := F
      exact hQ v h' tk hfin (Rep.mono (Fz.fewer hso) _ q)
    | next => exact e.elim
    | cont => exact e.elim
    | brk => exact e.elim
end
end Mine
end
section
open PySem PySem.W PyProof.Rows PySem.Spec PySem.SeqAt
set_option linter.all false
namespace Mine
theorem fnAt_K {K : Frag} {h : Heap} (X : K.In h) {a : Addr} {o : Obj} {fd : FuncData} {body : List Stmt} (ho : K.lookup a = some o) (hd : o.data = .func fd) (hb : fd.body = .stmts body) (hc : codeIn K fd.code fd.qualname = true)
    (gl : fd.globals = mainGlobals) (bl : fd.builtins = builtinsNs) (clo : fd.closure = []) (co : fd.scope.isCoroutine = false) (gen : fd.scope.isGenerator = false) (kind : fd.scope.kind = .function) : FnAt h a fd body :=
  ⟨⟨o, X _ _ ho, hd⟩, hb, codeRec_of X hc, gl, bl, clo, co, gen, kind⟩
theorem load_bind {α : Type} (a : Addr) (p : Option Value) (k : Obj → Sem α) : Sem.load a p k = loadPart a p >>= k := rfl
theorem binds_kw {K : Frag} {s : Shared} {fd : FuncData} {args : Args} {binds : List (Str × Value)} {T D : Addr} {o o2 : Obj} {p1 p2 : Option Value} {k1 k2 : Obj → Sem (List (Str × Value))}
    (X : K.In s.heap) (h₁ : bindArgs fd args = Sem.load T p1 k1) (ho : K.lookup T = some o) (h₂ : k1 o = Sem.load D p2 k2) (ho2 : K.lookup D = some o2) (h₃ : k2 o2 = Sem.pure binds) : BindsTo s fd args binds :=
  fun M A E Q hq => by
    rw [h₁, load_bind]
    refine wpAny_bind (wpAny_loadPart (X _ _ ho) ?_)
    rw [h₂, load_bind]
    refine wpAny_bind (wpAny_loadPart (X _ _ ho2) ?_)
    rw [h₃]
    exact wpAny_pure hq
end Mine
end
section
open PySem PySem.W PyProof.Rows PySem.Spec PySem.SeqAt
set_option linter.all false
open_top Mine.hd2 for PySem.Challenge.rw_gj0003_02
namespace Mine
theorem CallOk.up {prog : Program} {w : World} {G : Str → Option Value} {hb : Heap} {n m : Nat} {a : Addr} {F : List D → Option D} (x : CallOk prog w G hb n a F) (h : n ≤ m) : CallOk prog w G hb m a F := fun A own s ds vs d R => x A own s ds vs d (R.less h)
theorem CallOk.two {prog : Program} {w : World} {G : Str → Option Value} {hb : Heap} {n : Nat} {a : Addr} {F F' : List D → Option D} (x : CallOk prog w G hb n a F) (y : CallOk prog w G hb n a F') : CallOk prog w G hb n a (fun ds => if ds.length = 2 then F ds else F' ds) := fun A own s ds vs d R hB hx hh hlt r e => by
  by_cases q : ds.length = 2
  · simp only [q, if_true] at e; exact x A own s ds vs d R hB hx hh hlt r e
  · simp only [q, if_false] at e; exact y A own s ds vs d R hB hx hh hlt r e
theorem MutOk.up {prog : Program} {w : World} {G : Str → Option Value} {hb : Heap} {n m : Nat} {a : Addr} {F : D → List D → Option D} (x : MutOk prog w G hb n a F) (h : n ≤ m) : MutOk prog w G hb m a F := fun A own s b o d ds vs d' R => x A own s b o d ds vs d' (R.less h)
theorem mg_of {K : Frag} {h : Heap} {mg : Str → Option Value} {o : Obj} {es : Array DictEntry} {ep : Nat} (X : K.In h) (ho : K.lookup mainGlobals = some o) (hd : o.data = .dict es ep) (N : h.Ns mainGlobals mg) (x : Str) : mg x = nsFind es x := by
  obtain ⟨o2, es2, ep2, h1, h2, _, h3⟩ := N
  have := X _ _ ho
  rw [this] at h1
  cases h1
  rw [hd] at h2
  cases h2
  exact (h3 x).symm
theorem den_exs {prog : Program} {w : World} {G : Str → Option Value} {hb : Heap} {n : Nat} {kn : Know} (ko : KnowOk prog w G hb n kn) {sc : Scope} {κ : Kap} {σ : Str → Bool} {b : List Stmt} (i : Nat) (hbo : b = bodyAt topB i) (hsc : sc = scopeAt topB i) (hκ : kapF (scopeAt topB i) = κ) (hσ : stoF (scopeAt topB i) = σ) :
    Exs prog w G hb n (kapF sc) (stoF sc) b ((den kn 30).Ss κ σ (bodyAt topB i)) := by
  subst hbo hsc hκ hσ
  exact (den_sound ko 30).Ss _ _ _
theorem den_mut {prog : Program} {w : World} {G : Str → Option Value} {hb : Heap} {n : Nat} {kn : Know} (ko : KnowOk prog w G hb n kn) {sc : Scope} {κ : Kap} {σ : Str → Bool} {b : List Stmt} {x : Str} (i : Nat) (hbo : b = bodyAt topB i) (hsc : sc = scopeAt topB i) (hκ : kapF (scopeAt topB i) = κ) (hσ : stoF (scopeAt topB i) = σ) :
    Exs prog w G hb n (kapF sc) (stoBut (stoF sc) x) b ((den kn 30).Ss κ (stoBut σ x) (bodyAt topB i)) := by
  subst hbo hsc hκ hσ
  exact (den_sound ko 30).Ss _ _ _
noncomputable def fdIn (K : Frag) (a : Addr) : FuncData := match K.lookup a with
  | some ⟨_, _, .func fd, _⟩ => fd
  | _ => Calls.docDef (Str.ofString "") ⟨[], [], none, [], [], none, []⟩ [] ⟨.function, [], false, false, []⟩ .none .none .none
theorem fn_of {K : Frag} {h : Heap} (X : K.In h) (a : Addr) (i : Nat) (hs : (K.lookup a).isSome = true) (hd : ((K.lookup a).get hs).data = .func (fdIn K a)) (hb : (fdIn K a).body = .stmts (bodyAt topB i)) (hc : codeIn K (fdIn K a).code (fdIn K a).qualname = true)
    (gl : (fdIn K a).globals = mainGlobals) (bl : (fdIn K a).builtins = builtinsNs) (clo : (fdIn K a).closure = []) (co : (fdIn K a).scope.isCoroutine = false) (gen : (fdIn K a).scope.isGenerator = false) (kind : (fdIn K a).scope.kind = .function) : FnAt h a (fdIn K a) (bodyAt topB i) :=
  ⟨⟨_, X _ _ (Option.some_get hs).symm, hd⟩, hb, codeRec_of X hc, gl, bl, clo, co, gen, kind⟩
theorem len1 {α : Type} {l : List α} (h : l.length = 1) : ∃ a, l = [a] := by
  cases l with
  | nil => cases h
  | cons a l => exact ⟨a, by rw [List.length_eq_zero_iff.mp (Nat.succ.inj h)]⟩
theorem len2 {α : Type} {l : List α} (h : l.length = 2) : ∃ a b, l = [a, b] := by
  cases l with
  | nil => cases h
  | cons a l => obtain ⟨b, rfl⟩ := len1 (Nat.succ.inj h); exact ⟨a, b, rfl⟩
theorem len3 {α : Type} {l : List α} (h : l.length = 3) : ∃ a b c, l = [a, b, c] := by
  cases l with
  | nil => cases h
  | cons a l => obtain ⟨b, c, rfl⟩ := len2 (Nat.succ.inj h); exact ⟨a, b, c, rfl⟩
theorem len4 {α : Type} {l : List α} (h : l.length = 4) : ∃ a b c d, l = [a, b, c, d] := by
  cases l with
  | nil => cases h
  | cons a l => obtain ⟨b, c, d, rfl⟩ := len3 (Nat.succ.inj h); exact ⟨a, b, c, d, rfl⟩
/-- what a name of the text's top is -/
structure Defs (G : Str → Option Value) : Prop where
  add : G nm_add_callers = some (.ref 21)
  cnt : G nm_count_calls = some (.ref 28)
  ins : G nm_insort_left = some (.ref 37)
  bis : G nm_bisect_left = some (.ref 46)
  far : G nm_Llaw_far = some (.ref 51)
  lcn : G nm_Llaw_counts = some (.ref 56)
  mid : G nm_Llaw_middle = some (.ref 61)
  law : G nm_law = some (.ref 66)
set_option maxRecDepth 100000 in
set_option maxHeartbeats 2000000 in
theorem defs_mg (w : World) (G : Str → Option Value) (h : Heap) (KX : (hd2.heap_39 w.params).In h) (N : h.Ns mainGlobals G) : Defs G ∧ ∀ x : Str, biN x = true → G x = none := by
  obtain ⟨o, ho⟩ : ∃ o, (hd2.heap_39 w.params).lookup mainGlobals = some o := ⟨_, rfl⟩
  have ho2 := ho
  conv at ho2 => lhs; whnf
  cases ho2
  have E := mg_of KX ho rfl N
  exact ⟨⟨(E _).trans rfl, (E _).trans rfl, (E _).trans rfl, (E _).trans rfl, (E _).trans rfl, (E _).trans rfl, (E _).trans rfl, (E _).trans rfl⟩,
    fun x hx => by
      unfold biN at hx
      have hx := of_decide_eq_true hx
      have key : ∀ y ∈ (["len", "sum", "sorted", "max", "min", "list", "range", "enumerate", "isinstance", "tuple"] : List Str), G y = none := by
        intro y hy
        simp only [List.mem_cons, List.not_mem_nil, or_false] at hy
        rcases hy with rfl | rfl | rfl | rfl | rfl | rfl | rfl | rfl | rfl | rfl <;> exact (E _).trans rfl
      exact key x hx⟩
set_option maxRecDepth 100000 in
set_option maxHeartbeats 2000000 in
theorem add_at (w : World) (G : Str → Option Value) (h : Heap) (KX : (hd2.heap_39 w.params).In h) : ∃ fd, (∃ o, h.get? 21 = some o ∧ o.data = .func fd) ∧ CallOk PySem.Challenge.rw_gj0003_02.row.prog w G h 1 21 fAdd := by
  have f := fn_of KX 21 1 (by kernel_rfl) (by kernel_rfl) (by kernel_rfl) (by kernel_rfl) (by kernel_rfl) (by kernel_rfl) (by kernel_rfl) (by kernel_rfl) (by kernel_rfl) (by kernel_rfl)
  refine ⟨_, f.obj, ?_⟩
  unfold fAdd bdAdd
  refine Mine.call_ok f (ps := [nm_target, nm_source]) (k := 2) (extra := []) (xs := []) (n := 0) (by kernel_rfl) ?_ (fun _ => by simp only [Reps]) rfl ?_
  · intro vs s hl hx
    obtain ⟨a, b, rfl⟩ := len2 hl
    exact BindsTo.of_eq (by kernel_rfl)
  · exact den_exs (kn := kAdd) ⟨fun f F e => (nomatch e), fun f F e => (nomatch e)⟩ 1 (by kernel_rfl) (by kernel_rfl) kf_1_eq sf_1_eq
set_option maxRecDepth 100000 in
set_option maxHeartbeats 2000000 in
theorem count_at (w : World) (G : Str → Option Value) (h : Heap) (KX : (hd2.heap_39 w.params).In h) : ∃ fd, (∃ o, h.get? 28 = some o ∧ o.data = .func fd) ∧ CallOk PySem.Challenge.rw_gj0003_02.row.prog w G h 1 28 fCount := by
  have f := fn_of KX 28 2 (by kernel_rfl) (by kernel_rfl) (by kernel_rfl) (by kernel_rfl) (by kernel_rfl) (by kernel_rfl) (by kernel_rfl) (by kernel_rfl) (by kernel_rfl) (by kernel_rfl)
  refine ⟨_, f.obj, ?_⟩
  unfold fCount
  refine Mine.call_ok f (ps := [nm_callers]) (k := 1) (extra := []) (xs := []) (n := 0) (by kernel_rfl) ?_ (fun _ => by simp only [Reps]) rfl ?_
  · intro vs s hl hx
    obtain ⟨a, rfl⟩ := len1 hl
    exact BindsTo.of_eq (by kernel_rfl)
  · exact den_exs (kn := kB) ⟨fun f F e => (nomatch e), fun f F e => (nomatch e)⟩ 2 (by kernel_rfl) (by kernel_rfl) kf_2_eq sf_2_eq
set_option maxRecDepth 100000 in
set_option maxHeartbeats 2000000 in
theorem bis2_at (w : World) (G : Str → Option Value) (h : Heap) (KX : (hd2.heap_39 w.params).In h) : ∃ fd, (∃ o, h.get? 46 = some o ∧ o.data = .func fd) ∧ CallOk PySem.Challenge.rw_gj0003_02.row.prog w G h 1 46 (fnD bdBis psBis [.int 0, .none, .none] 2) := by
  obtain ⟨o, ho⟩ : ∃ o, (hd2.heap_39 w.params).lookup 46 = some o := ⟨_, rfl⟩
  have ho2 := ho
  conv at ho2 => lhs; whnf
  cases ho2
  have f := Mine.fnAt_K KX ho rfl rfl rfl rfl rfl rfl rfl rfl rfl
  refine ⟨_, f.obj, ?_⟩
  unfold bdBis
  refine Mine.call_ok f (ps := psBis) (k := 2) (extra := [.int 0, .none, .none]) (xs := [.int 0 224, .none, .none]) (n := 0) (by kernel_rfl) ?_ (fun g => ?_) rfl ?_
  · intro vs s hl hx
    obtain ⟨a, b, rfl⟩ := len2 hl
    refine' Mine.binds_kw (KX.keeps hx) ?a ?b ?c ?d ?e
    case a => exact rfl
    case b => exact rfl
    case c => exact rfl
    case d => exact rfl
    case e => exact rfl
  · simp [Reps, Rep]
  · exact den_exs (kn := kB) ⟨fun f F e => (nomatch e), fun f F e => (nomatch e)⟩ 5 (by kernel_rfl) (by kernel_rfl) kf_5_eq sf_5_eq
set_option maxRecDepth 100000 in
set_option maxHeartbeats 2000000 in
theorem bis4_at (w : World) (G : Str → Option Value) (h : Heap) (KX : (hd2.heap_39 w.params).In h) : ∃ fd, (∃ o, h.get? 46 = some o ∧ o.data = .func fd) ∧ CallOk PySem.Challenge.rw_gj0003_02.row.prog w G h 1 46 (fnD bdBis psBis [.none] 4) := by
  obtain ⟨o, ho⟩ : ∃ o, (hd2.heap_39 w.params).lookup 46 = some o := ⟨_, rfl⟩
  have ho2 := ho
  conv at ho2 => lhs; whnf
  cases ho2
  have f := Mine.fnAt_K KX ho rfl rfl rfl rfl rfl rfl rfl rfl rfl
  refine ⟨_, f.obj, ?_⟩
  unfold bdBis
  refine Mine.call_ok f (ps := psBis) (k := 4) (extra := [.none]) (xs := [.none]) (n := 0) (by kernel_rfl) ?_ (fun g => ?_) rfl ?_
  · intro vs s hl hx
    obtain ⟨a, b, c, d, rfl⟩ := len4 hl
    refine' Mine.binds_kw (KX.keeps hx) ?a ?b ?c ?d ?e
    case a => exact rfl
    case b => exact rfl
    case c => exact rfl
    case d => exact rfl
    case e => exact rfl
  · simp [Reps, Rep]
  · exact den_exs (kn := kB) ⟨fun f F e => (nomatch e), fun f F e => (nomatch e)⟩ 5 (by kernel_rfl) (by kernel_rfl) kf_5_eq sf_5_eq
theorem bis_at (w : World) (G : Str → Option Value) (h : Heap) (KX : (hd2.heap_39 w.params).In h) : ∃ fd, (∃ o, h.get? 46 = some o ∧ o.data = .func fd) ∧ CallOk PySem.Challenge.rw_gj0003_02.row.prog w G h 1 46 fBis := by
  obtain ⟨fd, h1, h2⟩ := bis2_at w G h KX
  obtain ⟨_, _, h3⟩ := bis4_at w G h KX
  exact ⟨fd, h1, h2.two h3⟩
set_option maxRecDepth 100000 in
set_option maxHeartbeats 2000000 in
theorem ins_at (w : World) (G : Str → Option Value) (h : Heap) (KX : (hd2.heap_39 w.params).In h) (DG : Defs G) : ∃ fd, (∃ o, h.get? 37 = some o ∧ o.data = .func fd) ∧ MutOk PySem.Challenge.rw_gj0003_02.row.prog w G h 2 37 fIns := by
  have ko : KnowOk PySem.Challenge.rw_gj0003_02.row.prog w G h 1 kIns := by
    refine ⟨fun f F e => ?_, fun f F e => (nomatch e)⟩
    have e : tIns f = some F := e
    unfold tIns at e
    split at e
    · rename_i q
      cases e
      subst q
      obtain ⟨fd, h1, h2⟩ := bis_at w G h KX
      exact ⟨46, fd, DG.bis, h1, h2⟩
    · cases e
  obtain ⟨o, ho⟩ : ∃ o, (hd2.heap_39 w.params).lookup 37 = some o := ⟨_, rfl⟩
  have ho2 := ho
  conv at ho2 => lhs; whnf
  cases ho2
  have f := Mine.fnAt_K KX ho rfl rfl rfl rfl rfl rfl rfl rfl rfl
  refine ⟨_, f.obj, ?_⟩
  unfold fIns bdIns
  refine Mine.mut_ok f (p0 := nm_a) (ps := [nm_x, nm_lo, nm_hi, nm_key]) (k := 1) (extra := [.int 0, .none, .none]) (xs := [.int 0 211, .none, .none]) (n := 1) (by kernel_rfl) ?_ (fun g => ?_) rfl ?_
  · intro vs s hl hx
    obtain ⟨a, b, rfl⟩ := len2 hl
    refine' Mine.binds_kw (KX.keeps hx) ?a ?b ?c ?d ?e
    case a => exact rfl
    case b => exact rfl
    case c => exact rfl
    case d => exact rfl
    case e => exact rfl
  · simp [Reps, Rep]
  · exact den_mut (kn := kIns) ko 4 (by kernel_rfl) (by kernel_rfl) kf_4_eq sf_4_eq
set_option maxRecDepth 100000 in
set_option maxHeartbeats 2000000 in
theorem far_at (w : World) (G : Str → Option Value) (h : Heap) (KX : (hd2.heap_39 w.params).In h) : ∃ fd, (∃ o, h.get? 51 = some o ∧ o.data = .func fd) ∧ CallOk PySem.Challenge.rw_gj0003_02.row.prog w G h 1 51 fFar := by
  have f := fn_of KX 51 7 (by kernel_rfl) (by kernel_rfl) (by kernel_rfl) (by kernel_rfl) (by kernel_rfl) (by kernel_rfl) (by kernel_rfl) (by kernel_rfl) (by kernel_rfl) (by kernel_rfl)
  refine ⟨_, f.obj, ?_⟩
  unfold fFar bdFar
  refine Mine.call_ok f (ps := [nm_ties, nm_place, nm_many]) (k := 3) (extra := []) (xs := []) (n := 0) (by kernel_rfl) ?_ (fun _ => by simp only [Reps]) rfl ?_
  · intro vs s hl hx
    obtain ⟨a, b, c, rfl⟩ := len3 hl
    exact BindsTo.of_eq (by kernel_rfl)
  · exact den_exs (kn := kFar) ⟨fun f F e => (nomatch e), fun f F e => (nomatch e)⟩ 7 (by kernel_rfl) (by kernel_rfl) kf_7_eq sf_7_eq
theorem ko_cnt (w : World) (G : Str → Option Value) (h : Heap) (KX : (hd2.heap_39 w.params).In h) (DG : Defs G) : KnowOk PySem.Challenge.rw_gj0003_02.row.prog w G h 1 kCnt := by
  refine ⟨fun f F e => ?_, fun f F e => (nomatch e)⟩
  have e : tCnt f = some F := e
  unfold tCnt at e
  split at e
  · rename_i q; cases e; subst q
    obtain ⟨fd, h1, h2⟩ := add_at w G h KX
    exact ⟨_, fd, DG.add, h1, h2⟩
  · split at e
    · rename_i q; cases e; subst q
      obtain ⟨fd, h1, h2⟩ := count_at w G h KX
      exact ⟨_, fd, DG.cnt, h1, h2⟩
    · cases e
set_option maxRecDepth 100000 in
set_option maxHeartbeats 2000000 in
theorem lcn_at (w : World) (G : Str → Option Value) (h : Heap) (KX : (hd2.heap_39 w.params).In h) (DG : Defs G) : ∃ fd, (∃ o, h.get? 56 = some o ∧ o.data = .func fd) ∧ CallOk PySem.Challenge.rw_gj0003_02.row.prog w G h 2 56 fCnt := by
  have f := fn_of KX 56 8 (by kernel_rfl) (by kernel_rfl) (by kernel_rfl) (by kernel_rfl) (by kernel_rfl) (by kernel_rfl) (by kernel_rfl) (by kernel_rfl) (by kernel_rfl) (by kernel_rfl)
  refine ⟨_, f.obj, ?_⟩
  unfold fCnt bdCnt
  refine Mine.call_ok f (ps := [nm_ties, nm_many]) (k := 2) (extra := []) (xs := []) (n := 1) (by kernel_rfl) ?_ (fun _ => by simp only [Reps]) rfl ?_
  · intro vs s hl hx
    obtain ⟨a, b, rfl⟩ := len2 hl
    exact BindsTo.of_eq (by kernel_rfl)
  · exact den_exs (kn := kCnt) (ko_cnt w G h KX DG) 8 (by kernel_rfl) (by kernel_rfl) kf_8_eq sf_8_eq
theorem ko_mid (w : World) (G : Str → Option Value) (h : Heap) (KX : (hd2.heap_39 w.params).In h) (DG : Defs G) : KnowOk PySem.Challenge.rw_gj0003_02.row.prog w G h 2 kMid := by
  refine ⟨fun f F e => ?_, fun f F e => (nomatch e)⟩
  have e : tMid f = some F := e
  unfold tMid at e
  split at e
  · rename_i q; cases e; subst q
    obtain ⟨fd, h1, h2⟩ := lcn_at w G h KX DG
    exact ⟨_, fd, DG.lcn, h1, h2⟩
  · cases e
set_option maxRecDepth 100000 in
set_option maxHeartbeats 2000000 in
theorem mid_at (w : World) (G : Str → Option Value) (h : Heap) (KX : (hd2.heap_39 w.params).In h) (DG : Defs G) : ∃ fd, (∃ o, h.get? 61 = some o ∧ o.data = .func fd) ∧ CallOk PySem.Challenge.rw_gj0003_02.row.prog w G h 3 61 fMid := by
  have f := fn_of KX 61 9 (by kernel_rfl) (by kernel_rfl) (by kernel_rfl) (by kernel_rfl) (by kernel_rfl) (by kernel_rfl) (by kernel_rfl) (by kernel_rfl) (by kernel_rfl) (by kernel_rfl)
  refine ⟨_, f.obj, ?_⟩
  unfold fMid bdMid
  refine Mine.call_ok f (ps := [nm_ties, nm_many]) (k := 2) (extra := []) (xs := []) (n := 2) (by kernel_rfl) ?_ (fun _ => by simp only [Reps]) rfl ?_
  · intro vs s hl hx
    obtain ⟨a, b, rfl⟩ := len2 hl
    exact BindsTo.of_eq (by kernel_rfl)
  · exact den_exs (kn := kMid) (ko_mid w G h KX DG) 9 (by kernel_rfl) (by kernel_rfl) kf_9_eq sf_9_eq
theorem ko_law (w : World) (G : Str → Option Value) (h : Heap) (KX : (hd2.heap_39 w.params).In h) (DG : Defs G) : KnowOk PySem.Challenge.rw_gj0003_02.row.prog w G h 3 kLaw := by
  refine ⟨fun f F e => ?_, fun f F e => ?_⟩
  · have e : tLaw f = some F := e
    unfold tLaw at e
    split at e
    · rename_i q; cases e; subst q
      obtain ⟨fd, h1, h2⟩ := far_at w G h KX
      exact ⟨_, fd, DG.far, h1, h2.up (by exact om_271)⟩
    split at e
    · rename_i q; cases e; subst q
      obtain ⟨fd, h1, h2⟩ := lcn_at w G h KX DG
      exact ⟨_, fd, DG.lcn, h1, h2.up (by exact om_272)⟩
    split at e
    · rename_i q; cases e; subst q
      obtain ⟨fd, h1, h2⟩ := mid_at w G h KX DG
      exact ⟨_, fd, DG.mid, h1, h2.up (by exact om_273)⟩
    split at e
    · rename_i q; cases e; subst q
      obtain ⟨fd, h1, h2⟩ := bis_at w G h KX
      exact ⟨_, fd, DG.bis, h1, h2.up (by exact om_271)⟩
    · cases e
  · have e : mLaw f = some F := e
    unfold mLaw at e
    split at e
    · rename_i q; cases e; subst q
      obtain ⟨fd, h1, h2⟩ := ins_at w G h KX DG
      exact ⟨_, fd, DG.ins, h1, h2.up (by exact om_272)⟩
    · cases e
set_option maxRecDepth 100000 in
set_option maxHeartbeats 2000000 in
theorem law_at (w : World) (G : Str → Option Value) (h : Heap) (KX : (hd2.heap_39 w.params).In h) (DG : Defs G) : ∃ fd, FnAt h 66 fd (bodyAt topB 10) ∧ fscopeOk fd.scope [nm_script] = true ∧ Binds h fd [nm_script] 1 [] ∧ Exs PySem.Challenge.rw_gj0003_02.row.prog w G h 3 (kapF fd.scope) (stoF fd.scope) (bodyAt topB 10) bdLaw := by
  refine ⟨_, fn_of KX 66 10 (by kernel_rfl) (by kernel_rfl) (by kernel_rfl) (by kernel_rfl) (by kernel_rfl) (by kernel_rfl) (by kernel_rfl) (by kernel_rfl) (by kernel_rfl) (by kernel_rfl), by kernel_rfl, fun vs s hl hx => ?_, ?_⟩
  · obtain ⟨a, rfl⟩ := len1 hl
    exact BindsTo.of_eq (by kernel_rfl)
  · unfold bdLaw
    exact den_exs (kn := kLaw) (ko_law w G h KX DG) 10 (by kernel_rfl) (by kernel_rfl) kf_10_eq sf_10_eq
end Mine
end
section
open PySem PySem.W PyProof.Rows PySem.Spec PySem.SeqAt
set_option linter.all false
namespace Mine
theorem room_caller : Room callerA 4 := ⟨rfl, by rw [depth_caller]; decide, by rw [units_caller]; decide⟩
theorem base_of {p : Program} {loose : List Str} {mean : ExcName → Option Value} {mg mb : Str → Option Value} {h : Heap} (T : Top p loose mean mg mb h) (hf : ∀ x : Str, biN x = true → mg x = none) : Base mg h := ⟨T.g, ⟨mb, T.b, T.builtins⟩, T.nolimit, hf⟩
theorem reps_well {P : Params} {w : World} {h : Heap} {g : Part} : ∀ (ns : List Int) (vs : List Value), WellAll P h vs (ofPys (ns.map .int)) → Reps w g (ns.map .int) vs
  | [], vs, x => by
    simp only [List.map_nil, ofPys] at x
    cases x
    simp only [List.map_nil, Reps]
  | n :: ns, vs, x => by
    simp only [List.map_cons, ofPys, ofPy] at x
    cases x with
    | cons h1 h2 =>
      cases h1
      simp only [List.map_cons, Reps, Rep]
      exact ⟨_, _, rfl, ⟨_, rfl⟩, reps_well ns _ h2⟩
theorem rep_well {P : Params} {w : World} {h : Heap} {v : Value} {ns : List Int} (x : Well P h v (ofPy (.list (ns.map .int)))) (hn : ns.length ≤ 63) : Reps w (Fz [] h) [.lst (ns.map .int)] [v] := by
  simp only [ofPy] at x
  cases x with
  | list h1 h2 =>
    have hf : Fz [] h = h.get? := by funext b; unfold Fz; simp
    refine Reps.single ?_
    simp only [Rep]
    rw [← hf] at h1
    refine ⟨_, _, _, _, rfl, h1, ⟨rfl, rfl, rfl⟩, rfl, ?_, ?_⟩
    · rw [List.length_map]; have : cap = 200 := rfl; exact om_274 hn this
    · rw [List.toList_toArray]; exact reps_well ns _ h2
end Mine
set_option maxRecDepth 100000 in
set_option maxHeartbeats 8000000 in
theorem PySem.Challenge.cw_gj0003_02_holds : PySem.Challenge.rw_gj0003_02.Holds :=
  Mine.hd2 (by
  k_fill
  intro w s₀ s₁ mg mb G Y fa o pm cd doc dV kV ho hd hcd hD hmg hg args vals as hpre hlay hrd hwl hlo
  have KX := kIn_of Y
  have X := (Ground.X G).1
  have V := (Ground.X G).2
  refine Ground.open G ?_
  intro T B D TE TW
  try (refine guard_noD D (by decide +kernel) ?_; clear D)
  try (obtain ⟨_, _, he, B0⟩ := based_of_top T rfl hmg ho hd; have he' : cd = _ := he; subst he'; clear he)
  wrow_args hpre hlay hrd hwl hlo
  rename_i ns hs' hlay0 hL1 hr1 hl2 as1 as2 l vs as3 hL ra w1 r0 hI hr hcond hcond2
  refine enter_call ?_
  w_top on
  have hlen : ns.length ≤ 63 := by omega
  obtain ⟨DG, hGB⟩ := Mine.defs_mg w mg s₁.heap KX T.g
  obtain ⟨rad, long, M, F⟩ := Mine.law_facts ns (1 + min 8 ns.length) rfl
  have run := Mine.law_run ns hlen _ rfl _ rfl _ _ rad long M F
  have hfa : fa = 66 := by
    have e := hmg.symm.trans DG.law
    cases e; rfl
  subst hfa
  obtain ⟨fd, f1, f2, f3, f4⟩ := Mine.law_at w mg s₁.heap KX DG
  refine Mine.call_code (ps := [Mine.nm_script]) (k := 1) (n := 3) (ds := [.lst (ns.map .int)]) (d := .bool true) f1 f2 f3 rfl f4 callerA s₁ _ Mine.room_caller (Mine.base_of T hGB) (fun _ _ e => e) (Mine.rep_well w1 hlen) rfl run _ ?_
  intro v h' tk x r
  simp only [Mine.Rep] at r
  subst r
  refine GoodW.toG ⟨.inl ⟨.bool true, .bool true, [], rfl, ?_, .bool true, ?_, ?_⟩, x, rfl, hg⟩
  · exact fun cls => rfl
  · exact postW_of (by wrow_shape) (by wtm_val) rfl
  · exact unshared_nil)
end
