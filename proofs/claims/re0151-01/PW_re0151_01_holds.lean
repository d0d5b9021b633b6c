import PyProof.Rows.All
import Wide.All
import OpenK.AllK
import Wide.FinOn
import PySem.Challenge.RW_re0151_01
set_option Elab.async false

section
set_option maxRecDepth 100000
set_option linter.all false
namespace Mine
/-! arithmetic, over plain numbers -/
theorem om0 {a0 a1 : Nat} (h0 : (a0 < (2 : Nat))) : (a0 < ((256 : Nat) + a1)) := by grind
theorem om1 {a0 a1 : Nat} (h0 : ((a0 - (256 : Nat)) < a1)) : (a0 < ((256 : Nat) + a1)) := by omega
theorem om2 {a0 a1 a2 a3 a4 a5 : Nat} (h0 : (a0 < (8 : Nat))) (h1 : (a1 < (8 : Nat))) (h2 : (a2 < (1024 : Nat))) (h3 : (a3 < (1024 : Nat))) (h4 : ((a0 + ((8 : Nat) * (a2 + ((1024 : Nat) * a4)))) = (a1 + ((8 : Nat) * (a3 + ((1024 : Nat) * a5)))))) : ((a0 = a1) ∧ ((a2 = a3) ∧ (a4 = a5))) := by grind
theorem om3 {a0 : Nat} (h0 : (a0 < (4 : Nat))) : (a0 < (8 : Nat)) := by exact Nat.lt_trans (by assumption) (by decide)
theorem om4 {a0 a1 : Nat} (h0 : ((a0 + (1 : Nat)) ≤ (700 : Nat))) (h1 : (a1 < ((256 : Nat) + a0))) : (a1 < (1024 : Nat)) := by grind
theorem om5 {a0 : Nat} : ((256 : Nat) ≤ ((256 : Nat) + a0)) := by (simp_all; done)
theorem om6 {a0 a1 : Nat} (h0 : ((a0 - a1) = (0 : Nat))) : ((a0 - a1) = (0 : Nat)) := by omega
theorem om7 {a0 a1 a2 : Nat} (h0 : (a0 < ((256 : Nat) + a1))) (h1 : (¬ (a2 < a1))) : (a0 < ((256 : Nat) + a2)) := by grind
theorem om8 {a0 a1 : Nat} (h0 : ((256 : Nat) ≤ a0)) (h1 : (¬ ((a0 - (256 : Nat)) < a1))) (h2 : ((a0 - (256 : Nat)) < (a1 + (1 : Nat)))) : (((256 : Nat) + a1) = a0) := by rw [Nat.le_antisymm (Nat.not_lt.mp h1) (Nat.le_of_lt_succ h2)]; exact Nat.add_sub_cancel' h0
theorem om9 {a0 a1 : Nat} (h0 : (((a0 - (256 : Nat)) - a1) = (0 : Nat))) : (((a0 - (256 : Nat)) - a1) = (0 : Nat)) := by omega
theorem om10 {a0 : Nat} (h0 : ((a0 + (1 : Nat)) ≤ (700 : Nat))) : (a0 ≤ (699 : Nat)) := by exact Nat.le_of_lt_succ (by assumption)
theorem om11 {a0 a1 : Nat} (h0 : (a0 ≤ (a1 - (1 : Nat)))) (h1 : ((0 : Nat) < a1)) : ((a0 + (1 : Nat)) ≤ a1) := by lia
theorem om12 {a0 a1 a2 : Nat} (h0 : ((256 : Nat) ≤ a0)) (h1 : (a0 < (2 : Nat))) : (a1 ≤ a2) := by lia
theorem om13 {a0 a1 a2 : Nat} (h0 : (a0 ≤ a1)) (h1 : (a2 < a0)) : (a2 < (a1 + (1 : Nat))) := by lia
theorem om14 {a0 : Nat} : (a0 < (a0 + (1 : Nat))) := by (simp_all; done)
theorem om15 {a0 : Nat} (h0 : ((a0 + (1 : Nat)) ≤ (4 : Nat))) : (a0 ≤ (4 : Nat)) := by exact Nat.le_of_lt (by assumption)
theorem om16 {a0 a1 : Nat} (h0 : (a0 < a1)) : (a0 < (a1 + (1 : Nat))) := by exact Nat.lt_succ_of_lt (by assumption)
theorem om17 {a0 a1 : Nat} (h0 : (a0 ≤ a1)) (h1 : (¬ (a1 = a0))) : ((a0 + (1 : Nat)) ≤ a1) := by lia
theorem om18 {a0 a1 a2 a3 : Nat} (h0 : (a0 ≤ a1)) (h1 : (a2 < a0)) (h2 : (((a1 - (1 : Nat)) - a2) = a3)) : (((a1 - a0) ≤ a3) ∧ (a3 < a1)) := by subst h2; exact ⟨by rw [Nat.sub_sub]; exact Nat.sub_le_sub_left (by rw [Nat.add_comm]; exact h1) _, Nat.lt_of_le_of_lt (Nat.sub_le _ _) (Nat.sub_lt (Nat.lt_of_lt_of_le (Nat.lt_of_le_of_lt (Nat.zero_le _) h1) h0) (by decide))⟩
theorem om19 {a0 a1 a2 : Nat} (h0 : (((a0 - a1) ≤ a2) ∧ (a2 < a0))) : (((a0 - (1 : Nat)) - a2) < a1) := by omega
theorem om20 {a0 a1 a2 : Nat} (h0 : (((a0 - a1) ≤ a2) ∧ (a2 < a0))) : (((a0 - (1 : Nat)) - ((a0 - (1 : Nat)) - a2)) = a2) := by rw [Nat.sub_sub_self (Nat.le_sub_one_of_lt h0.2)]
theorem om21 {a0 a1 : Nat} (h0 : ((a0 + (1 : Nat)) ≤ a1)) : (a0 ≤ a1) := by exact Nat.le_of_lt (by assumption)
theorem om22 {a0 a1 a2 a3 : Nat} (h0 : ((a0 + (1 : Nat)) ≤ a1)) (h1 : (a2 = ((a1 - (1 : Nat)) - a0))) (h2 : (((a1 - a0) ≤ a3) ∧ (a3 < a1))) : (a3 ≠ a2) := by subst h1; intro e; subst e; exact Nat.lt_irrefl _ (Nat.lt_of_le_of_lt h2.1 (by rw [Nat.sub_sub, Nat.add_comm]; exact Nat.sub_lt_sub_left h0 (Nat.lt_succ_self a0)))
theorem om23 {a0 a1 : Nat} (h0 : ((a0 + (1 : Nat)) ≤ a1)) : (((a1 - (1 : Nat)) - a0) < a1) := Nat.lt_of_le_of_lt (Nat.sub_le _ _) (Nat.sub_lt (Nat.lt_of_lt_of_le (Nat.succ_pos _) h0) (by decide))
theorem om24 {a0 : Nat} : ((((256 : Nat) + a0) - (256 : Nat)) = a0) := by (simp_all; done)
theorem om25 {a0 : Nat} (h0 : ((256 : Nat) ≤ a0)) : (((256 : Nat) + (a0 - (256 : Nat))) = a0) := by exact Nat.add_sub_cancel' (by assumption)
theorem om26 {a0 a1 a2 a3 a4 : Nat} (h0 : (((a0 - (1 : Nat)) - a1) = a2)) (h1 : (((256 : Nat) + a2) = a3)) (h2 : (a3 < ((256 : Nat) + (a4 - (256 : Nat))))) (h3 : ((a4 - (256 : Nat)) < a0)) : (((a0 - a1) ≤ (a4 - (256 : Nat))) ∧ ((a4 - (256 : Nat)) < a0)) := by subst h0; subst h1; exact ⟨by have := Nat.lt_of_add_lt_add_left h2; omega, h3⟩
theorem om27 {a0 a1 : Nat} (h0 : (a0 < a1)) : (¬ (((3 : Nat) - a0) < ((4 : Nat) - a1))) := Nat.not_lt.mpr (Nat.succ_sub_succ 3 a0 ▸ Nat.sub_le_sub_left h0 4)
theorem om28 {a0 a1 : Nat} (h0 : (a0 < (4 : Nat))) : ((((3 : Nat) - a1) - ((4 : Nat) - a0)) = ((a0 - (1 : Nat)) - a1)) := by rw [Nat.sub_right_comm, (by decide : ∀ k < 4, 3 - (4 - k) = k - 1) a0 h0]
theorem om29 {a0 a1 : Nat} (h0 : (a0 < (4 : Nat))) (h1 : (¬ (a1 < a0))) : (((3 : Nat) - a1) < ((4 : Nat) - a0)) := Nat.lt_of_le_of_lt (Nat.sub_le_sub_left (Nat.not_lt.mp h1) 3) (Nat.sub_lt_sub_right (Nat.le_of_lt_succ h0) (by decide))
theorem om30 {a0 a1 : Nat} (h0 : (¬ (a0 < a1))) : (((2 : Nat) * a1) ≤ (a0 + a1)) := by grind
theorem om31 {a0 a1 : Nat} (h0 : (a0 < (a1 + (1 : Nat)))) (h1 : (¬ (a0 = a1))) : (a0 < a1) := by lia
theorem om32 {a0 a1 : Nat} (h0 : (¬ (a0 < ((2 : Nat) * a1)))) : (((2 : Nat) * a1) ≤ a0) := by exact Nat.not_lt.mp (by assumption)
theorem om33 {a0 : Nat} (h0 : (a0 < (4 : Nat))) : ((((4 : Nat) - a0) + a0) = (4 : Nat)) := by lia
theorem om34 {a0 a1 : Nat} (h0 : (a0 ≤ a1)) : (¬ (a1 < a0)) := by (simp_all; done)
theorem om35 {a0 a1 a2 : Nat} (h0 : (a0 ≤ a1)) (h1 : (a2 < a0)) : (a2 < a1) := by exact Nat.lt_of_lt_of_le (by assumption) (by assumption)
theorem om36 {a0 a1 : Nat} (h0 : (a0 < a1)) : ((a1 + a0) < ((2 : Nat) * a1)) := by lia
theorem om37 {a0 a1 : Nat} (h0 : (a0 < a1)) : (a0 < ((2 : Nat) * a1)) := by lia
theorem om38 {a0 : Nat} : (¬ (((3 : Nat) - a0) < ((3 : Nat) - a0))) := by (simp_all; done)
theorem om39 {a0 a1 : Nat} (h0 : (a0 ≤ a1)) (h1 : (a1 < (4 : Nat))) (h2 : (¬ (a1 = a0))) : (((3 : Nat) - a1) < ((3 : Nat) - a0)) := Nat.sub_lt_sub_left (Nat.lt_of_lt_of_le (Nat.lt_of_le_of_ne h0 (fun e => h2 e.symm)) (Nat.le_of_lt_succ h1)) (Nat.lt_of_le_of_ne h0 (fun e => h2 e.symm))
theorem om40 {a0 a1 a2 : Nat} (h0 : (((256 : Nat) + a0) < (2 : Nat))) : (a1 ≤ a2) := by lia
theorem om41 {a0 a1 : Nat} (h0 : (a0 < (4 : Nat))) (h1 : (a1 < a0)) : (a1 < (4 : Nat)) := by lia
theorem om42 {a0 a1 : Nat} (h0 : ((a0 + (1 : Nat)) ≤ a1)) : (¬ (a1 < a0)) := by lia
theorem om43 {a0 a1 : Nat} (h0 : ((a0 + (1 : Nat)) ≤ a1)) (h1 : (a1 < (4 : Nat))) : (((3 : Nat) - a1) < ((3 : Nat) - a0)) := Nat.sub_lt_sub_left (Nat.lt_of_lt_of_le h0 (Nat.le_of_lt_succ h1)) h0
theorem om44 {a0 a1 : Nat} (h0 : (((256 : Nat) + a0) = ((256 : Nat) + a1))) : (a0 = a1) := by (simp_all; done)
theorem om45 {a0 : Nat} (h0 : (a0 < (4 : Nat))) : (a0 ≤ (4 : Nat)) := by exact Nat.le_of_lt (by assumption)
theorem om46 {a0 a1 : Nat} (h0 : ((a0 + (1 : Nat)) ≤ a1)) : (¬ (a1 = a0)) := by exact Nat.ne_of_gt (by assumption)
theorem om47 {a0 : Nat} (h0 : ((a0 = (0 : Nat)) ∨ ((a0 = (1 : Nat)) ∨ ((a0 = (2 : Nat)) ∨ (a0 = (3 : Nat)))))) : (a0 < (4 : Nat)) := by grind
theorem om48 {a0 : Nat} (h0 : (¬ (((2 : Nat) ^ (52 : Nat)) ≤ a0))) : (((2 : Nat) * a0) ≤ ((2 : Nat) ^ (53 : Nat))) := by grind
theorem om49 {a0 : Nat} (h0 : (a0 ≤ (1100 : Nat))) : ((a0 + (53 : Nat)) ≤ (1153 : Nat)) := Nat.le_trans (Nat.add_le_add h0 (Nat.le_refl _)) (by decide)
theorem om51 {a0 a1 a2 a3 : Nat} (h0 : (a0 ≤ a1)) (h1 : (a2 ≤ ((2 : Nat) * a0))) (h2 : (a3 < a2)) (h3 : (a3 = ((2 : Nat) * a1))) : False := by grind
theorem om52 {a0 a1 a2 a3 a4 : Nat} (h0 : (a0 < a1)) (h1 : ((a2 + a0) = a3)) (h2 : (((a3 - a4) + (a4 - a3)) ≤ ((a3 - a2) + (a2 - a3)))) : ((a3 ≤ (a4 + a1)) ∧ (a4 ≤ (a3 + a1))) := by subst h1; rw [Nat.add_sub_cancel_left, Nat.sub_eq_zero_of_le (Nat.le_add_right _ _), Nat.add_zero] at h2; exact ⟨Nat.sub_le_iff_le_add'.mp (Nat.le_trans (Nat.le_trans (Nat.le_add_right _ _) h2) (Nat.le_of_lt h0)), Nat.sub_le_iff_le_add'.mp (Nat.le_trans (Nat.le_trans (Nat.le_add_left _ _) h2) (Nat.le_of_lt h0))⟩
theorem om53 {a1 a2 : Nat} {a0 : Int} (h0 : ((Int.natAbs a0) ≤ (a1 + a2))) (h1 : (a1 ≤ ((Int.natAbs a0) + a2))) (h2 : (a0 < (0 : Int))) : (((a0 - ((a2 : Nat) : Int)) ≤ (-((a1 : Nat) : Int))) ∧ ((-((a1 : Nat) : Int)) ≤ (a0 + ((a2 : Nat) : Int)))) := by grind
theorem om54 {a1 a2 : Nat} {a0 : Int} (h0 : ((Int.natAbs a0) ≤ (a1 + a2))) (h1 : (a1 ≤ ((Int.natAbs a0) + a2))) (h2 : (¬ (a0 < (0 : Int)))) : (((a0 - ((a2 : Nat) : Int)) ≤ ((a1 : Nat) : Int)) ∧ (((a1 : Nat) : Int) ≤ (a0 + ((a2 : Nat) : Int)))) := by grind
theorem om55 {a0 a1 a2 a3 : Int} : (((a0 + a1) - (a2 + a3)) = ((a0 - a2) + (a1 - a3))) := by grind
theorem om56 {a0 a1 a2 a3 a4 : Int} (h0 : (a0 ≤ a1)) (h1 : (a2 ≤ a3)) (h2 : (a4 = (a0 + a2))) : (a4 ≤ (a1 + a3)) := by lia
theorem om57 {a0 a1 a2 a3 : Int} : (((a0 + a1) + (a2 + a3)) = ((a0 + a2) + (a1 + a3))) := by grind
theorem om58 {a0 a1 a2 a3 a4 : Int} (h0 : (a0 ≤ a1)) (h1 : (a2 ≤ a3)) (h2 : (a4 = (a1 + a3))) : ((a0 + a2) ≤ a4) := by grind
theorem om59 {a0 a1 a2 a3 : Int} : (((a0 + a1) - ((a2 + a3) + (1024 : Int))) = (((a0 + a1) - (a2 + a3)) - (1024 : Int))) := by grind
theorem om60 {a0 a1 a2 a3 : Int} : (((a0 + a1) + ((a2 + a3) + (1024 : Int))) = (((a0 + a1) + (a2 + a3)) + (1024 : Int))) := by lia
theorem om61 {a0 a1 a2 a3 a4 : Int} (h0 : ((0 : Int) < a0)) (h1 : (a1 ≤ (a2 + a3))) (h2 : ((a2 + a3) = (0 : Int))) (h3 : ((0 : Int) ≤ a4)) : ((a1 - ((1024 : Int) * a0)) ≤ a4) := by grind
theorem om62 {a0 a1 a2 a3 a4 : Int} (h0 : ((0 : Int) < a0)) (h1 : ((a1 + a2) ≤ a3)) (h2 : ((a1 + a2) = (0 : Int))) (h3 : (a4 ≤ (0 : Int))) : (a4 ≤ (a3 + ((1024 : Int) * a0))) := by lia
theorem om63 {a5 : Nat} {a0 a1 a2 a3 a4 : Int} (h0 : (a0 ≤ (a1 + a2))) (h1 : ((a1 + a2) ≤ a3)) (h2 : ((-a4) ≤ a0)) (h3 : (a3 ≤ a4)) (h4 : (((a5 : Nat) : Int) = a4)) : ((Int.natAbs (a1 + a2)) ≤ ((1 : Nat) * a5)) := by grind
theorem om64 {a0 a1 a2 a3 a4 : Int} (h0 : (a0 ≤ (a1 + a2))) (h1 : ((((a1 + a2) - ((1024 : Int) * a3)) ≤ a4) ∧ (a4 ≤ ((a1 + a2) + ((1024 : Int) * a3))))) : ((a0 - ((1024 : Int) * a3)) ≤ a4) := by grind
theorem om65 {a0 a1 a2 a3 a4 : Int} (h0 : ((a0 + a1) ≤ a2)) (h1 : ((((a0 + a1) - ((1024 : Int) * a3)) ≤ a4) ∧ (a4 ≤ ((a0 + a1) + ((1024 : Int) * a3))))) : (a4 ≤ (a2 + ((1024 : Int) * a3))) := by grind
theorem om66 {a0 a1 : Int} : (((-a0) - a1) = (-(a0 + a1))) := by lia
theorem om67 {a0 a1 : Int} : (((-a0) + a1) = (-(a0 - a1))) := by grind
theorem om68 {a0 a1 : Int} (h0 : (a0 ≤ a1)) : ((-a1) ≤ (-a0)) := by (simp_all; done)
theorem om69 {a0 a1 a2 a3 : Int} (h0 : ((-((2 : Int) ^ (63 : Nat))) ≤ ((a0 - a1) - (a2 + a3)))) : ((-((2 : Int) ^ (63 : Nat))) ≤ ((a0 + (-a1)) - (a2 + a3))) := by assumption
theorem om70 {a0 a1 a2 a3 : Int} (h0 : (((a0 - a1) + (a2 + a3)) ≤ ((2 : Int) ^ (63 : Nat)))) : (((a0 + (-a1)) + (a2 + a3)) ≤ ((2 : Int) ^ (63 : Nat))) := by assumption
theorem om71 {a0 a1 : Int} (h0 : ((-a0) ≤ a1)) (h1 : (a1 ≤ a0)) : ((Int.natAbs a1) ≤ (Int.toNat a0)) := by omega
theorem om72 {a0 a1 : Int} (h0 : ((-a0) ≤ a1)) (h1 : (a1 ≤ a0)) : ((0 : Int) ≤ a0) := by grind
theorem om73 {a1 : Nat} {a0 a2 : Int} (h0 : ((Int.natAbs a0) ≤ a1)) (h1 : (((a1 : Nat) : Int) = a2)) : (((-a2) ≤ a0) ∧ (a0 ≤ a2)) := by grind
theorem om74 {a0 a1 a2 : Int} (h0 : (a0 ≤ a1)) (h1 : ((-a2) ≤ a0)) : ((-a2) ≤ a1) := by grind
theorem om75 {a0 a1 a2 : Int} (h0 : ((a0 - a1) ≤ a2)) : ((-a1) ≤ (a2 - a0)) := by lia
theorem om76 {a0 a1 a2 : Int} (h0 : (a0 ≤ (a1 + a2))) : ((a0 - a1) ≤ a2) := by lia
theorem om77 {a0 a1 a2 a3 : Int} (h0 : (a0 = a1)) : (a2 = (((a2 - a3) + (a3 - a0)) + a1)) := by grind
theorem om78 {a0 a1 a2 a3 a4 a5 a6 a7 a8 : Int} (h0 : (((-a0) ≤ a1) ∧ (a1 ≤ a0))) (h1 : (((-a2) ≤ a3) ∧ (a3 ≤ a2))) (h2 : (((a0 + a2) + a4) ≤ a5)) (h3 : ((-a4) ≤ (a6 - a7))) (h4 : ((a6 - a7) ≤ a4)) (h5 : (a8 = ((a1 + a3) + a6))) : (((a7 - a5) ≤ a8) ∧ (a8 ≤ (a7 + a5))) := by grind
theorem om79 {a0 a1 a2 : Nat} (h0 : (a0 ≤ (a1 + a2))) (h1 : (a1 ≤ (a0 + a2))) : (((((a0 : Nat) : Int) - ((a2 : Nat) : Int)) ≤ ((a1 : Nat) : Int)) ∧ (((a1 : Nat) : Int) ≤ (((a0 : Nat) : Int) + ((a2 : Nat) : Int)))) := by lia
theorem om80 {a0 a1 a2 : Nat} (h0 : (a0 ≤ (a1 + a2))) (h1 : (a1 ≤ (a0 + a2))) : ((((-((a0 : Nat) : Int)) - ((a2 : Nat) : Int)) ≤ (-((a1 : Nat) : Int))) ∧ ((-((a1 : Nat) : Int)) ≤ ((-((a0 : Nat) : Int)) + ((a2 : Nat) : Int)))) := by grind
theorem om81 {a3 : Nat} {a0 a1 a2 : Int} (h0 : (((((((2 : Nat) ^ (1074 : Nat)) : Nat) : Int) * a0) ≤ a1) ∧ (a1 ≤ (((((2 : Nat) ^ (1074 : Nat)) : Nat) : Int) * a2)))) (h1 : ((-((a3 : Nat) : Int)) ≤ (((((2 : Nat) ^ (1074 : Nat)) : Nat) : Int) * a0))) (h2 : ((((((2 : Nat) ^ (1074 : Nat)) : Nat) : Int) * a2) ≤ ((a3 : Nat) : Int))) : ((Int.natAbs a1) ≤ a3) := by omega
theorem om82 {a0 a1 : Int} : ((a0 - (a1 + (1024 : Int))) = ((a0 - a1) - (1024 : Int))) := by lia
theorem om83 {a0 a1 a2 a3 a4 : Int} (h0 : (((((((2 : Nat) ^ (1074 : Nat)) : Nat) : Int) * a0) ≤ a1) ∧ (a1 ≤ (((((2 : Nat) ^ (1074 : Nat)) : Nat) : Int) * a2)))) (h1 : (((a1 - (((((2 : Nat) ^ (1074 : Nat)) : Nat) : Int) * ((1024 : Int) * a3))) ≤ (((((2 : Nat) ^ (1074 : Nat)) : Nat) : Int) * a4)) ∧ ((((((2 : Nat) ^ (1074 : Nat)) : Nat) : Int) * a4) ≤ (a1 + (((((2 : Nat) ^ (1074 : Nat)) : Nat) : Int) * ((1024 : Int) * a3)))))) : (((((((2 : Nat) ^ (1074 : Nat)) : Nat) : Int) * a0) - (((((2 : Nat) ^ (1074 : Nat)) : Nat) : Int) * ((1024 : Int) * a3))) ≤ (((((2 : Nat) ^ (1074 : Nat)) : Nat) : Int) * a4)) := Int.le_trans (Int.sub_le_sub_right h0.1 _) h1.1
theorem om84 {a0 a1 : Int} : ((a0 + (a1 + (1024 : Int))) = ((a0 + a1) + (1024 : Int))) := by lia
theorem om85 {a0 a1 a2 a3 a4 : Int} (h0 : (((((((2 : Nat) ^ (1074 : Nat)) : Nat) : Int) * a0) ≤ a1) ∧ (a1 ≤ (((((2 : Nat) ^ (1074 : Nat)) : Nat) : Int) * a2)))) (h1 : (((a1 - (((((2 : Nat) ^ (1074 : Nat)) : Nat) : Int) * ((1024 : Int) * a3))) ≤ (((((2 : Nat) ^ (1074 : Nat)) : Nat) : Int) * a4)) ∧ ((((((2 : Nat) ^ (1074 : Nat)) : Nat) : Int) * a4) ≤ (a1 + (((((2 : Nat) ^ (1074 : Nat)) : Nat) : Int) * ((1024 : Int) * a3)))))) : ((((((2 : Nat) ^ (1074 : Nat)) : Nat) : Int) * a4) ≤ ((((((2 : Nat) ^ (1074 : Nat)) : Nat) : Int) * a2) + (((((2 : Nat) ^ (1074 : Nat)) : Nat) : Int) * ((1024 : Int) * a3)))) := Int.le_trans h1.2 (Int.add_le_add_right h0.2 _)
theorem om86 {a0 : Nat} : (((a0 % (320 : Nat)) % (64 : Nat)) = (a0 % (64 : Nat))) := by (simp_all; done)
theorem om87 {a0 : Nat} : ((((a0 % (320 : Nat)) / (64 : Nat)) % (5 : Nat)) = ((a0 / (64 : Nat)) % (5 : Nat))) := by rw [show (320 : Nat) = 64 * 5 from rfl, Nat.mod_mul_right_div_self, Nat.mod_mod]
theorem om88 {a0 : Nat} : ((a0 % (320 : Nat)) < (320 : Nat)) := by exact Nat.mod_lt _ (by decide)
theorem om89 {a0 a1 : Nat} (h0 : (((a0 * ((2 : Nat) ^ (60 : Nat))) / (192 : Nat)) = a1)) : (((192 : Nat) * a1) ≤ (a0 * ((2 : Nat) ^ (60 : Nat)))) := by grind
theorem om90 {a0 a1 : Nat} (h0 : (((a0 * ((2 : Nat) ^ (60 : Nat))) / (192 : Nat)) = a1)) : ((a0 * ((2 : Nat) ^ (60 : Nat))) < (((192 : Nat) * a1) + (192 : Nat))) := by grind
theorem om91 {a0 a1 : Nat} (h0 : (a0 ≤ (32 : Nat))) (h1 : (((a0 * ((2 : Nat) ^ (60 : Nat))) / (192 : Nat)) = a1)) : (((a1 : Nat) : Int) ≤ ((2 : Int) ^ (58 : Nat))) := by lia
theorem om92 {a0 a1 a2 : Int} (h0 : (a0 ≤ ((2 : Int) ^ (30 : Nat)))) (h1 : (a1 ≤ ((2 : Int) ^ (60 : Nat)))) (h2 : ((0 : Int) ≤ a2)) : ((-((2 : Int) ^ (63 : Nat))) ≤ ((a2 - a1) - (a0 + a0))) := by lia
theorem om93 {a0 a1 a2 : Int} (h0 : (a0 ≤ ((2 : Int) ^ (30 : Nat)))) (h1 : ((0 : Int) ≤ a1)) (h2 : (a2 ≤ ((2 : Int) ^ (60 : Nat)))) : (((a2 - a1) + (a0 + a0)) ≤ ((2 : Int) ^ (63 : Nat))) := by grind
theorem om94 {a0 a1 : Int} (h0 : (a0 ≤ ((2 : Int) ^ (60 : Nat)))) (h1 : ((0 : Int) ≤ a1)) : ((-((2 : Int) ^ (60 : Nat))) ≤ (a1 - a0)) := by omega
theorem om95 {a0 a1 : Int} (h0 : ((0 : Int) ≤ a0)) (h1 : (a1 ≤ ((2 : Int) ^ (60 : Nat)))) : ((a1 - a0) ≤ ((2 : Int) ^ (60 : Nat))) := by lia
theorem om96 {a0 : Nat} : ((-((2 : Int) ^ (58 : Nat))) ≤ ((a0 : Nat) : Int)) := by exact Int.natCast_nonneg _
theorem om97 {a0 : Nat} (h0 : (((a0 : Nat) : Int) ≤ ((2 : Int) ^ (58 : Nat)))) : (((a0 : Nat) : Int) ≤ ((2 : Int) ^ (58 : Nat))) := by omega
theorem om98 {a0 a1 a2 : Int} (h0 : ((0 : Int) ≤ a0)) (h1 : (a0 < ((2 : Int) ^ (60 : Nat)))) (h2 : ((a0 + (((2 : Int) ^ (60 : Nat)) * a1)) = a2)) (h3 : (((-(((2 : Int) ^ (60 : Nat)) * ((2 : Int) ^ (58 : Nat)))) ≤ a2) ∧ (a2 ≤ (((2 : Int) ^ (60 : Nat)) * ((2 : Int) ^ (58 : Nat)))))) : ((((-((2 : Int) ^ (58 : Nat))) - (1 : Int)) ≤ a1) ∧ (a1 ≤ ((2 : Int) ^ (58 : Nat)))) := by lia
theorem om99 {a0 a1 a2 : Int} (h0 : (a0 ≤ ((2 : Int) ^ (30 : Nat)))) (h1 : (a1 ≤ ((2 : Int) ^ (60 : Nat)))) (h2 : ((0 : Int) ≤ a2)) : ((-((2 : Int) ^ (61 : Nat))) ≤ ((a2 - a1) - ((a0 + a0) + (1024 : Int)))) := by lia
theorem om100 {a0 a1 a2 : Int} (h0 : (a0 ≤ ((2 : Int) ^ (30 : Nat)))) (h1 : ((0 : Int) ≤ a1)) (h2 : (a2 ≤ ((2 : Int) ^ (60 : Nat)))) : (((a2 - a1) + ((a0 + a0) + (1024 : Int))) ≤ ((2 : Int) ^ (61 : Nat))) := by lia
theorem om101 {a0 a1 a2 : Int} (h0 : ((0 : Int) ≤ a0)) (h1 : ((a0 + (((2 : Int) ^ (60 : Nat)) * a1)) = a2)) : ((-((2 : Int) ^ (60 : Nat))) ≤ (a2 - (a1 * ((2 : Int) ^ (60 : Nat))))) := by grind
theorem om102 {a0 a1 a2 : Int} (h0 : (a0 < ((2 : Int) ^ (60 : Nat)))) (h1 : ((a0 + (((2 : Int) ^ (60 : Nat)) * a1)) = a2)) : ((a2 - (a1 * ((2 : Int) ^ (60 : Nat)))) ≤ ((2 : Int) ^ (60 : Nat))) := by grind
theorem om103 {a0 : Int} (h0 : ((0 : Int) ≤ a0)) : ((((((2 : Int) ^ (61 : Nat)) * (2048 : Int)) + (((a0 + a0) + (1024 : Int)) * ((2 : Int) ^ (58 : Nat)))) + ((2 : Int) ^ (60 : Nat))) ≤ ((((2 : Int) * a0) + (6000 : Int)) * ((2 : Int) ^ (60 : Nat)))) := by grind
theorem om104 {a0 a1 : Int} (h0 : (a0 ≤ ((2 : Int) ^ (30 : Nat)))) (h1 : ((((-((2 : Int) ^ (58 : Nat))) - (1 : Int)) ≤ a1) ∧ (a1 ≤ ((2 : Int) ^ (58 : Nat))))) : ((-((2 : Int) ^ (63 : Nat))) ≤ (a1 - (((2 : Int) * a0) + (6000 : Int)))) := by lia
theorem om105 {a0 a1 : Int} (h0 : (a0 ≤ ((2 : Int) ^ (30 : Nat)))) (h1 : ((((-((2 : Int) ^ (58 : Nat))) - (1 : Int)) ≤ a1) ∧ (a1 ≤ ((2 : Int) ^ (58 : Nat))))) : ((a1 + (((2 : Int) * a0) + (6000 : Int))) ≤ ((2 : Int) ^ (63 : Nat))) := by lia
theorem om106 {a0 a1 : Int} (h0 : (a0 ≤ ((2 : Int) ^ (30 : Nat)))) (h1 : ((((-((2 : Int) ^ (58 : Nat))) - (1 : Int)) ≤ a1) ∧ (a1 ≤ ((2 : Int) ^ (58 : Nat))))) : ((-((2 : Int) ^ (61 : Nat))) ≤ (a1 - ((((2 : Int) * a0) + (6000 : Int)) + (1024 : Int)))) := by lia
theorem om107 {a0 a1 : Int} (h0 : (a0 ≤ ((2 : Int) ^ (30 : Nat)))) (h1 : ((((-((2 : Int) ^ (58 : Nat))) - (1 : Int)) ≤ a1) ∧ (a1 ≤ ((2 : Int) ^ (58 : Nat))))) : ((a1 + ((((2 : Int) * a0) + (6000 : Int)) + (1024 : Int))) ≤ ((2 : Int) ^ (61 : Nat))) := by lia
theorem om108 : ((-((6 : Int) * ((2 : Int) ^ (60 : Nat)))) ≤ ((6 : Int) * ((2 : Int) ^ (60 : Nat)))) := by (simp_all; done)
theorem om109 : (((6 : Int) * ((2 : Int) ^ (60 : Nat))) ≤ ((6 : Int) * ((2 : Int) ^ (60 : Nat)))) := by exact Int.natCast_nonneg _
theorem om110 {a0 : Int} : ((-(0 : Int)) ≤ ((a0 * ((6 : Int) * ((2 : Int) ^ (60 : Nat)))) - (((6 : Int) * a0) * ((2 : Int) ^ (60 : Nat))))) := by grind
theorem om111 {a0 : Int} : (((a0 * ((6 : Int) * ((2 : Int) ^ (60 : Nat)))) - (((6 : Int) * a0) * ((2 : Int) ^ (60 : Nat)))) ≤ (0 : Int)) := by grind
theorem om112 {a0 : Int} : ((((((2 : Int) ^ (61 : Nat)) * (0 : Int)) + (((((2 : Int) * a0) + (6000 : Int)) + (1024 : Int)) * ((6 : Int) * ((2 : Int) ^ (60 : Nat))))) + (0 : Int)) ≤ (((6 : Int) * ((((2 : Int) * a0) + (6000 : Int)) + (1024 : Int))) * ((2 : Int) ^ (60 : Nat)))) := by grind
theorem om113 {a0 a1 : Int} (h0 : (a0 ≤ ((2 : Int) ^ (30 : Nat)))) (h1 : ((((-((2 : Int) ^ (58 : Nat))) - (1 : Int)) ≤ a1) ∧ (a1 ≤ ((2 : Int) ^ (58 : Nat))))) : ((-((2 : Int) ^ (63 : Nat))) ≤ (((6 : Int) * a1) - ((6 : Int) * ((((2 : Int) * a0) + (6000 : Int)) + (1024 : Int))))) := by grind
theorem om114 {a0 a1 : Int} (h0 : (a0 ≤ ((2 : Int) ^ (30 : Nat)))) (h1 : ((((-((2 : Int) ^ (58 : Nat))) - (1 : Int)) ≤ a1) ∧ (a1 ≤ ((2 : Int) ^ (58 : Nat))))) : ((((6 : Int) * a1) + ((6 : Int) * ((((2 : Int) * a0) + (6000 : Int)) + (1024 : Int)))) ≤ ((2 : Int) ^ (63 : Nat))) := by lia
theorem om115 {a0 a1 a2 : Int} (h0 : (a0 ≤ ((2 : Int) ^ (30 : Nat)))) (h1 : ((0 : Int) ≤ a1)) (h2 : ((((-((2 : Int) ^ (58 : Nat))) - (1 : Int)) ≤ a2) ∧ (a2 ≤ ((2 : Int) ^ (58 : Nat))))) : ((-((2 : Int) ^ (63 : Nat))) ≤ ((a1 + ((6 : Int) * a2)) - (a0 + (((6 : Int) * ((((2 : Int) * a0) + (6000 : Int)) + (1024 : Int))) + (1024 : Int))))) := by omega
theorem om116 {a0 a1 a2 : Int} (h0 : (a0 ≤ ((2 : Int) ^ (30 : Nat)))) (h1 : (a1 ≤ ((2 : Int) ^ (60 : Nat)))) (h2 : ((((-((2 : Int) ^ (58 : Nat))) - (1 : Int)) ≤ a2) ∧ (a2 ≤ ((2 : Int) ^ (58 : Nat))))) : (((a1 + ((6 : Int) * a2)) + (a0 + (((6 : Int) * ((((2 : Int) * a0) + (6000 : Int)) + (1024 : Int))) + (1024 : Int)))) ≤ ((2 : Int) ^ (63 : Nat))) := by omega
theorem om117 {a0 a1 : Nat} (h0 : (((a0 * ((2 : Nat) ^ (60 : Nat))) / (192 : Nat)) = a1)) : ((-(192 : Int)) ≤ (((192 : Int) * ((a1 : Nat) : Int)) - (((a0 : Nat) : Int) * ((2 : Int) ^ (60 : Nat))))) := by lia
theorem om118 {a0 a1 : Nat} (h0 : (((a0 * ((2 : Nat) ^ (60 : Nat))) / (192 : Nat)) = a1)) : ((((192 : Int) * ((a1 : Nat) : Int)) - (((a0 : Nat) : Int) * ((2 : Int) ^ (60 : Nat)))) ≤ (192 : Int)) := by lia
theorem om119 {a0 a1 a2 : Int} : (((((32 : Int) * a0) - a1) + a2) = (((32 : Int) * a0) + (a2 - a1))) := by grind
theorem om120 {a0 a1 a2 a3 a4 a5 : Int} (h0 : ((a0 / ((2 : Int) ^ (60 : Nat))) = a1)) (h1 : (((32 : Int) * a2) = (((32 : Int) * a3) + a4))) (h2 : (((-(((2 : Int) ^ (60 : Nat)) * (192 : Int))) ≤ (((192 : Int) * a0) - (((2 : Int) ^ (60 : Nat)) * a4))) ∧ ((((192 : Int) * a0) - (((2 : Int) ^ (60 : Nat)) * a4)) ≤ (((2 : Int) ^ (60 : Nat)) * (192 : Int))))) : ((a2 - (((13 : Int) * a5) + (50000 : Int))) ≤ ((a3 + ((6 : Int) * a1)) - ((a5 + (((6 : Int) * ((((2 : Int) * a5) + (6000 : Int)) + (1024 : Int))) + (1024 : Int))) + (1024 : Int)))) := by omega
theorem om121 {a0 a1 a2 a3 a4 a5 : Int} (h0 : ((a0 / ((2 : Int) ^ (60 : Nat))) = a1)) (h1 : (((32 : Int) * a2) = (((32 : Int) * a3) + a4))) (h2 : (((-(((2 : Int) ^ (60 : Nat)) * (192 : Int))) ≤ (((192 : Int) * a0) - (((2 : Int) ^ (60 : Nat)) * a4))) ∧ ((((192 : Int) * a0) - (((2 : Int) ^ (60 : Nat)) * a4)) ≤ (((2 : Int) ^ (60 : Nat)) * (192 : Int))))) : (((a3 + ((6 : Int) * a1)) + ((a5 + (((6 : Int) * ((((2 : Int) * a5) + (6000 : Int)) + (1024 : Int))) + (1024 : Int))) + (1024 : Int))) ≤ (a2 + (((13 : Int) * a5) + (50000 : Int)))) := by lia
theorem om122 {a0 : Nat} (h0 : (a0 < (4 : Nat))) : (((4 : Nat) - a0) = (((4 : Nat) - (a0 + (1 : Nat))) + (1 : Nat))) := by rw [show (4 : Nat) - (a0 + 1) = 3 - a0 from Nat.succ_sub_succ 3 a0]; exact Nat.succ_sub (Nat.le_of_lt_succ h0)
theorem om123 {a0 a1 : Nat} (h0 : (a0 ≤ a1)) (h1 : (a1 ≤ (4 : Nat))) : (a0 < (5 : Nat)) := by lia
theorem om124 {a0 : Nat} (h0 : (a0 ≤ (4 : Nat))) : (a0 < (5 : Nat)) := by exact Nat.lt_succ_of_le (by assumption)
theorem om125 {a0 : Nat} (h0 : (a0 < ((256 : Nat) + (0 : Nat)))) : (a0 < (256 : Nat)) := by omega
theorem om126 {a0 : Nat} : (((4 : Nat) - a0) ≤ (4 : Nat)) := by (simp_all; done)
theorem om127 {a1 : Nat} {a0 : Int} (h0 : (((0 : Int) ≤ a0) ∧ (a0 ≤ ((2 : Int) ^ (30 : Nat))))) : (((((a1 : Nat) : Int) * ((2 : Int) ^ (60 : Nat))) - a0) ≤ ((((a1 : Nat) : Int) * ((2 : Int) ^ (60 : Nat))) - (0 : Int))) := by lia
theorem om128 {a1 : Nat} {a0 : Int} (h0 : (((0 : Int) ≤ a0) ∧ (a0 ≤ ((2 : Int) ^ (30 : Nat))))) : (((((a1 : Nat) : Int) * ((2 : Int) ^ (60 : Nat))) + (0 : Int)) ≤ ((((a1 : Nat) : Int) * ((2 : Int) ^ (60 : Nat))) + a0)) := by lia
theorem om129 {a0 : Nat} (h0 : (a0 < ((256 : Nat) + (0 : Nat)))) (h1 : ((256 : Nat) ≤ a0)) : False := by lia
theorem om130 {a0 : Nat} (h0 : (a0 < (2 : Nat))) : (a0 < (256 : Nat)) := by exact Nat.lt_trans (by assumption) (by decide)
theorem om131 {a0 a1 : Nat} (h0 : ((a0 + (1 : Nat)) ≤ a1)) : (a0 < a1) := by assumption
theorem om132 {a0 : Nat} (h0 : ((256 : Nat) ≤ a0)) : (¬ (a0 < (256 : Nat))) := by (simp_all; done)
theorem om133 {a0 a1 a2 : Nat} (h0 : ((a0 + (1 : Nat)) ≤ a1)) (h1 : ((256 : Nat) ≤ a2)) (h2 : (a2 < ((256 : Nat) + a0))) : ((a2 - (256 : Nat)) < (min a0 a1)) := by rw [Nat.min_eq_left (Nat.le_of_succ_le h0)]; exact Nat.sub_lt_left_of_lt_add h1 h2
theorem om134 {a0 a1 : Nat} (h0 : (a0 < ((256 : Nat) + (a1 + (1 : Nat))))) (h1 : (¬ (a0 < ((256 : Nat) + a1)))) : (a0 = ((256 : Nat) + a1)) := by lia
theorem om135 {a0 : Nat} (h0 : (a0 < (4 : Nat))) : ((a0 + (1 : Nat)) ≤ (4 : Nat)) := by assumption
theorem om136 {a0 a1 : Nat} (h0 : (a0 < ((256 : Nat) + a1))) : (a0 < ((256 : Nat) + a1)) := by omega
theorem om137 {a0 : Nat} : (((4 : Nat) - (a0 + (1 : Nat))) ≤ (4 : Nat)) := by omega
theorem om138 {a0 : Nat} : (¬ (((256 : Nat) + a0) < (256 : Nat))) := by (simp_all; done)
theorem om139 {a0 a1 : Nat} (h0 : ((a0 + (1 : Nat)) ≤ a1)) : ((min a0 a1) = a0) := by grind
theorem om140 {a0 a1 : Nat} (h0 : (a0 = a1)) : (a0 ≤ (((256 : Nat) + a1) - (256 : Nat))) := by (simp_all; done)
theorem om141 {a0 : Nat} : (((((256 : Nat) + a0) - (256 : Nat)) - a0) = (0 : Nat)) := by (simp_all; done)
theorem om142 {a0 a1 : Nat} (h0 : (a0 = (4 : Nat))) (h1 : (a1 < (4 : Nat))) : (a1 < a0) := by (simp_all; done)
theorem om143 {a0 a1 a2 a3 : Int} (h0 : (a0 = (((13 : Int) * a1) + (50000 : Int)))) (h1 : (a0 ≤ a2)) : ((a3 - a2) ≤ (a3 - (((13 : Int) * a1) + (50000 : Int)))) := by (simp_all; done)
theorem om144 {a0 a1 a2 a3 : Int} (h0 : (a0 = (((13 : Int) * a1) + (50000 : Int)))) (h1 : (a0 ≤ a2)) : ((a3 + (((13 : Int) * a1) + (50000 : Int))) ≤ (a3 + a2)) := by (simp_all; done)
theorem om145 {a0 : Int} (h0 : (a0 ≥ (0 : Int))) : ((Int.toNat (a0 + (1074 : Int))) = ((Int.toNat a0) + (1074 : Nat))) := Int.toNat_add h0 (by decide)
theorem om146 {a0 a1 : Nat} (h0 : ((a0 * ((2 : Nat) ^ (1074 : Nat))) ≤ (a1 * ((2 : Nat) ^ (1074 : Nat))))) (h1 : ((a1 * ((2 : Nat) ^ (1074 : Nat))) < ((a0 + (1 : Nat)) * ((2 : Nat) ^ (1074 : Nat))))) : (a1 = a0) := by grind
theorem om147 {a0 : Int} (h0 : ((-(1074 : Int)) ≤ a0)) (h1 : (¬ (a0 ≥ (0 : Int)))) : ((1074 : Nat) = ((Int.toNat (-a0)) + (Int.toNat (a0 + (1074 : Int))))) := by lia
theorem om148 {a1 : Nat} {a0 : Int} (h0 : (a0 ≤ ((2 : Int) ^ (30 : Nat)))) : ((-((2 : Int) ^ (62 : Nat))) ≤ ((((a1 : Nat) : Int) * ((2 : Int) ^ (40 : Nat))) - a0)) := by grind
theorem om149 {a1 : Nat} {a0 : Int} (h0 : (a0 ≤ ((2 : Int) ^ (30 : Nat)))) (h1 : (a1 ≤ ((2 : Nat) ^ (20 : Nat)))) : (((((a1 : Nat) : Int) * ((2 : Int) ^ (40 : Nat))) + a0) ≤ ((2 : Int) ^ (62 : Nat))) := by grind
theorem om150 {a4 : Nat} {a0 a1 a2 a3 : Int} (h0 : (a0 ≤ (((2 : Int) ^ (20 : Nat)) * a1))) (h1 : ((((2 : Int) ^ (20 : Nat)) * a1) ≤ a2)) (h2 : (((-((2 : Int) ^ (62 : Nat))) * a3) ≤ a0)) (h3 : (a2 ≤ (((2 : Int) ^ (62 : Nat)) * a3))) (h4 : (((a4 : Nat) : Int) = (((2 : Int) ^ (63 : Nat)) * a3))) : ((((2 : Nat) ^ (20 : Nat)) * (Int.natAbs a1)) ≤ a4) := by grind
theorem om153 {a0 : Nat} {a1 : Int} (h0 : (((a0 : Nat) : Int) = (((2 : Int) ^ (63 : Nat)) * a1))) : ((0 : Int) ≤ (((2 : Int) ^ (40 : Nat)) * a1)) := by lia
theorem om154 {a0 : Nat} (h0 : (a0 ≤ ((2 : Nat) ^ (20 : Nat)))) : (((a0 : Nat) : Int) ≤ ((2 : Int) ^ (20 : Nat))) := by exact Int.ofNat_le.mpr (by assumption)
theorem om155 {a0 a1 : Int} (h0 : ((0 : Int) < (a0 + (((2 : Int) ^ (39 : Nat)) * a1)))) : ((a0 + (((2 : Int) ^ (39 : Nat)) * a1)) ≠ (0 : Int)) := by omega
theorem om156 {a0 a1 : Int} (h0 : ((0 : Int) < (a0 + (((2 : Int) ^ (39 : Nat)) * a1)))) : (¬ ((a0 + (((2 : Int) ^ (39 : Nat)) * a1)) < (0 : Int))) := by grind
theorem om157 {a6 : Nat} {a0 a1 a2 a3 a4 a5 : Int} (h0 : ((((2 : Int) ^ (20 : Nat)) * a0) ≤ (a1 + a2))) (h1 : (a3 ≤ (((2 : Int) ^ (62 : Nat)) * a4))) (h2 : ((((((2 : Int) ^ (20 : Nat)) * a0) - ((1024 : Int) * a4)) ≤ a5) ∧ (a5 ≤ ((((2 : Int) ^ (20 : Nat)) * a0) + ((1024 : Int) * a4))))) (h3 : (a3 = (a1 + a2))) (h4 : ((0 : Int) < (a5 + (((2 : Int) ^ (39 : Nat)) * a4)))) (h5 : (((a6 : Nat) : Int) = (((2 : Int) ^ (63 : Nat)) * a4))) : ((Int.natAbs (a5 + (((2 : Int) ^ (39 : Nat)) * a4))) ≤ ((1 : Nat) * a6)) := by grind
theorem om158 {a5 a6 a7 : Nat} {a0 a1 a2 a3 a4 : Int} (h0 : ((a0 - a1) ≤ (((2 : Int) ^ (20 : Nat)) * a2))) (h1 : ((((((2 : Int) ^ (20 : Nat)) * a2) - ((1024 : Int) * a3)) ≤ a4) ∧ (a4 ≤ ((((2 : Int) ^ (20 : Nat)) * a2) + ((1024 : Int) * a3))))) (h2 : (a1 ≤ (((2 : Int) ^ (30 : Nat)) * a3))) (h3 : (((a5 : Nat) : Int) = a0)) (h4 : ((Int.natAbs (a4 + (((2 : Int) ^ (39 : Nat)) * a3))) ≤ (((1 : Nat) * a6) + ((1 : Nat) * a7)))) (h5 : (((a7 : Nat) : Int) = ((1024 : Int) * a3))) : (a5 ≤ a6) := by grind
theorem om159 {a0 a1 : Int} : (((((32 : Int) * a0) - a1) + a1) = ((32 : Int) * a0)) := by (simp_all; done)
theorem om160 {a0 : Int} (h0 : (a0 ≤ (32 : Int))) : ((0 : Int) ≤ ((32 : Int) - a0)) := by (simp_all; done)
theorem om161 {a0 a1 a2 a3 a4 : Int} (h0 : ((0 : Int) ≤ a0)) (h1 : ((0 : Int) ≤ a1)) (h2 : (a0 ≤ a2)) (h3 : (a1 ≤ a3)) (h4 : (a2 = (((32 : Int) * a4) - a3))) : (((0 : Int) ≤ (a0 + a1)) ∧ ((a0 + a1) ≤ ((32 : Int) * a4))) := by lia
theorem om162 {a0 a1 a2 : Int} (h0 : ((a0 + a1) = (((2 : Int) ^ (40 : Nat)) * ((32 : Int) * a2)))) : (((32 : Int) * (((2 : Int) ^ (40 : Nat)) * a2)) = (a0 + a1)) := by grind
theorem om163 {a0 : Nat} (h0 : (a0 ≤ (32 : Nat))) : (((a0 : Nat) : Int) ≤ (32 : Int)) := by exact Int.ofNat_le.mpr (by assumption)
theorem om164 {a0 : Int} (h0 : (((0 : Int) ≤ a0) ∧ (a0 ≤ ((2 : Int) ^ (20 : Nat))))) : (((0 : Int) ≤ (((2 : Int) ^ (40 : Nat)) * a0)) ∧ ((((2 : Int) ^ (40 : Nat)) * a0) ≤ ((2 : Int) ^ (60 : Nat)))) := by grind
theorem om165 {a0 a1 : Nat} (h0 : (a0 ≤ a1)) (h1 : (a1 < (4 : Nat))) (h2 : ((4 : Nat) ≤ ((0 : Nat) + a0))) : False := by lia
theorem om166 {a0 a1 a2 : Nat} (h0 : (a0 ≤ a1)) (h1 : ((4 : Nat) ≤ ((a2 + (1 : Nat)) + a0))) : ((4 : Nat) ≤ (a2 + (a1 + (1 : Nat)))) := by grind
theorem om167 {a0 : Nat} : ((4 : Nat) ≤ ((3 : Nat) + (a0 + (1 : Nat)))) := by lia
theorem om168 {a0 : Nat} : ((4 : Nat) ≤ ((4 : Nat) + (a0 + (1 : Nat)))) := by (simp_all; done)
theorem om169 {a0 : Nat} (h0 : (a0 < (2 : Nat))) : (¬ ((256 : Nat) ≤ a0)) := by lia
theorem om170 {a0 : Nat} (h0 : (a0 < (4 : Nat))) (h1 : (a0 = (4 : Nat))) : False := by (simp_all; done)
theorem om171 {a0 : Nat} (h0 : (a0 ≤ (4 : Nat))) (h1 : (¬ (a0 < (4 : Nat)))) : (a0 = (4 : Nat)) := by lia
theorem om172 {a0 a1 : Nat} (h0 : (a0 ≤ a1)) (h1 : (¬ (a0 < a1))) : (a1 = a0) := by lia
theorem om173 {a0 : Nat} (h0 : (a0 < (4 : Nat))) : (a0 < (4 : Nat)) := by omega
theorem om174 {a0 : Nat} (h0 : (a0 ≤ (4 : Nat))) (h1 : ((5 : Nat) ≤ ((0 : Nat) + a0))) : False := by lia
theorem om175 {a0 a1 a2 a3 : Nat} (h0 : (a0 ≤ a1)) (h1 : (a0 ≤ a2)) (h2 : ((min a1 a2) = a3)) : ((a0 ≤ a3) ∧ ((a3 ≤ a1) ∧ (a3 ≤ a2))) := by subst h2; exact ⟨Nat.le_min.mpr ⟨h0, h1⟩, Nat.min_le_left _ _, Nat.min_le_right _ _⟩
theorem om176 {a0 a1 a2 a3 : Nat} (h0 : (a0 ≤ (4 : Nat))) (h1 : ((a1 ≤ a2) ∧ ((a2 ≤ a0) ∧ (a2 ≤ a3)))) (h2 : (a2 ≥ (4 : Nat))) : (a0 = (4 : Nat)) := by lia
theorem om177 {a0 a1 a2 a3 : Nat} (h0 : (a0 ≤ (4 : Nat))) (h1 : ((a1 ≤ a2) ∧ ((a2 ≤ a3) ∧ (a2 ≤ a0)))) (h2 : (a2 ≥ (4 : Nat))) : (a0 = (4 : Nat)) := by grind
theorem om178 {a0 : Nat} : ((a0 * (2 : Nat)) = ((2 : Nat) * a0)) := by grind
theorem om179 {a0 a1 a2 a3 : Nat} (h0 : ((a0 ≤ a1) ∧ ((a1 ≤ a2) ∧ (a1 ≤ a3)))) : (((4 : Nat) - a1) ≤ ((4 : Nat) - a0)) := Nat.sub_le_sub_left h0.1 4
theorem om180 {a0 a1 a2 a3 a4 : Nat} (h0 : ((5 : Nat) ≤ ((a0 + (1 : Nat)) + a1))) (h1 : ((a1 ≤ a2) ∧ ((a2 ≤ a3) ∧ (a2 ≤ a4)))) : ((5 : Nat) ≤ (a0 + (a2 + (1 : Nat)))) := by grind
theorem om181 {a0 a1 a2 a3 : Nat} (h0 : ((a0 + a1) ≤ (700 : Nat))) (h1 : (a2 = ((2 : Nat) * a3))) (h2 : (a2 ≤ a1)) : ((a0 + a3) ≤ (700 : Nat)) := by lia
theorem om182 {a0 a1 a2 a3 a4 a5 : Nat} (h0 : ((a0 + a1) ≤ (700 : Nat))) (h1 : (a2 = ((2 : Nat) * a3))) (h2 : (a2 ≤ a1)) (h3 : ((a4 + (1 : Nat)) ≤ a3)) (h4 : (a5 = (a0 + a4))) : ((a5 + a3) ≤ (700 : Nat)) := by lia
theorem om183 {a0 a1 a2 a3 a4 a5 a6 a7 : Nat} (h0 : ((a0 + a1) ≤ (700 : Nat))) (h1 : (a2 = ((2 : Nat) * a3))) (h2 : (a2 ≤ a1)) (h3 : ((a4 + (1 : Nat)) ≤ a3)) (h4 : (a5 = (a0 + a4))) (h5 : ((a6 + (1 : Nat)) ≤ a3)) (h6 : (a7 = (a5 + a6))) : ((a7 + (1 : Nat)) ≤ (700 : Nat)) := by lia
theorem om184 {a0 a1 a2 a3 a4 a5 : Nat} (h0 : (a0 = ((2 : Nat) * a1))) (h1 : (a0 ≤ a2)) (h2 : ((a3 + (1 : Nat)) ≤ a1)) (h3 : ((a4 + (1 : Nat)) ≤ a1)) (h4 : (a5 ≤ (1 : Nat))) : ((((a3 + a4) + a5) + (1 : Nat)) ≤ a2) := by lia
theorem om185 {a0 : Nat} : (((a0 : Nat) : Int) = ((a0 : Nat) : Int)) := by rfl
theorem om186 {a0 : Nat} (h0 : (a0 ≤ (32 : Nat))) : (((((32 : Nat) - a0) : Nat) : Int) = ((32 : Int) - ((a0 : Nat) : Int))) := Int.ofNat_sub h0
theorem om187 {a0 : Nat} (h0 : (((0 : Int) ≤ ((a0 : Nat) : Int)) ∧ (((a0 : Nat) : Int) ≤ ((2 : Int) ^ (20 : Nat))))) : (a0 ≤ ((2 : Nat) ^ (20 : Nat))) := by grind
theorem om188 {a0 : Nat} (h0 : (a0 ≤ (15 : Nat))) : (a0 ≤ (15 : Nat)) := Nat.le_trans h0 (by decide)
theorem om189 {a0 a1 : Nat} (h0 : (((a0 + ((15 : Nat) * (a1 + (1 : Nat)))) + (1 : Nat)) ≤ (700 : Nat))) : ((a0 + (16 : Nat)) ≤ (700 : Nat)) := by grind
theorem om190 {a0 a1 a2 a3 : Nat} (h0 : (((a0 + ((15 : Nat) * (a1 + (1 : Nat)))) + (1 : Nat)) ≤ (700 : Nat))) (h1 : (a2 ≤ (15 : Nat))) (h2 : (a3 = (a0 + a2))) : (((a3 + ((15 : Nat) * a1)) + (1 : Nat)) ≤ (700 : Nat)) := by subst h2; exact Nat.le_trans (Nat.succ_le_succ (by rw [Nat.mul_succ, Nat.add_comm (15 * a1), ← Nat.add_assoc]; exact Nat.add_le_add_right (Nat.add_le_add_left h1 _) _)) h0
theorem om191 {a0 a1 a2 : Nat} (h0 : (a0 ≤ (15 : Nat))) (h1 : (a1 ≤ ((15 : Nat) * a2))) : ((a0 + a1) ≤ ((15 : Nat) * (a2 + (1 : Nat)))) := by grind
theorem om192 {a0 a1 : Nat} (h0 : ((((a0 + (1 : Nat)) + ((15 : Nat) * a1)) + (1 : Nat)) ≤ (700 : Nat))) : ((a0 + (1 : Nat)) ≤ (700 : Nat)) := by lia
theorem om193 {a0 a1 a2 a3 : Nat} (h0 : ((((a0 + (1 : Nat)) + ((15 : Nat) * a1)) + (1 : Nat)) ≤ (700 : Nat))) (h1 : (a2 ≤ (1 : Nat))) (h2 : (a3 = (a0 + a2))) : (((a3 + ((15 : Nat) * a1)) + (1 : Nat)) ≤ (700 : Nat)) := by grind
theorem om194 {a0 a1 a2 : Nat} (h0 : (a0 ≤ (1 : Nat))) (h1 : (a1 ≤ ((15 : Nat) * a2))) : ((a0 + a1) ≤ ((1 : Nat) + ((15 : Nat) * a2))) := by lia
theorem om195 {a0 : Nat} : ((((97 : Nat) + a0) - (97 : Nat)) = a0) := by (simp_all; done)
theorem om196 {a0 : Nat} : ((97 : Nat) ≤ ((97 : Nat) + a0)) := by (simp_all; done)
theorem om197 {a0 : Nat} (h0 : (a0 < (4 : Nat))) : (((97 : Nat) + a0) < (101 : Nat)) := by lia
theorem om198 {a0 a1 a2 : Nat} (h0 : ((((a0 + (a1 + (15 : Nat))) + ((15 : Nat) * a2)) + (1 : Nat)) ≤ (700 : Nat))) : ((((a0 + a1) + ((15 : Nat) * (a2 + (1 : Nat)))) + (1 : Nat)) ≤ (700 : Nat)) := by rw [Nat.mul_succ, Nat.add_comm (15 * a2), ← Nat.add_assoc, Nat.add_assoc a0]; exact h0
theorem om199 {a0 a1 a2 : Nat} (h0 : (a0 ≤ (a1 + ((15 : Nat) * (a2 + (1 : Nat)))))) : (a0 ≤ ((a1 + (15 : Nat)) + ((15 : Nat) * a2))) := by lia
theorem om200 {a0 a1 a2 a3 : Nat} (h0 : ((((a0 + ((a1 + a2) + (15 : Nat))) + ((15 : Nat) * a3)) + (1 : Nat)) ≤ (700 : Nat))) : ((((a0 + a1) + ((15 : Nat) * (0 : Nat))) + (1 : Nat)) ≤ (700 : Nat)) := by lia
theorem om201 {a0 a1 a2 a3 a4 a5 : Nat} (h0 : ((((a0 + ((a1 + a2) + (15 : Nat))) + ((15 : Nat) * a3)) + (1 : Nat)) ≤ (700 : Nat))) (h1 : (a4 ≤ (a1 + ((15 : Nat) * (0 : Nat))))) (h2 : (a5 = (a0 + a4))) : ((((a5 + a2) + ((15 : Nat) * (0 : Nat))) + (1 : Nat)) ≤ (700 : Nat)) := by lia
theorem om202 {a0 a1 a2 a3 a4 a5 a6 a7 : Nat} (h0 : ((((a0 + ((a1 + a2) + (15 : Nat))) + ((15 : Nat) * a3)) + (1 : Nat)) ≤ (700 : Nat))) (h1 : (a4 ≤ (a1 + ((15 : Nat) * (0 : Nat))))) (h2 : (a5 = (a0 + a4))) (h3 : (a6 ≤ (a2 + ((15 : Nat) * (0 : Nat))))) (h4 : (a7 = (a5 + a6))) : ((a7 + (16 : Nat)) ≤ (700 : Nat)) := by grind
theorem om203 {a0 a1 a2 a3 a4 a5 a6 a7 a8 a9 : Nat} (h0 : ((((a0 + ((a1 + a2) + (15 : Nat))) + ((15 : Nat) * a3)) + (1 : Nat)) ≤ (700 : Nat))) (h1 : (a4 ≤ (a1 + ((15 : Nat) * (0 : Nat))))) (h2 : (a5 = (a0 + a4))) (h3 : (a6 ≤ (a2 + ((15 : Nat) * (0 : Nat))))) (h4 : (a7 = (a5 + a6))) (h5 : (a8 ≤ (15 : Nat))) (h6 : (a9 = (a7 + a8))) : (((a9 + ((15 : Nat) * a3)) + (1 : Nat)) ≤ (700 : Nat)) := by omega
theorem om204 {a0 a1 a2 a3 a4 a5 a6 : Nat} (h0 : (a0 ≤ (a1 + ((15 : Nat) * (0 : Nat))))) (h1 : (a2 ≤ (a3 + ((15 : Nat) * (0 : Nat))))) (h2 : (a4 ≤ (15 : Nat))) (h3 : (a5 ≤ ((15 : Nat) * a6))) : ((((a0 + a2) + a4) + a5) ≤ (((a1 + a3) + (15 : Nat)) + ((15 : Nat) * a6))) := by lia
theorem om205 {a0 a1 a2 a3 : Nat} (h0 : (a0 ≤ a1)) (h1 : ((((a2 + a1) + ((15 : Nat) * a3)) + (1 : Nat)) ≤ (700 : Nat))) : ((((a2 + a0) + ((15 : Nat) * a3)) + (1 : Nat)) ≤ (700 : Nat)) := by grind
theorem om206 {a0 a1 a2 a3 : Nat} (h0 : (a0 ≤ a1)) (h1 : (a2 ≤ (a0 + ((15 : Nat) * a3)))) : (a2 ≤ (a1 + ((15 : Nat) * a3))) := by lia
theorem om207 {a0 : Nat} : (a0 ≤ (a0 + (15 : Nat))) := by grind
theorem om208 {a0 a1 : Nat} (h0 : ((1 : Nat) ≤ a0)) : ((1 : Nat) ≤ (a0 + a1)) := by exact Nat.le_add_right_of_le (by assumption)
theorem om209 {a0 a1 : Nat} (h0 : ((1 : Nat) ≤ a0)) (h1 : ((1 : Nat) ≤ a1)) : (((((a0 + ((45 : Nat) * (a0 - (1 : Nat)))) + (15 : Nat)) + ((a1 + ((45 : Nat) * (a1 - (1 : Nat)))) + (15 : Nat))) + (15 : Nat)) ≤ ((a0 + a1) + ((45 : Nat) * ((a0 + a1) - (1 : Nat))))) := by obtain ⟨x, rfl⟩ := Nat.exists_eq_add_of_le' h0; obtain ⟨y, rfl⟩ := Nat.exists_eq_add_of_le' h1; simp only [Nat.add_sub_cancel, ← Nat.add_assoc]; omega
theorem om210 {a0 a1 : Nat} (h0 : ((1 : Nat) ≤ a0)) (h1 : ((1 : Nat) ≤ a1)) : (((((((a0 + ((90 : Nat) * (a0 - (1 : Nat)))) + (15 : Nat)) + (15 : Nat)) + (((a1 + ((90 : Nat) * (a1 - (1 : Nat)))) + (15 : Nat)) + (15 : Nat))) + (15 : Nat)) + (15 : Nat)) ≤ ((a0 + a1) + ((90 : Nat) * ((a0 + a1) - (1 : Nat))))) := by obtain ⟨x, rfl⟩ := Nat.exists_eq_add_of_le' h0; obtain ⟨y, rfl⟩ := Nat.exists_eq_add_of_le' h1; simp only [Nat.add_sub_cancel, ← Nat.add_assoc]; omega
theorem om211 {a0 : Nat} : (a0 = ((0 : Nat) + a0)) := by (simp_all; done)
theorem om212 {a0 a1 : Nat} (h0 : ((a0 + (1 : Nat)) < a1)) : (a0 < a1) := by exact Nat.le_of_lt (by assumption)
theorem om213 {a0 a1 a2 : Nat} (h0 : (a0 ≤ a1)) (h1 : ((a1 + (1 : Nat)) ≤ a2)) : (a0 ≤ a2) := by lia
theorem om214 {a0 a1 : Nat} (h0 : ((256 : Nat) ≤ a0)) (h1 : ((a1 + a0) ≤ (0 : Nat))) : False := by (simp_all; done)
theorem om215 {a0 a1 a2 a3 : Nat} (h0 : ((256 : Nat) ≤ a0)) (h1 : (a1 < ((256 : Nat) + (a0 - (256 : Nat))))) (h2 : ((a2 + a0) ≤ (a3 + (1 : Nat)))) : ((a2 + a1) ≤ a3) := by rw [Nat.add_sub_cancel' h0] at h1; exact Nat.le_of_lt_succ (Nat.lt_of_lt_of_le (Nat.add_lt_add_left h1 _) h2)
theorem om216 {a0 a1 : Nat} (h0 : ((a0 + a1) ≤ (0 : Nat))) : (a0 = a1) := by lia
theorem om217 {a0 a1 a2 a3 : Nat} (h0 : ((256 : Nat) ≤ a0)) (h1 : (a1 < ((256 : Nat) + (a0 - (256 : Nat))))) (h2 : ((a0 + a2) ≤ (a3 + (1 : Nat)))) : ((a1 + a2) ≤ a3) := by rw [Nat.add_sub_cancel' h0] at h1; exact Nat.le_of_lt_succ (Nat.lt_of_lt_of_le (Nat.add_lt_add_right h1 _) h2)
theorem om218 {a0 a1 a2 a3 a4 : Nat} (h0 : ((256 : Nat) ≤ a0)) (h1 : (a1 < ((256 : Nat) + (a0 - (256 : Nat))))) (h2 : ((a0 + a2) ≤ (a3 + (1 : Nat)))) (h3 : ((256 : Nat) ≤ a2)) (h4 : (a4 < ((256 : Nat) + (a2 - (256 : Nat))))) : ((a1 + a4) ≤ a3) := by rw [Nat.add_sub_cancel' h0] at h1; rw [Nat.add_sub_cancel' h3] at h4; exact Nat.le_of_lt_succ (Nat.lt_of_lt_of_le (Nat.add_lt_add h1 h4) h2)
theorem om219 {a0 a1 : Nat} (h0 : ((256 : Nat) ≤ a0)) (h1 : ((256 : Nat) ≤ a1)) (h2 : ((a0 - (256 : Nat)) = (a1 - (256 : Nat)))) : (a0 = a1) := by rw [← Nat.sub_add_cancel h0, h2, Nat.sub_add_cancel h1]
theorem om220 {a0 a1 a2 a3 : Nat} (h0 : ((a0 + a1) ≤ (a2 + (1 : Nat)))) (h1 : ((256 : Nat) ≤ a1)) (h2 : (a3 < ((256 : Nat) + (a1 - (256 : Nat))))) : ((a0 + a3) ≤ a2) := by lia
theorem om221 : ((1 : Nat) ≤ ((1 : Nat) + ((45 : Nat) * ((1 : Nat) - (1 : Nat))))) := by decide
theorem om222 : ((1 : Nat) ≤ ((1 : Nat) + ((90 : Nat) * ((1 : Nat) - (1 : Nat))))) := by decide
theorem om223 {a0 : Nat} (h0 : ((a0 + (1 : Nat)) ≤ (3 : Nat))) : (a0 ≤ (3 : Nat)) := by exact Nat.le_of_lt (by assumption)
theorem om224 {a0 a1 : Nat} (h0 : (a0 = (9 : Nat))) (h1 : ((a1 + (1 : Nat)) ≤ (3 : Nat))) : (a1 < (a0 - (6 : Nat))) := by subst h0; exact h1
theorem om225 {a0 a1 : Nat} (h0 : ((a0 + (1 : Nat)) ≤ (3 : Nat))) (h1 : (a1 = ((4 : Nat) - a0))) : ((2 : Nat) ≤ a1) := by lia
theorem om226 : ((3 : Nat) ≤ (3 : Nat)) := by (simp_all; done)
theorem om227 {a0 : Nat} (h0 : (¬ (a0 < (16 : Nat)))) : ((16 : Nat) ≤ a0) := by exact Nat.not_lt.mp (by assumption)
theorem om228 {a0 a1 a2 a3 : Nat} (h0 : (a0 ≤ a1)) (h1 : (a2 ≤ a3)) : ((a2 + a0) ≤ (a1 + a3)) := by lia
theorem om229 {a0 : Nat} (h0 : (a0 ≤ (100 : Nat))) : ((a0 * (2 : Nat)) ≤ (200 : Nat)) := by grind
theorem om230 {a0 : Nat} (h0 : (a0 ≤ (200 : Nat))) : (a0 ≤ (100000 : Nat)) := by exact Nat.le_trans (by assumption) (by decide)
theorem om231 {a0 a1 : Nat} (h0 : (a0 ≤ (100 : Nat))) (h1 : (a1 = a0)) : (a1 ≤ (10000 : Nat)) := by grind
theorem om232 {a0 a1 a2 : Nat} (h0 : (a0 ≤ (100 : Nat))) (h1 : (a1 = a0)) (h2 : (a1 = a2)) : (a2 ≤ (100000 : Nat)) := by lia
theorem om233 {a0 : Nat} (h0 : (a0 ≤ (((4 : Nat) + ((45 : Nat) * ((4 : Nat) - (1 : Nat)))) + ((15 : Nat) * (0 : Nat))))) : (a0 ≤ (139 : Nat)) := by omega
theorem om234 {a0 : Nat} (h0 : (a0 ≤ (139 : Nat))) : ((((a0 + ((4 : Nat) + ((90 : Nat) * ((4 : Nat) - (1 : Nat))))) + ((15 : Nat) * (0 : Nat))) + (1 : Nat)) ≤ (700 : Nat)) := by grind
theorem om235 {a0 : Nat} (h0 : (a0 ≤ (100 : Nat))) : (a0 ≤ (1000 : Nat)) := by exact Nat.le_trans (by assumption) (by decide)
theorem om236 {a0 a1 : Nat} (h0 : (¬ (a0 < a1))) (h1 : (a0 < (a1 + (1 : Nat)))) : (a0 = a1) := by grind
theorem om237 {a0 a1 : Nat} (h0 : (a0 ≤ (1000 : Nat))) (h1 : (a1 = a0)) : (a1 ≤ (16777216 : Nat)) := by lia
theorem om238 {a0 a1 : Nat} (h0 : (a0 ≤ (1000000 : Nat))) (h1 : (a1 = a0)) : (a1 ≤ (16777216 : Nat)) := by lia
theorem om239 {a0 a1 a2 : Nat} (h0 : ((a0 + (a1 + (1 : Nat))) < a2)) : (a0 < a2) := by lia
theorem om240 {a0 a1 a2 : Nat} (h0 : ((a0 + (a1 + (1 : Nat))) < a2)) : (((a0 + (1 : Nat)) + a1) < a2) := by lia
theorem om241 {a0 a1 a2 : Nat} (h0 : (((a0 + ((8 : Nat) * (a1 + (1 : Nat)))) + (40 : Nat)) < a2)) : ((((a0 + (3 : Nat)) + ((8 : Nat) * a1)) + (40 : Nat)) < a2) := by lia
theorem om242 {a0 : Nat} : ((((a0 : Nat) : Int) - (0 : Int)) = ((a0 : Nat) : Int)) := by rfl
theorem om243 {a0 : Nat} (h0 : (¬ ((0 : Int) < ((a0 : Nat) : Int)))) : ((0 : Int) = ((a0 : Nat) : Int)) := by (simp_all; done)
theorem om244 : ((-((2 : Int) ^ (62 : Nat))) ≤ (0 : Int)) := by exact Int.natCast_nonneg _
theorem om245 : ((0 : Int) < ((2 : Int) ^ (62 : Nat))) := by exact Int.natCast_nonneg _
theorem om246 {a0 : Nat} : ((-((2 : Int) ^ (62 : Nat))) ≤ ((a0 : Nat) : Int)) := by exact Int.natCast_nonneg _
theorem om247 {a0 : Nat} (h0 : (a0 ≤ (1000000 : Nat))) : (((a0 : Nat) : Int) < ((2 : Int) ^ (62 : Nat))) := by lia
theorem om248 {a0 a1 : Nat} (h0 : (a0 < a1)) : ((a1 - (a0 + (1 : Nat))) < (a1 - a0)) := Nat.sub_lt_sub_left h0 (Nat.lt_succ_self a0)
theorem om249 {a0 a1 : Nat} (h0 : (a0 ≤ a1)) (h1 : (¬ (a0 < a1))) : (a0 = a1) := by lia
theorem om250 {a0 a1 : Nat} (h0 : (a0 ≤ a1)) : (a0 ≤ (a1 + (1 : Nat))) := by exact Nat.le_add_right_of_le (by assumption)
theorem om251 {a0 a1 a2 a3 a4 : Nat} (h0 : (a0 ≤ (1000000 : Nat))) (h1 : (a1 ≤ a2)) (h2 : (a2 < a0)) (h3 : (a3 = a1)) (h4 : (a3 = a4)) : (a4 ≤ (16777216 : Nat)) := by lia
theorem om252 {a0 : Int} (h0 : ((0 : Int) < a0)) : (a0 ≠ (0 : Int)) := by lia
theorem om253 {a0 : Int} (h0 : ((0 : Int) < a0)) : ((0 : Int) ≤ a0) := by lia
theorem om254 {a0 : Int} (h0 : ((0 : Int) < a0)) (h1 : (a0 < (1073741824 : Int))) : ((Int.natAbs a0) < (1073741824 : Nat)) := by grind
theorem om255 {a0 : Nat} (h0 : (a0 ≤ (64 : Nat))) : (((a0 : Nat) : Int) ≤ (64 : Int)) := by exact Int.ofNat_le.mpr (by assumption)
theorem om256 {a0 : Int} (h0 : (a0 ≤ (1000000 : Int))) : (((64 : Int) * a0) ≤ ((2 : Int) ^ (27 : Nat))) := by lia
theorem om257 : ((64 : Nat) ≤ (1023 : Nat)) := by (simp_all; done)
theorem om258 {a0 a1 : Int} (h0 : (a0 > a1)) : (a1 ≤ a0) := by lia
theorem om259 {a0 a1 : Int} (h0 : (¬ (a0 > a1))) : (a0 ≤ a1) := by (simp_all; done)
theorem om260 {a0 a1 : Int} (h0 : (a0 < a1)) : (a0 ≤ a1) := by lia
theorem om261 {a0 a1 : Int} (h0 : (¬ (a0 < a1))) : (a1 ≤ a0) := by (simp_all; done)
theorem om262 {a0 : Nat} (h0 : (a0 ≤ (1000000 : Nat))) : (¬ (((a0 : Nat) : Int) ≥ ((2 : Int) ^ (63 : Nat)))) := by grind
theorem om263 {a0 a1 : Nat} (h0 : (a0 ≤ (1000000 : Nat))) (h1 : (a1 = a0)) : (((a1 : Nat) : Int) < ((2 : Int) ^ (63 : Nat))) := by omega
theorem om264 {a0 a1 : Nat} (h0 : ((a0 + a1) ≤ (1000000 : Nat))) : ((a0 + a1) ≤ (16777216 : Nat)) := by exact Nat.le_trans (by assumption) (by decide)
theorem om265 {a0 : Int} (h0 : ((0 : Int) ≤ a0)) : (¬ (a0 < (0 : Int))) := by (simp_all; done)
theorem om266 {a0 a1 : Nat} (h0 : (a0 = (a1 + (1 : Nat)))) : ((-((a0 : Nat) : Int)) ≤ (-(1 : Int))) := by grind
theorem om267 {a0 a1 : Nat} (h0 : (a0 = (a1 + (1 : Nat)))) : ((Int.toNat ((-(1 : Int)) + ((a0 : Nat) : Int))) = a1) := by grind
theorem om268 {a0 : Int} (h0 : ((0 : Int) ≤ a0)) : ((-((2 : Int) ^ (63 : Nat))) ≤ a0) := by lia
theorem om269 {a1 : Nat} {a0 : Int} (h0 : ((Int.toNat a0) < a1)) : (a0 < ((a1 : Nat) : Int)) := by lia
theorem om270 {a0 : Int} (h0 : ((0 : Int) ≤ a0)) : (¬ (a0 < (-((2 : Int) ^ (63 : Nat))))) := by lia
theorem om271 {a0 : Int} (h0 : (a0 < ((2 : Int) ^ (63 : Nat)))) : (¬ (a0 ≥ ((2 : Int) ^ (63 : Nat)))) := by (simp_all; done)
theorem om272 {a1 : Nat} {a0 : Int} (h0 : (a0 < ((a1 : Nat) : Int))) (h1 : (a1 ≤ (1000000 : Nat))) : (a0 < ((2 : Int) ^ (63 : Nat))) := by grind
theorem om273 {a0 a1 a2 : Nat} (h0 : (a0 = a1)) (h1 : (((a2 : Nat) : Int) < ((a1 : Nat) : Int))) : (a2 < a0) := by (simp_all; done)
theorem om274 {a0 : Nat} (h0 : (a0 ≤ (1000000 : Nat))) : (a0 ≤ (16777216 : Nat)) := by exact Nat.le_trans (by assumption) (by decide)
theorem om275 {a0 a1 a2 a3 : Nat} (h0 : (a0 = a1)) (h1 : (a2 < a3)) (h2 : (a3 = a1)) : (a2 < a0) := by (simp_all; done)
theorem om276 {a0 a1 a2 : Nat} (h0 : (a0 < a1)) (h1 : (a1 = a2)) : (a0 < a2) := by (simp_all; done)
theorem om277 {a0 a1 a2 a3 : Nat} (h0 : (a0 = a1)) (h1 : (a2 = a0)) (h2 : (a3 = a1)) : (a2 = a3) := by (subst_vars; rfl)
theorem om278 {a0 a1 a2 : Nat} (h0 : (((a0 + ((8 : Nat) * a1)) + (40 : Nat)) < a2)) : (a0 < a2) := by lia
theorem om279 {a0 a1 a2 a3 : Nat} (h0 : ((a0 + a1) ≤ (1000000 : Nat))) (h1 : (a2 = a0)) (h2 : (a3 = a1)) : ((a2 + a3) ≤ (16777216 : Nat)) := by lia
theorem om280 {a0 a1 : Nat} (h0 : (a0 ≤ (1000000 : Nat))) (h1 : (a1 = (a0 + (1 : Nat)))) : (a1 ≤ (16777216 : Nat)) := by lia
theorem om281 {a0 a1 : Nat} (h0 : (a0 = (a1 + (1 : Nat)))) : ((a0 - (1 : Nat)) = a1) := by (subst_vars; rfl)
theorem om282 {a0 a1 : Nat} (h0 : (a0 = (a1 + (1 : Nat)))) : ((a0 - (1 : Nat)) < a0) := by (simp_all; done)
theorem om283 {a0 : Nat} : (a0 ≤ ((a0 - (1 : Nat)) + (1 : Nat))) := by lia
theorem om284 {a0 a1 a2 : Nat} (h0 : ((a0 + a1) ≤ (1000000 : Nat))) (h1 : (a2 = a0)) : (a2 ≤ (16777216 : Nat)) := by lia
theorem om285 {a0 a1 a2 a3 : Nat} (h0 : ((a0 + a1) ≤ (1000000 : Nat))) (h1 : (a2 = a1)) (h2 : (a3 = a0)) : ((a3 + a2) ≤ ((16777216 : Nat) + (1 : Nat))) := by lia
theorem om286 {a0 a1 a2 a3 : Nat} (h0 : ((a0 + a1) ≤ (1000000 : Nat))) (h1 : (a2 = a1)) (h2 : (a3 = a0)) : (¬ ((a3 + a2) > (16777216 : Nat))) := by lia
theorem om287 {a0 : Nat} : (¬ (((a0 : Nat) : Int) < (0 : Int))) := by (simp_all; done)
theorem om288 {a0 a1 : Nat} : (¬ ((((min a0 a1) : Nat) : Int) < (0 : Int))) := by (simp_all; done)
theorem om289 {a0 a1 : Nat} : ((max (0 : Int) (min ((a0 : Nat) : Int) ((a1 : Nat) : Int))) = (max (0 : Int) (min (((min a0 a1) : Nat) : Int) ((a1 : Nat) : Int)))) := by lia
theorem om290 {a0 a1 a2 : Nat} (h0 : (a0 ≤ a1)) (h1 : (a0 ≤ a2)) : (a0 ≤ (min a2 a1)) := by lia
theorem om291 {a0 a1 : Nat} : ((min a0 a1) ≤ a1) := by lia
theorem om292 {a0 a1 a2 a3 : Nat} (h0 : (a0 = (a1 - a2))) (h1 : (¬ (a3 ≤ a1))) : (a0 ≤ ((min a3 a1) - a2)) := by grind
theorem om293 {a0 a1 a2 a3 : Nat} (h0 : (a0 = (a1 - a2))) (h1 : (¬ (a3 ≤ a1))) : (a0 ≤ (a3 - a2)) := by subst h0; exact Nat.sub_le_sub_right (Nat.le_of_lt (Nat.lt_of_not_le h1)) _
theorem om294 {a0 a1 a2 a3 a4 : Nat} (h0 : (a0 ≤ a1)) (h1 : (a2 = (a0 - a3))) : ((min (a4 - a3) a2) ≤ a1) := by subst h1; exact Nat.le_trans (Nat.min_le_right _ _) (Nat.le_trans (Nat.sub_le _ _) h0)
theorem om295 {a0 a1 a2 : Nat} (h0 : (a0 ≤ a1)) (h1 : (((min a2 a1) - a0) = a1)) : (a0 = (0 : Nat)) := by omega
theorem om296 {a0 a1 a2 : Nat} (h0 : (a0 = (a1 - (0 : Nat)))) (h1 : (((min a2 a1) - (0 : Nat)) = a1)) : (a0 ≤ (a2 - (0 : Nat))) := by lia
theorem om297 {a0 a1 a2 : Nat} (h0 : (a0 = a1)) (h1 : (a2 = a0)) : (a2 ≤ a1) := by (simp_all; done)
theorem om298 {a0 a1 : Nat} (h0 : (((a0 : Nat) : Int) = ((a1 : Nat) : Int))) : (a0 = a1) := by exact Int.ofNat.inj (by assumption)
theorem om299 {a0 a1 a2 : Nat} : ((((a0 : Nat) : Int) + ((8 : Int) * (((a1 : Nat) : Int) + ((1024 : Int) * ((a2 : Nat) : Int))))) = (((a0 + ((8 : Nat) * (a1 + ((1024 : Nat) * a2)))) : Nat) : Int)) := by rfl
theorem om300 {a0 : Nat} : ((0 : Int) ≤ ((a0 : Nat) : Int)) := by exact Int.natCast_nonneg _
theorem om301 {a0 : Nat} (h0 : (a0 ≤ (700 : Nat))) : (a0 ≤ (1000000 : Nat)) := by exact Nat.le_trans (by assumption) (by decide)
theorem om302 {a0 : Nat} : (((((256 : Nat) + a0) : Nat) : Int) = ((256 : Int) + ((a0 : Nat) : Int))) := by rfl
theorem om303 {a1 : Nat} {a0 : Int} (h0 : (a0 = ((a1 : Nat) : Int))) : ((0 : Int) ≤ a0) := by (simp_all; done)
theorem om304 {a1 : Nat} {a0 : Int} (h0 : (¬ (a0 = ((a1 : Nat) : Int)))) (h1 : ((0 : Int) ≤ a0)) : (¬ ((Int.toNat a0) = a1)) := by lia
theorem om305 {a0 : Nat} (h0 : (a0 < (256 : Nat))) : (((a0 : Nat) : Int) < (256 : Int)) := by exact Int.ofNat_lt.mpr (by assumption)
theorem om306 {a0 : Nat} (h0 : (¬ (a0 < (256 : Nat)))) : (¬ (((a0 : Nat) : Int) < (256 : Int))) := by lia
theorem om307 {a0 : Nat} (h0 : ((256 : Nat) ≤ a0)) : ((256 : Int) ≤ ((a0 : Nat) : Int)) := by exact Int.ofNat_le.mpr (by assumption)
theorem om308 {a0 : Nat} (h0 : (¬ ((256 : Nat) ≤ a0))) : (¬ ((256 : Int) ≤ ((a0 : Nat) : Int))) := by lia
theorem om309 {a0 : Nat} : ((((a0 + (1 : Nat)) : Nat) : Int) ≠ (0 : Int)) := by lia
theorem om310 {a0 a1 : Nat} (h0 : (¬ ((a0 < (256 : Nat)) ∧ (a1 < (256 : Nat))))) (h1 : (a0 < (256 : Nat))) : (¬ (a1 < (256 : Nat))) := by (simp_all; done)
theorem om311 {a0 : Nat} (h0 : ((256 : Nat) ≤ a0)) : ((0 : Int) ≤ (((a0 : Nat) : Int) - (256 : Int))) := by lia
theorem om312 {a0 a1 : Nat} (h0 : (a0 ≤ (700 : Nat))) (h1 : (a1 < ((256 : Nat) + a0))) : ((((a1 : Nat) : Int) - (256 : Int)) < ((2 : Int) ^ (63 : Nat))) := by grind
theorem om313 {a0 : Nat} : ((Int.toNat (((a0 : Nat) : Int) - (256 : Int))) = (a0 - (256 : Nat))) := Int.toNat_sub a0 256
theorem om314 {a0 a1 : Nat} (h0 : (a0 < ((256 : Nat) + a1))) (h1 : ((256 : Nat) ≤ a0)) : ((a0 - (256 : Nat)) < a1) := by lia
theorem om315 {a0 a1 : Nat} : ((min ((a0 : Nat) : Int) ((a1 : Nat) : Int)) = (((min a0 a1) : Nat) : Int)) := by omega
theorem om316 {a0 a1 a2 : Nat} (h0 : (a0 ≤ a1)) (h1 : (a0 ≤ a2)) : ((a0 ≤ (min a1 a2)) ∧ (((min a1 a2) ≤ a1) ∧ ((min a1 a2) ≤ a2))) := ⟨Nat.le_min.mpr ⟨h0, h1⟩, Nat.min_le_left _ _, Nat.min_le_right _ _⟩
theorem om317 {a0 a1 : Nat} (h0 : (((a0 : Nat) : Int) < ((a1 : Nat) : Int))) : (a0 < a1) := by (simp_all; done)
theorem om318 {a0 a1 : Nat} (h0 : (¬ (((a0 : Nat) : Int) < ((a1 : Nat) : Int)))) : (¬ (a0 < a1)) := by (simp_all; done)
theorem om319 {a0 a1 a2 a3 a4 a5 a6 a7 : Nat} (h0 : ((a0 + a1) ≤ (700 : Nat))) (h1 : (a2 = ((2 : Nat) * a3))) (h2 : (a2 ≤ a1)) (h3 : ((a4 + (1 : Nat)) ≤ a3)) (h4 : (a5 = (a0 + a4))) (h5 : ((a6 + (1 : Nat)) ≤ a3)) (h6 : (a7 = (a5 + a6))) : (a7 ≤ (700 : Nat)) := by lia
theorem om320 {a0 a1 a2 a3 a4 : Nat} (h0 : ((a0 < a1) ∧ (a2 < a1))) (h1 : ((a1 ≤ a3) ∧ (a1 ≤ a4))) : (a4 ≠ a0) := by lia
theorem om321 {a0 a1 a2 a3 a4 : Nat} (h0 : ((a0 < a1) ∧ (a2 < a1))) (h1 : ((a1 ≤ a3) ∧ (a1 ≤ a4))) : (a4 ≠ a2) := by lia
theorem om322 {a0 a1 a2 a3 : Nat} (h0 : (a0 < a1)) (h1 : ((a1 ≤ a2) ∧ (a1 ≤ a3))) : (a3 ≠ a0) := by lia
theorem om323 {a0 a1 a2 a3 a4 : Nat} (h0 : ((a0 < a1) ∧ (a2 < a1))) (h1 : ((a1 ≤ a3) ∧ (a1 ≤ a4))) : (a3 ≠ a0) := by lia
theorem om324 {a0 a1 a2 a3 a4 : Nat} (h0 : ((a0 < a1) ∧ (a2 < a1))) (h1 : ((a1 ≤ a3) ∧ (a1 ≤ a4))) : (a3 ≠ a2) := by lia
theorem om325 {a0 a1 a2 a3 : Nat} (h0 : (a0 < a1)) (h1 : ((a1 ≤ a2) ∧ (a1 ≤ a3))) : (a2 ≠ a0) := by grind
theorem om326 {a0 : Nat} (h0 : (a0 ≤ (100000 : Nat))) : (a0 ≤ (1000000 : Nat)) := by exact Nat.le_trans (by assumption) (by decide)
theorem om327 {a0 : Nat} (h0 : (a0 ≤ (99999 : Nat))) : (a0 ≤ (1000000 : Nat)) := by exact Nat.le_trans (by assumption) (by decide)
theorem om328 {a0 : Nat} (h0 : (a0 ≤ (99999 : Nat))) : (a0 ≤ (100000 : Nat)) := by exact Nat.le_trans (by assumption) (by decide)
theorem om329 {a0 : Nat} (h0 : (a0 ≤ (10000 : Nat))) : (a0 ≤ (1000000 : Nat)) := by exact Nat.le_trans (by assumption) (by decide)
theorem om330 {a0 a1 a2 : Nat} (h0 : ((a0 + a1) = a2)) : (a0 ≤ a2) := by lia
theorem om331 {a0 : Nat} : (a0 ≤ (a0 + (2 : Nat))) := by grind
theorem om332 {a0 a1 a2 : Nat} (h0 : (a0 ≤ (10000 : Nat))) (h1 : ((a1 + a2) = a0)) : (((a1 : Nat) : Int) < ((2 : Int) ^ (63 : Nat))) := by lia
theorem om333 {a0 : Nat} : (((min (2 : Nat) a0) ≤ a0) ∧ ((min (2 : Nat) a0) ≤ (2 : Nat))) := by lia
theorem om334 {a0 : Nat} : (((min (1 : Nat) a0) ≤ a0) ∧ ((min (1 : Nat) a0) ≤ (2 : Nat))) := ⟨Nat.min_le_right _ _, Nat.le_trans (Nat.min_le_left _ _) (by decide)⟩
theorem om335 {a0 a1 : Nat} (h0 : ((a0 ≤ a1) ∧ (a0 ≤ (2 : Nat)))) : (a0 ≤ (1000000 : Nat)) := by lia
theorem om336 {a0 a1 a2 a3 : Nat} (h0 : ((a0 + a1) = a2)) (h1 : ((a3 ≤ a1) ∧ (a3 ≤ (2 : Nat)))) : (((a0 + a3) + (a1 - a3)) = a2) := by rw [Nat.add_assoc, Nat.add_sub_cancel' h1.1]; exact h0
theorem om337 {a0 : Nat} : (a0 ≠ (a0 + (1 : Nat))) := by (simp_all; done)
theorem om338 {a0 : Nat} : ((a0 ≤ a0) ∧ (a0 ≤ (a0 + (1 : Nat)))) := by (simp_all; done)
theorem om339 {a0 a1 : Nat} (h0 : (a0 = a1)) : (a1 ≤ a0) := by (simp_all; done)
theorem om340 {a0 a1 a2 : Nat} (h0 : ((a0 + (a1 + (1 : Nat))) = a2)) : (a0 < a2) := by grind
theorem om341 {a0 a1 a2 : Nat} (h0 : (a0 ≤ (10000 : Nat))) (h1 : ((a1 + (a2 + (1 : Nat))) ≤ a0)) : (a1 ≤ (1000000 : Nat)) := by lia
theorem om342 {a0 a1 a2 : Nat} (h0 : ((a0 + (a1 + (1 : Nat))) ≤ a2)) : (((a0 + (1 : Nat)) + a1) ≤ a2) := by omega
theorem om343 {a0 a1 a2 : Nat} (h0 : ((a0 + (a1 + (1 : Nat))) ≤ a2)) : ((a0 + a1) ≤ a2) := by exact Nat.le_of_lt (by assumption)
theorem om344 {a0 a1 a2 : Nat} (h0 : ((a0 + ((a1 + (1 : Nat)) + (1 : Nat))) = a2)) : (a0 < a2) := by lia
theorem om345 {a0 a1 a2 : Nat} (h0 : (a0 ≤ (10000 : Nat))) (h1 : ((a1 + ((a2 + (1 : Nat)) + (1 : Nat))) ≤ a0)) : (a1 ≤ (1000000 : Nat)) := by lia
theorem om346 {a0 : Nat} : (a0 < ((a0 + (1 : Nat)) + (1 : Nat))) := by lia
theorem om347 {a0 a1 a2 : Nat} (h0 : ((a0 + ((a1 + (1 : Nat)) + (1 : Nat))) ≤ a2)) : (((a0 + (1 : Nat)) + a1) ≤ a2) := by lia
theorem om348 {a0 a1 a2 : Nat} (h0 : ((a0 + ((a1 + (1 : Nat)) + (1 : Nat))) ≤ a2)) : ((a0 + a1) ≤ a2) := by lia
theorem om349 {a0 : Nat} (h0 : ((97 : Nat) ≤ a0)) : ((((a0 : Nat) : Int) - (97 : Int)) = (((a0 - (97 : Nat)) : Nat) : Int)) := (Int.ofNat_sub h0).symm
theorem om350 {a0 : Nat} (h0 : ((a0 + (1 : Nat)) ≤ (700 : Nat))) : (a0 ≤ (700 : Nat)) := by exact Nat.le_of_lt (by assumption)
theorem om351 {a0 a1 a2 : Nat} (h0 : (a0 ≤ (10000 : Nat))) (h1 : ((a1 + (a2 + (1 : Nat))) ≤ a0)) : (a1 ≤ (100000 : Nat)) := by lia
theorem om352 {a0 a1 a2 a3 : Nat} (h0 : ((a0 + (a1 + (1 : Nat))) ≤ a2)) (h1 : (a3 ≤ a0)) : ((a3 + a1) ≤ a2) := by grind
theorem om353 {a0 a1 a2 : Nat} (h0 : (a0 ≤ (10000 : Nat))) (h1 : ((((a1 + (1 : Nat)) + (1 : Nat)) + (a2 + (1 : Nat))) ≤ a0)) : (a1 ≤ (999999 : Nat)) := by omega
theorem om354 {a0 a1 a2 : Nat} (h0 : (a0 ≤ (10000 : Nat))) (h1 : ((((a1 + (1 : Nat)) + (1 : Nat)) + (a2 + (1 : Nat))) ≤ a0)) : (a1 ≤ (1000000 : Nat)) := by lia
theorem om355 {a0 a1 a2 : Nat} (h0 : (a0 ≤ (10000 : Nat))) (h1 : ((((a1 + (1 : Nat)) + (1 : Nat)) + (a2 + (1 : Nat))) ≤ a0)) : (a1 ≤ (100000 : Nat)) := by lia
theorem om356 {a0 a1 a2 a3 : Nat} (h0 : ((((a0 + (1 : Nat)) + (1 : Nat)) + (a1 + (1 : Nat))) ≤ a2)) (h1 : (a3 ≤ a0)) : ((a3 + a1) ≤ a2) := by grind
theorem om357 {a0 a1 a2 : Nat} (h0 : ((((a0 + (1 : Nat)) + (1 : Nat)) + (a1 + (1 : Nat))) ≤ a2)) : (((a0 + (1 : Nat)) + a1) ≤ a2) := by lia
theorem om358 {a0 : Nat} : (((((((a0 : Nat) : Int) - (1 : Int)) - (-(1 : Int))) - (1 : Int)) + (1 : Int)) = ((a0 : Nat) : Int)) := by (simp_all; done)
theorem om359 {a0 : Nat} (h0 : (¬ ((((a0 : Nat) : Int) - (1 : Int)) > (-(1 : Int))))) : ((0 : Int) = ((a0 : Nat) : Int)) := by grind
theorem om360 {a0 : Nat} : ((-((2 : Int) ^ (63 : Nat))) ≤ (((a0 : Nat) : Int) - (1 : Int))) := by grind
theorem om361 {a0 : Nat} (h0 : (a0 ≤ (1000000 : Nat))) : ((((a0 : Nat) : Int) - (1 : Int)) < ((2 : Int) ^ (63 : Nat))) := by grind
theorem om362 {a0 : Nat} : ((-((2 : Int) ^ (63 : Nat))) ≤ ((a0 : Nat) : Int)) := by exact Int.natCast_nonneg _
theorem om363 {a0 : Nat} (h0 : (a0 ≤ (1000000 : Nat))) : (((a0 : Nat) : Int) < ((2 : Int) ^ (63 : Nat))) := by lia
theorem om364 {a0 a1 : Nat} (h0 : (a0 ≤ ((1 : Nat) + ((2 : Nat) * a1)))) : ((a0 + (2 : Nat)) ≤ ((1 : Nat) + ((2 : Nat) * (a1 + (1 : Nat))))) := by lia
theorem om365 {a0 a1 : Nat} (h0 : (a0 ≤ ((1 : Nat) + ((2 : Nat) * a1)))) : (a0 ≤ ((1 : Nat) + ((2 : Nat) * (a1 + (1 : Nat))))) := by grind
theorem om366 {a0 a1 : Nat} (h0 : (a0 < a1)) : (((((a1 : Nat) : Int) - (1 : Int)) + (((a0 : Nat) : Int) * (-(1 : Int)))) = ((((a1 - (1 : Nat)) - a0) : Nat) : Int)) := by grind
theorem om367 {a0 a1 a2 : Nat} (h0 : (((((a0 : Nat) : Int) - (1 : Int)) + (((a1 : Nat) : Int) * (-(1 : Int)))) = ((((a0 - (1 : Nat)) - a1) : Nat) : Int))) (h1 : (((a0 - (1 : Nat)) - a1) = a2)) : (a2 < a0) := by lia
theorem om368 {a0 a1 : Nat} (h0 : (((a0 : Nat) : Int) = ((256 : Int) + ((a1 : Nat) : Int)))) : (a0 = ((256 : Nat) + a1)) := by exact Int.ofNat.inj (by assumption)
theorem om369 {a0 a1 a2 : Nat} (h0 : (a0 ≤ (700 : Nat))) (h1 : (((a0 - (1 : Nat)) - a1) = a2)) : (((a2 : Nat) : Int) < ((2 : Int) ^ (63 : Nat))) := by subst h1; exact (Int.ofNat_lt (m := 9223372036854775808)).mpr (Nat.lt_of_le_of_lt (Nat.le_trans (Nat.sub_le _ _) (Nat.le_trans (Nat.sub_le _ _) h0)) (by decide))
theorem om370 {a0 : Nat} (h0 : (a0 < (4 : Nat))) : (((a0 : Nat) : Int) < ((2 : Int) ^ (63 : Nat))) := by lia
theorem om371 {a0 : Nat} (h0 : (a0 = (4 : Nat))) : (a0 ≤ (1000000 : Nat)) := Nat.le_trans (Nat.le_of_eq h0) (by decide)
theorem om372 {a0 : Nat} : ((a0 + (1 : Nat)) ≠ a0) := by (simp_all; done)
theorem om373 {a0 a1 : Nat} (h0 : ((a0 + (2 : Nat)) ≤ a1)) : (a0 < a1) := by exact Nat.le_of_lt (by assumption)
theorem om374 {a0 a1 a2 : Nat} (h0 : (a0 ≤ (700 : Nat))) (h1 : (a1 < a0)) (h2 : (a2 ≤ ((1 : Nat) + ((2 : Nat) * a1)))) : (a2 ≤ (999998 : Nat)) := by lia
theorem om375 {a0 a1 : Nat} (h0 : ((a0 + (2 : Nat)) ≤ a1)) : ((a0 + (1 : Nat)) ≤ a1) := by exact Nat.le_of_lt (by assumption)
theorem om376 {a0 a1 : Nat} (h0 : ((a0 + (2 : Nat)) ≤ a1)) : (a0 < (a1 + (1 : Nat))) := by lia
theorem om377 {a0 a1 : Nat} (h0 : ((a0 + (2 : Nat)) ≤ a1)) : ((a0 + (1 : Nat)) < a1) := by assumption
theorem om378 {a0 a1 : Nat} (h0 : (a0 < a1)) : (a1 ≠ a0) := by exact Nat.ne_of_gt (by assumption)
theorem om379 {a0 a1 a2 : Nat} (h0 : ((a0 + (2 : Nat)) ≤ a1)) (h1 : (a2 < a0)) : (a2 < a1) := by lia
theorem om380 {a0 a1 : Nat} (h0 : (a0 < a1)) : ((a1 + (1 : Nat)) ≠ a0) := by lia
theorem om381 {a0 a1 : Nat} (h0 : ((a0 + (2 : Nat)) ≤ a1)) : (a0 ≤ a1) := by lia
theorem om382 {a0 : Nat} : (a0 ≤ (a0 + (1 : Nat))) := by (simp_all; done)
theorem om383 {a0 : Nat} (h0 : ((0 : Nat) < a0)) : ((((a0 : Nat) : Int) - (1 : Int)) = (((a0 - (1 : Nat)) : Nat) : Int)) := by grind
theorem om384 {a0 : Nat} : ((0 : Int) ≤ (((a0 - (1 : Nat)) : Nat) : Int)) := by exact Int.natCast_nonneg _
theorem om385 {a0 a1 : Nat} (h0 : (a0 ≤ a1)) : (a0 ≤ a1) := by omega
theorem om386 {a0 : Nat} (h0 : (a0 < (4 : Nat))) : (a0 ≤ (3 : Nat)) := by exact Nat.le_of_lt_succ (by assumption)
theorem om387 {a0 : Nat} (h0 : (a0 ≤ ((2 : Nat) ^ (3 : Nat)))) : (a0 ≤ (8 : Nat)) := by omega
theorem om388 {a0 : Nat} (h0 : (a0 < (4 : Nat))) : (((a0 : Nat) : Int) ≤ (1000000 : Int)) := by grind
theorem om389 {a0 : Nat} (h0 : (a0 ≤ (8 : Nat))) : (a0 ≤ (1000000 : Nat)) := by exact Nat.le_trans (by assumption) (by decide)
theorem om390 {a0 a1 : Nat} (h0 : (a0 ≤ (8 : Nat))) (h1 : (a1 < a0)) : (((-((2 : Int) ^ (64 : Nat))) < ((a1 : Nat) : Int)) ∧ (((a1 : Nat) : Int) < ((2 : Int) ^ (64 : Nat)))) := ⟨Int.lt_of_lt_of_le (by decide) (Int.natCast_nonneg _), (Int.ofNat_lt (m := 18446744073709551616)).mpr (Nat.lt_trans (Nat.lt_of_lt_of_le h1 h0) (by decide))⟩
theorem om391 {a0 : Nat} : ((0 : Int) ≤ ((((2 : Nat) * a0) : Nat) : Int)) := by exact Int.natCast_nonneg _
theorem om392 {a0 : Nat} (h0 : (a0 ≤ (8 : Nat))) : (((((2 : Nat) * a0) : Nat) : Int) ≤ (1000000 : Int)) := by lia
theorem om393 {a0 : Nat} (h0 : (a0 ≤ (8 : Nat))) : (((a0 : Nat) : Int) ≤ (1000000 : Int)) := by lia
theorem om394 {a0 a1 : Nat} (h0 : (¬ (a0 = a1))) : (((a0 : Nat) : Int) ≠ ((a1 : Nat) : Int)) := by grind
theorem om395 {a0 a1 a2 : Nat} (h0 : (a0 ≤ (8 : Nat))) (h1 : (a1 < a0)) (h2 : (a2 ≤ a1)) : (a2 ≤ (1000000 : Nat)) := by lia
theorem om396 {a0 a1 : Nat} (h0 : ((a0 + (1 : Nat)) ≤ a1)) : ((a0 + (1 : Nat)) ≤ a1) := by omega
theorem om397 {a0 a1 : Nat} (h0 : (a0 ≤ (8 : Nat))) (h1 : (a1 ≤ a0)) : (a1 ≤ (1000000 : Nat)) := by exact Nat.le_trans (by assumption) (Nat.le_trans (by assumption) (by decide))
theorem om398 {a0 : Nat} (h0 : (a0 < (4 : Nat))) : (a0 ≤ (1000000 : Nat)) := by exact Nat.le_trans (Nat.le_of_lt (by assumption)) (by decide)
theorem om399 {a0 a1 a2 : Nat} (h0 : ((a0 + (1 : Nat)) ≤ a1)) (h1 : ((a1 + (1 : Nat)) ≤ a2)) : ((a0 + (1 : Nat)) ≤ a2) := by lia
theorem om400 {a0 a1 a2 : Nat} (h0 : ((a0 + (1 : Nat)) ≤ a1)) (h1 : ((a1 + (1 : Nat)) ≤ a2)) : (a0 < a2) := by lia
theorem om401 {a0 a1 a2 : Nat} (h0 : ((a0 + (1 : Nat)) ≤ a1)) (h1 : (a2 < a0)) : (a2 < a1) := by lia
theorem om402 {a0 : Nat} : (a0 ≤ a0) := by (simp_all; done)
theorem om403 {a0 : Nat} : ((((a0 : Nat) : Int) % (2 : Int)) = (((a0 % (2 : Nat)) : Nat) : Int)) := by rfl
theorem om404 {a0 : Nat} (h0 : (¬ ((a0 % (2 : Nat)) = (1 : Nat)))) : ((((a0 % (2 : Nat)) : Nat) : Int) ≠ (1 : Int)) := by (simp_all; done)
theorem om405 {a0 : Nat} (h0 : (a0 < (4 : Nat))) : ((0 : Int) ≤ ((3 : Int) - ((a0 : Nat) : Int))) := by lia
theorem om406 {a0 : Nat} (h0 : (a0 < (4 : Nat))) : (((3 : Int) - ((a0 : Nat) : Int)) = ((((3 : Nat) - a0) : Nat) : Int)) := by grind
theorem om407 {a0 : Nat} (h0 : (a0 ≤ (32 : Nat))) : (a0 ≤ (32 : Nat)) := Nat.le_trans h0 (by decide)
theorem om408 {a0 : Nat} : (((32 : Nat) - a0) ≤ (32 : Nat)) := by (simp_all; done)
theorem om409 {a0 : Nat} (h0 : (a0 ≤ (32 : Nat))) : (((-((2 : Int) ^ (64 : Nat))) < ((a0 : Nat) : Int)) ∧ (((a0 : Nat) : Int) < ((2 : Int) ^ (64 : Nat)))) := by omega
theorem om410 {a0 : Nat} (h0 : (a0 ≤ (32 : Nat))) : (((32 : Int) - ((a0 : Nat) : Int)) = ((((32 : Nat) - a0) : Nat) : Int)) := by grind
theorem om411 {a0 a1 : Nat} : (((a0 + (1 : Nat)) + a1) = (a0 + (a1 + (1 : Nat)))) := by grind
theorem om412 {a0 a1 : Nat} (h0 : (a0 < a1)) : ((min a0 a1) = a0) := by lia
theorem om413 {a0 a1 a2 : Nat} (h0 : (a0 = a1)) (h1 : (a2 < ((256 : Nat) + a1))) (h2 : ((256 : Nat) ≤ a2)) : ((a2 - (256 : Nat)) < a0) := by lia
theorem om414 {a0 a1 a2 : Nat} (h0 : (a0 ≤ (700 : Nat))) (h1 : (a1 < ((256 : Nat) + a2))) (h2 : (a2 < a0)) : ((Int.natAbs ((a1 : Nat) : Int)) < ((2 : Nat) ^ (64 : Nat))) := by rw [Int.natAbs_natCast]; exact Nat.lt_trans h1 (Nat.lt_of_le_of_lt (Nat.add_le_add_left (Nat.le_of_lt (Nat.lt_of_lt_of_le h2 h0)) 256) (by decide))
theorem om415 {a0 : Nat} (h0 : (¬ (a0 < (256 : Nat)))) : ((0 : Int) ≤ (((a0 : Nat) : Int) - (256 : Int))) := by lia
theorem om416 {a0 a1 a2 : Nat} (h0 : (a0 ≤ (700 : Nat))) (h1 : (a1 < ((256 : Nat) + a2))) (h2 : (a2 < a0)) : ((((a1 : Nat) : Int) - (256 : Int)) < ((2 : Int) ^ (63 : Nat))) := by lia
theorem om417 {a0 : Nat} (h0 : (¬ (a0 < (256 : Nat)))) : ((256 : Nat) ≤ a0) := by exact Nat.not_lt.mp (by assumption)
theorem om418 {a0 a1 a2 : Nat} (h0 : (a0 ≤ (700 : Nat))) (h1 : (a1 < a0)) (h2 : (a2 = a1)) : (a2 ≤ (1000000 : Nat)) := by lia
theorem om419 {a0 : Nat} (h0 : (a0 ≤ (100 : Nat))) : (a0 ≤ (1000000 : Nat)) := by exact Nat.le_trans (by assumption) (by decide)
theorem om420 {a0 a1 : Nat} (h0 : (a0 ≤ (700 : Nat))) (h1 : (a1 < ((256 : Nat) + a0))) : ((Int.natAbs ((a1 : Nat) : Int)) < ((2 : Nat) ^ (64 : Nat))) := by rw [Int.natAbs_natCast]; exact Nat.lt_trans h1 (Nat.lt_of_le_of_lt (Nat.add_le_add_left h0 256) (by decide))
theorem om421 {a0 a1 a2 : Nat} (h0 : (a0 = a1)) (h1 : (a2 < ((256 : Nat) + a1))) (h2 : (¬ (a2 < (256 : Nat)))) : ((a2 - (256 : Nat)) < a0) := by subst h0; exact Nat.sub_lt_left_of_lt_add (Nat.not_lt.mp h2) h1
theorem om422 {a0 a1 : Nat} (h0 : ((a0 + (1 : Nat)) ≤ a1)) : (a0 ≤ (a1 + (2 : Nat))) := by lia
theorem om423 {a0 a1 a2 : Nat} (h0 : ((a0 + (1 : Nat)) ≤ a1)) (h1 : (a2 < a0)) : (a2 < (a1 + (1 : Nat))) := by lia
theorem om424 {a0 a1 : Nat} (h0 : (a0 < (a1 * (2 : Nat)))) : ((a0 / (2 : Nat)) < a1) := by lia
theorem om425 {a0 a1 a2 a3 : Nat} (h0 : (((a0 / (2 : Nat)) + (a1 / (2 : Nat))) = ((a2 / (2 : Nat)) + ((2 : Nat) * (a3 / (2 : Nat)))))) (h1 : ((a0 % (2 : Nat)) = (1 : Nat))) (h2 : ((a1 % (2 : Nat)) = (1 : Nat))) (h3 : ((a3 % (2 : Nat)) = (1 : Nat))) (h4 : (¬ ((a2 % (2 : Nat)) = (1 : Nat)))) : ((a0 + a1) = (a2 + ((2 : Nat) * a3))) := by grind
theorem om426 {a0 a1 a2 a3 : Nat} (h0 : (((a0 / (2 : Nat)) + (a1 / (2 : Nat))) = ((a2 / (2 : Nat)) + ((2 : Nat) * (a3 / (2 : Nat)))))) (h1 : ((a0 % (2 : Nat)) = (1 : Nat))) (h2 : (¬ ((a1 % (2 : Nat)) = (1 : Nat)))) (h3 : (¬ ((a3 % (2 : Nat)) = (1 : Nat)))) (h4 : ((a2 % (2 : Nat)) = (1 : Nat))) : ((a0 + a1) = (a2 + ((2 : Nat) * a3))) := by lia
theorem om427 {a0 a1 a2 a3 : Nat} (h0 : (((a0 / (2 : Nat)) + (a1 / (2 : Nat))) = ((a2 / (2 : Nat)) + ((2 : Nat) * (a3 / (2 : Nat)))))) (h1 : (¬ ((a0 % (2 : Nat)) = (1 : Nat)))) (h2 : ((a1 % (2 : Nat)) = (1 : Nat))) (h3 : (¬ ((a3 % (2 : Nat)) = (1 : Nat)))) (h4 : ((a2 % (2 : Nat)) = (1 : Nat))) : ((a0 + a1) = (a2 + ((2 : Nat) * a3))) := by lia
theorem om428 {a0 a1 a2 a3 : Nat} (h0 : (((a0 / (2 : Nat)) + (a1 / (2 : Nat))) = ((a2 / (2 : Nat)) + ((2 : Nat) * (a3 / (2 : Nat)))))) (h1 : (¬ ((a0 % (2 : Nat)) = (1 : Nat)))) (h2 : (¬ ((a1 % (2 : Nat)) = (1 : Nat)))) (h3 : (¬ ((a3 % (2 : Nat)) = (1 : Nat)))) (h4 : (¬ ((a2 % (2 : Nat)) = (1 : Nat)))) : ((a0 + a1) = (a2 + ((2 : Nat) * a3))) := by grind
theorem om429 {a0 a1 a2 a3 : Nat} (h0 : ((a0 + a1) = (a2 + ((2 : Nat) * a3)))) : (((((a0 : Nat) : Int) + ((a1 : Nat) : Int)) - ((2 : Int) * ((a3 : Nat) : Int))) = ((a2 : Nat) : Int)) := by grind
theorem om430 {a0 : Nat} : ((Int.toNat ((((a0 / (6 : Nat)) % (9 : Nat)) : Nat) : Int)) = ((a0 / (6 : Nat)) % (9 : Nat))) := by rfl
theorem om431 {a0 : Nat} : (((((a0 : Nat) : Int) / (6 : Int)) % (9 : Int)) = ((((a0 / (6 : Nat)) % (9 : Nat)) : Nat) : Int)) := by rfl
theorem om432 {a0 : Nat} : ((0 : Int) ≤ ((((a0 / (6 : Nat)) % (9 : Nat)) : Nat) : Int)) := by exact Int.natCast_nonneg _
theorem om433 {a0 : Nat} : (((((a0 / (6 : Nat)) % (9 : Nat)) : Nat) : Int) < ((2 : Int) ^ (63 : Nat))) := by grind
theorem om434 {a0 : Nat} : (((((a0 : Nat) : Int) / (54 : Int)) % (2 : Int)) = ((((a0 / (54 : Nat)) % (2 : Nat)) : Nat) : Int)) := by rfl
theorem om435 {a0 : Nat} : (((((a0 : Nat) : Int) / (108 : Int)) % (2 : Int)) = ((((a0 / (108 : Nat)) % (2 : Nat)) : Nat) : Int)) := by rfl
theorem om436 {a0 a1 : Nat} (h0 : (a0 ≤ (1 : Nat))) (h1 : (a1 = (1 : Nat))) : ((a1 + a0) ≤ (1000000 : Nat)) := Nat.le_trans (Nat.add_le_add (Nat.le_of_eq h1) h0) (by decide)
theorem om437 {a0 a1 a2 a3 : Nat} (h0 : ((a0 ≤ (10000 : Nat)) ∧ (a1 ≤ (10000 : Nat)))) (h1 : (a2 ≤ (1 : Nat))) (h2 : (a3 = (1 : Nat))) : (((a3 + a2) + a0) ≤ (1000000 : Nat)) := Nat.le_trans (Nat.add_le_add (Nat.add_le_add (Nat.le_of_eq h2) h1) h0.1) (by decide)
theorem om438 {a0 a1 a2 a3 a4 : Nat} (h0 : ((a0 ≤ (10000 : Nat)) ∧ (a1 ≤ (10000 : Nat)))) (h1 : (a2 ≤ (2 : Nat))) (h2 : (a3 ≤ (1 : Nat))) (h3 : (a4 = (1 : Nat))) : ((((a4 + a3) + a0) + a2) ≤ (1000000 : Nat)) := Nat.le_trans (Nat.add_le_add (Nat.add_le_add (Nat.add_le_add (Nat.le_of_eq h3) h2) h0.1) h1) (by decide)
theorem om439 {a0 a1 a2 a3 a4 a5 : Nat} (h0 : ((a0 ≤ (10000 : Nat)) ∧ (a1 ≤ (10000 : Nat)))) (h1 : (a2 ≤ (2 : Nat))) (h2 : (a3 ≤ (1 : Nat))) (h3 : (a4 ≤ (1 : Nat))) (h4 : (a5 = (1 : Nat))) : (((((a5 + a3) + a0) + a2) + a4) ≤ (1000000 : Nat)) := Nat.le_trans (Nat.add_le_add (Nat.add_le_add (Nat.add_le_add (Nat.add_le_add (Nat.le_of_eq h4) h2) h0.1) h1) h3) (by decide)
theorem om440 {a0 a1 a2 a3 a4 a5 a6 a7 : Nat} (h0 : ((a0 ≤ (10000 : Nat)) ∧ (a1 ≤ (10000 : Nat)))) (h1 : ((a2 ≤ (10000 : Nat)) ∧ (a3 ≤ (10000 : Nat)))) (h2 : (a4 ≤ (2 : Nat))) (h3 : (a5 ≤ (1 : Nat))) (h4 : (a6 ≤ (1 : Nat))) (h5 : (a7 = (1 : Nat))) : ((((((a7 + a5) + a0) + a4) + a6) + a2) ≤ (1000000 : Nat)) := Nat.le_trans (Nat.add_le_add (Nat.add_le_add (Nat.add_le_add (Nat.add_le_add (Nat.add_le_add (Nat.le_of_eq h5) h3) h0.1) h2) h4) h1.1) (by decide)
theorem om441 {a0 a1 a2 a3 a4 a5 a6 a7 a8 : Nat} (h0 : ((a0 ≤ (10000 : Nat)) ∧ (a1 ≤ (10000 : Nat)))) (h1 : ((a2 ≤ (10000 : Nat)) ∧ (a3 ≤ (10000 : Nat)))) (h2 : (a4 ≤ (2 : Nat))) (h3 : (a5 ≤ (1 : Nat))) (h4 : (a6 ≤ (1 : Nat))) (h5 : (a7 = (1 : Nat))) (h6 : (a8 = (1 : Nat))) : (((((((a7 + a5) + a0) + a4) + a6) + a2) + a8) ≤ (1000000 : Nat)) := Nat.le_trans (Nat.add_le_add (Nat.add_le_add (Nat.add_le_add (Nat.add_le_add (Nat.add_le_add (Nat.add_le_add (Nat.le_of_eq h5) h3) h0.1) h2) h4) h1.1) (Nat.le_of_eq h6)) (by decide)
theorem om442 {a0 a1 : Nat} (h0 : (a0 ≤ (1 : Nat))) (h1 : (a1 = (1 : Nat))) : ((a0 + a1) ≤ (1000000 : Nat)) := Nat.le_trans (Nat.add_le_add h0 (Nat.le_of_eq h1)) (by decide)
theorem om443 {a0 a1 a2 : Nat} (h0 : (a0 ≤ (1 : Nat))) (h1 : (a1 ≤ (1 : Nat))) (h2 : (a2 = (1 : Nat))) : (((a0 + a2) + a1) ≤ (1000000 : Nat)) := Nat.le_trans (Nat.add_le_add (Nat.add_le_add h0 (Nat.le_of_eq h2)) h1) (by decide)
theorem om444 {a0 a1 a2 a3 : Nat} (h0 : (a0 ≤ (1 : Nat))) (h1 : (a1 ≤ (1 : Nat))) (h2 : (a2 ≤ (1 : Nat))) (h3 : (a3 = (1 : Nat))) : ((((a0 + a3) + a1) + a2) ≤ (1000000 : Nat)) := Nat.le_trans (Nat.add_le_add (Nat.add_le_add (Nat.add_le_add h0 (Nat.le_of_eq h3)) h1) h2) (by decide)
theorem om445 {a0 a1 a2 a3 a4 a5 : Nat} (h0 : ((a0 ≤ (10000 : Nat)) ∧ (a1 ≤ (10000 : Nat)))) (h1 : (a2 ≤ (1 : Nat))) (h2 : (a3 ≤ (1 : Nat))) (h3 : (a4 ≤ (1 : Nat))) (h4 : (a5 = (1 : Nat))) : (((((a2 + a5) + a3) + a4) + a1) ≤ (1000000 : Nat)) := Nat.le_trans (Nat.add_le_add (Nat.add_le_add (Nat.add_le_add (Nat.add_le_add h1 (Nat.le_of_eq h4)) h2) h3) h0.2) (by decide)
theorem om446 {a0 a1 a2 a3 a4 a5 a6 : Nat} (h0 : ((a0 ≤ (10000 : Nat)) ∧ (a1 ≤ (10000 : Nat)))) (h1 : (a2 ≤ (1 : Nat))) (h2 : (a3 ≤ (1 : Nat))) (h3 : (a4 ≤ (1 : Nat))) (h4 : (a5 ≤ (1 : Nat))) (h5 : (a6 = (1 : Nat))) : ((((((a2 + a6) + a3) + a5) + a1) + a4) ≤ (1000000 : Nat)) := Nat.le_trans (Nat.add_le_add (Nat.add_le_add (Nat.add_le_add (Nat.add_le_add (Nat.add_le_add h1 (Nat.le_of_eq h5)) h2) h4) h0.2) h3) (by decide)
theorem om447 {a0 a1 a2 a3 a4 a5 a6 a7 : Nat} (h0 : ((a0 ≤ (10000 : Nat)) ∧ (a1 ≤ (10000 : Nat)))) (h1 : (a2 ≤ (1 : Nat))) (h2 : (a3 ≤ (1 : Nat))) (h3 : (a4 ≤ (1 : Nat))) (h4 : (a5 ≤ (1 : Nat))) (h5 : (a6 ≤ (1 : Nat))) (h6 : (a7 = (1 : Nat))) : (((((((a2 + a7) + a3) + a6) + a1) + a4) + a5) ≤ (1000000 : Nat)) := Nat.le_trans (Nat.add_le_add (Nat.add_le_add (Nat.add_le_add (Nat.add_le_add (Nat.add_le_add (Nat.add_le_add h1 (Nat.le_of_eq h6)) h2) h5) h0.2) h3) h4) (by decide)
theorem om448 {a0 a1 a2 a3 a4 a5 a6 a7 a8 : Nat} (h0 : ((a0 ≤ (10000 : Nat)) ∧ (a1 ≤ (10000 : Nat)))) (h1 : (a2 ≤ (1 : Nat))) (h2 : (a3 ≤ (1 : Nat))) (h3 : (a4 ≤ (1 : Nat))) (h4 : (a5 ≤ (1 : Nat))) (h5 : (a6 ≤ (1 : Nat))) (h6 : (a7 ≤ (1 : Nat))) (h7 : (a8 = (1 : Nat))) : ((((((((a2 + a8) + a3) + a6) + a1) + a4) + a5) + a7) ≤ (1000000 : Nat)) := Nat.le_trans (Nat.add_le_add (Nat.add_le_add (Nat.add_le_add (Nat.add_le_add (Nat.add_le_add (Nat.add_le_add (Nat.add_le_add h1 (Nat.le_of_eq h7)) h2) h5) h0.2) h3) h4) h6) (by decide)
theorem om449 {a0 a1 a2 a3 a4 a5 a6 a7 a8 a9 a10 : Nat} (h0 : ((a0 ≤ (10000 : Nat)) ∧ (a1 ≤ (10000 : Nat)))) (h1 : ((a2 ≤ (10000 : Nat)) ∧ (a3 ≤ (10000 : Nat)))) (h2 : (a4 ≤ (1 : Nat))) (h3 : (a5 ≤ (1 : Nat))) (h4 : (a6 ≤ (1 : Nat))) (h5 : (a7 ≤ (1 : Nat))) (h6 : (a8 ≤ (1 : Nat))) (h7 : (a9 ≤ (1 : Nat))) (h8 : (a10 = (1 : Nat))) : (((((((((a4 + a10) + a5) + a8) + a1) + a6) + a7) + a9) + a3) ≤ (1000000 : Nat)) := Nat.le_trans (Nat.add_le_add (Nat.add_le_add (Nat.add_le_add (Nat.add_le_add (Nat.add_le_add (Nat.add_le_add (Nat.add_le_add (Nat.add_le_add h2 (Nat.le_of_eq h8)) h3) h6) h0.2) h4) h5) h7) h1.2) (by decide)
theorem om450 {a0 a1 a2 a3 a4 a5 a6 a7 a8 a9 a10 a11 : Nat} (h0 : ((a0 ≤ (10000 : Nat)) ∧ (a1 ≤ (10000 : Nat)))) (h1 : ((a2 ≤ (10000 : Nat)) ∧ (a3 ≤ (10000 : Nat)))) (h2 : (a4 ≤ (1 : Nat))) (h3 : (a5 ≤ (1 : Nat))) (h4 : (a6 ≤ (1 : Nat))) (h5 : (a7 ≤ (1 : Nat))) (h6 : (a8 ≤ (1 : Nat))) (h7 : (a9 ≤ (1 : Nat))) (h8 : (a10 = (1 : Nat))) (h9 : (a11 = (1 : Nat))) : ((((((((((a4 + a10) + a5) + a8) + a1) + a6) + a7) + a9) + a3) + a11) ≤ (1000000 : Nat)) := Nat.le_trans (Nat.add_le_add (Nat.add_le_add (Nat.add_le_add (Nat.add_le_add (Nat.add_le_add (Nat.add_le_add (Nat.add_le_add (Nat.add_le_add (Nat.add_le_add h2 (Nat.le_of_eq h8)) h3) h6) h0.2) h4) h5) h7) h1.2) (Nat.le_of_eq h9)) (by decide)
theorem om451 {a0 a1 : Nat} (h0 : (a0 ≤ (1 : Nat))) (h1 : (a1 ≤ (1 : Nat))) : ((a0 + a1) ≤ (1000000 : Nat)) := by exact Nat.le_trans (Nat.add_le_add (by assumption) (by assumption)) (by decide)
theorem om452 {a0 : Nat} (h0 : (a0 < (10 : Nat))) : (((a0 : Nat) : Int) < ((2 : Int) ^ (63 : Nat))) := by lia
theorem om453 {a0 : Nat} : (((65535 : Int) * (((a0 : Nat) : Int) % (2 : Int))) = ((((65535 : Nat) * (a0 % (2 : Nat))) : Nat) : Int)) := by rfl
theorem om454 {a0 : Nat} (h0 : (a0 ≤ (1 : Nat))) : (a0 ≤ (1000000 : Nat)) := by exact Nat.le_trans (by assumption) (by decide)
theorem om455 {a0 : Nat} : (((65535 : Int) * ((a0 : Nat) : Int)) = ((((65535 : Nat) * a0) : Nat) : Int)) := by rfl
theorem om456 {a0 : Nat} : ((min a0 (2 : Nat)) ≤ (1000000 : Nat)) := by lia
theorem om457 {a0 a1 : Nat} (h0 : ((a0 + (2 : Nat)) ≤ a1)) : ((a0 + (2 : Nat)) ≤ a1) := by omega
theorem om458 {a0 : Nat} : (((a0 + (1 : Nat)) + (1 : Nat)) ≠ (a0 + (1 : Nat))) := by (simp_all; done)
theorem om459 {a0 : Nat} : (((a0 + (1 : Nat)) + (1 : Nat)) ≠ (((a0 + (1 : Nat)) + (1 : Nat)) + (1 : Nat))) := by (simp_all; done)
theorem om460 {a0 : Nat} : ((a0 + (1 : Nat)) ≠ (((a0 + (1 : Nat)) + (1 : Nat)) + (1 : Nat))) := by lia
theorem om461 {a0 : Nat} : ((((a0 : Nat) : Int) % (7 : Int)) = (((a0 % (7 : Nat)) : Nat) : Int)) := by rfl
theorem om462 {a0 : Nat} : ((0 : Int) ≤ (((a0 % (7 : Nat)) : Nat) : Int)) := by exact Int.natCast_nonneg _
theorem om463 {a0 : Nat} : ((((a0 % (7 : Nat)) : Nat) : Int) < ((2 : Int) ^ (63 : Nat))) := by grind
theorem om464 {a0 : Nat} (h0 : (a0 ≤ (1114111 : Nat))) : (((a0 : Nat) : Int) ≤ (1114111 : Int)) := by exact Int.ofNat_le.mpr (by assumption)
theorem om465 {a0 : Nat} : ((((((a0 : Nat) : Int) / (7 : Int)) % (4 : Int)) + (2 : Int)) = (((((a0 / (7 : Nat)) % (4 : Nat)) + (2 : Nat)) : Nat) : Int)) := by rfl
theorem om466 {a0 a1 : Nat} (h0 : ((((a0 / (7 : Nat)) % (4 : Nat)) + (2 : Nat)) = a1)) : ((0 : Nat) < a1) := by lia
theorem om467 {a0 a1 : Nat} (h0 : ((((a0 / (7 : Nat)) % (4 : Nat)) + (2 : Nat)) = a1)) : ((0 : Int) < ((a1 : Nat) : Int)) := by grind
theorem om468 {a0 : Nat} (h0 : (¬ (a0 = (0 : Nat)))) : (((a0 : Nat) : Int) ≠ (0 : Int)) := by (simp_all; done)
theorem om469 {a0 a1 : Nat} (h0 : (a0 ≤ (10000 : Nat))) (h1 : (a1 < a0)) : (((a1 : Nat) : Int) < ((2 : Int) ^ (63 : Nat))) := by grind
theorem om470 {a0 a1 : Nat} (h0 : (a0 ≤ (100000 : Nat))) : ((a0 + (a1 * (0 : Nat))) ≤ (1000000 : Nat)) := by exact Nat.le_trans (by assumption) (by decide)
theorem om471 {a0 a1 : Nat} (h0 : (a0 < a1)) : (a0 < (a1 + (2 : Nat))) := by exact Nat.lt_add_right _ (by assumption)
theorem om472 {a0 : Nat} (h0 : ((2 : Nat) ≤ a0)) : ((0 : Nat) < (a0 - (1 : Nat))) := by omega
theorem om473 {a0 a1 : Nat} (h0 : (a0 < (a1 - (1 : Nat)))) : ((a0 + (1 : Nat)) < a1) := by omega
theorem om474 {a0 a1 : Nat} (h0 : (a0 < (a1 - (1 : Nat)))) : ((((min a0 a1) + (1 : Nat)) + (a1 - (a0 + (2 : Nat)))) = (a1 - (1 : Nat))) := by rw [Nat.min_eq_left (Nat.le_trans (Nat.le_of_lt h0) (Nat.sub_le _ _)), show a1 - (a0 + 2) = a1 - 1 - (a0 + 1) from by rw [Nat.sub_sub, Nat.add_comm 1]]; exact Nat.add_sub_cancel' h0
theorem om475 {a0 a1 a2 a3 a4 a5 a6 a7 a8 a9 a10 a11 a12 a13 : Nat} (h0 : ((a0 ≤ a1) ∧ (a2 ≤ a1))) (h1 : ((a3 ≤ a1) ∧ (a4 ≤ a1))) (h2 : (a5 ≤ (2 : Nat))) (h3 : (a6 ≤ (1 : Nat))) (h4 : (a7 ≤ (1 : Nat))) (h5 : (a8 ≤ (1 : Nat))) (h6 : (a9 ≤ (1 : Nat))) (h7 : (a10 ≤ (1 : Nat))) (h8 : (a11 ≤ (1 : Nat))) (h9 : (a12 = (1 : Nat))) (h10 : (a13 = (1 : Nat))) : ((((((((a12 + a10) + a0) + a5) + a11) + a3) + a13) ≤ (((2 : Nat) * a1) + (10 : Nat))) ∧ ((((((((((a6 + a12) + a7) + a10) + a2) + a8) + a9) + a11) + a4) + a13) ≤ (((2 : Nat) * a1) + (10 : Nat)))) := by lia
theorem om476 {a0 a1 a2 : Nat} (h0 : ((a0 ≤ a1) ∧ (a2 ≤ a1))) : ((a0 ≤ (((2 : Nat) * a1) + (10 : Nat))) ∧ (a2 ≤ (((2 : Nat) * a1) + (10 : Nat)))) := by grind
theorem om477 {a0 a1 : Nat} (h0 : (a0 = (9 : Nat))) (h1 : (a1 < (3 : Nat))) : (a1 < (a0 - (6 : Nat))) := by (simp_all; done)
theorem om478 : ((0 : Nat) < (3 : Nat)) := by (simp_all; done)
theorem om479 : ((1 : Nat) < (3 : Nat)) := by (simp_all; done)
theorem om480 : ((2 : Nat) < (3 : Nat)) := by (simp_all; done)
theorem om481 {a0 : Nat} (h0 : (a0 = (4 : Nat))) : ((2 : Nat) ≤ a0) := by (simp_all; done)
theorem om482 {a0 : Nat} (h0 : (a0 = (4 : Nat))) : ((a0 - (1 : Nat)) = (3 : Nat)) := by (subst_vars; rfl)
theorem om483 {a0 : Nat} (h0 : (a0 = (3 : Nat))) : ((2 : Nat) ≤ a0) := by (simp_all; done)
theorem om484 {a0 : Nat} (h0 : (a0 = (3 : Nat))) : ((a0 - (1 : Nat)) = (2 : Nat)) := by (subst_vars; rfl)
theorem om485 {a0 : Nat} (h0 : (a0 = (2 : Nat))) : ((2 : Nat) ≤ a0) := by (simp_all; done)
theorem om486 {a0 : Nat} (h0 : (a0 = (2 : Nat))) : ((a0 - (1 : Nat)) = (1 : Nat)) := by (subst_vars; rfl)
theorem om487 {a0 a1 a2 : Nat} (h0 : (a0 ≤ (100 : Nat))) (h1 : ((a1 ≤ a0) ∧ (a2 ≤ a0))) : ((a1 ≤ (100 : Nat)) ∧ (a2 ≤ (100 : Nat))) := by lia
theorem om488 {a0 a1 : Nat} (h0 : (a0 = (9 : Nat))) (h1 : (a1 < (9 : Nat))) : (a1 < a0) := by (simp_all; done)
theorem om489 {a0 : Nat} (h0 : ((0 : Nat) < a0)) : ((0 : Int) < ((a0 : Nat) : Int)) := by exact Int.ofNat_lt.mpr (by assumption)
theorem om490 {a0 : Nat} (h0 : (a0 ≤ ((4 : Nat) ^ (4 : Nat)))) : (((a0 : Nat) : Int) < (1073741824 : Int)) := by lia
theorem om491 {a0 : Nat} : (((((a0 : Nat) : Int) / (28 : Int)) % (4 : Int)) = ((((a0 / (28 : Nat)) % (4 : Nat)) : Nat) : Int)) := by rfl
theorem om492 {a0 a1 : Nat} (h0 : (¬ (a0 = ((a1 / (28 : Nat)) % (4 : Nat))))) : (((a0 : Nat) : Int) ≠ ((((a1 / (28 : Nat)) % (4 : Nat)) : Nat) : Int)) := by grind
theorem om493 {a0 : Nat} : (((((a0 : Nat) : Int) / (112 : Int)) % (4 : Int)) = ((((a0 / (112 : Nat)) % (4 : Nat)) : Nat) : Int)) := by rfl
theorem om494 {a0 a1 : Nat} : ((((((a0 : Nat) : Int) / (256 : Int)) + ((5 : Int) * ((a1 : Nat) : Int))) % (12 : Int)) = (((((a0 / (256 : Nat)) + ((5 : Nat) * a1)) % (12 : Nat)) : Nat) : Int)) := by rfl
theorem om495 {a0 a1 : Nat} : ((0 : Int) ≤ (((((a0 / (256 : Nat)) + ((5 : Nat) * a1)) % (12 : Nat)) : Nat) : Int)) := by exact Int.natCast_nonneg _
theorem om496 {a0 a1 : Nat} : ((((((a0 / (256 : Nat)) + ((5 : Nat) * a1)) % (12 : Nat)) : Nat) : Int) < ((2 : Int) ^ (63 : Nat))) := (Int.ofNat_lt (m := 9223372036854775808)).mpr (Nat.lt_trans (Nat.mod_lt _ (by decide)) (by decide))
theorem om497 {a0 a1 : Nat} : ((0 : Int) ≤ (((a0 : Nat) : Int) + ((a1 : Nat) : Int))) := by exact Int.natCast_nonneg _
theorem om498 {a1 a2 : Nat} {a0 : Int} (h0 : ((a0 % (4 : Int)) = ((a1 : Nat) : Int))) (h1 : (a2 ≤ (120432 : Nat))) : ((((a2 : Nat) : Int) + ((a1 : Nat) : Int)) ≤ (1114111 : Int)) := by lia
theorem om499 {a0 a1 : Nat} (h0 : (a0 < (4 : Nat))) (h1 : (a1 ≤ (120432 : Nat))) : ((((a1 : Nat) : Int) + ((a0 : Nat) : Int)) ≤ (1114111 : Int)) := by omega
theorem om500 {a1 : Nat} {a0 : Int} (h0 : ((a0 % (4 : Int)) = ((a1 : Nat) : Int))) : (((a1 : Nat) : Int) < ((2 : Int) ^ (63 : Nat))) := by lia
theorem om501 {a0 a1 : Nat} (h0 : ((a0 + (3 : Nat)) ≤ a1)) : ((a0 + (3 : Nat)) ≤ a1) := by omega
theorem om502 {a0 : Nat} : ((a0 + (2 : Nat)) ≠ a0) := by (simp_all; done)
theorem om503 {a0 : Nat} : ((a0 + (2 : Nat)) ≠ (a0 + (1 : Nat))) := by (simp_all; done)
theorem om504 {a0 a1 : Nat} (h0 : ((a0 + (3 : Nat)) ≤ a1)) : ((a0 + (2 : Nat)) < a1) := by assumption
theorem om505 {a0 a1 : Nat} (h0 : (a0 < a1)) : ((a1 + (2 : Nat)) ≠ a0) := by lia
theorem om506 {a0 : Nat} (h0 : (a0 = (9 : Nat))) : (a0 ≤ (1000000 : Nat)) := Nat.le_trans (Nat.le_of_eq h0) (by decide)
theorem om507 {a0 : Nat} (h0 : (a0 = (9 : Nat))) : ((a0 - (6 : Nat)) ≤ (1000000 : Nat)) := by (simp_all; done)
theorem om508 {a0 a1 : Nat} (h0 : ((a0 + (3 : Nat)) ≤ a1)) : (a0 ≤ (a1 + (1 : Nat))) := by lia
theorem om509 {a0 a1 a2 : Nat} (h0 : ((a0 + (3 : Nat)) ≤ a1)) (h1 : (a2 < a0)) : (a2 < a1) := by grind
theorem om510 {a0 a1 : Nat} (h0 : (a0 = (9 : Nat))) (h1 : (a1 < (a0 - (6 : Nat)))) : (a1 < (3 : Nat)) := by (simp_all; done)
theorem om511 {a0 : Nat} (h0 : (a0 < (3 : Nat))) : (a0 ≤ (3 : Nat)) := by exact Nat.le_of_lt (by assumption)
theorem om512 {a0 a1 : Nat} (h0 : (a0 < (3 : Nat))) (h1 : (a1 = ((4 : Nat) - a0))) : ((2 : Nat) ≤ a1) := by subst h1; exact Nat.le_sub_of_add_le (Nat.add_le_add_left (Nat.le_of_lt_succ h0) 2)
theorem om513 {a0 a1 : Nat} (h0 : (a0 = ((4 : Nat) - a1))) : (a0 ≤ (1000000 : Nat)) := by subst h0; exact Nat.le_trans (Nat.sub_le _ _) (by decide)
theorem om514 {a0 a1 : Nat} (h0 : ((a0 + (1 : Nat)) < a1)) : ((1 : Int) < ((a1 : Nat) : Int)) := by lia
theorem om515 {a0 a1 : Nat} (h0 : ((a0 + (1 : Nat)) < a1)) : ((((a1 : Nat) : Int) - (1 : Int)) = (((a1 - (1 : Nat)) : Nat) : Int)) := by lia
theorem om516 {a0 a1 a2 : Nat} (h0 : ((a0 + (1 : Nat)) < a1)) (h1 : (a0 = a2)) : (a2 < a1) := by lia
theorem om517 {a0 a1 a2 a3 : Nat} (h0 : (a0 = ((4 : Nat) - a1))) (h1 : ((a2 + (1 : Nat)) < a0)) (h2 : (a2 = a3)) : (((a3 : Nat) : Int) < ((2 : Int) ^ (63 : Nat))) := by subst h2; subst h0; exact (Int.ofNat_lt (m := 9223372036854775808)).mpr (Nat.lt_of_lt_of_le (Nat.lt_of_succ_lt h1) (Nat.le_trans (Nat.sub_le _ _) (by decide)))
theorem om518 {a0 : Nat} : ((0 : Int) ≤ (((a0 : Nat) : Int) + (1 : Int))) := by exact Int.natCast_nonneg _
theorem om519 {a0 a1 a2 a3 : Nat} (h0 : (a0 = ((4 : Nat) - a1))) (h1 : ((a2 + (1 : Nat)) < a0)) (h2 : (a2 = a3)) : ((((a3 : Nat) : Int) + (1 : Int)) < ((2 : Int) ^ (63 : Nat))) := by subst h2; subst h0; exact (Int.ofNat_lt (n := a2 + 1) (m := 9223372036854775808)).mpr (Nat.lt_of_lt_of_le h1 (Nat.le_trans (Nat.sub_le _ _) (by decide)))
theorem om520 {a0 a1 : Nat} (h0 : ((a0 ≤ (100 : Nat)) ∧ (a1 ≤ (100 : Nat)))) : ((a0 ≤ (10000 : Nat)) ∧ (a1 ≤ (10000 : Nat))) := by omega
theorem om521 {a0 a1 a2 : Nat} (h0 : (a0 = ((4 : Nat) - a1))) : ((min a2 a0) ≤ (999999 : Nat)) := by subst h0; exact Nat.le_trans (Nat.min_le_right _ _) (Nat.le_trans (Nat.sub_le _ _) (by decide))
theorem om522 {a0 a1 a2 : Nat} (h0 : (a0 = ((4 : Nat) - a1))) : ((((min a2 a0) + (1 : Nat)) + (a0 - (a2 + (2 : Nat)))) ≤ (1000000 : Nat)) := by subst h0; exact Nat.le_trans (Nat.add_le_add (Nat.succ_le_succ (Nat.le_trans (Nat.min_le_right _ _) (Nat.sub_le _ _))) (Nat.le_trans (Nat.sub_le _ _) (Nat.sub_le _ _))) (by decide)
theorem om523 {a0 a1 a2 a3 a4 : Nat} (h0 : ((a0 + (3 : Nat)) ≤ a1)) (h1 : (a1 < a2)) (h2 : ((a2 + (1 : Nat)) ≤ a3)) (h3 : (a4 = (a3 + (2 : Nat)))) : (a0 ≤ (a4 + (2 : Nat))) := by lia
theorem om524 {a0 a1 a2 a3 : Nat} (h0 : (a0 < a1)) (h1 : ((a1 + (1 : Nat)) ≤ a2)) (h2 : (a3 = (a2 + (2 : Nat)))) : (a0 < (a3 + (1 : Nat))) := by lia
theorem om525 {a0 a1 a2 a3 : Nat} (h0 : (a0 < a1)) (h1 : ((a1 + (1 : Nat)) ≤ a2)) (h2 : (a3 = (a2 + (2 : Nat)))) : (a0 < a3) := by lia
theorem om526 {a0 a1 a2 a3 a4 a5 : Nat} (h0 : ((a0 + (3 : Nat)) ≤ a1)) (h1 : (a1 < a2)) (h2 : ((a2 + (1 : Nat)) ≤ a3)) (h3 : (a4 = (a3 + (2 : Nat)))) (h4 : (a5 < a0)) : (a5 < (a4 + (1 : Nat))) := by grind
theorem om527 {a0 a1 a2 a3 a4 a5 : Nat} (h0 : ((a0 + (3 : Nat)) ≤ a1)) (h1 : (a1 < a2)) (h2 : ((a2 + (1 : Nat)) ≤ a3)) (h3 : (a4 = (a3 + (2 : Nat)))) (h4 : (a5 < a0)) : (a5 < a4) := by lia
theorem om528 {a0 a1 a2 a3 : Nat} (h0 : ((a0 + (3 : Nat)) ≤ a1)) (h1 : (a1 < a2)) (h2 : (a3 < a0)) : (a3 < a2) := by lia
theorem om529 {a0 : Nat} (h0 : (a0 = ((4 : Nat) - (3 : Nat)))) : ((0 : Nat) < a0) := by (simp_all; done)
theorem om530 {a0 : Nat} : ((min (9 : Nat) a0) ≤ (9 : Nat)) := by lia
theorem om531 {a0 : Nat} (h0 : (a0 ≤ (9 : Nat))) : ((a0 + ((9 : Nat) - a0)) = (9 : Nat)) := by exact Nat.add_sub_cancel' (by assumption)
theorem om532 {a0 : Nat} : ((Int.toNat (max (0 : Int) (min (32 : Int) ((64 : Int) - (if ((((3 : Int) * (((a0 % (64 : Nat)) : Nat) : Int)) - (64 : Int)) < (0 : Int)) then (-(((3 : Int) * (((a0 % (64 : Nat)) : Nat) : Int)) - (64 : Int))) else (((3 : Int) * (((a0 % (64 : Nat)) : Nat) : Int)) - (64 : Int))))))) ≤ (32 : Nat)) := Int.toNat_le.mpr (Int.max_le.mpr ⟨by decide, Int.min_le_left _ _⟩)
theorem om533 {a0 a1 a2 : Nat} (h0 : (a0 = (a1 + (9 : Nat)))) (h1 : (a2 = (a1 + (10 : Nat)))) : (a0 ≠ a2) := by (simp_all; done)
theorem om534 {a0 a1 a2 : Nat} (h0 : (a0 = (a1 + (9 : Nat)))) (h1 : (a2 = (a1 + (11 : Nat)))) : (a0 ≠ a2) := by (simp_all; done)
theorem om535 {a0 a1 a2 : Nat} (h0 : (a0 = (a1 + (10 : Nat)))) (h1 : (a2 < (9 : Nat))) : ((a1 + a2) ≠ a0) := by lia
theorem om536 {a0 a1 a2 : Nat} (h0 : (a0 = (a1 + (11 : Nat)))) (h1 : (a2 < (9 : Nat))) : ((a1 + a2) ≠ a0) := by lia
theorem om537 {a0 : Nat} (h0 : (a0 = (9 : Nat))) : ((5 : Nat) < a0) := by (simp_all; done)
theorem om538 {a0 : Nat} (h0 : (a0 ≤ (1000 : Nat))) : (a0 ≤ (10000 : Nat)) := by exact Nat.le_trans (by assumption) (by decide)
theorem om539 {a0 a1 : Nat} (h0 : (a0 < a1)) : (a0 ≠ a1) := by exact Nat.ne_of_lt (by assumption)
theorem om540 {a0 a1 a2 : Nat} (h0 : (a0 < a1)) (h1 : (a1 < a2)) : (a0 ≠ a2) := by lia
theorem om541 {a0 a1 a2 a3 : Nat} (h0 : ((a0 = a1) ↔ (a2 = a3))) : ((((a0 : Nat) : Int) = ((a1 : Nat) : Int)) ↔ (((a2 : Nat) : Int) = ((a3 : Nat) : Int))) := by lia
theorem om542 {a0 a1 a2 a3 a4 : Nat} (h0 : (a0 ≤ a1)) (h1 : (a1 ≤ a2)) (h2 : (a2 ≤ a3)) (h3 : (a4 < a0)) : (a4 < a3) := by lia
theorem om543 {a0 a1 a2 a3 : Nat} (h0 : (a0 ≤ a1)) (h1 : (a1 ≤ a2)) (h2 : (a3 < a0)) : (a3 < a2) := by lia
theorem om544 {a0 : Nat} (h0 : (a0 = (9 : Nat))) : ((min (4 : Nat) a0) = (4 : Nat)) := by (subst_vars; rfl)
theorem om545 {a0 a1 a2 a3 a4 a5 a6 : Nat} (h0 : (a0 ≤ a1)) (h1 : (a1 ≤ a2)) (h2 : (a2 ≤ a3)) (h3 : (a3 ≤ a4)) (h4 : (a4 ≤ a5)) (h5 : (a6 < a0)) : (a6 < a5) := by lia
theorem om546 {a0 a1 a2 a3 a4 a5 : Nat} (h0 : (a0 ≤ a1)) (h1 : (a1 ≤ a2)) (h2 : (a2 ≤ a3)) (h3 : (a3 ≤ a4)) (h4 : (a5 < a0)) : (a5 < a4) := by lia
theorem om547 {a0 a1 a2 a3 a4 a5 a6 a7 : Nat} (h0 : (a0 ≤ a1)) (h1 : (a1 ≤ a2)) (h2 : (a2 ≤ a3)) (h3 : (a3 ≤ a4)) (h4 : (a4 ≤ a5)) (h5 : (a5 ≤ a6)) (h6 : (a7 < a0)) : (a7 < (a6 + (1 : Nat))) := Nat.lt_succ_of_lt (Nat.lt_of_lt_of_le h6 (Nat.le_trans h0 (Nat.le_trans h1 (Nat.le_trans h2 (Nat.le_trans h3 (Nat.le_trans h4 h5))))))
theorem om548 {a0 a1 a2 a3 a4 a5 a6 a7 : Nat} (h0 : (a0 ≤ a1)) (h1 : (a1 ≤ a2)) (h2 : (a2 ≤ a3)) (h3 : (a3 ≤ a4)) (h4 : (a4 ≤ a5)) (h5 : (a5 ≤ a6)) (h6 : (a7 < a0)) : (a7 < a6) := by lia
theorem om549 {a0 : Nat} (h0 : (a0 ≤ (1000 : Nat))) : (a0 ≤ (1000000 : Nat)) := by exact Nat.le_trans (by assumption) (by decide)
theorem om550 {a0 : Nat} : ((min (9 : Nat) a0) ≤ (1000000 : Nat)) := by lia
theorem om551 {a0 : Int} : ((a0 % (1000000 : Int)) = (((Int.toNat (a0 % (1000000 : Int))) : Nat) : Int)) := by grind
theorem om552 {a0 : Nat} (h0 : (a0 ≤ (9 : Nat))) : (a0 ≤ (1000000 : Nat)) := by exact Nat.le_trans (by assumption) (by decide)
theorem om553 {a0 : Nat} (h0 : (a0 ≤ (9 : Nat))) : ((a0 + ((9 : Nat) - a0)) ≤ (1000000 : Nat)) := by (simp_all; done)
theorem om554 {a0 : Nat} : ((min (4 : Nat) a0) ≤ (1000000 : Nat)) := by lia
theorem om555 {a0 : Nat} : ((((a0 : Nat) : Int) % (64 : Int)) = (((a0 % (64 : Nat)) : Nat) : Int)) := by rfl
theorem om556 {a0 : Nat} : ((Int.natAbs (((a0 % (64 : Nat)) : Nat) : Int)) < ((2 : Nat) ^ (64 : Nat))) := by rw [Int.natAbs_natCast]; exact Nat.lt_trans (Nat.mod_lt _ (by decide)) (by decide)
theorem om557 {a0 : Nat} : ((((((a0 : Nat) : Int) / (64 : Int)) % (5 : Int)) - (2 : Int)) = (((((a0 / (64 : Nat)) % (5 : Nat)) : Nat) : Int) - (2 : Int))) := by rfl
theorem om558 {a0 : Nat} : ((Int.natAbs (((((a0 / (64 : Nat)) % (5 : Nat)) : Nat) : Int) - (2 : Int))) < ((2 : Nat) ^ (64 : Nat))) := (by decide : ∀ k < 5, Int.natAbs (((k : Nat) : Int) - 2) < 2 ^ 64) _ (Nat.mod_lt _ (by decide))
theorem om559 {a0 : Nat} : ((max (0 : Int) (min (32 : Int) ((64 : Int) - (if ((((3 : Int) * (((a0 % (64 : Nat)) : Nat) : Int)) - (64 : Int)) < (0 : Int)) then (-(((3 : Int) * (((a0 % (64 : Nat)) : Nat) : Int)) - (64 : Int))) else (((3 : Int) * (((a0 % (64 : Nat)) : Nat) : Int)) - (64 : Int)))))) = (((Int.toNat (max (0 : Int) (min (32 : Int) ((64 : Int) - (if ((((3 : Int) * (((a0 % (64 : Nat)) : Nat) : Int)) - (64 : Int)) < (0 : Int)) then (-(((3 : Int) * (((a0 % (64 : Nat)) : Nat) : Int)) - (64 : Int))) else (((3 : Int) * (((a0 % (64 : Nat)) : Nat) : Int)) - (64 : Int))))))) : Nat) : Int)) := by (simp_all; done)
theorem om560 {a0 a1 a2 : Nat} (h0 : (a0 < a1)) : (a0 < (a1 + (a2 + (2 : Nat)))) := by exact Nat.lt_add_right _ (by assumption)
theorem om561 {a0 a1 a2 : Nat} (h0 : (a0 < a1)) : (a0 < (a1 + (a2 + (1 : Nat)))) := by exact Nat.lt_add_right _ (by assumption)
theorem om562 {a0 a1 a2 : Nat} (h0 : (a0 < a1)) : (a0 < (a1 + a2)) := by exact Nat.lt_add_right _ (by assumption)
theorem om563 {a0 : Nat} (h0 : (a0 = (9 : Nat))) : ((9 : Nat) < (a0 + (2 : Nat))) := by (simp_all; done)
theorem om564 {a0 : Nat} (h0 : (a0 = (9 : Nat))) : ((9 : Nat) < (a0 + (1 : Nat))) := by (simp_all; done)
theorem om565 {a0 : Nat} (h0 : (a0 = (9 : Nat))) : (a0 ≤ (9 : Nat)) := by exact Nat.le_of_eq (by assumption)
theorem om566 {a0 : Nat} (h0 : (a0 = (9 : Nat))) : ((10 : Nat) < (a0 + (2 : Nat))) := by (simp_all; done)
theorem om567 {a0 a1 a2 a3 : Nat} (h0 : (a0 < a1)) (h1 : (a2 < a1)) (h2 : (a3 < a1)) : ((a0 < (a1 + (10 : Nat))) ∧ ((a2 < (a1 + (10 : Nat))) ∧ ((a3 < (a1 + (10 : Nat))) ∧ ((a1 + (10 : Nat)) < (a1 + (11 : Nat)))))) := ⟨Nat.lt_add_right _ h0, Nat.lt_add_right _ h1, Nat.lt_add_right _ h2, Nat.lt_succ_self _⟩
theorem om568 {a0 : Nat} : ((a0 + (10 : Nat)) ≠ (a0 + (11 : Nat))) := by grind
theorem om569 {a0 a1 : Nat} (h0 : (a0 = (9 : Nat))) (h1 : (a1 < (9 : Nat))) : (a1 < (a0 + (2 : Nat))) := by lia
theorem om570 {a0 a1 : Nat} (h0 : (a0 = (9 : Nat))) (h1 : (a1 < (9 : Nat))) : (a1 < (a0 + (1 : Nat))) := by lia
theorem om571 {a0 a1 : Nat} : (a0 ≤ (a0 + a1)) := by (simp_all; done)
theorem om572 {a0 a1 a2 : Nat} (h0 : ((a0 + (a1 + (1 : Nat))) ≤ a2)) : (a0 ≤ a2) := by lia
theorem om573 {a0 a1 a2 a3 : Nat} (h0 : (a0 ≤ a1)) (h1 : (a2 = a0)) (h2 : (a2 = a3)) : (a3 ≤ a1) := by (simp_all; done)
theorem om574 {a0 a1 : Nat} (h0 : (a0 < a1)) : ((a1 - a0) = ((a1 - (a0 + (1 : Nat))) + (1 : Nat))) := (Nat.sub_add_cancel (Nat.sub_pos_of_lt h0)).symm
theorem om575 {a0 a1 a2 a3 : Nat} (h0 : ((a0 + a1) ≤ a2)) (h1 : (a3 ≤ a1)) : ((a0 + a3) ≤ a2) := by lia
theorem om576 {a0 a1 a2 : Nat} (h0 : ((a0 + a1) ≤ a2)) : (a1 ≤ a2) := by grind
theorem om577 {a0 a1 a2 : Nat} (h0 : ((a0 + a1) ≤ a2)) : (a0 ≤ a2) := by lia
theorem om578 {a0 a1 : Nat} : ((a0 + (a1 + (1 : Nat))) = ((a0 + (1 : Nat)) + a1)) := by grind
theorem om579 {a0 : Nat} (h0 : (((0 : Nat) ≤ a0) ∧ (a0 < ((0 : Nat) + (16 : Nat))))) : (((65024 : Int) ≤ ((65024 : Int) + ((a0 : Nat) : Int))) ∧ (((65024 : Int) + ((a0 : Nat) : Int)) < (65040 : Int))) := by lia
theorem om580 {a0 : Int} (h0 : (a0 < (65040 : Int))) : (((0 : Nat) ≤ (Int.toNat (a0 - (65024 : Int)))) ∧ ((Int.toNat (a0 - (65024 : Int))) < ((0 : Nat) + (16 : Nat)))) := by lia
theorem om581 {a0 : Int} (h0 : ((65024 : Int) ≤ a0)) : (((65024 : Int) + (((Int.toNat (a0 - (65024 : Int))) : Nat) : Int)) = a0) := by grind
theorem om582 {a0 : Nat} (h0 : (a0 = (11 : Nat))) : (a0 ≤ (16777216 : Nat)) := Nat.le_trans (Nat.le_of_eq h0) (by decide)
theorem om583 {a0 : Nat} (h0 : (a0 = (11 : Nat))) : ((a0 + (16 : Nat)) ≤ (16777216 : Nat)) := Nat.le_trans (Nat.add_le_add (Nat.le_of_eq h0) (Nat.le_refl _)) (by decide)
theorem om584 {a0 : Nat} (h0 : (¬ ((((63 : Nat) : Nat) : Int) < ((a0 : Nat) : Int)))) : (a0 ≤ (63 : Nat)) := by lia
theorem om585 {a0 a1 : Nat} (h0 : (a0 ≤ (63 : Nat))) (h1 : (a1 = a0)) : (a1 ≤ (1000 : Nat)) := by lia
end Mine
end

section
namespace Mine

/-- the diagram as it grows: its nodes (number 256 + place), and the marks known -/
structure BD where
  nodes : List (Nat × Nat × Nat)
  known : Nat → Option Nat

def markOf (l lo hi : Nat) : Nat := l + 8 * (lo + 1024 * hi)

def nodeF (l lo hi : Nat) (B : BD) : Nat × BD :=
  if lo = hi then (lo, B) else
  match B.known (markOf l lo hi) with
  | some i => (i, B)
  | none => (256 + B.nodes.length, ⟨B.nodes ++ [(l, lo, hi)], fun m => if m = markOf l lo hi then some (256 + B.nodes.length) else B.known m⟩)

def topOf (B : BD) (x : Nat) : Nat × Nat × Nat := if 256 ≤ x then B.nodes.getD (x - 256) (0, 0, 0) else (4, x, x)
def cut (l x : Nat) (t : Nat × Nat × Nat) : Nat × Nat × Nat := if l < t.1 then (l, x, x) else t

def applyF (bit : Bool → Bool → Nat) : Nat → Nat → Nat → BD → Nat × BD
  | 0, _, _, B => (0, B)
  | n + 1, x, y, B =>
    if x < 256 ∧ y < 256 then (bit (x != 0) (y != 0), B) else
    let l := min (topOf B x).1 (topOf B y).1
    let t := cut l x (topOf B x)
    let u := cut l y (topOf B y)
    let p := applyF bit n t.2.1 u.2.1 B
    let q := applyF bit n t.2.2 u.2.2 p.2
    nodeF l p.1 q.1 q.2

/-- x is a number of the diagram whose letter (if it asks one) is l or later -/
def Valid (ns : List (Nat × Nat × Nat)) (l x : Nat) : Prop := x < 2 ∨ (256 ≤ x ∧ ∃ v lo hi, ns[x - 256]? = some (v, lo, hi) ∧ l ≤ v)

structure Inv (B : BD) : Prop where
  low : ∀ i l lo hi, B.nodes[i]? = some (l, lo, hi) → l < 4 ∧ lo ≠ hi ∧ lo < 256 + i ∧ hi < 256 + i ∧ Valid B.nodes (l + 1) lo ∧ Valid B.nodes (l + 1) hi
  nodup : B.nodes.Nodup
  known : ∀ m i, B.known m = some i ↔ ∃ l lo hi, m = markOf l lo hi ∧ 256 ≤ i ∧ B.nodes[i - 256]? = some (l, lo, hi)
  size : B.nodes.length ≤ 700

theorem Valid.lt {ns : List (Nat × Nat × Nat)} {l x : Nat} (h : Valid ns l x) : x < 256 + ns.length := by
  rcases h with h | ⟨h, v, lo, hi, e, _⟩
  · (exact om0 h)
  · have := (List.getElem?_eq_some_iff.mp e).1; (exact om1 this)
theorem Valid.mono {ns : List (Nat × Nat × Nat)} {l l' x : Nat} (h : Valid ns l x) (hl : l' ≤ l) : Valid ns l' x := by
  rcases h with h | ⟨h, v, lo, hi, e, hv⟩
  · exact .inl h
  · exact .inr ⟨h, v, lo, hi, e, Nat.le_trans hl hv⟩
theorem Valid.grow {ns more : List (Nat × Nat × Nat)} {l x : Nat} (h : Valid ns l x) : Valid (ns ++ more) l x := by
  rcases h with h | ⟨h, v, lo, hi, e, hv⟩
  · exact .inl h
  · refine .inr ⟨h, v, lo, hi, ?_, hv⟩
    rw [List.getElem?_append_left (List.getElem?_eq_some_iff.mp e).1]; exact e

theorem markOf_inj {l lo hi l' lo' hi' : Nat} (h1 : l < 8) (h2 : l' < 8) (h3 : lo < 1024) (h4 : lo' < 1024) (h : markOf l lo hi = markOf l' lo' hi') : l = l' ∧ lo = lo' ∧ hi = hi' := by
  unfold markOf at h
  (exact om2 h1 h2 h3 h4 h)

theorem Inv.empty : Inv ⟨[], fun _ => none⟩ where
  low := fun i l lo hi h => by simp at h
  nodup := List.nodup_nil
  known := fun m i => by simp
  size := by simp

/-- what one call of nodeF does -/
theorem nodeF_spec {l lo hi : Nat} {B : BD} (I : Inv B) (hl : l < 4) (h1 : Valid B.nodes (l + 1) lo) (h2 : Valid B.nodes (l + 1) hi) (hsz : B.nodes.length + 1 ≤ 700) :
    Inv (nodeF l lo hi B).2 ∧ (∃ more, (nodeF l lo hi B).2.nodes = B.nodes ++ more ∧ more.length ≤ 1) ∧ Valid (nodeF l lo hi B).2.nodes l (nodeF l lo hi B).1 ∧
    (lo = hi → (nodeF l lo hi B).1 = lo) ∧ (lo ≠ hi → 256 ≤ (nodeF l lo hi B).1 ∧ (nodeF l lo hi B).2.nodes[(nodeF l lo hi B).1 - 256]? = some (l, lo, hi)) := by
  have b1 := h1.lt
  have b2 := h2.lt
  unfold nodeF
  by_cases he : lo = hi
  · rw [if_pos he]
    exact ⟨I, ⟨[], by simp, by simp⟩, h1.mono (Nat.le_succ l), fun _ => rfl, fun h => absurd he h⟩
  rw [if_neg he]
  cases hk : B.known (markOf l lo hi) with
  | some i =>
    obtain ⟨l', lo', hi', hm, hi256, hn⟩ := (I.known _ _).mp hk
    have hlow := I.low _ _ _ _ hn
    have hlt := (List.getElem?_eq_some_iff.mp hn).1
    have hs := I.size
    obtain ⟨rfl, rfl, rfl⟩ := markOf_inj (by (exact om3 hl)) (by omega) (by (exact om4 hsz b1)) (by omega) hm
    exact ⟨I, ⟨[], by simp, by simp⟩, .inr ⟨hi256, _, _, _, hn, Nat.le_refl _⟩, fun h => absurd h he, fun _ => ⟨hi256, hn⟩⟩
  | none =>
    have hnew : ∀ i, B.nodes[i]? ≠ some (l, lo, hi) := fun i hi' => by
      have := (I.known (markOf l lo hi) (256 + i)).mpr ⟨l, lo, hi, rfl, by (exact om5), by rw [Nat.add_sub_cancel_left]; exact hi'⟩
      rw [hk] at this; cases this
    refine ⟨⟨?_, ?_, ?_, ?_⟩, ⟨[(l, lo, hi)], rfl, by simp⟩, ?_, fun h => absurd h he, fun _ => ⟨by simp, by simp⟩⟩
    · intro i a b c h
      by_cases hi' : i < B.nodes.length
      · rw [List.getElem?_append_left hi'] at h
        obtain ⟨q1, q2, q3, q4, q5, q6⟩ := I.low i a b c h
        exact ⟨q1, q2, q3, q4, q5.grow, q6.grow⟩
      · rw [List.getElem?_append_right (Nat.not_lt.mp hi')] at h
        have hz : i - B.nodes.length = 0 := by
          have := (List.getElem?_eq_some_iff.mp h).1
          simp at this; (exact om6 this)
        rw [hz] at h
        simp at h
        obtain ⟨rfl, rfl, rfl⟩ := h
        exact ⟨hl, he, by (exact om7 b1 hi'), by (exact om7 b2 hi'), h1.grow, h2.grow⟩
    · rw [List.nodup_append]
      refine ⟨I.nodup, by simp, fun a ha b hb => ?_⟩
      rw [List.mem_singleton.mp hb]
      intro q
      rw [q] at ha
      obtain ⟨i, hi'⟩ := List.getElem?_of_mem ha
      exact hnew i hi'
    · intro m i
      show (if m = markOf l lo hi then some (256 + B.nodes.length) else B.known m) = some i ↔ _
      by_cases hm : m = markOf l lo hi
      · rw [if_pos hm]
        constructor
        · intro q; cases q
          exact ⟨l, lo, hi, hm, by (exact om5), by rw [Nat.add_sub_cancel_left]; simp⟩
        · rintro ⟨a, b, c, hm', h256, hn⟩
          by_cases hi' : i - 256 < B.nodes.length
          · rw [List.getElem?_append_left hi'] at hn
            have := (I.known m i).mpr ⟨a, b, c, hm', h256, hn⟩
            rw [hm, hk] at this; cases this
          · have : i - 256 < (B.nodes ++ [(l, lo, hi)]).length := (List.getElem?_eq_some_iff.mp hn).1
            simp at this
            congr 1; (exact om8 h256 hi' this)
      · rw [if_neg hm, I.known]
        constructor
        · rintro ⟨a, b, c, hm', h256, hn⟩
          refine ⟨a, b, c, hm', h256, ?_⟩
          rw [List.getElem?_append_left (List.getElem?_eq_some_iff.mp hn).1]; exact hn
        · rintro ⟨a, b, c, hm', h256, hn⟩
          by_cases hi' : i - 256 < B.nodes.length
          · rw [List.getElem?_append_left hi'] at hn
            exact ⟨a, b, c, hm', h256, hn⟩
          · exfalso
            rw [List.getElem?_append_right (Nat.not_lt.mp hi')] at hn
            have hz : i - 256 - B.nodes.length = 0 := by
              have := (List.getElem?_eq_some_iff.mp hn).1
              simp at this; (exact om9 this)
            rw [hz] at hn
            simp at hn
            obtain ⟨rfl, rfl, rfl⟩ := hn
            exact hm hm'
    · show (B.nodes ++ [(l, lo, hi)]).length ≤ 700
      simp; (exact om10 hsz)
    · refine .inr ⟨by simp, l, lo, hi, by simp, Nat.le_refl _⟩
end Mine
end

section
namespace Mine

/-- which of the two a number asks for -/
def evF (ns : List (Nat × Nat × Nat)) (e : Nat → Bool) : Nat → Nat → Bool
  | 0, x => x != 0
  | n + 1, x => if x < 256 then x != 0 else evF ns e n (if e (ns.getD (x - 256) (0, 0, 0)).1 then (ns.getD (x - 256) (0, 0, 0)).2.2 else (ns.getD (x - 256) (0, 0, 0)).2.1)

abbrev Low (ns : List (Nat × Nat × Nat)) : Prop := ∀ (i l lo hi : Nat), ns[i]? = some (l, lo, hi) → l < 4 ∧ Valid ns (l + 1) lo ∧ Valid ns (l + 1) hi
theorem Inv.lows {B : BD} (I : Inv B) : Low B.nodes := fun i l lo hi h => let ⟨a, _, _, _, b, c⟩ := I.low i l lo hi h; ⟨a, b, c⟩

theorem getD_some {ns : List (Nat × Nat × Nat)} {i : Nat} {t : Nat × Nat × Nat} (h : ns[i]? = some t) : ns.getD i (0, 0, 0) = t := by
  rw [List.getD_eq_getElem?_getD, h]; rfl

theorem evF_s {ns : List (Nat × Nat × Nat)} {e : Nat → Bool} {n x : Nat} (h : x < 256) : evF ns e (n + 1) x = (x != 0) := by
  unfold evF; rw [if_pos h]
theorem evF_n {ns : List (Nat × Nat × Nat)} {e : Nat → Bool} {n x v lo hi : Nat} (hx : 256 ≤ x) (h : ns[x - 256]? = some (v, lo, hi)) : evF ns e (n + 1) x = evF ns e n (if e v then hi else lo) := by
  rw [evF, if_neg (by (exact om132 hx)), getD_some h]

theorem evF_fuel {ns : List (Nat × Nat × Nat)} (L : Low ns) (e : Nat → Bool) : ∀ (n m l x : Nat), Valid ns l x → 4 ≤ n + l → 4 ≤ m + l → evF ns e (n + 1) x = evF ns e (m + 1) x
  | n, m, l, x, hv, hn, hm => by
    rcases hv with hv | ⟨hx, v, lo, hi, e1, hlv⟩
    · rw [evF_s (by (exact om130 hv)), evF_s (by (exact om130 hv))]
    · rw [evF_n hx e1, evF_n hx e1]
      obtain ⟨h4, hlo, hhi⟩ := L _ _ _ _ e1
      match n, m with
      | 0, _ => (exact (om165 hlv h4 hn).elim)
      | _, 0 => (exact (om165 hlv h4 hm).elim)
      | n + 1, m + 1 =>
        cases he : e v with
        | true => exact evF_fuel L e n m (v + 1) hi hhi (by (exact om166 hlv hn)) (by (exact om166 hlv hm))
        | false => exact evF_fuel L e n m (v + 1) lo hlo (by (exact om166 hlv hn)) (by (exact om166 hlv hm))

theorem evF_grow {ns more : List (Nat × Nat × Nat)} (L : Low ns) (e : Nat → Bool) : ∀ (n l x : Nat), Valid ns l x → evF (ns ++ more) e n x = evF ns e n x
  | 0, l, x, _ => rfl
  | n + 1, l, x, hv => by
    rcases hv with hv | ⟨hx, v, lo, hi, e1, hlv⟩
    · rw [evF_s (by (exact om130 hv)), evF_s (by (exact om130 hv))]
    · have e2 : (ns ++ more)[x - 256]? = some (v, lo, hi) := by rw [List.getElem?_append_left (List.getElem?_eq_some_iff.mp e1).1]; exact e1
      obtain ⟨h4, hlo, hhi⟩ := L _ _ _ _ e1
      rw [evF_n hx e1, evF_n hx e2]
      cases he : e v with
      | true => exact evF_grow L e n (v + 1) hi hhi
      | false => exact evF_grow L e n (v + 1) lo hlo

def ev (ns : List (Nat × Nat × Nat)) (e : Nat → Bool) (x : Nat) : Bool := evF ns e 5 x

theorem ev_small {ns : List (Nat × Nat × Nat)} {e : Nat → Bool} {x : Nat} (h : x < 256) : ev ns e x = (x != 0) := by
  unfold ev evF; rw [if_pos h]
theorem ev_node {ns : List (Nat × Nat × Nat)} (L : Low ns) {e : Nat → Bool} {x v lo hi : Nat} (hx : 256 ≤ x) (h : ns[x - 256]? = some (v, lo, hi)) : ev ns e x = ev ns e (if e v then hi else lo) := by
  obtain ⟨h4, hlo, hhi⟩ := L _ _ _ _ h
  unfold ev
  rw [evF_n hx h]
  cases he : e v with
  | true => exact evF_fuel L e 3 4 (v + 1) hi hhi (by (exact om167)) (by (exact om168))
  | false => exact evF_fuel L e 3 4 (v + 1) lo hlo (by (exact om167)) (by (exact om168))
theorem ev_grow {ns more : List (Nat × Nat × Nat)} (L : Low ns) {e : Nat → Bool} {l x : Nat} (h : Valid ns l x) : ev (ns ++ more) e x = ev ns e x := evF_grow L e 5 l x h

theorem nodeF_ev {l lo hi : Nat} {B : BD} (I : Inv B) (hl : l < 4) (h1 : Valid B.nodes (l + 1) lo) (h2 : Valid B.nodes (l + 1) hi) (hsz : B.nodes.length + 1 ≤ 700) (e : Nat → Bool) :
    ev (nodeF l lo hi B).2.nodes e (nodeF l lo hi B).1 = ev B.nodes e (if e l then hi else lo) := by
  obtain ⟨I', ⟨more, hm, _⟩, hv, heq, hne⟩ := nodeF_spec I hl h1 h2 hsz
  by_cases h : lo = hi
  · have : (nodeF l lo hi B).1 = lo := heq h
    rw [this, hm]
    subst h
    rw [ev_grow I.lows h1]
    split <;> rfl
  · obtain ⟨h3, h4⟩ := hne h
    rw [ev_node I'.lows h3 h4, hm]
    split
    · exact ev_grow I.lows h2
    · exact ev_grow I.lows h1

theorem topOf_spec {B : BD} (I : Inv B) {l x : Nat} (h : Valid B.nodes l x) (hl : l ≤ 4) : l ≤ (topOf B x).1 ∧ (topOf B x).1 ≤ 4 ∧ ((topOf B x).1 = 4 → x < 2 ∧ topOf B x = (4, x, x)) ∧
    ((topOf B x).1 < 4 → 256 ≤ x ∧ B.nodes[x - 256]? = some (topOf B x)) := by
  unfold topOf
  rcases h with h | ⟨hx, v, lo, hi, e, hlv⟩
  · rw [if_neg (by (exact om169 h))]
    exact ⟨hl, Nat.le_refl _, fun _ => ⟨h, rfl⟩, fun q => absurd q (by omega)⟩
  · rw [if_pos hx, getD_some e]
    have h4 := (I.low _ _ _ _ e).1
    exact ⟨hlv, by simp; (exact om45 h4), fun q => by simp at q; (exact (om170 h4 q).elim), fun _ => ⟨hx, e⟩⟩

theorem cut_spec {B : BD} (I : Inv B) {l x : Nat} (h : Valid B.nodes l x) (hl : l ≤ (topOf B x).1) (hl4 : l < 4) :
    Valid B.nodes (l + 1) (cut l x (topOf B x)).2.1 ∧ Valid B.nodes (l + 1) (cut l x (topOf B x)).2.2 ∧
    ∀ e, ev B.nodes e x = ev B.nodes e (if e l then (cut l x (topOf B x)).2.2 else (cut l x (topOf B x)).2.1) := by
  obtain ⟨h1, h2, h3, h4⟩ := topOf_spec I h (by (exact om45 hl4))
  generalize topOf B x = t at *
  obtain ⟨tv, tlo, thi⟩ := t
  simp only at hl h1 h2 h3 h4
  unfold cut
  by_cases hc : l < tv
  · rw [if_pos hc]
    have hv : Valid B.nodes (l + 1) x := by
      by_cases h5 : tv < 4
      · obtain ⟨hx, e⟩ := h4 h5
        exact .inr ⟨hx, _, _, _, e, hc⟩
      · exact .inl (h3 (by (exact om171 h2 h5))).1
    exact ⟨hv, hv, fun e => by simp⟩
  · rw [if_neg hc]
    have heq : tv = l := by (exact om172 hl hc)
    subst heq
    obtain ⟨hx, e⟩ := h4 (by (exact om173 hl4))
    obtain ⟨q1, q2, q3, q4, q5, q6⟩ := I.low _ _ _ _ e
    exact ⟨q5, q6, fun en => ev_node I.lows hx e⟩

theorem applyF_spec (f : Bool → Bool → Bool) : ∀ (n l x y : Nat) (B : BD), Inv B → Valid B.nodes l x → Valid B.nodes l y → l ≤ 4 → 5 ≤ n + l → B.nodes.length + 2 ^ (4 - l) ≤ 700 →
    Inv (applyF (fun a b => (f a b).toNat) n x y B).2 ∧ (∃ more, (applyF (fun a b => (f a b).toNat) n x y B).2.nodes = B.nodes ++ more ∧ more.length + 1 ≤ 2 ^ (4 - l)) ∧
    Valid (applyF (fun a b => (f a b).toNat) n x y B).2.nodes l (applyF (fun a b => (f a b).toNat) n x y B).1 ∧
    ∀ e, ev (applyF (fun a b => (f a b).toNat) n x y B).2.nodes e (applyF (fun a b => (f a b).toNat) n x y B).1 = f (ev B.nodes e x) (ev B.nodes e y)
  | 0, l, x, y, B, I, hx, hy, hl, hn, hs => by (exact (om174 hl hn).elim)
  | n + 1, l, x, y, B, I, hx, hy, hl, hn, hs => by
    unfold applyF
    by_cases h : x < 256 ∧ y < 256
    · rw [if_pos h]
      refine ⟨I, ⟨[], by simp, by simp; exact Nat.one_le_two_pow⟩, .inl ?_, fun e => ?_⟩
      · show (f (x != 0) (y != 0)).toNat < 2
        exact Bool.toNat_lt _
      · rw [ev_small h.1, ev_small h.2]
        show ev _ e (f (x != 0) (y != 0)).toNat = _
        rw [ev_small (by have := Bool.toNat_lt (f (x != 0) (y != 0)); (exact om130 this))]
        cases f (x != 0) (y != 0) <;> rfl
    · rw [if_neg h]
      simp only []
      obtain ⟨a1, a2, a3, a4⟩ := topOf_spec I hx hl
      obtain ⟨b1, b2, b3, b4⟩ := topOf_spec I hy hl
      generalize hl0 : min (topOf B x).1 (topOf B y).1 = l0
      have hl0' : l ≤ l0 ∧ l0 ≤ (topOf B x).1 ∧ l0 ≤ (topOf B y).1 := by (exact om175 a1 b1 hl0)
      have hl04 : l0 < 4 := by
        rcases Nat.lt_or_ge l0 4 with q | q
        · exact q
        · have c1 := a3 (by (exact om176 a2 hl0' q))
          have c2 := b3 (by (exact om177 b2 hl0' q))
          omega
      have hx0 : Valid B.nodes l0 x := by
        by_cases h5 : (topOf B x).1 < 4
        · obtain ⟨hx', e⟩ := a4 h5; exact .inr ⟨hx', _, _, _, e, hl0'.2.1⟩
        · exact .inl (a3 (by (exact om171 a2 h5))).1
      have hy0 : Valid B.nodes l0 y := by
        by_cases h5 : (topOf B y).1 < 4
        · obtain ⟨hy', e⟩ := b4 h5; exact .inr ⟨hy', _, _, _, e, hl0'.2.2⟩
        · exact .inl (b3 (by (exact om171 b2 h5))).1
      obtain ⟨c1, c2, c3⟩ := cut_spec I hx0 hl0'.2.1 hl04
      obtain ⟨d1, d2, d3⟩ := cut_spec I hy0 hl0'.2.2 hl04
      generalize cut l0 x (topOf B x) = t at c1 c2 c3 ⊢
      generalize cut l0 y (topOf B y) = u at d1 d2 d3 ⊢
      have hp2 : 2 ^ (4 - l0) = 2 * 2 ^ (4 - (l0 + 1)) := by
        rw [show 4 - l0 = (4 - (l0 + 1)) + 1 by (exact om122 hl04), Nat.pow_succ]; (exact om178)
      have hp3 : 2 ^ (4 - l0) ≤ 2 ^ (4 - l) := Nat.pow_le_pow_right (by decide) (by (exact om179 hl0'))
      obtain ⟨I1, ⟨m1, e1, k1⟩, v1, s1⟩ := applyF_spec f n (l0 + 1) t.2.1 u.2.1 B I c1 d1 (by (exact om135 hl04)) (by (exact om180 hn hl0')) (by (exact om181 hs hp2 hp3))
      generalize applyF (fun a b => (f a b).toNat) n t.2.1 u.2.1 B = p at I1 e1 v1 s1 ⊢
      have c2' : Valid p.2.nodes (l0 + 1) t.2.2 := by rw [e1]; exact c2.grow
      have d2' : Valid p.2.nodes (l0 + 1) u.2.2 := by rw [e1]; exact d2.grow
      have len1 : p.2.nodes.length = B.nodes.length + m1.length := by rw [e1, List.length_append]
      obtain ⟨I2, ⟨m2, e2, k2⟩, v2, s2⟩ := applyF_spec f n (l0 + 1) t.2.2 u.2.2 p.2 I1 c2' d2' (by (exact om135 hl04)) (by (exact om180 hn hl0')) (by (exact om182 hs hp2 hp3 k1 len1))
      generalize applyF (fun a b => (f a b).toNat) n t.2.2 u.2.2 p.2 = q at I2 e2 v2 s2 ⊢
      have v1' : Valid q.2.nodes (l0 + 1) p.1 := by rw [e2]; exact v1.grow
      have len2 : q.2.nodes.length = p.2.nodes.length + m2.length := by rw [e2, List.length_append]
      obtain ⟨I3, ⟨m3, e3, k3⟩, v3, _, _⟩ := nodeF_spec (l := l0) I2 hl04 v1' v2 (by (exact om183 hs hp2 hp3 k1 len1 k2 len2))
      refine ⟨I3, ⟨m1 ++ m2 ++ m3, ?_, ?_⟩, v3.mono hl0'.1, fun e => ?_⟩
      · rw [e3, e2, e1]; simp
      · simp only [List.length_append]; (exact om184 hp2 hp3 k1 k2 k3)
      · rw [nodeF_ev I2 hl04 v1' v2 (by (exact om183 hs hp2 hp3 k1 len1 k2 len2)) e, c3 e, d3 e]
        by_cases he : e l0 = true
        · simp only [he, if_true]
          rw [s2 e, e1, ev_grow I.lows c2, ev_grow I.lows d2]
        · simp only [he]
          show ev q.2.nodes e p.1 = f (ev B.nodes e t.2.1) (ev B.nodes e u.2.1)
          rw [e2, ev_grow I1.lows v1, s1 e]
end Mine
end

section
namespace Mine

def setB (e : Nat → Bool) (l : Nat) (b : Bool) : Nat → Bool := fun i => if i = l then b else e i

theorem evF_indep {ns : List (Nat × Nat × Nat)} (L : Low ns) (e e' : Nat → Bool) : ∀ (n l x : Nat), Valid ns l x → (∀ i, l ≤ i → i < 4 → e i = e' i) → evF ns e n x = evF ns e' n x
  | 0, l, x, _, _ => rfl
  | n + 1, l, x, hv, h => by
    rcases hv with hv | ⟨hx, v, lo, hi, e1, hlv⟩
    · rw [evF_s (by (exact om130 hv)), evF_s (by (exact om130 hv))]
    · rw [evF_n hx e1, evF_n hx e1]
      obtain ⟨h4, hlo, hhi⟩ := L _ _ _ _ e1
      rw [h v hlv h4]
      cases e' v with
      | true => exact evF_indep L e e' n (v + 1) hi hhi fun i h1 h2 => h i (by (exact om213 hlv h1)) h2
      | false => exact evF_indep L e e' n (v + 1) lo hlo fun i h1 h2 => h i (by (exact om213 hlv h1)) h2
theorem ev_indep {ns : List (Nat × Nat × Nat)} (L : Low ns) {e e' : Nat → Bool} {l x : Nat} (hv : Valid ns l x) (h : ∀ i, l ≤ i → i < 4 → e i = e' i) : ev ns e x = ev ns e' x := evF_indep L e e' 5 l x hv h
theorem ev_set {ns : List (Nat × Nat × Nat)} (L : Low ns) {e : Nat → Bool} {l x : Nat} {b : Bool} (hv : Valid ns (l + 1) x) : ev ns (setB e l b) x = ev ns e x :=
  ev_indep L hv fun i h1 _ => by unfold setB; rw [if_neg (by (exact om46 h1))]
theorem ev_lo {ns : List (Nat × Nat × Nat)} (L : Low ns) {e : Nat → Bool} {x l lo hi : Nat} (hx : 256 ≤ x) (h : ns[x - 256]? = some (l, lo, hi)) : ev ns (setB e l false) x = ev ns e lo := by
  obtain ⟨_, hlo, _⟩ := L _ _ _ _ h
  rw [ev_node L hx h]
  have : setB e l false l = false := by simp [setB]
  rw [this]
  exact ev_set L hlo
theorem ev_hi {ns : List (Nat × Nat × Nat)} (L : Low ns) {e : Nat → Bool} {x l lo hi : Nat} (hx : 256 ≤ x) (h : ns[x - 256]? = some (l, lo, hi)) : ev ns (setB e l true) x = ev ns e hi := by
  obtain ⟨_, _, hhi⟩ := L _ _ _ _ h
  rw [ev_node L hx h]
  have : setB e l true l = true := by simp [setB]
  rw [this]
  exact ev_set L hhi

/-- two numbers of one function are one number -/
theorem canon {B : BD} (I : Inv B) : ∀ (n x y : Nat), x + y ≤ n → Valid B.nodes 0 x → Valid B.nodes 0 y → (∀ e, ev B.nodes e x = ev B.nodes e y) → x = y
  | n, x, y, hn, hx, hy, h => by
    have L := I.lows
    rcases hx with hx | ⟨hx, lx, lo, hi, ex, _⟩
    · rcases hy with hy | ⟨hy, ly, lo', hi', ey, _⟩
      · have := h fun _ => false
        rw [ev_small (by (exact om130 hx)), ev_small (by (exact om130 hy))] at this
        match x, y, hx, hy, this with
        | 0, 0, _, _, _ => rfl
        | 1, 1, _, _, _ => rfl
        | 0, 1, _, _, q => cases q
        | 1, 0, _, _, q => cases q
      · exfalso
        obtain ⟨_, ne, b1, b2, v1, v2⟩ := I.low _ _ _ _ ey
        match n, hn with
        | 0, hn => (exact om214 hy hn)
        | n + 1, hn =>
          have hx' : Valid B.nodes (ly + 1) x := .inl hx
          have c1 := canon I n x lo' (by (exact om215 hy b1 hn)) (.inl hx) (v1.mono (Nat.zero_le _)) fun e => by
            rw [← ev_lo L hy ey, ← h, ev_set L hx']
          have c2 := canon I n x hi' (by (exact om215 hy b2 hn)) (.inl hx) (v2.mono (Nat.zero_le _)) fun e => by
            rw [← ev_hi L hy ey, ← h, ev_set L hx']
          exact ne (c1.symm.trans c2)
    · obtain ⟨_, ne, b1, b2, v1, v2⟩ := I.low _ _ _ _ ex
      match n, hn with
      | 0, hn => (exact om216 hn)
      | n + 1, hn =>
        have one : Valid B.nodes (lx + 1) y → False := fun hy' => by
          have c1 := canon I n lo y (by (exact om217 hx b1 hn)) (v1.mono (Nat.zero_le _)) (hy'.mono (Nat.zero_le _)) fun e => by
            rw [← ev_lo L hx ex, h, ev_set L hy']
          have c2 := canon I n hi y (by (exact om217 hx b2 hn)) (v2.mono (Nat.zero_le _)) (hy'.mono (Nat.zero_le _)) fun e => by
            rw [← ev_hi L hx ex, h, ev_set L hy']
          exact ne (c1.trans c2.symm)
        rcases hy with hy | ⟨hy, ly, lo', hi', ey, _⟩
        · exact (one (.inl hy)).elim
        · obtain ⟨_, ne', b1', b2', v1', v2'⟩ := I.low _ _ _ _ ey
          rcases Nat.lt_trichotomy lx ly with q | q | q
          · exact (one (.inr ⟨hy, ly, lo', hi', ey, q⟩)).elim
          · subst q
            have c1 := canon I n lo lo' (by (exact om218 hx b1 hn hy b1')) (v1.mono (Nat.zero_le _)) (v1'.mono (Nat.zero_le _)) fun e => by
              rw [← ev_lo L hx ex, h, ev_lo L hy ey]
            have c2 := canon I n hi hi' (by (exact om218 hx b2 hn hy b2')) (v2.mono (Nat.zero_le _)) (v2'.mono (Nat.zero_le _)) fun e => by
              rw [← ev_hi L hx ex, h, ev_hi L hy ey]
            subst c1; subst c2
            have l1 := (List.getElem?_eq_some_iff.mp ex)
            have l2 := (List.getElem?_eq_some_iff.mp ey)
            obtain ⟨i1, g1⟩ := l1
            obtain ⟨i2, g2⟩ := l2
            have := (List.getElem_inj I.nodup).mp (g1.trans g2.symm)
            (exact om219 hx hy this)
          · exfalso
            have hx' : Valid B.nodes (ly + 1) x := .inr ⟨hx, lx, lo, hi, ex, q⟩
            have c1 := canon I n x lo' (by (exact om220 hn hy b1')) (hx'.mono (Nat.zero_le _)) (v1'.mono (Nat.zero_le _)) fun e => by
              rw [← ev_lo L hy ey, ← h, ev_set L hx']
            have c2 := canon I n x hi' (by (exact om220 hn hy b2')) (hx'.mono (Nat.zero_le _)) (v2'.mono (Nat.zero_le _)) fun e => by
              rw [← ev_hi L hy ey, ← h, ev_set L hx']
            exact ne' (c1.symm.trans c2)
end Mine
end

section
open PySem PySem.W PyProof.Rows PySem.Calls
set_option maxRecDepth 100000
set_option genInjectivity false
namespace Mine

/-! abstract values, abstract objects -/
inductive V where
  | none | gd (k : Nat) | bool (b : Bool) | int (i : Int) | flt (x : UInt64) | str (s : Str) | tup (l : List V) | ref (n : Nat)
inductive O where
  | lst (l : List V) | dct (f : Int → Option V) (n : Nat)

/-- what stays through the whole call: the heap at its start, the tokens' table -/
structure Gl where
  h : Heap
  tok : Nat → Addr
  mg : Str → Option Value
  mb : Str → Option Value

theorem get_last {α : Type} (L : List α) (x : α) : (L ++ [x])[L.length]? = some x := by simp
theorem map_range_some {α : Type} {n i : Nat} {f : Nat → α} {v : α} (h : ((List.range n).map f)[i]? = some v) : ∃ a, (∃ _ : i < (List.range n).length, i = a) ∧ f a = v := by
  simp only [List.getElem?_map, Option.map_eq_some_iff, List.getElem?_eq_some_iff, List.getElem_range] at h; exact h
theorem len_a1 {α : Type} {L : List α} {x : α} : (L ++ [x]).length = L.length + 1 := by simp
theorem len_a2 {α : Type} {L : List α} {x y : α} : (L ++ [x] ++ [y]).length = L.length + 2 := by simp
theorem get_a3 {α : Type} {L : List α} {x y z : α} : (L ++ [x] ++ [y] ++ [z])[L.length]? = some x := by simp
theorem get_b3 {α : Type} {L : List α} {x y z : α} : (L ++ [x] ++ [y] ++ [z])[L.length + 1]? = some y := by simp
theorem get_c3 {α : Type} {L : List α} {x y z : α} : (L ++ [x] ++ [y] ++ [z])[L.length + 2]? = some z := by simp
theorem len0 {α : Type} {l : List α} (h : l.length = 0) : l = [] := List.length_eq_zero_iff.mp h
theorem lenS {α : Type} {n : Nat} {l : List α} (h : l.length = n + 1) : ∃ a r, l = a :: r ∧ r.length = n := by
  cases l with
  | nil => cases h
  | cons a r => exact ⟨a, r, rfl, Nat.succ.inj h⟩
theorem len1 {α : Type} {l : List α} (h : l.length = 1) : ∃ a, l = [a] := let ⟨a, _, e, h⟩ := lenS h; ⟨a, by rw [e, len0 h]⟩
theorem len2 {α : Type} {l : List α} (h : l.length = 2) : ∃ a b, l = [a, b] := let ⟨a, _, e, h⟩ := lenS h; let ⟨b, q⟩ := len1 h; ⟨a, b, by rw [e, q]⟩
theorem len3 {α : Type} {l : List α} (h : l.length = 3) : ∃ a b c, l = [a, b, c] := let ⟨a, _, e, h⟩ := lenS h; let ⟨b, c, q⟩ := len2 h; ⟨a, b, c, by rw [e, q]⟩
theorem len4 {α : Type} {l : List α} (h : l.length = 4) : ∃ a b c d, l = [a, b, c, d] := let ⟨a, _, e, h⟩ := lenS h; let ⟨b, c, d, q⟩ := len3 h; ⟨a, b, c, d, by rw [e, q]⟩
theorem len5 {α : Type} {l : List α} (h : l.length = 5) : ∃ a b c d x, l = [a, b, c, d, x] := let ⟨a, _, e, h⟩ := lenS h; let ⟨b, c, d, x, q⟩ := len4 h; ⟨a, b, c, d, x, by rw [e, q]⟩
theorem len6 {α : Type} {l : List α} (h : l.length = 6) : ∃ a b c d x y, l = [a, b, c, d, x, y] := let ⟨a, _, e, h⟩ := lenS h; let ⟨b, c, d, x, y, q⟩ := len5 h; ⟨a, b, c, d, x, y, by rw [e, q]⟩

mutual
def VR (G : Gl) (ρ : List Addr) (h : Heap) : V → Value → Prop
  | .none, rv => rv = .none
  | .gd k, rv => rv = .ref (G.tok k)
  | .bool b, rv => rv = .bool b
  | .int i, rv => ∃ t, rv = .int i t
  | .flt x, rv => ∃ t, rv = .float x t
  | .str s, rv => ∃ t, rv = .str s t
  | .ref n, rv => ∃ a, ρ[n]? = some a ∧ rv = .ref a
  | .tup l, rv => ∃ a items k, rv = .ref a ∧ a ∉ ρ ∧ h.get? a = some { cls := .type "tuple", data := .seq items k } ∧ VRs G ρ h l items.toList
def VRs (G : Gl) (ρ : List Addr) (h : Heap) : List V → List Value → Prop
  | [], rs => rs = []
  | v :: vs, rs => ∃ r rs', rs = r :: rs' ∧ VR G ρ h v r ∧ VRs G ρ h vs rs'
end

/-- from one moment to a later one: nothing changed but what stands in ρ (and in X) -/
structure Step (X : List Addr) (ρ : List Addr) (s : Shared) (ρ' : List Addr) (s' : Shared) : Prop where
  same : ∃ h tk, s' = { s with heap := h, toks := tk }
  alive : ∀ b, s.heap.get? b ≠ none → s'.heap.get? b ≠ none
  keep : ∀ b o, b ∉ ρ → b ∉ X → s.heap.get? b = some o → s'.heap.get? b = some o
  pre : ∀ (n : Nat) (a : Addr), ρ[n]? = some a → ρ'[n]? = some a
  new : ∀ a ∈ ρ', a ∈ ρ ∨ s.heap.get? a = none

theorem mem_of_pre {ρ ρ' : List Addr} (pre : ∀ (n : Nat) (a : Addr), ρ[n]? = some a → ρ'[n]? = some a) {a : Addr} (h : a ∈ ρ) : a ∈ ρ' := by
  obtain ⟨n, hn⟩ := List.getElem?_of_mem h
  exact List.mem_of_getElem? (pre n a hn)

theorem get_lt {h : Heap} {a : Addr} {o : Obj} (e : h.get? a = some o) : a < h.objs.size := Heap.lt_size e

mutual
theorem VR.mono {G : Gl} {ρ ρ' : List Addr} {h h' : Heap} (pre : ∀ (n : Nat) (a : Addr), ρ[n]? = some a → ρ'[n]? = some a) (new : ∀ a ∈ ρ', a ∈ ρ ∨ ∀ items k, h.get? a ≠ some { cls := .type "tuple", data := .seq items k })
    {X : List Addr} (hX : ∀ x ∈ X, ∀ items k, h.get? x ≠ some { cls := .type "tuple", data := .seq items k })
    (keep : ∀ b o, b ∉ ρ → b ∉ X → h.get? b = some o → h'.get? b = some o) : ∀ {v : V} {rv : Value}, VR G ρ h v rv → VR G ρ' h' v rv
  | .none, _, e => e
  | .gd _, _, e => e
  | .bool _, _, e => e
  | .int _, _, e => e
  | .flt _, _, e => e
  | .str _, _, e => e
  | .ref n, _, e => by
    unfold VR at e ⊢
    obtain ⟨a, ha, r⟩ := e
    exact ⟨a, pre _ _ ha, r⟩
  | .tup l, _, e => by
    unfold VR at e ⊢
    obtain ⟨a, items, k, r, ha, ho, hs⟩ := e
    refine ⟨a, items, k, r, fun hm => ?_, keep _ _ ha (fun hx => hX a hx _ _ ho) ho, VRs.mono pre new hX keep hs⟩
    rcases new a hm with q | q
    · exact ha q
    · exact q _ _ ho
theorem VRs.mono {G : Gl} {ρ ρ' : List Addr} {h h' : Heap} (pre : ∀ (n : Nat) (a : Addr), ρ[n]? = some a → ρ'[n]? = some a) (new : ∀ a ∈ ρ', a ∈ ρ ∨ ∀ items k, h.get? a ≠ some { cls := .type "tuple", data := .seq items k })
    {X : List Addr} (hX : ∀ x ∈ X, ∀ items k, h.get? x ≠ some { cls := .type "tuple", data := .seq items k })
    (keep : ∀ b o, b ∉ ρ → b ∉ X → h.get? b = some o → h'.get? b = some o) : ∀ {l : List V} {rs : List Value}, VRs G ρ h l rs → VRs G ρ' h' l rs
  | [], _, e => by unfold VRs at e ⊢; exact e
  | v :: vs, _, e => by
    unfold VRs at e ⊢
    obtain ⟨r, rs', q, h1, h2⟩ := e
    exact ⟨r, rs', q, VR.mono pre new hX keep h1, VRs.mono pre new hX keep h2⟩
end

theorem VRs.length {G : Gl} {ρ : List Addr} {h : Heap} : ∀ {l : List V} {rs : List Value}, VRs G ρ h l rs → rs.length = l.length
  | [], rs, e => by unfold VRs at e; subst e; rfl
  | v :: vs, rs, e => by
    unfold VRs at e
    obtain ⟨r, rs', rfl, _, h2⟩ := e
    simp [VRs.length h2]
theorem VRs.get {G : Gl} {ρ : List Addr} {h : Heap} : ∀ {l : List V} {rs : List Value}, VRs G ρ h l rs → ∀ {n : Nat} {v : V}, l[n]? = some v → ∃ r, rs[n]? = some r ∧ VR G ρ h v r
  | [], rs, e, n, v, hn => by simp at hn
  | v :: vs, rs, e, n, u, hn => by
    unfold VRs at e
    obtain ⟨r, rs', rfl, h1, h2⟩ := e
    cases n with
    | zero => simp at hn; subst hn; exact ⟨r, by simp, h1⟩
    | succ n => simp at hn; obtain ⟨r', a, b⟩ := VRs.get h2 hn; exact ⟨r', by simpa using a, b⟩
theorem VRs.append {G : Gl} {ρ : List Addr} {h : Heap} : ∀ {l l' : List V} {rs rs' : List Value}, VRs G ρ h l rs → VRs G ρ h l' rs' → VRs G ρ h (l ++ l') (rs ++ rs')
  | [], l', rs, rs', e, e' => by unfold VRs at e; subst e; exact e'
  | v :: vs, l', rs, rs', e, e' => by
    unfold VRs at e
    obtain ⟨r, rs₂, rfl, h1, h2⟩ := e
    show VRs G ρ h (v :: (vs ++ l')) _
    unfold VRs
    exact ⟨r, rs₂ ++ rs', rfl, h1, VRs.append h2 e'⟩
theorem VRs.take {G : Gl} {ρ : List Addr} {h : Heap} : ∀ {l : List V} {rs : List Value}, VRs G ρ h l rs → ∀ n, VRs G ρ h (l.take n) (rs.take n)
  | [], rs, e, n => by unfold VRs at e; subst e; simp [VRs]
  | v :: vs, rs, e, 0 => by simp [VRs]
  | v :: vs, rs, e, n + 1 => by
    unfold VRs at e
    obtain ⟨r, rs₂, rfl, h1, h2⟩ := e
    simp only [List.take_succ_cons]
    unfold VRs
    exact ⟨r, _, rfl, h1, VRs.take h2 n⟩
theorem VRs.drop {G : Gl} {ρ : List Addr} {h : Heap} : ∀ {l : List V} {rs : List Value}, VRs G ρ h l rs → ∀ n, VRs G ρ h (l.drop n) (rs.drop n)
  | [], rs, e, n => by unfold VRs at e; subst e; simp [VRs]
  | v :: vs, rs, e, 0 => by simpa using e
  | v :: vs, rs, e, n + 1 => by
    unfold VRs at e
    obtain ⟨r, rs₂, rfl, h1, h2⟩ := e
    simp only [List.drop_succ_cons]
    exact VRs.drop h2 n
theorem VRs.one {G : Gl} {ρ : List Addr} {h : Heap} {v : V} {r : Value} (e : VR G ρ h v r) : VRs G ρ h [v] [r] := by
  simp only [VRs]; exact ⟨r, [], rfl, e, rfl⟩
theorem VRs.set {G : Gl} {ρ : List Addr} {h : Heap} : ∀ {l : List V} {rs : List Value}, VRs G ρ h l rs → ∀ (n : Nat) {v : V} {r : Value}, VR G ρ h v r → VRs G ρ h (l.set n v) (rs.set n r)
  | [], rs, e, n, v, r, _ => by unfold VRs at e; subst e; simp [VRs]
  | u :: vs, rs, e, n, v, r, q => by
    unfold VRs at e
    obtain ⟨r', rs₂, rfl, h1, h2⟩ := e
    cases n with
    | zero => simp only [List.set_cons_zero]; unfold VRs; exact ⟨r, rs₂, rfl, q, h2⟩
    | succ n => simp only [List.set_cons_succ]; unfold VRs; exact ⟨r', _, rfl, h1, VRs.set h2 n q⟩

def OR (G : Gl) (ρ : List Addr) (h : Heap) (a : Addr) : O → Prop
  | .lst l => ∃ items k, h.get? a = some { cls := .type "list", data := .seq items k } ∧ VRs G ρ h l items.toList
  | .dct f n => ∃ m, h.IntMap a m ∧ h.DictLe a n ∧ ∀ k, (f k = none → m k = none) ∧ ∀ v, f k = some v → ∃ rv, m k = some rv ∧ VR G ρ h v rv

/-- the heap's part of the relation -/
structure HR (G : Gl) (ρ : List Addr) (H : List O) (s : Shared) : Prop where
  base : ∀ b o, G.h.get? b = some o → s.heap.get? b = some o
  newρ : ∀ a ∈ ρ, G.h.get? a = none
  nodup : ρ.Nodup
  len : ρ.length = H.length
  obj : ∀ (n : Nat) (a : Addr) (o : O), ρ[n]? = some a → H[n]? = some o → OR G ρ s.heap a o

abbrev Vars := Str → Option V

/-- the objects of a frame: its names' table, its cells -/
def own (env : Env) : List Addr := env.locals :: env.cells.map (·.2)

structure FR (G : Gl) (env : Env) (ρ : List Addr) (vars : Vars) (s : Shared) : Prop where
  ns : ∃ m, s.heap.Ns env.locals m ∧ ∀ x v, vars x = some v → ∃ rv, VR G ρ s.heap v rv ∧
    ((env.kindOf x = some .local ∧ m x = some rv) ∨ ((env.kindOf x = some .cell ∨ env.kindOf x = some .free) ∧ ∃ c, env.cells.lookup x = some c ∧ s.heap.IsCell c (some rv)))
  out : ∀ a ∈ own env, a ∉ ρ ∧ G.h.get? a = none
  cell : ∀ n c, (n, c) ∈ env.cells → c ≠ env.locals ∧ ∃ v, s.heap.IsCell c v
  apart : env.cells.Pairwise fun x y => x.2 ≠ y.2

/-- room: d calls more may nest -/
structure Ok (d : Nat) (A : Around) : Prop where
  handled : A.handled = none
  depth : A.depth + d < recursionLimit
  units : A.units + 8 * d + 40 < cLine

theorem Step.refl (X ρ : List Addr) (s : Shared) : Step X ρ s ρ s := ⟨⟨s.heap, s.toks, rfl⟩, fun _ e => e, fun _ _ _ _ e => e, fun _ _ e => e, fun _ h => .inl h⟩

theorem Step.trans {X ρ ρ' ρ'' : List Addr} {s s' s'' : Shared} (x : Step X ρ s ρ' s') (y : Step X ρ' s' ρ'' s'') : Step X ρ s ρ'' s'' where
  same := by
    obtain ⟨h, tk, rfl⟩ := x.same
    obtain ⟨h', tk', rfl⟩ := y.same
    exact ⟨h', tk', rfl⟩
  alive := fun b e => y.alive b (x.alive b e)
  keep := fun b o hb hx e => y.keep b o (fun hm => (x.new b hm).elim hb fun q => by rw [e] at q; cases q) hx (x.keep b o hb hx e)
  pre := fun n a e => y.pre n a (x.pre n a e)
  new := fun a hm => by
    rcases y.new a hm with q | q
    · exact x.new a q
    · exact .inr (Classical.byContradiction fun e => x.alive a e q)

theorem Step.trans0 {ρ ρ' ρ'' : List Addr} {s s' s'' : Shared} (x : Step [] ρ s ρ' s') (y : Step [] ρ' s' ρ'' s'') : Step [] ρ s ρ'' s'' :=
  x.trans y

theorem Step.toX {X ρ ρ' : List Addr} {s s' : Shared} (x : Step [] ρ s ρ' s') : Step X ρ s ρ' s' :=
  ⟨x.same, x.alive, fun b o hb _ e => x.keep b o hb (fun h => nomatch h) e, x.pre, x.new⟩

theorem Step.newT {X ρ ρ' : List Addr} {s s' : Shared} (y : Step X ρ s ρ' s') : ∀ a ∈ ρ', a ∈ ρ ∨ ∀ items k, s.heap.get? a ≠ some { cls := .type "tuple", data := .seq items k } :=
  fun a h => (y.new a h).imp id fun q _ _ e => by rw [q] at e; cases e
theorem noTup_nil {h : Heap} : ∀ x ∈ ([] : List Addr), ∀ items k, h.get? x ≠ some { cls := .type "tuple", data := .seq items k } := fun _ h => nomatch h
theorem noTup_ns {h : Heap} {L : Addr} {m : Str → Option Value} (n : h.Ns L m) : ∀ x ∈ [L], ∀ items k, h.get? x ≠ some { cls := .type "tuple", data := .seq items k } := by
  intro x hx items k e
  rcases List.mem_cons.mp hx with rfl | hx
  · obtain ⟨o, es, ep, ho, hd, _⟩ := n
    rw [ho] at e; cases e; cases hd
  · cases hx

theorem VR.step {G : Gl} {ρ ρ' : List Addr} {s s' : Shared} {v : V} {rv : Value} (x : VR G ρ s.heap v rv) (y : Step [] ρ s ρ' s') : VR G ρ' s'.heap v rv :=
  VR.mono y.pre y.newT noTup_nil y.keep x
theorem VRs.step {G : Gl} {ρ ρ' : List Addr} {s s' : Shared} {v : List V} {rv : List Value} (x : VRs G ρ s.heap v rv) (y : Step [] ρ s ρ' s') : VRs G ρ' s'.heap v rv :=
  VRs.mono y.pre y.newT noTup_nil y.keep x
theorem VR.stepX {G : Gl} {L : Addr} {m : Str → Option Value} {ρ ρ' : List Addr} {s s' : Shared} {v : V} {rv : Value} (x : VR G ρ s.heap v rv) (n : s.heap.Ns L m) (y : Step [L] ρ s ρ' s') : VR G ρ' s'.heap v rv :=
  VR.mono y.pre y.newT (noTup_ns n) y.keep x

theorem mem_own_locals {env : Env} : env.locals ∈ own env := List.mem_cons_self
theorem mem_own_cell {env : Env} {n : Str} {c : Addr} (h : (n, c) ∈ env.cells) : c ∈ own env := List.mem_cons_of_mem _ (List.mem_map.mpr ⟨_, h, rfl⟩)
theorem isCell_at {h h' : Heap} {c : Addr} {v : Option Value} (x : h.IsCell c v) (e : ∀ o, h.get? c = some o → h'.get? c = some o) : h'.IsCell c v := let ⟨o, a, b⟩ := x; ⟨o, e o a, b⟩

theorem FR.noTup {G : Gl} {env : Env} {ρ : List Addr} {vars : Vars} {s : Shared} (x : FR G env ρ vars s) : ∀ a ∈ own env, ∀ items k, s.heap.get? a ≠ some { cls := .type "tuple", data := .seq items k } := by
  intro a ha items k e
  rcases List.mem_cons.mp ha with rfl | ha
  · obtain ⟨m, hn, _⟩ := x.ns
    exact noTup_ns hn _ (by simp) items k e
  · obtain ⟨⟨n, c⟩, hm, rfl⟩ := List.mem_map.mp ha
    obtain ⟨_, v, o, ho, hd⟩ := x.cell n c hm
    have e' : s.heap.get? c = _ := e
    rw [ho] at e'; cases e'; cases hd

theorem FR.live {G : Gl} {env : Env} {ρ : List Addr} {vars : Vars} {s : Shared} (x : FR G env ρ vars s) : ∀ a ∈ own env, s.heap.get? a ≠ none := by
  intro a ha e
  rcases List.mem_cons.mp ha with rfl | ha
  · obtain ⟨m, hn, _⟩ := x.ns
    obtain ⟨o, es, ep, ho, _⟩ := hn
    rw [ho] at e; cases e
  · obtain ⟨⟨n, c⟩, hm, rfl⟩ := List.mem_map.mp ha
    obtain ⟨_, v, o, ho, hd⟩ := x.cell n c hm
    have e' : s.heap.get? c = none := e
    rw [ho] at e'; cases e'

theorem VR.own {G : Gl} {env : Env} {vars : Vars} {ρ ρ' : List Addr} {s s' : Shared} {v : V} {rv : Value} (x : VR G ρ s.heap v rv) (f : FR G env ρ vars s) (y : Step (own env) ρ s ρ' s') : VR G ρ' s'.heap v rv :=
  VR.mono y.pre y.newT f.noTup y.keep x

/-- a frame survives a step that is not its own -/
theorem FR.step {G : Gl} {env : Env} {ρ ρ' : List Addr} {vars : Vars} {s s' : Shared} (x : FR G env ρ vars s) (y : Step [] ρ s ρ' s') : FR G env ρ' vars s' := by
  obtain ⟨m, hn, hv⟩ := x.ns
  have kc : ∀ c, c ∈ own env → ∀ o, s.heap.get? c = some o → s'.heap.get? c = some o := fun c hc o e => y.keep _ o (x.out c hc).1 (fun h => nomatch h) e
  refine ⟨⟨m, hn.at (kc _ mem_own_locals), fun z v hz => ?_⟩, fun a ha => ⟨fun hm => ?_, (x.out a ha).2⟩, fun n c hm => ?_, x.apart⟩
  · obtain ⟨rv, b, a⟩ := hv z v hz
    refine ⟨rv, b.step y, a.imp id fun q => ⟨q.1, ?_⟩⟩
    obtain ⟨c, h1, h2⟩ := q.2
    exact ⟨c, h1, isCell_at h2 (kc _ (mem_own_cell (mem_of_lookup h1)))⟩
  · rcases y.new _ hm with q | q
    · exact (x.out a ha).1 q
    · exact x.live a ha q
  · obtain ⟨h1, v, h2⟩ := x.cell n c hm
    exact ⟨h1, v, isCell_at h2 (kc _ (mem_own_cell hm))⟩


/-- the facts of the top, as they stand at the call's start -/
structure Glb (G : Gl) : Prop where
  g : G.h.Ns mainGlobals G.mg
  b : G.h.Ns builtinsNs G.mb
  lim : G.h.NoLimit

/-! the judgements -/
def Post {α : Type} (G : Gl) (ρ : List Addr) (s : Shared) (Φ : α → List Addr → List O → Shared → Prop) (r : α) (s' : Shared) : Prop :=
  ∃ ρ' H', Step [] ρ s ρ' s' ∧ HR G ρ' H' s' ∧ Φ r ρ' H' s'
def PV (G : Gl) (Φ : V → List O → Prop) (rv : Value) (ρ' : List Addr) (H' : List O) (s' : Shared) : Prop := ∃ v, VR G ρ' s'.heap v rv ∧ Φ v H'
def PVs (G : Gl) (Φ : List V → List O → Prop) (rv : List Value) (ρ' : List Addr) (H' : List O) (s' : Shared) : Prop := ∃ v, VRs G ρ' s'.heap v rv ∧ Φ v H'
def PB (Φ : Bool → List O → Prop) (b : Bool) (_ : List Addr) (H' : List O) (_ : Shared) : Prop := Φ b H'
def PU (Φ : List O → Prop) (_ : Unit) (_ : List Addr) (H' : List O) (_ : Shared) : Prop := Φ H'

section
variable (prog : Program) (w : World) (G : Gl)
/-- a tree within a frame -/
def aT {α : Type} (d : Nat) (env : Env) (t : Sem α) (vars : Vars) (H : List O) (Φ : α → List Addr → List O → Shared → Prop) : Prop :=
  ∀ A ρ s, Ok d A → HR G ρ H s → FR G env ρ vars s → wpAny (model prog w) A t (Post G ρ s Φ) (fun _ _ => False) s
abbrev aE (d : Nat) (env : Env) (e : Expr) (vars : Vars) (H : List O) (Φ : V → List O → Prop) : Prop := aT prog w G d env (eval e env) vars H (PV G Φ)
abbrev aB (d : Nat) (env : Env) (e : Expr) (vars : Vars) (H : List O) (Φ : Bool → List O → Prop) : Prop := aT prog w G d env (isTrue e env (eval e env)) vars H (PB Φ)
/-- trees over values at hand -/
def aO1 {α : Type} (d : Nat) (t : Value → Sem α) (v : V) (H : List O) (Φ : α → List Addr → List O → Shared → Prop) : Prop :=
  ∀ A ρ s r, Ok d A → HR G ρ H s → VR G ρ s.heap v r → wpAny (model prog w) A (t r) (Post G ρ s Φ) (fun _ _ => False) s
def aO2 {α : Type} (d : Nat) (t : Value → Value → Sem α) (u v : V) (H : List O) (Φ : α → List Addr → List O → Shared → Prop) : Prop :=
  ∀ A ρ s q r, Ok d A → HR G ρ H s → VR G ρ s.heap u q → VR G ρ s.heap v r → wpAny (model prog w) A (t q r) (Post G ρ s Φ) (fun _ _ => False) s
def aO3 {α : Type} (d : Nat) (t : Value → Value → Value → Sem α) (u v x : V) (H : List O) (Φ : α → List Addr → List O → Shared → Prop) : Prop :=
  ∀ A ρ s q r z, Ok d A → HR G ρ H s → VR G ρ s.heap u q → VR G ρ s.heap v r → VR G ρ s.heap x z → wpAny (model prog w) A (t q r z) (Post G ρ s Φ) (fun _ _ => False) s
def aOn {α : Type} (d : Nat) (t : List Value → Sem α) (vs : List V) (H : List O) (Φ : α → List Addr → List O → Shared → Prop) : Prop :=
  ∀ A ρ s rs, Ok d A → HR G ρ H s → VRs G ρ s.heap vs rs → wpAny (model prog w) A (t rs) (Post G ρ s Φ) (fun _ _ => False) s
/-- expressions from left to right -/
def aEs (d : Nat) (env : Env) : List Expr → Vars → List O → (List V → List O → Prop) → Prop
  | [], _, H, Φ => Φ [] H
  | e :: es, vars, H, Φ => aE prog w G d env e vars H fun v H1 => aEs d env es vars H1 fun vs H2 => Φ (v :: vs) H2

inductive Fl where
  | next | brk | cont | ret (v : V)
def FlR (G : Gl) (ρ : List Addr) (h : Heap) : Fl → Flow → Prop
  | .next, f => f = .next
  | .brk, f => f = .brk
  | .cont, f => f = .cont
  | .ret v, f => ∃ rv, f = .ret rv ∧ VR G ρ h v rv
def PostS (env : Env) (ρ : List Addr) (s : Shared) (Φ : Fl → Vars → List O → Prop) (f : Flow) (s' : Shared) : Prop :=
  ∃ ρ' vars' H' fl, Step (own env) ρ s ρ' s' ∧ HR G ρ' H' s' ∧ FR G env ρ' vars' s' ∧ FlR G ρ' s'.heap fl f ∧ Φ fl vars' H'
def aST (d : Nat) (env : Env) (t : Sem Flow) (vars : Vars) (H : List O) (Φ : Fl → Vars → List O → Prop) : Prop :=
  ∀ A ρ s, Ok d A → HR G ρ H s → FR G env ρ vars s → wpAny (model prog w) A t (PostS G env ρ s Φ) (fun _ _ => False) s
abbrev aS (d : Nat) (env : Env) (st : Stmt) (vars : Vars) (H : List O) (Φ : Fl → Vars → List O → Prop) : Prop := aST prog w G d env (exec st env) vars H Φ
abbrev aSs (d : Nat) (env : Env) (sts : List Stmt) (vars : Vars) (H : List O) (Φ : Fl → Vars → List O → Prop) : Prop := aST prog w G d env (execs sts env) vars H Φ
end

section
variable {prog : Program} {w : World} {G : Gl} {d : Nat} {env : Env} {vars : Vars} {H : List O} {α β : Type}

theorem Post.after {ρ ρ1 : List Addr} {s s1 : Shared} {Φ : α → List Addr → List O → Shared → Prop} (st : Step [] ρ s ρ1 s1) {r : α} {s' : Shared} (p : Post G ρ1 s1 Φ r s') : Post G ρ s Φ r s' :=
  let ⟨ρ', H', st', x⟩ := p; ⟨ρ', H', st.trans0 st', x⟩
theorem Post.here {ρ : List Addr} {H : List O} {s : Shared} {Φ : α → List Addr → List O → Shared → Prop} {r : α} (hr : HR G ρ H s) (x : Φ r ρ H s) : Post G ρ s Φ r s := ⟨ρ, H, Step.refl _ _ _, hr, x⟩

theorem wp_after {A : Around} {t : Sem α} {ρ ρ1 : List Addr} {s s1 : Shared} {Φ : α → List Addr → List O → Shared → Prop} {E : Value → Shared → Prop} (st : Step [] ρ s ρ1 s1)
    (h : wpAny (model prog w) A t (Post G ρ1 s1 Φ) (fun _ _ => False) s1) : wpAny (model prog w) A t (Post G ρ s Φ) E s1 :=
  wpAny_mono h (fun _ _ p => p.after st) fun _ _ x => x.elim

theorem HR.tk {ρ : List Addr} {s : Shared} (x : HR G ρ H s) (tk : Nat) : HR G ρ H { s with toks := tk } := ⟨x.base, x.newρ, x.nodup, x.len, x.obj⟩
theorem Step.tk {X ρ : List Addr} (s : Shared) (tk : Nat) : Step X ρ s ρ { s with toks := tk } := ⟨⟨_, _, rfl⟩, fun _ e => e, fun _ _ _ _ e => e, fun _ _ e => e, fun _ h => .inl h⟩
theorem Post.tk {ρ : List Addr} {s : Shared} {Φ : α → List Addr → List O → Shared → Prop} {r : α} {tk : Nat} (hr : HR G ρ H s) (x : Φ r ρ H { s with toks := tk }) : Post G ρ s Φ r { s with toks := tk } :=
  ⟨ρ, H, Step.tk s tk, hr.tk tk, x⟩

/-! nodes -/
theorem e_BinOp {l r : Expr} {op : Operator} {pos : Pos} {Φ : V → List O → Prop}
    (h : aE prog w G d env l vars H fun a H1 => aE prog w G d env r vars H1 fun b H2 => aO2 prog w G d (binaryOp op) a b H2 (PV G Φ)) : aE prog w G d env (.BinOp l op r pos) vars H Φ := by
  intro A ρ s ok hr fr
  refine wpAny_BinOp (wpAny_mono (h A ρ s ok hr fr) (fun ra s1 p1 => ?_) fun _ _ x => x)
  obtain ⟨ρ1, H1, st1, hr1, a, va, h1⟩ := p1
  refine wpAny_mono (h1 A ρ1 s1 ok hr1 (fr.step st1)) (fun rb s2 p2 => ?_) fun _ _ x => x
  obtain ⟨ρ2, H2, st2, hr2, b, vb, h2⟩ := p2
  exact wp_after (st1.trans0 st2) (h2 A ρ2 s2 ra rb ok hr2 (va.step st2) vb)

theorem e_Compare {l r : Expr} {op : CmpOp} {pos : Pos} {Φ : V → List O → Prop}
    (h : aE prog w G d env l vars H fun a H1 => aE prog w G d env r vars H1 fun b H2 => aO2 prog w G d (compareOp op) a b H2 (PV G Φ))
    (hm : behindInMarks op r = false := by with_unfolding_all rfl) : aE prog w G d env (.Compare l [op] [r] pos) vars H Φ := by
  intro A ρ s ok hr fr
  refine wpAny_Compare1 (wpAny_mono (h A ρ s ok hr fr) (fun ra s1 p1 => ?_) fun _ _ x => x) hm
  obtain ⟨ρ1, H1, st1, hr1, a, va, h1⟩ := p1
  refine wpAny_mono (h1 A ρ1 s1 ok hr1 (fr.step st1)) (fun rb s2 p2 => ?_) fun _ _ x => x
  obtain ⟨ρ2, H2, st2, hr2, b, vb, h2⟩ := p2
  exact wp_after (st1.trans0 st2) (h2 A ρ2 s2 ra rb ok hr2 (va.step st2) vb)

theorem b_Compare {l r : Expr} {op : CmpOp} {pos : Pos} {Φ : Bool → List O → Prop}
    (h : aE prog w G d env l vars H fun a H1 => aE prog w G d env r vars H1 fun b H2 => aO2 prog w G d (compareOp op) a b H2 (PV G fun c H3 => aO1 prog w G d truthy c H3 (PB Φ)))
    (hm : behindInMarks op r = false := by with_unfolding_all rfl) : aB prog w G d env (.Compare l [op] [r] pos) vars H Φ := by
  intro A ρ s ok hr fr
  refine wpAny_isTrue_Compare1 (wpAny_mono (h A ρ s ok hr fr) (fun ra s1 p1 => ?_) fun _ _ x => x) hm
  obtain ⟨ρ1, H1, st1, hr1, a, va, h1⟩ := p1
  refine wpAny_mono (h1 A ρ1 s1 ok hr1 (fr.step st1)) (fun rb s2 p2 => ?_) fun _ _ x => x
  obtain ⟨ρ2, H2, st2, hr2, b, vb, h2⟩ := p2
  refine wpAny_mono (h2 A ρ2 s2 ra rb ok hr2 (va.step st2) vb) (fun rc s3 p3 => ?_) fun _ _ x => x
  obtain ⟨ρ3, H3, st3, hr3, c, vc, h3⟩ := p3
  exact wp_after ((st1.trans0 st2).trans0 st3) (h3 A ρ3 s3 rc ok hr3 vc)

theorem b_not {x : Expr} {pos : Pos} {Φ : Bool → List O → Prop} (h : aB prog w G d env x vars H fun c H1 => Φ (!c) H1) : aB prog w G d env (.UnaryOp .Not x pos) vars H Φ := by
  intro A ρ s ok hr fr
  exact isTrue_not (wpAny_mono (h A ρ s ok hr fr) (fun c s1 p1 => p1) fun _ _ x => x)

theorem b_and {x y : Expr} {pos : Pos} {Φ : Bool → List O → Prop} (h : aB prog w G d env x vars H fun c H1 => if c then aB prog w G d env y vars H1 Φ else Φ false H1) :
    aB prog w G d env (.BoolOp .And [x, y] pos) vars H Φ := by
  intro A ρ s ok hr fr
  refine isTrue_and (wpAny_mono (h A ρ s ok hr fr) (fun c s1 p1 => ?_) fun _ _ x => x)
  obtain ⟨ρ1, H1, st1, hr1, h1⟩ := p1
  cases c with
  | false => exact ⟨ρ1, H1, st1, hr1, h1⟩
  | true =>
    have h1' : aB prog w G d env y vars H1 Φ := h1
    refine isTrue_and (wpAny_mono (h1' A ρ1 s1 ok hr1 (fr.step st1)) (fun c s2 p2 => ?_) fun _ _ x => x)
    cases c with
    | false => exact p2.after st1
    | true => exact isTrue_and_nil (p2.after st1)

theorem b_plain {e : Expr} {Φ : Bool → List O → Prop} (h : aE prog w G d env e vars H fun v H1 => aO1 prog w G d truthy v H1 (PB Φ))
    (he : isTrue e env (eval e env) = (do let v ← eval e env; standAt e.pos; holding [v] (truthy v)) := by rfl) : aB prog w G d env e vars H Φ := by
  intro A ρ s ok hr fr
  refine isTrue_plain (wpAny_mono (h A ρ s ok hr fr) (fun ra s1 p1 => ?_) fun _ _ x => x) he
  obtain ⟨ρ1, H1, st1, hr1, a, va, h1⟩ := p1
  exact wp_after st1 (h1 A ρ1 s1 ra ok hr1 va)

theorem e_not {x : Expr} {pos : Pos} {Φ : V → List O → Prop} (h : aE prog w G d env x vars H fun v H1 => aO1 prog w G d truthy v H1 (PB fun c H2 => Φ (.bool (!c)) H2)) :
    aE prog w G d env (.UnaryOp .Not x pos) vars H Φ := by
  intro A ρ s ok hr fr
  refine UnaryOp_ (wpAny_mono (h A ρ s ok hr fr) (fun ra s1 p1 => ?_) fun _ _ x => x)
  obtain ⟨ρ1, H1, st1, hr1, a, va, h1⟩ := p1
  refine not_of (wpAny_mono (h1 A ρ1 s1 ra ok hr1 va) (fun c s2 p2 => ?_) fun _ _ x => x)
  obtain ⟨ρ2, H2, st2, hr2, h2⟩ := p2
  exact ⟨ρ2, H2, st1.trans0 st2, hr2, .bool (!c), rfl, h2⟩
theorem e_unary {x : Expr} {op : UnaryOp} {pos : Pos} {Φ : V → List O → Prop} (h : aE prog w G d env x vars H fun v H1 => aO1 prog w G d (unaryOp op) v H1 (PV G Φ)) :
    aE prog w G d env (.UnaryOp op x pos) vars H Φ := by
  intro A ρ s ok hr fr
  refine UnaryOp_ (wpAny_mono (h A ρ s ok hr fr) (fun ra s1 p1 => ?_) fun _ _ x => x)
  obtain ⟨ρ1, H1, st1, hr1, a, va, h1⟩ := p1
  exact wp_after st1 (h1 A ρ1 s1 ra ok hr1 va)

theorem e_IfExp {test body orelse : Expr} {pos : Pos} {Φ : V → List O → Prop}
    (h : aB prog w G d env test vars H fun c H1 => if c then aE prog w G d env body vars H1 Φ else aE prog w G d env orelse vars H1 Φ) : aE prog w G d env (.IfExp test body orelse pos) vars H Φ := by
  intro A ρ s ok hr fr
  refine IfExp_ (wpAny_mono (h A ρ s ok hr fr) (fun c s1 p1 => ?_) fun _ _ x => x)
  obtain ⟨ρ1, H1, st1, hr1, h1⟩ := p1
  cases c with
  | false => exact wp_after (E := fun _ _ => False) st1 ((show aE prog w G d env orelse vars H1 Φ from h1) A ρ1 s1 ok hr1 (fr.step st1))
  | true => exact wp_after (E := fun _ _ => False) st1 ((show aE prog w G d env body vars H1 Φ from h1) A ρ1 s1 ok hr1 (fr.step st1))

theorem e_Subscript {value slice : Expr} {pos : Pos} {Φ : V → List O → Prop}
    (h : aE prog w G d env value vars H fun o H1 => aE prog w G d env slice vars H1 fun i H2 => aO2 prog w G d (subscriptTail value slice) o i H2 (PV G Φ)) : aE prog w G d env (.Subscript value slice pos) vars H Φ := by
  intro A ρ s ok hr fr
  refine Subscript_ (wpAny_mono (h A ρ s ok hr fr) (fun ra s1 p1 => ?_) fun _ _ x => x)
  obtain ⟨ρ1, H1, st1, hr1, a, va, h1⟩ := p1
  refine wpAny_mono (h1 A ρ1 s1 ok hr1 (fr.step st1)) (fun rb s2 p2 => ?_) fun _ _ x => x
  obtain ⟨ρ2, H2, st2, hr2, b, vb, h2⟩ := p2
  exact wp_after (st1.trans0 st2) (h2 A ρ2 s2 ra rb ok hr2 (va.step st2) vb)

/-! leaves -/
theorem e_int {i : Int} {k : Nat} {pos : Pos} {Φ : V → List O → Prop} (h : Φ (.int i) H) : aE prog w G d env (.Constant (.int i) k pos) vars H Φ :=
  fun _ _ _ _ hr _ => wpAny_Constant_int (Post.tk hr ⟨.int i, ⟨_, rfl⟩, h⟩)
theorem e_str {x : Str} {k : Nat} {pos : Pos} {Φ : V → List O → Prop} (h : Φ (.str x) H) : aE prog w G d env (.Constant (.str x) k pos) vars H Φ :=
  fun _ _ _ _ hr _ => Calls.Constant_str (Post.tk hr ⟨.str x, ⟨_, rfl⟩, h⟩)
theorem e_flt {x : UInt64} {k : Nat} {pos : Pos} {Φ : V → List O → Prop} (h : Φ (.flt x) H) : aE prog w G d env (.Constant (.float x) k pos) vars H Φ :=
  fun _ _ s _ hr _ => (fun _ _ _ => (Post.tk hr ⟨.flt x, ⟨_, rfl⟩, h⟩ : Post G _ s _ _ { s with toks := s.toks + 1 }))
theorem e_bool {b : Bool} {k : Nat} {pos : Pos} {Φ : V → List O → Prop} (h : Φ (.bool b) H) : aE prog w G d env (.Constant (.bool b) k pos) vars H Φ :=
  fun _ _ _ _ hr _ => Constant_bool (Post.here hr ⟨.bool b, rfl, h⟩)
theorem e_var {x : Str} {pos : Pos} {v : V} {Φ : V → List O → Prop} (hv : vars x = some v) (h : Φ v H) (hk : env.scope.kind = .function := by rfl) (hl : env.kindOf x = some .local := by rfl)
    (hd : (x == ("__debug__" : Str)) = false := by decide) : aE prog w G d env (.Name x pos) vars H Φ := by
  intro A ρ s ok hr fr
  obtain ⟨m, hn, hm⟩ := fr.ns
  obtain ⟨rv, r, e⟩ := hm x v hv
  rcases e with ⟨_, e⟩ | ⟨e, _⟩
  · exact wpAny_Name (wpAny_loadName_local hk hl hn e (Post.here hr ⟨v, r, h⟩)) hd
  · rw [hl] at e; rcases e with e | e <;> cases e
theorem e_cell {x : Str} {pos : Pos} {v : V} {Φ : V → List O → Prop} (hv : vars x = some v) (h : Φ v H) (hk : env.scope.kind = .function := by rfl) (hl : env.kindOf x = some .cell := by rfl)
    (hd : (x == ("__debug__" : Str)) = false := by decide) : aE prog w G d env (.Name x pos) vars H Φ := by
  intro A ρ s ok hr fr
  obtain ⟨m, hn, hm⟩ := fr.ns
  obtain ⟨rv, r, e⟩ := hm x v hv
  rcases e with ⟨e, _⟩ | ⟨_, c, h1, h2⟩
  · rw [hl] at e; cases e
  · exact wpAny_Name (wpAny_loadName_cell hk hl h1 h2 (Post.here hr ⟨v, r, h⟩)) hd
theorem HR.live {ρ : List Addr} {s : Shared} (x : HR G ρ H s) {a : Addr} (h : a ∈ ρ) : s.heap.get? a ≠ none := by
  intro e
  obtain ⟨n, hn⟩ := List.getElem?_of_mem h
  have hl : n < H.length := by rw [← x.len]; exact (List.getElem?_eq_some_iff.mp hn).1
  have := x.obj n a _ hn (List.getElem?_eq_getElem hl)
  cases ho : H[n] with
  | lst l => rw [ho] at this; obtain ⟨_, _, q, _⟩ := this; rw [e] at q; cases q
  | dct f k => rw [ho] at this; obtain ⟨_, ⟨_, _, _, q, _⟩, _⟩ := this; rw [e] at q; cases q
theorem HR.gone {ρ : List Addr} {s : Shared} (x : HR G ρ H s) {a : Addr} (h : s.heap.get? a = none) : a ∉ ρ ∧ G.h.get? a = none := by
  refine ⟨fun hm => x.live hm h, ?_⟩
  cases e : G.h.get? a with
  | none => rfl
  | some o => rw [x.base _ _ e] at h; cases h
theorem gone_size {h : Heap} {a : Addr} (e : h.objs.size ≤ a) : h.get? a = none := by
  cases q : h.get? a with
  | none => rfl
  | some o => exact absurd (Heap.lt_size q) (Nat.not_lt.mpr e)
/-- a global's value -/
def GV (G : Gl) (v : V) (rv : Value) : Prop := ∀ ρ h, VR G ρ h v rv
theorem e_glob {x : Str} {pos : Pos} {rv : Value} {v : V} {Φ : V → List O → Prop} (g : Glb G) (hv : G.mg x = some rv) (hr' : GV G v rv) (h : Φ v H)
    (hgl : env.globals = mainGlobals := by rfl) (hk : env.scope.kind = .function := by rfl) (hl : env.kindOf x = some .globalImplicit := by rfl)
    (hd : (x == ("__debug__" : Str)) = false := by decide) : aE prog w G d env (.Name x pos) vars H Φ := by
  intro A ρ s ok hr fr
  exact Calls.Name_function_global hk hl (Calls.loadGlobal_global (by rw [hgl]; exact g.g.keeps hr.base) hv (Post.here hr ⟨v, hr' _ _, h⟩)) hd
end
end Mine
end

section
open PySem PySem.W PyProof.Rows PySem.Calls
set_option maxRecDepth 100000
namespace Mine
section
variable {prog : Program} {w : World} {G : Gl} {d : Nat} {env : Env} {vars : Vars} {H : List O} {α β : Type}

theorem OR.mono {ρ ρ' : List Addr} {h h' : Heap} (pre : ∀ (n : Nat) (a : Addr), ρ[n]? = some a → ρ'[n]? = some a) (new : ∀ a ∈ ρ', a ∈ ρ ∨ ∀ items k, h.get? a ≠ some { cls := .type "tuple", data := .seq items k })
    {X : List Addr} (hX : ∀ x ∈ X, ∀ items k, h.get? x ≠ some { cls := .type "tuple", data := .seq items k })
    (keep : ∀ b o, b ∉ ρ → b ∉ X → h.get? b = some o → h'.get? b = some o) {a : Addr} {o : O} (ha : ∀ ob, h.get? a = some ob → h'.get? a = some ob) (x : OR G ρ h a o) : OR G ρ' h' a o := by
  cases o with
  | lst l =>
    obtain ⟨items, k, e, vs⟩ := x
    exact ⟨items, k, ha _ e, VRs.mono pre new hX keep vs⟩
  | dct f n =>
    obtain ⟨m, e, le, vs⟩ := x
    have he := e
    obtain ⟨o, es, ep, ho, _⟩ := he
    refine ⟨m, ?_, le.of_same ho (ha _ ho), fun k => ⟨(vs k).1, fun v hv => ?_⟩⟩
    · obtain ⟨o', es', ep', ho', r⟩ := e
      exact ⟨o', es', ep', ha _ ho', r⟩
    · obtain ⟨rv, h1, h2⟩ := (vs k).2 v hv
      exact ⟨rv, h1, VR.mono pre new hX keep h2⟩

theorem alive_of {h h' : Heap} (keep : ∀ b o, h.get? b = some o → h'.get? b = some o) : ∀ b, h.get? b ≠ none → h'.get? b ≠ none := by
  intro b e q
  cases ho : h.get? b with
  | none => exact e ho
  | some o => rw [keep b o ho] at q; cases q
/-- a heap that grows, nothing in it changed -/
theorem HR.grow {ρ : List Addr} {s : Shared} {h' : Heap} {tk : Nat} (x : HR G ρ H s) (keep : ∀ b o, s.heap.get? b = some o → h'.get? b = some o) :
    HR G ρ H { s with heap := h', toks := tk } where
  base := fun b o e => keep b o (x.base b o e)
  newρ := x.newρ
  nodup := x.nodup
  len := x.len
  obj := fun n a o h1 h2 => OR.mono (fun _ _ e => e) (fun _ h => .inl h) noTup_nil (fun b o _ _ e => keep b o e) (fun ob e => keep _ _ e) (x.obj n a o h1 h2)
theorem Step.grow {X ρ : List Addr} {s : Shared} {h' : Heap} {tk : Nat} (keep : ∀ b o, s.heap.get? b = some o → h'.get? b = some o) :
    Step X ρ s ρ { s with heap := h', toks := tk } := ⟨⟨_, _, rfl⟩, alive_of keep, fun b o _ _ e => keep b o e, fun _ _ e => e, fun _ h => .inl h⟩
theorem Post.grow {ρ : List Addr} {s : Shared} {h' : Heap} {tk : Nat} {Φ : α → List Addr → List O → Shared → Prop} {r : α} (x : HR G ρ H s) (keep : ∀ b o, s.heap.get? b = some o → h'.get? b = some o)
    (q : Φ r ρ H { s with heap := h', toks := tk }) : Post G ρ s Φ r { s with heap := h', toks := tk } :=
  ⟨ρ, H, Step.grow keep, x.grow keep, q⟩

theorem HR.notin {ρ : List Addr} {s : Shared} (x : HR G ρ H s) {a : Addr} (h : s.heap.objs.size ≤ a) : a ∉ ρ := (x.gone (gone_size h)).1

theorem mem_snoc_new {ρ : List Addr} {s : Shared} : ∀ a ∈ ρ ++ [s.heap.objs.size], a ∈ ρ ∨ s.heap.get? a = none := by
  intro a h
  rcases List.mem_append.mp h with h | h
  · exact .inl h
  · rw [List.mem_singleton.mp h]; exact .inr (gone_size (Nat.le_refl _))
theorem mem_snoc_newT {ρ : List Addr} {s : Shared} : ∀ a ∈ ρ ++ [s.heap.objs.size], a ∈ ρ ∨ ∀ items k, s.heap.get? a ≠ some { cls := .type "tuple", data := .seq items k } :=
  fun a h => (mem_snoc_new a h).imp id fun q _ _ e => by rw [q] at e; cases e
theorem pre_snoc {ρ : List Addr} {z : Addr} : ∀ (n : Nat) (a : Addr), ρ[n]? = some a → (ρ ++ [z])[n]? = some a := by
  intro n a h
  rw [List.getElem?_append_left (List.getElem?_eq_some_iff.mp h).1]; exact h

/-- a new list or dict -/
theorem HR.new {ρ : List Addr} {s : Shared} {ob : Obj} {o : O} {tk : Nat} (x : HR G ρ H s) (hf : ob.isFreed = false)
    (q : OR G (ρ ++ [s.heap.objs.size]) (s.heap.push ob) s.heap.objs.size o) : HR G (ρ ++ [s.heap.objs.size]) (H ++ [o]) { s with heap := s.heap.push ob, toks := tk } where
  base := fun b o e => Heap.get?_push_of_some _ (x.base b o e)
  newρ := fun a h => by
    rcases List.mem_append.mp h with h | h
    · exact x.newρ a h
    · rw [List.mem_singleton.mp h]
      exact (x.gone (gone_size (Nat.le_refl _))).2
  nodup := by
    rw [List.nodup_append]
    refine ⟨x.nodup, by simp, fun a ha b hb => ?_⟩
    rw [List.mem_singleton.mp hb]
    exact fun q => x.notin (Nat.le_refl _) (by rw [← q]; exact ha)
  len := by simp [x.len]
  obj := fun n a o' h1 h2 => by
    by_cases hn : n < ρ.length
    · rw [List.getElem?_append_left hn] at h1
      rw [List.getElem?_append_left (by rw [← x.len]; exact hn)] at h2
      exact OR.mono pre_snoc mem_snoc_newT noTup_nil (fun b o _ _ e => Heap.get?_push_of_some _ e) (fun ob e => Heap.get?_push_of_some _ e) (x.obj n a o' h1 h2)
    · have e1 : n = ρ.length := by
        have := (List.getElem?_eq_some_iff.mp h1).1
        simp at this; (exact om236 hn this)
      subst e1
      rw [List.getElem?_append_right (Nat.le_refl _)] at h1
      rw [x.len, List.getElem?_append_right (Nat.le_refl _)] at h2
      simp at h1 h2
      subst h1; subst h2
      exact q
theorem Step.newρ {X ρ : List Addr} {s : Shared} {ob : Obj} {tk : Nat} : Step X ρ s (ρ ++ [s.heap.objs.size]) { s with heap := s.heap.push ob, toks := tk } :=
  ⟨⟨_, _, rfl⟩, alive_of fun _ _ e => Heap.get?_push_of_some _ e, fun b o _ _ e => Heap.get?_push_of_some _ e, pre_snoc, mem_snoc_new⟩

/-- a change of one object in ρ -/
theorem HR.upd {ρ : List Addr} {s : Shared} {n : Nat} {a : Addr} {h' : Heap} {o : O} {tk : Nat} (x : HR G ρ H s) (hn : ρ[n]? = some a) (sb : Heap.SameBut a s.heap h')
    (q : OR G ρ h' a o) : HR G ρ (H.set n o) { s with heap := h', toks := tk } where
  base := fun b o e => by
    have hb : b ≠ a := fun h => by
      have := x.newρ a (List.mem_of_getElem? hn)
      rw [← h, e] at this; cases this
    exact (sb.2 _ hb).trans (x.base b o e)
  newρ := x.newρ
  nodup := x.nodup
  len := by simp [x.len]
  obj := fun k b o' h1 h2 => by
    by_cases hk : k = n
    · subst hk
      rw [hn] at h1; cases h1
      rw [List.getElem?_set_self (by rw [← x.len]; exact (List.getElem?_eq_some_iff.mp hn).1)] at h2
      cases h2; exact q
    · rw [List.getElem?_set_ne (Ne.symm hk)] at h2
      have hb : b ≠ a := fun h => by
        subst h
        have h3 := List.getElem?_eq_some_iff.mp h1
        have h4 := List.getElem?_eq_some_iff.mp hn
        obtain ⟨i1, e1⟩ := h3
        obtain ⟨i2, e2⟩ := h4
        exact hk ((List.getElem_inj x.nodup).mp (e1.trans e2.symm))
      have ha : a ∈ ρ := List.mem_of_getElem? hn
      exact OR.mono (fun _ _ e => e) (fun _ h => .inl h) noTup_nil (fun c o hc _ e => (sb.2 _ (fun h => hc (by rw [h]; exact ha))).trans e)
        (fun ob e => (sb.2 _ hb).trans e) (x.obj k b o' h1 h2)
theorem alive_same {h h' : Heap} {a : Addr} (sb : Heap.SameBut a h h') (hl : h'.get? a ≠ none) : ∀ b, h.get? b ≠ none → h'.get? b ≠ none := by
  intro b e
  by_cases q : b = a
  · rw [q]; exact hl
  · rw [sb.2 b q]; exact e
theorem Step.upd {X ρ : List Addr} {s : Shared} {a : Addr} {h' : Heap} {tk : Nat} (ha : a ∈ ρ) (sb : Heap.SameBut a s.heap h') (hl : h'.get? a ≠ none) : Step X ρ s ρ { s with heap := h', toks := tk } :=
  ⟨⟨_, _, rfl⟩, alive_same sb hl,
   fun b o hb _ e => (sb.2 _ (fun h => hb (by rw [h]; exact ha))).trans e, fun _ _ e => e, fun _ h => .inl h⟩
/-- a change of an object that is neither in ρ nor old -/
theorem HR.out {ρ : List Addr} {s : Shared} {a : Addr} {h' : Heap} {tk : Nat} (x : HR G ρ H s) (hn : a ∉ ρ) (hg : G.h.get? a = none) (sb : Heap.SameBut a s.heap h')
    (ht : ∀ items k, s.heap.get? a ≠ some { cls := .type "tuple", data := .seq items k }) : HR G ρ H { s with heap := h', toks := tk } where
  base := fun b o e => by
    have hb : b ≠ a := fun h => by rw [← h, e] at hg; cases hg
    exact (sb.2 _ hb).trans (x.base b o e)
  newρ := x.newρ
  nodup := x.nodup
  len := x.len
  obj := fun k b o' h1 h2 => by
    have hb : b ≠ a := fun h => hn (by rw [← h]; exact List.mem_of_getElem? h1)
    exact OR.mono (X := [a]) (fun _ _ e => e) (fun _ h => .inl h) (fun x hx => by rw [List.mem_singleton.mp hx]; exact ht) (fun c o _ hc e => (sb.2 _ (fun h => hc (by simp [h]))).trans e)
        (fun ob e => (sb.2 _ hb).trans e) (x.obj k b o' h1 h2)
theorem VRs.upd {ρ : List Addr} {h h' : Heap} {a : Addr} (ha : a ∈ ρ) (sb : Heap.SameBut a h h') {l : List V} {rs : List Value} (x : VRs G ρ h l rs) : VRs G ρ h' l rs :=
  VRs.mono (fun _ _ e => e) (fun _ h => .inl h) noTup_nil (fun c o hc _ e => (sb.2 _ (fun h => hc (by rw [h]; exact ha))).trans e) x
theorem VR.upd {ρ : List Addr} {h h' : Heap} {a : Addr} (ha : a ∈ ρ) (sb : Heap.SameBut a h h') {l : V} {rs : Value} (x : VR G ρ h l rs) : VR G ρ h' l rs :=
  VR.mono (fun _ _ e => e) (fun _ h => .inl h) noTup_nil (fun c o hc _ e => (sb.2 _ (fun h => hc (by rw [h]; exact ha))).trans e) x

/-! arguments -/
theorem args_of : ∀ {es : List Expr} {vars : Vars} {H : List O} {Φ : List V → List O → Prop}, aEs prog w G d env es vars H Φ →
    aT prog w G d env (spliced (es.map fun e => (false, eval e env))) vars H (PVs G Φ)
  | [], vars, H, Φ, h => fun A ρ s ok hr fr => Calls.spliced_nil (Post.here hr ⟨[], by simp [VRs], h⟩)
  | e :: es, vars, H, Φ, h => fun A ρ s ok hr fr => by
    have h' : aE prog w G d env e vars H fun v H1 => aEs prog w G d env es vars H1 fun vs H2 => Φ (v :: vs) H2 := h
    refine Calls.spliced_cons (wpAny_mono (h' A ρ s ok hr fr) (fun ra s1 p1 => ?_) fun _ _ x => x)
    obtain ⟨ρ1, H1, st1, hr1, a, va, h1⟩ := p1
    refine wpAny_mono (args_of h1 A ρ1 s1 ok hr1 (fr.step st1)) (fun rs s2 p2 => ?_) fun _ _ x => x
    obtain ⟨ρ2, H2, st2, hr2, vs, vvs, h2⟩ := p2
    refine ⟨ρ2, H2, st1.trans0 st2, hr2, a :: vs, ?_, h2⟩
    unfold VRs
    exact ⟨ra, rs, rfl, va.step st2, vvs⟩

theorem e_Tuple {elts : List Expr} {k : Nat} {pos : Pos} {Φ : V → List O → Prop} (h : aEs prog w G d env elts vars H fun vs H1 => vs.length ≤ 1000 ∧ Φ (.tup vs) H1)
    (hs : backTo pos (starEach elts env) = elts.map fun e => (false, eval e env) := by rfl) : aE prog w G d env (.Tuple elts k pos) vars H Φ := by
  intro A ρ s ok hr fr
  refine Tuple_ ?_
  rw [hs]
  refine wpAny_mono (args_of h A ρ s ok hr fr) (fun rs s1 p1 => ?_) fun _ _ x => x
  obtain ⟨ρ1, H1, st1, hr1, vs, vvs, hlen, h1⟩ := p1
  have hl := vvs.length
  refine wpAny_newObj_type (T := "tuple") ?_ (by show rs.toArray.size ≤ sizeLine; rw [List.size_toArray, sizeLine_eq]; (exact om237 hlen hl))
  refine (Post.grow (tk := s1.toks) (h' := s1.heap.push { cls := .type "tuple", data := .seq rs.toArray }) hr1 (fun _ _ e => Heap.get?_push_of_some _ e) ?_).after st1
  refine ⟨.tup vs, ?_, h1⟩
  unfold VR
  exact ⟨s1.heap.objs.size, rs.toArray, 0, rfl, hr1.notin (Nat.le_refl _), Heap.get?_push_size _ rfl, by
    simpa using VRs.mono (fun _ _ e => e) (fun _ h => .inl h) noTup_nil (fun b o _ _ e => Heap.get?_push_of_some _ e) vvs⟩

theorem OR.newList {ρ : List Addr} {s : Shared} {vs : List V} {rs : List Value} (hr : HR G ρ H s) (x : VRs G ρ s.heap vs rs) :
    OR G (ρ ++ [s.heap.objs.size]) (s.heap.push { cls := .type "list", data := .seq rs.toArray }) s.heap.objs.size (.lst vs) :=
  ⟨rs.toArray, 0, Heap.get?_push_size _ rfl, by simpa using VRs.mono pre_snoc mem_snoc_newT noTup_nil (fun b o _ _ e => Heap.get?_push_of_some _ e) x⟩
theorem VR.newRef {ρ : List Addr} {s : Shared} {h : Heap} (hr : HR G ρ H s) : VR G (ρ ++ [s.heap.objs.size]) h (.ref H.length) (.ref s.heap.objs.size) := by
  unfold VR
  exact ⟨s.heap.objs.size, by rw [← hr.len]; simp, rfl⟩

theorem newList_of {ρ : List Addr} {s : Shared} {A : Around} {vs : List V} {rs : List Value} {E : Value → Shared → Prop} {Φ : V → List O → Prop} (hr : HR G ρ H s) (x : VRs G ρ s.heap vs rs) (hlen : vs.length ≤ 1000000)
    (h : Φ (.ref H.length) (H ++ [.lst vs])) : wpAny (model prog w) A (newList rs) (Post G ρ s (PV G Φ)) E s := by
  have hl := x.length
  refine wpAny_newObj_type (T := "list") ?_ (by show rs.toArray.size ≤ sizeLine; rw [List.size_toArray, sizeLine_eq]; (exact om238 hlen hl))
  exact ⟨ρ ++ [s.heap.objs.size], H ++ [.lst vs], Step.newρ (tk := s.toks), HR.new (tk := s.toks) hr rfl (OR.newList hr x), _, VR.newRef hr, h⟩

theorem e_List {elts : List Expr} {pos : Pos} {Φ : V → List O → Prop} (h : aEs prog w G d env elts vars H fun vs H1 => vs.length ≤ 1000000 ∧ Φ (.ref H1.length) (H1 ++ [.lst vs]))
    (hs : backTo pos (starEach elts env) = elts.map fun e => (false, eval e env) := by rfl) : aE prog w G d env (.List elts pos) vars H Φ := by
  intro A ρ s ok hr fr
  refine List_ ?_
  rw [hs]
  refine wpAny_mono (args_of h A ρ s ok hr fr) (fun rs s1 p1 => ?_) fun _ _ x => x
  obtain ⟨ρ1, H1, st1, hr1, vs, vvs, hlen, h1⟩ := p1
  exact wpAny_mono (newList_of (E := fun _ _ => False) hr1 vvs hlen h1) (fun _ _ p => p.after st1) fun _ _ x => x.elim

/-! calls -/
theorem e_Call_builtin {id : String} {x : Str} {p pos : Pos} {e : Expr} {es : List Expr} {Φ : V → List O → Prop} (g : Glb G) (hm : G.mg x = none) (hb : G.mb x = some (.builtin id))
    (h : aEs prog w G d env (e :: es) vars H fun vs H1 => aOn prog w G d (fun rs => call (.builtin id) rs) vs H1 (PV G Φ))
    (hs : backTo pos (starEach (e :: es) env) = (e :: es).map fun e => (false, eval e env) := by rfl)
    (hgl : env.globals = mainGlobals := by rfl) (hbl : env.builtins = builtinsNs := by rfl) (hk : env.scope.kind = .function := by rfl) (hl : env.kindOf x = some .globalImplicit := by rfl)
    (hd : (x == ("__debug__" : Str)) = false := by decide) : aE prog w G d env (.Call (.Name x p) (e :: es) [] pos) vars H Φ := by
  intro A ρ s ok hr fr
  refine wpAny_Call_NameR (Calls.Name_function_global hk hl (Calls.loadGlobal_builtin (by rw [hgl]; exact g.g.keeps hr.base) hm (by rw [hbl]; exact g.b.keeps hr.base) hb ?_) hd)
  rw [hs]
  refine Calls.callWith_builtin (by simp [List.any_map]) ?_
  refine Calls.evalArgs_plain (wpAny_mono (args_of h A ρ s ok hr fr) (fun rs s1 p1 => ?_) fun _ _ x => x)
  obtain ⟨ρ1, H1, st1, hr1, vs, vvs, h1⟩ := p1
  exact wp_after st1 (h1 A ρ1 s1 rs ok hr1 vvs)
theorem e_Call_type {T : String} {x : Str} {p pos : Pos} {e : Expr} {es : List Expr} {Φ : V → List O → Prop} (g : Glb G) (hm : G.mg x = none) (hb : G.mb x = some (.type T))
    (h : aEs prog w G d env (e :: es) vars H fun vs H1 => aOn prog w G d (fun rs => call (.type T) rs) vs H1 (PV G Φ))
    (hs : backTo pos (starEach (e :: es) env) = (e :: es).map fun e => (false, eval e env) := by rfl)
    (hgl : env.globals = mainGlobals := by rfl) (hbl : env.builtins = builtinsNs := by rfl) (hk : env.scope.kind = .function := by rfl) (hl : env.kindOf x = some .globalImplicit := by rfl)
    (hd : (x == ("__debug__" : Str)) = false := by decide) : aE prog w G d env (.Call (.Name x p) (e :: es) [] pos) vars H Φ := by
  intro A ρ s ok hr fr
  refine wpAny_Call_NameR (Calls.Name_function_global hk hl (Calls.loadGlobal_builtin (by rw [hgl]; exact g.g.keeps hr.base) hm (by rw [hbl]; exact g.b.keeps hr.base) hb ?_) hd)
  rw [hs]
  refine PySem.callWith_type (by simp [List.any_map]) ?_
  refine Calls.evalArgs_plain (wpAny_mono (args_of h A ρ s ok hr fr) (fun rs s1 p1 => ?_) fun _ _ x => x)
  obtain ⟨ρ1, H1, st1, hr1, vs, vvs, h1⟩ := p1
  exact wp_after st1 (h1 A ρ1 s1 rs ok hr1 vvs)

/-- a def that stands at the top -/
structure FnAt (G : Gl) (x : Str) (params : Arguments) (body : List Stmt) (scope : Scope) : Prop where
  at_ : ∃ a pm cd doc, G.mg x = some (.ref a) ∧ G.h.get? a = some { cls := .type "function", data := .func (Calls.docDef x params body scope pm cd doc) } ∧ G.h.CodeRec cd x

/-- what a call of the def named x gives -/
def aC (prog : Program) (w : World) (G : Gl) (d : Nat) (x : Str) (vs : List V) (H : List O) (Φ : V → List O → Prop) : Prop :=
  ∀ a, G.mg x = some (.ref a) → aOn prog w G d (fun rs => call (.ref a) rs) vs H (PV G Φ)

theorem e_Call_def {x : Str} {p pos : Pos} {e : Expr} {es : List Expr} {params : Arguments} {body : List Stmt} {scope : Scope} {Φ : V → List O → Prop} (g : Glb G) (f : FnAt G x params body scope)
    (h : aEs prog w G d env (e :: es) vars H fun vs H1 => aC prog w G d x vs H1 Φ)
    (hs : backTo pos (starEach (e :: es) env) = (e :: es).map fun e => (false, eval e env) := by rfl)
    (hgl : env.globals = mainGlobals := by rfl) (hk : env.scope.kind = .function := by rfl) (hl : env.kindOf x = some .globalImplicit := by rfl)
    (hd : (x == ("__debug__" : Str)) = false := by decide) : aE prog w G d env (.Call (.Name x p) (e :: es) [] pos) vars H Φ := by
  intro A ρ s ok hr fr
  obtain ⟨a, pm, cd, doc, hm, ho, hc⟩ := f.at_
  refine wpAny_Call_NameR (Calls.Name_function_global hk hl (Calls.loadGlobal_global (by rw [hgl]; exact g.g.keeps hr.base) hm ?_) hd)
  rw [hs]
  refine Calls.callWith_function (fd := Calls.docDef x params body scope pm cd doc) (o := { cls := .type "function", data := .func (Calls.docDef x params body scope pm cd doc) }) ?_
  refine Calls.evalArgs_plain (wpAny_mono (args_of h A ρ s ok hr fr) (fun rs s1 p1 => ?_) fun _ _ x => x)
  obtain ⟨ρ1, H1, st1, hr1, vs, vvs, h1⟩ := p1
  exact ⟨⟨hr1.base _ _ ho, rfl⟩, wp_after st1 (h1 a hm A ρ1 s1 rs ok hr1 vvs)⟩

/-! entering a def -/
def bindV (ps : List Str) (vs : List V) : Vars := fun x => ((ps.zip vs).reverse).lookup x

theorem zip_rel {ρ : List Addr} {h : Heap} : ∀ {ps : List Str} {vs : List V} {rs : List Value}, VRs G ρ h vs rs → ∀ x v, ((ps.zip vs).reverse).lookup x = some v →
    ∃ rv, ((ps.zip rs).reverse).lookup x = some rv ∧ VR G ρ h v rv := by
  intro ps vs rs hv x v
  have gen : ∀ (ps : List Str) (vs : List V) (rs : List Value), VRs G ρ h vs rs → ∀ (acc : List (Str × V)) (acc' : List (Str × Value)),
      (∀ x v, acc.lookup x = some v → ∃ rv, acc'.lookup x = some rv ∧ VR G ρ h v rv) → ∀ x v, ((ps.zip vs).reverse ++ acc).lookup x = some v →
      ∃ rv, ((ps.zip rs).reverse ++ acc').lookup x = some rv ∧ VR G ρ h v rv := by
    intro ps
    induction ps with
    | nil => intro vs rs _ acc acc' ha x v hx; simpa using ha x v (by simpa using hx)
    | cons p ps ih =>
      intro vs rs hv acc acc' ha x v hx
      cases vs with
      | nil =>
        unfold VRs at hv; subst hv
        simpa using ha x v (by simpa using hx)
      | cons u us =>
        unfold VRs at hv
        obtain ⟨r, rs', rfl, h1, h2⟩ := hv
        simp only [List.zip_cons_cons, List.reverse_cons, List.append_assoc, List.cons_append, List.nil_append] at hx ⊢
        refine ih us rs' h2 ((p, u) :: acc) ((p, r) :: acc') ?_ x v hx
        intro y z hy
        simp only [List.lookup_cons] at hy ⊢
        split at hy
        · cases hy; exact ⟨r, by simp_all, h1⟩
        · exact ha y z hy
  have := gen ps vs rs hv [] [] (fun _ _ h => by simp at h) x v
  simpa using this

def Fl.val : Fl → V
  | .ret v => v
  | _ => .none

/-- a call of a def: its body, in a frame of its own -/
theorem c_def {x : Str} {params : Arguments} {body : List Stmt} {scope : Scope} {vs : List V} {Φ : V → List O → Prop} (g : Glb G) (f : FnAt G x params body scope)
    (hbind : ∀ rs : List Value, rs.length = vs.length → ∀ pm cd doc, bindArgs (Calls.docDef x params body scope pm cd doc) ⟨rs, []⟩ = pure ((params.args.map (·.arg)).zip rs))
    (hloc : (params.args.all fun p => decide (scope.names.lookup p.arg = some .local)) = true)
    (h : ∀ L a cd, aSs prog w G d (envOf x scope L a cd) body (bindV (params.args.map (·.arg)) vs) H fun fl _ H' => Φ fl.val H')
    (hco : scope.isCoroutine = false := by rfl) (hgen : scope.isGenerator = false := by rfl) (hk : scope.kind = .function := by rfl)
    (hcell : ∀ x ∈ scope.names, x.2 ≠ .cell := by decide) : aC prog w G (d + 1) x vs H Φ := by
  intro a hm A ρ s rs ok hr hv
  obtain ⟨a', pm, cd, doc, hm', ho, hc⟩ := f.at_
  rw [hm] at hm'; cases hm'
  have hdep := ok.depth
  have huni := ok.units
  refine wpAny_call (PyProof.Rows.call_plain_ret (binds := (params.args.map (·.arg)).zip rs) (by (exact om239 hdep)) (hr.base _ _ ho) rfl (g.lim.keeps hr.base) (hc.keeps hr.base) (hbind rs hv.length pm cd doc) ?_ (fun h₁ F => ?_) hco hgen hk hcell)
  · intro y hy
    have h1 : y.1 ∈ params.args.map (·.arg) := (List.of_mem_zip hy).1
    obtain ⟨p, hp, e⟩ := List.mem_map.mp h1
    rw [← e]
    exact of_decide_eq_true (List.all_eq_true.mp hloc p hp)
  · have keep : ∀ b o, s.heap.get? b = some o → h₁.get? b = some o := F.keep
    refine wpAny_mono (h s.heap.objs.size a cd (A.deeper (envOf x scope s.heap.objs.size a cd)) ρ { s with heap := h₁, toks := s.toks + ((params.args.map (·.arg)).zip rs).length }
      ⟨ok.handled, by show A.depth + 1 + d < _; (exact om240 hdep), by show A.units + 3 + 8 * d + 40 < _; (exact om241 huni)⟩ (hr.grow keep) ⟨⟨_, F.ns, fun y v hy => ?_⟩, fun z hz => ?_, fun _ _ h => (nomatch h), List.Pairwise.nil⟩) (fun fl s' p => ?_) fun _ _ x => x.elim
    · have h2 : VRs G ρ h₁ vs rs := VRs.mono (fun _ _ e => e) (fun _ h => .inl h) noTup_nil (fun b o _ _ e => keep b o e) hv
      obtain ⟨rv, h3, h4⟩ := zip_rel h2 y v hy
      refine ⟨rv, h4, .inl ⟨?_, h3⟩⟩
      have h5 : (y, rv) ∈ (params.args.map (·.arg)).zip rs := List.mem_reverse.mp (mem_of_lookup h3)
      obtain ⟨p, hp, e⟩ := List.mem_map.mp (List.of_mem_zip h5).1
      show scope.names.lookup y = some .local
      rw [← e]
      exact of_decide_eq_true (List.all_eq_true.mp hloc p hp)
    · rcases List.mem_cons.mp hz with rfl | hz
      · exact hr.gone (gone_size (Nat.le_refl _))
      · cases hz
    · obtain ⟨ρ', vars', H', fl', st, hr', _, hfl, hΦ⟩ := p
      have st' : Step [] ρ s ρ' s' := by
        obtain ⟨hh, tk, rfl⟩ := st.same
        exact ⟨⟨hh, tk, rfl⟩, fun b e => st.alive b (alive_of keep b e), fun b o hb _ e => st.keep b o hb (fun hm => by
          have : b = s.heap.objs.size := List.mem_singleton.mp hm
          exact absurd (Heap.lt_size e) (by rw [this]; exact Nat.lt_irrefl _)) (keep b o e), st.pre, fun a hm => (st.new a hm).imp id fun q => Classical.byContradiction fun e => alive_of keep a e q⟩
      have fin : ∀ {rv : Value} {v : V}, VR G ρ' s'.heap v rv → v = fl'.val → Post G ρ s (PV G Φ) rv s' := by
        intro rv v h1 h2
        exact ⟨ρ', H', st', hr', v, h1, h2 ▸ hΦ⟩
      cases fl' with
      | next => cases (show fl = .next from hfl); exact fin (v := .none) (rv := .none) rfl rfl
      | brk => cases (show fl = .brk from hfl); exact fin (v := .none) (rv := .none) rfl rfl
      | cont => cases (show fl = .cont from hfl); exact fin (v := .none) (rv := .none) rfl rfl
      | ret v =>
        obtain ⟨rv, e, h1⟩ := hfl
        cases e
        exact fin h1 rfl
end
end Mine
end

section
open PySem PySem.W PyProof.Rows PySem.Calls
set_option maxRecDepth 100000
namespace Mine
section
variable {prog : Program} {w : World} {G : Gl} {d : Nat} {env : Env} {vars : Vars} {H : List O} {α β : Type}

def upd (vars : Vars) (x : Str) (v : V) : Vars := fun y => if y = x then some v else vars y

theorem PostS.after {ρ ρ1 : List Addr} {s s1 : Shared} {Φ : Fl → Vars → List O → Prop} (st : Step (own env) ρ s ρ1 s1) {r : Flow} {s' : Shared} (p : PostS G env ρ1 s1 Φ r s') : PostS G env ρ s Φ r s' :=
  let ⟨ρ', v', H', fl, st', x⟩ := p; ⟨ρ', v', H', fl, st.trans st', x⟩
theorem wpS_after {A : Around} {t : Sem Flow} {ρ ρ1 : List Addr} {s s1 : Shared} {Φ : Fl → Vars → List O → Prop} {E : Value → Shared → Prop} (st : Step (own env) ρ s ρ1 s1)
    (h : wpAny (model prog w) A t (PostS G env ρ1 s1 Φ) (fun _ _ => False) s1) : wpAny (model prog w) A t (PostS G env ρ s Φ) E s1 :=
  wpAny_mono h (fun _ _ p => p.after st) fun _ _ x => x.elim

/-- storing a name -/
theorem store_of {x : Str} {A : Around} {ρ : List Addr} {s : Shared} {v : V} {rv : Value} {E : Value → Shared → Prop} {Q : Unit → Shared → Prop} (hr : HR G ρ H s) (fr : FR G env ρ vars s) (hv : VR G ρ s.heap v rv)
    (hk : env.scope.kind = .function) (hl : env.kindOf x = some .local ∨ (env.kindOf x = some .cell ∧ ∃ c, env.cells.lookup x = some c))
    (h : ∀ s', Step (own env) ρ s ρ s' → HR G ρ H s' → FR G env ρ (upd vars x v) s' → Q () s') : wpAny (model prog w) A (storeName env x rv) Q E s := by
  obtain ⟨m, hn, hm⟩ := fr.ns
  rcases hl with hl | ⟨hl, c, hc⟩
  · refine wpAny_storeName_local hl hn (fun h' hn' sb => ?_) (by rw [hk]; rfl)
    have st : Step (own env) ρ s ρ { s with heap := h', toks := s.toks + 1 } :=
      ⟨⟨_, _, rfl⟩, alive_same sb (by obtain ⟨o, _, _, ho, _⟩ := hn'; rw [ho]; exact fun q => nomatch q), fun b o _ hb e => (sb.2 _ (fun q => hb (by rw [q]; exact mem_own_locals))).trans e, fun _ _ e => e, fun _ q => .inl q⟩
    refine h _ st (HR.out hr (fr.out _ mem_own_locals).1 (fr.out _ mem_own_locals).2 sb (fr.noTup _ mem_own_locals)) ⟨⟨_, hn', fun y u hy => ?_⟩, fr.out, fun n c hm => ?_, fr.apart⟩
    · unfold upd at hy
      by_cases e : y = x
      · rw [if_pos e] at hy; cases hy
        exact ⟨rv, hv.own fr st, .inl ⟨by rw [e]; exact hl, by simp [e]⟩⟩
      · rw [if_neg e] at hy
        obtain ⟨ru, a, b⟩ := hm y u hy
        refine ⟨ru, a.own fr st, b.imp (fun q => ⟨q.1, by simp only [if_neg e]; exact q.2⟩) fun q => ⟨q.1, ?_⟩⟩
        obtain ⟨c, h1, h2⟩ := q.2
        exact ⟨c, h1, h2.sameBut sb (fr.cell _ _ (mem_of_lookup h1)).1⟩
    · obtain ⟨h1, v, h2⟩ := fr.cell n c hm
      exact ⟨h1, v, h2.sameBut sb h1⟩
  · have hmem := mem_of_lookup hc
    obtain ⟨hne, v₀, hv₀⟩ := fr.cell _ _ hmem
    refine wpAny_storeName_cell hk hl hc hv₀ (fun h' hn' sb => ?_)
    have st : Step (own env) ρ s ρ { s with heap := h' } :=
      ⟨⟨_, _, rfl⟩, alive_same sb (by obtain ⟨o, ho, _⟩ := hn'; rw [ho]; exact fun q => nomatch q), fun b o _ hb e => (sb.2 _ (fun q => hb (by rw [q]; exact mem_own_cell hmem))).trans e, fun _ _ e => e, fun _ q => .inl q⟩
    refine h _ st (HR.out (tk := s.toks) hr (fr.out _ (mem_own_cell hmem)).1 (fr.out _ (mem_own_cell hmem)).2 sb (fr.noTup _ (mem_own_cell hmem))) ⟨⟨_, hn.sameBut sb (Ne.symm hne), fun y u hy => ?_⟩, fr.out, fun n c' hm' => ?_, fr.apart⟩
    · unfold upd at hy
      by_cases e : y = x
      · rw [if_pos e] at hy; cases hy
        exact ⟨rv, hv.own fr st, .inr ⟨.inl (by rw [e]; exact hl), c, by rw [e]; exact hc, hn'⟩⟩
      · rw [if_neg e] at hy
        obtain ⟨ru, a, b⟩ := hm y u hy
        refine ⟨ru, a.own fr st, b.imp id fun q => ⟨q.1, ?_⟩⟩
        obtain ⟨c', h1, h2⟩ := q.2
        refine ⟨c', h1, h2.sameBut sb fun q => e ?_⟩
        subst q
        exact name_of_addr fr.apart (mem_of_lookup h1) hmem
    · obtain ⟨h1, v, h2⟩ := fr.cell n c' hm'
      by_cases e : c' = c
      · subst e; exact ⟨h1, _, hn'⟩
      · exact ⟨h1, v, h2.sameBut sb e⟩

/-! blocks -/
theorem ss_nil {Φ : Fl → Vars → List O → Prop} (h : Φ .next vars H) : aSs prog w G d env [] vars H Φ :=
  fun _ ρ s _ hr fr => wpAny_execs_nil ⟨ρ, vars, H, .next, Step.refl _ _ _, hr, fr, rfl, h⟩
def thenS (k : Vars → List O → Prop) (Φ : Fl → Vars → List O → Prop) : Fl → Vars → List O → Prop
  | .next, v, h => k v h
  | fl, v, h => Φ fl v h
theorem ss_cons {st : Stmt} {rest : List Stmt} {Φ : Fl → Vars → List O → Prop} (h : aS prog w G d env st vars H (thenS (fun v' H' => aSs prog w G d env rest v' H' Φ) Φ)) : aSs prog w G d env (st :: rest) vars H Φ := by
  intro A ρ s ok hr fr
  refine wpAny_execs_cons (wpAny_mono (h A ρ s ok hr fr) (fun f s1 p1 => ?_) fun _ _ x => x)
  obtain ⟨ρ1, v1, H1, fl, st1, hr1, fr1, hfl, h1⟩ := p1
  cases fl with
  | next =>
    cases (show f = .next from hfl)
    exact wpS_after st1 ((show aSs prog w G d env rest v1 H1 Φ from h1) A ρ1 s1 ok hr1 fr1)
  | brk => cases (show f = .brk from hfl); exact ⟨ρ1, v1, H1, .brk, st1, hr1, fr1, rfl, h1⟩
  | cont => cases (show f = .cont from hfl); exact ⟨ρ1, v1, H1, .cont, st1, hr1, fr1, rfl, h1⟩
  | ret v =>
    obtain ⟨rv, rfl, hv⟩ := hfl
    exact ⟨ρ1, v1, H1, .ret v, st1, hr1, fr1, ⟨rv, rfl, hv⟩, h1⟩

/-! statements -/
theorem s_assign {x : Str} {pos' pos : Pos} {value : Expr} {Φ : Fl → Vars → List O → Prop} (h : aE prog w G d env value vars H fun v H1 => Φ .next (upd vars x v) H1)
    (hs : swapsWith value (some (.Name x pos')) pos.line env = pure false := by rfl) (hk : env.scope.kind = .function := by rfl) (hl : env.kindOf x = some .local := by rfl) :
    aS prog w G d env (.Assign [.Name x pos'] value pos) vars H Φ := by
  intro A ρ s ok hr fr
  refine wpAny_Assign_Name (wpAny_mono (h A ρ s ok hr fr) (fun rv s1 p1 => ?_) fun _ _ x => x) hs
  obtain ⟨ρ1, H1, st1, hr1, v, vv, h1⟩ := p1
  exact store_of hr1 (fr.step st1) vv hk (.inl hl) fun s' st hr' fr' => ⟨ρ1, _, H1, .next, st1.toX.trans st, hr', fr', rfl, h1⟩
theorem s_assign_cell {x : Str} {pos' pos : Pos} {value : Expr} {Φ : Fl → Vars → List O → Prop} (h : aE prog w G d env value vars H fun v H1 => Φ .next (upd vars x v) H1)
    (hs : swapsWith value (some (.Name x pos')) pos.line env = pure false := by rfl) (hk : env.scope.kind = .function := by rfl) (hl : env.kindOf x = some .cell := by rfl) (hc : ∃ c, env.cells.lookup x = some c := by exact ⟨_, rfl⟩) :
    aS prog w G d env (.Assign [.Name x pos'] value pos) vars H Φ := by
  intro A ρ s ok hr fr
  refine wpAny_Assign_Name (wpAny_mono (h A ρ s ok hr fr) (fun rv s1 p1 => ?_) fun _ _ x => x) hs
  obtain ⟨ρ1, H1, st1, hr1, v, vv, h1⟩ := p1
  exact store_of hr1 (fr.step st1) vv hk (.inr ⟨hl, hc⟩) fun s' st hr' fr' => ⟨ρ1, _, H1, .next, st1.toX.trans st, hr', fr', rfl, h1⟩
theorem s_aug {x : Str} {pos' pos : Pos} {op : Operator} {value : Expr} {u : V} {Φ : Fl → Vars → List O → Prop} (hv : vars x = some u)
    (h : aE prog w G d env value vars H fun v H1 => aO2 prog w G d (inplaceOp op) u v H1 (PV G fun r H2 => Φ .next (upd vars x r) H2))
    (hk : env.scope.kind = .function := by rfl) (hl : env.kindOf x = some .local := by rfl) : aS prog w G d env (.AugAssign (.Name x pos') op value pos) vars H Φ := by
  intro A ρ s ok hr fr
  obtain ⟨m, hn, hm⟩ := fr.ns
  obtain ⟨ru, r, e⟩ := hm x u hv
  rcases e with ⟨_, e⟩ | ⟨e, _⟩
  · refine wpAny_AugAssign_Name (wpAny_loadName_local hk hl hn e (wpAny_mono (h A ρ s ok hr fr) (fun rv s1 p1 => ?_) fun _ _ x => x))
    obtain ⟨ρ1, H1, st1, hr1, v, vv, h1⟩ := p1
    refine wpAny_mono (h1 A ρ1 s1 _ _ ok hr1 (r.step st1) vv) (fun rr s2 p2 => ?_) fun _ _ x => x
    obtain ⟨ρ2, H2, st2, hr2, y, yy, h2⟩ := p2
    exact store_of hr2 (fr.step (st1.trans0 st2)) yy hk (.inl hl) fun s' st hr' fr' => ⟨ρ2, _, H2, .next, (st1.trans0 st2).toX.trans st, hr', fr', rfl, h2⟩
  · rw [hl] at e; rcases e with e | e <;> cases e
theorem s_expr {e : Expr} {pos : Pos} {Φ : Fl → Vars → List O → Prop} (h : aE prog w G d env e vars H fun v H1 => (v = .none ∨ ∃ i, v = .int i) ∧ Φ .next vars H1)
    (hi : interactive env = false := by rfl) (hs : swapsWith e none pos.line env = pure false := by rfl) : aS prog w G d env (.Expr e pos) vars H Φ := by
  intro A ρ s ok hr fr
  refine wpAny_Expr (wpAny_mono (h A ρ s ok hr fr) (fun rv s1 p1 => ?_) fun _ _ x => x) hi hs
  obtain ⟨ρ1, H1, st1, hr1, v, vv, hv, h1⟩ := p1
  rcases hv with rfl | ⟨i, rfl⟩
  · cases (show rv = .none from vv)
    exact ⟨ρ1, vars, H1, .next, st1.toX, hr1, fr.step st1, rfl, h1⟩
  · obtain ⟨t, rfl⟩ := vv
    exact ⟨ρ1, vars, H1, .next, st1.toX, hr1, fr.step st1, rfl, h1⟩
theorem s_return {e : Expr} {pos : Pos} {Φ : Fl → Vars → List O → Prop} (h : aE prog w G d env e vars H fun v H1 => Φ (.ret v) vars H1) : aS prog w G d env (.Return (some e) pos) vars H Φ := by
  intro A ρ s ok hr fr
  refine wpAny_Return_some (wpAny_mono (h A ρ s ok hr fr) (fun rv s1 p1 => ?_) fun _ _ x => x)
  obtain ⟨ρ1, H1, st1, hr1, v, vv, h1⟩ := p1
  exact ⟨ρ1, vars, H1, .ret v, st1.toX, hr1, fr.step st1, ⟨rv, rfl, vv⟩, h1⟩
theorem s_continue {pos : Pos} {Φ : Fl → Vars → List O → Prop} (h : Φ .cont vars H) : aS prog w G d env (.Continue pos) vars H Φ :=
  fun _ ρ s _ hr fr => wpAny_Continue ⟨ρ, vars, H, .cont, Step.refl _ _ _, hr, fr, rfl, h⟩
theorem s_if {test : Expr} {body orelse : List Stmt} {pos : Pos} {Φ : Fl → Vars → List O → Prop}
    (h : aB prog w G d env test vars H fun c H1 => if c then aSs prog w G d env body vars H1 Φ else aSs prog w G d env orelse vars H1 Φ) : aS prog w G d env (.If test body orelse pos) vars H Φ := by
  intro A ρ s ok hr fr
  refine wpAny_If (wpAny_mono (h A ρ s ok hr fr) (fun c s1 p1 => ?_) fun _ _ x => x)
  obtain ⟨ρ1, H1, st1, hr1, h1⟩ := p1
  cases c with
  | true => exact wpS_after (E := fun _ _ => False) st1.toX ((show aSs prog w G d env body vars H1 Φ from h1) A ρ1 s1 ok hr1 (fr.step st1))
  | false => exact wpS_after (E := fun _ _ => False) st1.toX ((show aSs prog w G d env orelse vars H1 Φ from h1) A ρ1 s1 ok hr1 (fr.step st1))
theorem s_assign_sub {o i value : Expr} {pos' pos : Pos} {Φ : Fl → Vars → List O → Prop}
    (h : aE prog w G d env value vars H fun v H1 => aE prog w G d env o vars H1 fun ov H2 => aE prog w G d env i vars H2 fun iv H3 => aO3 prog w G d setItem ov iv v H3 (PU fun H4 => Φ .next vars H4))
    (hs : swapsWith value (some (.Subscript o i pos')) pos.line env = pure false := by rfl) : aS prog w G d env (.Assign [.Subscript o i pos'] value pos) vars H Φ := by
  intro A ρ s ok hr fr
  refine wpAny_Assign_Subscript (wpAny_mono (h A ρ s ok hr fr) (fun rv s1 p1 => ?_) fun _ _ x => x) hs
  obtain ⟨ρ1, H1, st1, hr1, v, vv, h1⟩ := p1
  refine wpAny_mono (h1 A ρ1 s1 ok hr1 (fr.step st1)) (fun ro s2 p2 => ?_) fun _ _ x => x
  obtain ⟨ρ2, H2, st2, hr2, o', vo, h2⟩ := p2
  refine wpAny_mono (h2 A ρ2 s2 ok hr2 (fr.step (st1.trans0 st2))) (fun ri s3 p3 => ?_) fun _ _ x => x
  obtain ⟨ρ3, H3, st3, hr3, i', vi, h3⟩ := p3
  refine wpAny_mono (h3 A ρ3 s3 _ _ _ ok hr3 (vo.step st3) vi (vv.step (st2.trans0 st3))) (fun _ s4 p4 => ?_) fun _ _ x => x
  obtain ⟨ρ4, H4, st4, hr4, h4⟩ := p4
  have st := ((st1.trans0 st2).trans0 st3).trans0 st4
  exact ⟨ρ4, vars, H4, .next, st.toX, hr4, fr.step st, rfl, h4⟩
theorem s_aug_sub {o i value : Expr} {op : Operator} {tpos pos : Pos} {Φ : Fl → Vars → List O → Prop}
    (h : aE prog w G d env o vars H fun ov H1 => aE prog w G d env i vars H1 fun iv H2 => aO2 prog w G d getItem ov iv H2 (PV G fun old H3 =>
      aE prog w G d env value vars H3 fun v H4 => aO2 prog w G d (inplaceOp op) old v H4 (PV G fun new H5 => aO3 prog w G d setItem ov iv new H5 (PU fun H6 => Φ .next vars H6))))
    (hi : ∀ ov iv new, augStore i ov iv new = (do holding [new, ov, iv] (setItem ov iv new); release [new, ov, iv] []; pure .next) := by intros; rfl) : aS prog w G d env (.AugAssign (.Subscript o i tpos) op value pos) vars H Φ := by
  intro A ρ s ok hr fr
  refine wpAny_AugAssign_SubscriptAny (wpAny_mono (h A ρ s ok hr fr) (fun ro s1 p1 => ?_) fun _ _ x => x) hi
  obtain ⟨ρ1, H1, st1, hr1, ov, vo, h1⟩ := p1
  refine wpAny_mono (h1 A ρ1 s1 ok hr1 (fr.step st1)) (fun ri s2 p2 => ?_) fun _ _ x => x
  obtain ⟨ρ2, H2, st2, hr2, iv, vi, h2⟩ := p2
  refine wpAny_mono (h2 A ρ2 s2 _ _ ok hr2 (vo.step st2) vi) (fun rold s3 p3 => ?_) fun _ _ x => x
  obtain ⟨ρ3, H3, st3, hr3, old, vold, h3⟩ := p3
  have s13 := (st1.trans0 st2).trans0 st3
  refine wpAny_mono (h3 A ρ3 s3 ok hr3 (fr.step s13)) (fun rv s4 p4 => ?_) fun _ _ x => x
  obtain ⟨ρ4, H4, st4, hr4, v, vv, h4⟩ := p4
  refine wpAny_mono (h4 A ρ4 s4 _ _ ok hr4 (vold.step st4) vv) (fun rn s5 p5 => ?_) fun _ _ x => x
  obtain ⟨ρ5, H5, st5, hr5, new, vn, h5⟩ := p5
  have s25 := (st3.trans0 st4).trans0 st5
  refine wpAny_mono (h5 A ρ5 s5 _ _ _ ok hr5 (vo.step (st2.trans0 s25)) (vi.step s25) vn) (fun _ s6 p6 => ?_) fun _ _ x => x
  obtain ⟨ρ6, H6, st6, hr6, h6⟩ := p6
  have st := ((s13.trans0 st4).trans0 st5).trans0 st6
  exact ⟨ρ6, vars, H6, .next, st.toX, hr6, fr.step st, rfl, h6⟩
end
end Mine
end

section
open PySem PySem.W PyProof.Rows PySem.Calls
set_option maxRecDepth 100000
namespace Mine
section
variable {prog : Program} {w : World} {G : Gl} {d : Nat} {env : Env} {vars : Vars} {H : List O} {α β : Type} {A : Around}

/-- the heap changed at most at one object that is of no account -/
theorem HR.ext {ρ : List Addr} {s : Shared} {a : Addr} {h' : Heap} {tk : Nat} (x : HR G ρ H s) (hn : a ∉ ρ) (hg : G.h.get? a = none) (keep : ∀ b o, b ≠ a → s.heap.get? b = some o → h'.get? b = some o)
    (ht : ∀ items k, s.heap.get? a ≠ some { cls := .type "tuple", data := .seq items k }) : HR G ρ H { s with heap := h', toks := tk } where
  base := fun b o e => keep _ _ (fun h => by rw [← h, e] at hg; cases hg) (x.base b o e)
  newρ := x.newρ
  nodup := x.nodup
  len := x.len
  obj := fun k b o' h1 h2 =>
    OR.mono (X := [a]) (fun _ _ e => e) (fun _ h => .inl h) (fun x hx => by rw [List.mem_singleton.mp hx]; exact ht) (fun c o _ hc e => keep _ _ (fun h => hc (by simp [h])) e)
        (fun ob e => keep _ _ (fun h => hn (by rw [← h]; exact List.mem_of_getElem? h1)) e) (x.obj k b o' h1 h2)
theorem FR.ext {ρ : List Addr} {s : Shared} {a : Addr} {h' : Heap} {tk : Nat} (x : FR G env ρ vars s) (hn : a ∉ own env) (keep : ∀ b o, b ≠ a → s.heap.get? b = some o → h'.get? b = some o)
    (ht : ∀ items k, s.heap.get? a ≠ some { cls := .type "tuple", data := .seq items k }) : FR G env ρ vars { s with heap := h', toks := tk } := by
  obtain ⟨m, hm, hv⟩ := x.ns
  have kc : ∀ c, c ∈ own env → ∀ o, s.heap.get? c = some o → h'.get? c = some o := fun c hc o e => keep _ o (fun q => hn (by rw [← q]; exact hc)) e
  refine ⟨⟨m, hm.at (kc _ mem_own_locals), fun z v hz => ?_⟩, x.out, fun n c hm => ?_, x.apart⟩
  · obtain ⟨rv, b, e⟩ := hv z v hz
    refine ⟨rv, ?_, e.imp id fun q => ⟨q.1, ?_⟩⟩
    · exact VR.mono (X := [a]) (fun _ _ e => e) (fun _ h => .inl h) (fun x hx => by rw [List.mem_singleton.mp hx]; exact ht) (fun c o _ hc e => keep _ _ (fun h => hc (by simp [h])) e) b
    · obtain ⟨c, h1, h2⟩ := q.2
      exact ⟨c, h1, isCell_at h2 (kc _ (mem_own_cell (mem_of_lookup h1)))⟩
  · obtain ⟨h1, v, h2⟩ := x.cell n c hm
    exact ⟨h1, v, isCell_at h2 (kc _ (mem_own_cell hm))⟩
/-- such a change is no step against an older state in which the object was not yet -/
theorem Step.ext {X ρ ρ1 : List Addr} {s s1 : Shared} {a : Addr} {h' : Heap} {tk : Nat} (x : Step X ρ s ρ1 s1) (hg : s.heap.get? a = none) (keep : ∀ b o, b ≠ a → s1.heap.get? b = some o → h'.get? b = some o) :
    Step X ρ s ρ1 { s1 with heap := h', toks := tk } where
  same := by obtain ⟨h, tk, rfl⟩ := x.same; exact ⟨_, _, rfl⟩
  alive := fun b e q => by
    have hb : b ≠ a := fun h => e (by rw [h]; exact hg)
    have := x.alive b e
    cases h1 : s1.heap.get? b with
    | none => exact this h1
    | some o => rw [keep b o hb h1] at q; cases q
  keep := fun b o hb hx e => keep b o (fun h => by rw [h, hg] at e; cases e) (x.keep b o hb hx e)
  pre := x.pre
  new := x.new

variable (prog w G A) in
/-- an iterator that gives the values vs, one after another -/
structure Itr (I : Addr) (vs : List V) (C : List O → Prop) (D : List Addr → Prop) (fp : List Addr) (St : Nat → Heap → Prop) : Prop where
  mem : I ∈ fp
  dkeep : ∀ ρ ρ', (∀ (n : Nat) (a : Addr), ρ[n]? = some a → ρ'[n]? = some a) → D ρ → D ρ'
  live : ∀ i h, St i h → ∀ b ∈ fp, h.get? b ≠ none
  noTup : ∀ i h, St i h → ∀ items k, h.get? I ≠ some { cls := .type "tuple", data := .seq items k }
  keep : ∀ i h h', St i h → (∀ b ∈ fp, ∀ o, h.get? b = some o → h'.get? b = some o) → St i h'
  item : ∀ i v ρ H s (Q : Option Value → Shared → Prop) E, HR G ρ H s → C H → D ρ → St i s.heap → I ∉ ρ → vs[i]? = some v → (∀ rv h' tk, VR G ρ s.heap v rv → (∀ b o, b ≠ I → s.heap.get? b = some o → h'.get? b = some o) → St (i + 1) h' → Q (some rv) { s with heap := h', toks := tk }) →
    wpAny (model prog w) A (pyNext (.ref I)) Q E s
  done : ∀ ρ H s (Q : Option Value → Shared → Prop) E, HR G ρ H s → C H → D ρ → St vs.length s.heap → I ∉ ρ → (∀ h' tk, (∀ b o, b ≠ I → s.heap.get? b = some o → h'.get? b = some o) → Q none { s with heap := h', toks := tk }) →
    wpAny (model prog w) A (pyNext (.ref I)) Q E s
  self : ∀ i (s : Shared) (Q : Value → Shared → Prop) (E : Value → Shared → Prop), St i s.heap → Q (.ref I) s → wpAny (model prog w) A (pyIter (.ref I)) Q E s
  go : ∀ i elts k pos v rv ρ (s : Shared) (Q : Unit → Shared → Prop) (E : Value → Shared → Prop), St i s.heap → VR G ρ s.heap (.tup v) rv → Q () s → wpAny (model prog w) A (letOwnedTupleGo (.Tuple elts k pos) (.ref I) rv) Q E s

theorem Itr.walks {I : Addr} {vs : List V} {fp : List Addr} {P : Nat → Value → Prop} {St : Nat → Heap → Prop} (W : Walks prog w A I fp [I] vs.length P St)
    (live : ∀ i h, St i h → ∀ b ∈ fp, h.get? b ≠ none) (noTup : ∀ i h, St i h → ∀ items k, h.get? I ≠ some { cls := .type "tuple", data := .seq items k })
    (hP : ∀ (i : Nat) (v : V), vs[i]? = some v → ∀ rv, P i rv → ∀ ρ h, VR G ρ h v rv) (hnt : ∀ (i : Nat) l, vs[i]? ≠ some (V.tup l))
    (go : ∀ i elts k pos v rv ρ (s : Shared) (Q : Unit → Shared → Prop) (E : Value → Shared → Prop), St i s.heap → VR G ρ s.heap (.tup v) rv → Q () s → wpAny (model prog w) A (letOwnedTupleGo (.Tuple elts k pos) (.ref I) rv) Q E s) : Itr prog w G A I vs (fun _ => True) (fun _ => True) fp St where
  dkeep := fun _ _ _ _ => trivial
  mem := W.sub _ (by simp)
  live := live
  noTup := noTup
  keep := W.frame
  item := fun i v ρ H s Q E hr _ _ st hI hi hQ => W.item i s Q E (by obtain ⟨h, _⟩ := List.getElem?_eq_some_iff.mp hi; exact h) st fun rv h' tk p st' keep =>
    hQ rv h' tk (hP i v hi rv p ρ s.heap) (fun b o hb e => keep b o (by simp [hb]) e) st'
  done := fun ρ H s Q E hr _ _ st hI hQ => W.done s Q E st fun h' tk keep => hQ h' tk fun b o hb e => keep b o (by simp [hb]) e
  self := W.self
  go := go

theorem letGo_of {elts : List Expr} {k} {pos : Pos} {I T : Addr} {o : Obj} {t : String} {vs : Array Value} {Q : Unit → Shared → Prop} {E : Value → Shared → Prop} {s : Shared} (ho : s.heap.get? I = some o) (hc : o.cls = .type t) (hd : o.data = .fields vs)
    (ht : ["enumerate", "zip", "dict_itemiterator", "dict_reverseitemiterator", "odict_iterator", "itertools.zip_longest", "itertools.pairwise"].contains t = false) (hQ : Q () s) :
    wpAny (model prog w) A (letOwnedTupleGo (.Tuple elts k pos) (.ref I) (.ref T)) Q E s := by
  unfold letOwnedTupleGo
  refine wpAny_bind (wpAny_load ho ?_)
  rw [hc, hd]
  show wpAny _ A (if (["enumerate", "zip", "dict_itemiterator", "dict_reverseitemiterator", "odict_iterator", "itertools.zip_longest", "itertools.pairwise"].contains t && vs[0]? == some (rawInt T)) = true then _ else _) Q E s
  rw [ht, Bool.false_and, if_neg (by simp)]
  exact wpAny_pure hQ

/-- a range's iterator -/
theorem Itr.range (hh : A.handled = none) (I : Addr) (a c : Int) (n : Nat) : Itr prog w G A I ((List.range n).map fun i => .int (a + (i : Nat) * c)) (fun _ => True) (fun _ => True) [I]
    (fun i h => IsRangeIter h I (a + (i : Nat) * c) ((n : Int) - (i : Nat)) c) := by
  refine Itr.walks (P := fun i v => ∃ t, v = .int (a + i * c) t) (by simpa using Walks.range hh I a c n) (fun i h st b hb => ?_) (fun i h st items k e => ?_) (fun i v hi rv p ρ h => ?_) (fun i l hi => ?_) (fun i elts k pos v rv ρ s Q E st hv hQ => ?_)
  · rw [List.mem_singleton.mp hb, show h.get? I = _ from st]; exact fun q => nomatch q
  · rw [show h.get? I = _ from st] at e; simp at e
  · replace hi := map_range_some hi
    obtain ⟨_, ⟨_, rfl⟩, rfl⟩ := hi
    exact p
  · simp only [List.getElem?_map, Option.map_eq_some_iff] at hi
    obtain ⟨_, _, q⟩ := hi; cases q
  · unfold VR at hv
    obtain ⟨T, _, _, rfl, _⟩ := hv
    exact letGo_of st rfl rfl (by decide) hQ

/-- a list's iterator: the list stands in H all the while -/
theorem Itr.list (hh : A.handled = none) (I ax : Addr) (n : Nat) (vs : List V) : Itr prog w G A I vs (fun H => H[n]? = some (.lst vs)) (fun ρ => ρ[n]? = some ax) [I] (fun i h => h.IsListIter I ax i) where
  mem := by simp
  dkeep := fun _ _ pre h => pre _ _ h
  live := fun i h st b hb => by
    obtain ⟨o, ho, _⟩ := st
    rw [List.mem_singleton.mp hb, ho]; exact fun q => nomatch q
  noTup := fun i h st items k e => by
    obtain ⟨o, ho, hc, _⟩ := st
    rw [e] at ho; cases ho; simp at hc
  keep := fun i h h' st k => st.at fun o e => k I (by simp) o e
  item := fun i v ρ H s Q E hr hc hd st hI hi hQ => by
    obtain ⟨items, k, e, hv⟩ := hr.obj n ax _ hd hc
    obtain ⟨rv, h1, h2⟩ := hv.get hi
    refine wpAny_pyNext_list_item st ⟨_, e, rfl, _, rfl⟩ (x := rv) (by simpa using h1) fun h' hit' hs' => ?_
    exact hQ rv h' s.toks h2 (fun b o hb e => (hs'.2 b hb).trans e) hit'
  done := fun ρ H s Q E hr hc hd st hI hQ => by
    obtain ⟨items, k, e, hv⟩ := hr.obj n ax _ hd hc
    refine wpAny_pyNext_list_end hh st ⟨_, e, rfl, _, rfl⟩ (by simpa using Nat.le_of_eq hv.length) fun h' hs' => ?_
    exact hQ h' s.toks (fun b o hb e => hs' b o hb e)
  self := fun i s Q E st hQ => wpAny_pyIter_listiter st hQ
  go := fun i elts k pos v rv ρ s Q E st hv hQ => by
    unfold VR at hv
    obtain ⟨T, _, _, rfl, _⟩ := hv
    exact wpAny_letOwnedTupleGo_listiter st hQ
/-- a tuple's iterator -/
theorem Itr.tuple (hh : A.handled = none) (I ax : Addr) (items : Array Value) (vs : List V) (hne : ax ≠ I) (hlen : items.size = vs.length) (hP : ∀ (i : Nat) (v : V), vs[i]? = some v → ∀ rv, items[i]? = some rv → ∀ ρ h, VR G ρ h v rv)
    (hnt : ∀ (i : Nat) l, vs[i]? ≠ some (V.tup l)) : Itr prog w G A I vs (fun _ => True) (fun _ => True) [I, ax] (fun i h => h.IsTupleIter I ax i ∧ h.IsTuple ax items) := by
  refine Itr.walks (P := fun i v => items[i]? = some v) (by rw [← hlen]; exact Walks.tuple hh I ax hne items) (fun i h st b hb => ?_) (fun i h st items k e => ?_) hP hnt (fun i elts k pos v rv ρ s Q E st hv hQ => ?_)
  · obtain ⟨⟨o, ho, _⟩, o', ho', _⟩ := st
    rcases List.mem_cons.mp hb with rfl | hb
    · rw [ho]; exact fun q => nomatch q
    · rw [List.mem_singleton.mp hb, ho']; exact fun q => nomatch q
  · obtain ⟨⟨o, ho, hc, _⟩, _⟩ := st
    rw [e] at ho; cases ho; simp at hc
  · obtain ⟨⟨o, ho, hc, hd⟩, _⟩ := st
    unfold VR at hv
    obtain ⟨T, _, _, rfl, _⟩ := hv
    exact letGo_of ho hc hd (by decide) hQ

/-- a str's iterator -/
theorem Itr.str (I : Addr) (x : Str) {St : Nat → Heap → Prop} (W : Walks prog w A I [I] [I] x.cps.size (SignAt x) St) (live : ∀ i h, St i h → ∃ o vs t, h.get? I = some o ∧ o.cls = .type t ∧ o.data = .fields vs ∧
    ["enumerate", "zip", "dict_itemiterator", "dict_reverseitemiterator", "odict_iterator", "itertools.zip_longest", "itertools.pairwise"].contains t = false) :
    Itr prog w G A I (x.cps.toList.map fun c => .str ⟨#[c]⟩) (fun _ => True) (fun _ => True) [I] St := by
  refine Itr.walks (by simpa using W) (fun i h st b hb => ?_) (fun i h st items k e => ?_) (fun i v hi rv p ρ h => ?_) (fun i l hi => ?_) (fun i elts k pos v rv ρ s Q E st hv hQ => ?_)
  · obtain ⟨o, vs, t, ho, _⟩ := live i h st
    rw [List.mem_singleton.mp hb, ho]; exact fun q => nomatch q
  · obtain ⟨o, vs, t, ho, _, hd, _⟩ := live i h st
    rw [e] at ho; cases ho; cases hd
  · obtain ⟨c, u, h1, rfl⟩ := p
    simp only [List.getElem?_map, Array.getElem?_toList, h1, Option.map_some, Option.some.injEq] at hi
    subst hi
    exact ⟨u, rfl⟩
  · simp only [List.getElem?_map, Option.map_eq_some_iff] at hi
    obtain ⟨_, _, q⟩ := hi; cases q
  · obtain ⟨o, vs, t, ho, hc, hd, ht⟩ := live i _ st
    unfold VR at hv
    obtain ⟨T, _, _, rfl, _⟩ := hv
    exact letGo_of ho hc hd ht hQ

variable (prog w G) in
/-- what may be walked over: the values, and what must stand all the while -/
def aIt (d : Nat) (env : Env) (e : Expr) (vars : Vars) (H : List O) (Φ : List V → (List O → Prop) → List O → Prop) : Prop :=
  ∀ A ρ s, Ok d A → HR G ρ H s → FR G env ρ vars s → wpAny (model prog w) A (eval e env) (fun xv s1 => wpAny (model prog w) A (pyIter xv) (fun it s2 =>
    ∃ vs C H1 ρ1 I D fp St, Φ vs C H1 ∧ Step [] ρ s ρ1 s2 ∧ HR G ρ1 H1 s2 ∧ it = .ref I ∧ s.heap.get? I = none ∧ (∀ b ∈ fp, b ∉ ρ1 ∧ b ∉ own env) ∧ (∀ A', A'.handled = none → Itr prog w G A' I vs C D fp St) ∧ D ρ1 ∧ St 0 s2.heap ∧ vs.length ≤ 1000000)
    (fun _ _ => False) s1) (fun _ _ => False) s

theorem gone_own {ρ : List Addr} {s : Shared} (fr : FR G env ρ vars s) {a : Addr} (h : s.heap.get? a = none) : a ∉ own env := fun hm => fr.live a hm h
theorem Step.gone {X ρ ρ' : List Addr} {s s' : Shared} (x : Step X ρ s ρ' s') {a : Addr} (h : s'.heap.get? a = none) : s.heap.get? a = none := Classical.byContradiction fun e => x.alive a e h

/-- range(..) with one or two ends -/
theorem it_range1 {e : Expr} {p pos : Pos} {Φ : List V → (List O → Prop) → List O → Prop} (g : Glb G) (hm : G.mg "range" = none) (hb : G.mb "range" = some (.type "range"))
    (h : aE prog w G d env e vars H fun v H1 => ∃ n : Nat, v = .int n ∧ n ≤ 1000000 ∧ Φ ((List.range n).map fun i => .int (i : Nat)) (fun _ => True) H1)
    (hs : backTo pos (starEach [e] env) = [e].map fun e => (false, eval e env) := by rfl)
    (hgl : env.globals = mainGlobals := by rfl) (hbl : env.builtins = builtinsNs := by rfl) (hk : env.scope.kind = .function := by rfl) (hl : env.kindOf "range" = some .globalImplicit := by rfl) : aIt prog w G d env (.Call (.Name "range" p) [e] [] pos) vars H Φ := by
  intro A ρ s ok hr fr
  refine wpAny_Call_NameR (Calls.Name_function_global hk hl (Calls.loadGlobal_builtin (by rw [hgl]; exact g.g.keeps hr.base) hm (by rw [hbl]; exact g.b.keeps hr.base) hb ?_) (by decide))
  rw [hs]
  refine PySem.callWith_type (by simp) ?_
  have h' : aEs prog w G d env [e] vars H (fun vs H1 => ∃ n : Nat, vs = [V.int n] ∧ n ≤ 1000000 ∧ Φ ((List.range n).map fun i => .int (i : Nat)) (fun _ => True) H1) := by
    intro A ρ s ok hr fr
    refine wpAny_mono (h A ρ s ok hr fr) (fun rv s1 p1 => ?_) fun _ _ x => x
    obtain ⟨ρ1, H1, st1, hr1, v, vv, n, rfl, hn, h1⟩ := p1
    exact ⟨ρ1, H1, st1, hr1, _, vv, n, rfl, hn, h1⟩
  refine Calls.evalArgs_plain (wpAny_mono (args_of h' A ρ s ok hr fr) (fun rs s1 p1 => ?_) fun _ _ x => x)
  obtain ⟨ρ1, H1, st1, hr1, vs, vvs, n, rfl, hn, h1⟩ := p1
  unfold VRs at vvs
  obtain ⟨r, rs', rfl, ⟨t, rfl⟩, vvs⟩ := vvs
  unfold VRs at vvs; subst vvs
  refine call_range_1 ?_
  have hz : Builtin.Range.rangeSize 0 (n : Int) 1 = n := by rw [rangeSize_one]; split <;> (first | exact om242 | exact om243 (by assumption))
  refine wpAny_pyIter_range (Heap.get?_push_size _ rfl) (small_one (by (exact om244)) (by (exact om245)) (by (exact om246)) (by (exact om247 hn))) ?_
  simp only [Heap.size_push]
  have keep : ∀ b o, s1.heap.get? b = some o → ((s1.heap.push { cls := .type "range", data := .fields #[.int 0 s1.toks, .int n t, .int 1 (s1.toks + 1)] }).push { cls := .type "range_iterator", data := .fields #[rawInt 0, rawInt (Builtin.Range.rangeSize 0 n 1), rawInt 1] }).get? b = some o :=
    fun b o e => Heap.get?_push_of_some _ (Heap.get?_push_of_some _ e)
  have fresh : s1.heap.get? (s1.heap.objs.size + 1) = none := gone_size (Nat.le_succ _)
  refine ⟨_, _, H1, ρ1, _, fun _ => True, [s1.heap.objs.size + 1], (fun i h => IsRangeIter h (s1.heap.objs.size + 1) (0 + (i : Nat) * 1) ((n : Int) - (i : Nat)) 1), h1, st1.trans0 (Step.grow keep), hr1.grow keep, rfl, st1.gone fresh, fun b hb => ?_, fun A' hA' => ?_, trivial, ?_, by simpa using hn⟩
  · rw [List.mem_singleton.mp hb]
    exact ⟨(hr1.gone fresh).1, gone_own (fr.step st1) fresh⟩
  · have := Itr.range (prog := prog) (w := w) (G := G) hA' (s1.heap.objs.size + 1) 0 1 n
    simpa using this
  · show Heap.get? _ _ = _
    have e := Heap.get?_push_size (s1.heap.push { cls := .type "range", data := .fields #[.int 0 s1.toks, .int n t, .int 1 (s1.toks + 1)] }) (rfl : Obj.isFreed { cls := .type "range_iterator", data := .fields #[rawInt 0, rawInt (Builtin.Range.rangeSize 0 n 1), rawInt 1] } = false)
    rw [Heap.size_push] at e
    rw [e, hz]
    simp
end
end Mine
end

section
open PySem PySem.W PyProof.Rows PySem.Calls
set_option maxRecDepth 100000
namespace Mine
section
variable {prog : Program} {w : World} {G : Gl} {d : Nat} {env : Env} {vars : Vars} {H : List O} {α β : Type} {A : Around}

theorem it_list {e : Expr} {Φ : List V → (List O → Prop) → List O → Prop}
    (h : aE prog w G d env e vars H fun v H1 => ∃ n vs, v = .ref n ∧ H1[n]? = some (.lst vs) ∧ vs.length ≤ 1000000 ∧ Φ vs (fun H => H[n]? = some (.lst vs)) H1) : aIt prog w G d env e vars H Φ := by
  intro A ρ s ok hr fr
  refine wpAny_mono (h A ρ s ok hr fr) (fun rv s1 p1 => ?_) fun _ _ x => x
  obtain ⟨ρ1, H1, st1, hr1, v, vv, n, vs, rfl, hn, hlen, h1⟩ := p1
  unfold VR at vv
  obtain ⟨a, ha, rfl⟩ := vv
  obtain ⟨items, k, e1, hv⟩ := hr1.obj n a _ ha hn
  refine wpAny_pyIter_list ⟨_, e1, rfl, _, rfl⟩ ?_
  have keep : ∀ b o, s1.heap.get? b = some o → (s1.heap.push { cls := .type "list_iterator", data := .fields #[.ref a, .int 0 0] }).get? b = some o := fun b o e => Heap.get?_push_of_some _ e
  have fresh : s1.heap.get? s1.heap.objs.size = none := gone_size (Nat.le_refl _)
  refine ⟨_, _, H1, ρ1, _, fun ρ => ρ[n]? = some a, [s1.heap.objs.size], (fun i h => h.IsListIter s1.heap.objs.size a i), h1, st1.trans0 (Step.grow (tk := s1.toks) keep), hr1.grow (tk := s1.toks) keep, rfl, st1.gone fresh, fun b hb => ?_, fun A' hA' => Itr.list hA' _ _ _ _, ha, ?_, hlen⟩
  · rw [List.mem_singleton.mp hb]
    exact ⟨(hr1.gone fresh).1, gone_own (fr.step st1) fresh⟩
  · exact ⟨_, Heap.get?_push_size _ rfl, rfl, rfl⟩

theorem it_str {e : Expr} {Φ : List V → (List O → Prop) → List O → Prop}
    (h : aE prog w G d env e vars H fun v H1 => ∃ x, v = .str x ∧ x.cps.size ≤ 1000000 ∧ Φ (x.cps.toList.map fun c => .str ⟨#[c]⟩) (fun _ => True) H1) : aIt prog w G d env e vars H Φ := by
  intro A ρ s ok hr fr
  refine wpAny_mono (h A ρ s ok hr fr) (fun rv s1 p1 => ?_) fun _ _ x => x
  obtain ⟨ρ1, H1, st1, hr1, v, vv, x, rfl, hlen, h1⟩ := p1
  obtain ⟨t, rfl⟩ := vv
  have fresh : s1.heap.get? s1.heap.objs.size = none := gone_size (Nat.le_refl _)
  have fin : ∀ (T : String) (o : Obj) (_ : o.isFreed = false) (St : Nat → Heap → Prop), (∀ A' : Around, A'.handled = none → Walks prog w A' s1.heap.objs.size [s1.heap.objs.size] [s1.heap.objs.size] x.cps.size (SignAt x) St) → St 0 (s1.heap.push o) →
      (∀ i h, St i h → ∃ o vs t, h.get? s1.heap.objs.size = some o ∧ o.cls = .type t ∧ o.data = .fields vs ∧
        ["enumerate", "zip", "dict_itemiterator", "dict_reverseitemiterator", "odict_iterator", "itertools.zip_longest", "itertools.pairwise"].contains t = false) →
      (fun (it : Value) (s2 : Shared) => ∃ vs C H1 ρ1 I D fp St, Φ vs C H1 ∧ Step [] ρ s ρ1 s2 ∧ HR G ρ1 H1 s2 ∧ it = .ref I ∧ s.heap.get? I = none ∧ (∀ b ∈ fp, b ∉ ρ1 ∧ b ∉ own env) ∧ (∀ A', A'.handled = none → Itr prog w G A' I vs C D fp St) ∧ D ρ1 ∧ St 0 s2.heap ∧ vs.length ≤ 1000000)
        (.ref s1.heap.objs.size) { s1 with heap := s1.heap.push o } := by
    intro T o hf St W h0 live
    have keep : ∀ b o', s1.heap.get? b = some o' → (s1.heap.push o).get? b = some o' := fun b o e => Heap.get?_push_of_some _ e
    refine ⟨_, _, H1, ρ1, _, fun _ => True, [s1.heap.objs.size], St, h1, st1.trans0 (Step.grow (tk := s1.toks) keep), hr1.grow (tk := s1.toks) keep, rfl, st1.gone fresh, fun b hb => ?_, fun A' hA' => Itr.str _ _ (W A' hA') live, trivial, h0, by simpa using hlen⟩
    rw [List.mem_singleton.mp hb]
    exact ⟨(hr1.gone fresh).1, gone_own (fr.step st1) fresh⟩
  cases ha : x.cps.all (· < 128)
  · exact wpAny_pyIter_wide ha (fin "" _ rfl _ (fun A' hA => Walks.strWide hA _ x t) ⟨_, Heap.get?_push_size _ rfl, rfl, rfl⟩ fun i h st => by
      obtain ⟨o, ho, hc, hd⟩ := st
      exact ⟨o, _, _, ho, hc, hd, by decide⟩)
  · exact wpAny_pyIter_ascii ha (fin "" _ rfl _ (fun A' hA => Walks.strAscii hA _ x t) ⟨_, Heap.get?_push_size _ rfl, rfl, rfl⟩ fun i h st => by
      obtain ⟨o, ho, hc, hd⟩ := st
      exact ⟨o, _, _, ho, hc, hd, by decide⟩)

theorem it_tuple {e : Expr} {Φ : List V → (List O → Prop) → List O → Prop}
    (h : aE prog w G d env e vars H fun v H1 => ∃ is : List Int, v = .tup (is.map .int) ∧ is.length ≤ 1000000 ∧ Φ (is.map .int) (fun _ => True) H1) : aIt prog w G d env e vars H Φ := by
  intro A ρ s ok hr fr
  refine wpAny_mono (h A ρ s ok hr fr) (fun rv s1 p1 => ?_) fun _ _ x => x
  obtain ⟨ρ1, H1, st1, hr1, v, vv, is, rfl, hlen, h1⟩ := p1
  unfold VR at vv
  obtain ⟨a, items, k, rfl, ha, e1, hv⟩ := vv
  refine wpAny_pyIter_tuple ⟨_, e1, rfl, _, rfl⟩ ?_
  have keep : ∀ b o, s1.heap.get? b = some o → (s1.heap.push { cls := .type "tuple_iterator", data := .fields #[.ref a, .int 0 0] }).get? b = some o := fun b o e => Heap.get?_push_of_some _ e
  have fresh : s1.heap.get? s1.heap.objs.size = none := gone_size (Nat.le_refl _)
  have hne : a ≠ s1.heap.objs.size := fun q => by rw [q, fresh] at e1; cases e1
  refine ⟨_, _, H1, ρ1, _, fun _ => True, [s1.heap.objs.size, a], (fun i h => h.IsTupleIter s1.heap.objs.size a i ∧ h.IsTuple a items), h1, st1.trans0 (Step.grow (tk := s1.toks) keep), hr1.grow (tk := s1.toks) keep, rfl, st1.gone fresh, fun b hb => ?_, fun A' hA' => Itr.tuple hA' _ _ _ _ hne ?_ ?_ ?_, trivial, ?_, by simpa using hlen⟩
  · rcases List.mem_cons.mp hb with rfl | hb
    · exact ⟨(hr1.gone fresh).1, gone_own (fr.step st1) fresh⟩
    · rw [List.mem_singleton.mp hb]
      exact ⟨ha, fun hm => (fr.step st1).noTup _ hm _ _ e1⟩
  · simpa using hv.length
  · intro i v hi rv hrv ρ' h'
    obtain ⟨r, h2, h3⟩ := hv.get hi
    have : items[i]? = some r := by simpa using h2
    rw [hrv] at this; cases this
    simp only [List.getElem?_map, Option.map_eq_some_iff] at hi
    obtain ⟨z, _, rfl⟩ := hi
    exact h3
  · intro i l hi
    simp only [List.getElem?_map, Option.map_eq_some_iff] at hi
    obtain ⟨z, _, q⟩ := hi
    cases q
  · exact ⟨⟨_, Heap.get?_push_size _ rfl, rfl, rfl⟩, _, keep _ _ e1, rfl, _, rfl⟩

/-- assigning a value at hand -/
def aA (prog : Program) (w : World) (G : Gl) (d : Nat) (env : Env) (t : Expr) (v : V) (vars : Vars) (H : List O) (Φ : Vars → List O → Prop) : Prop :=
  ∀ A ρ s rv, Ok d A → HR G ρ H s → FR G env ρ vars s → VR G ρ s.heap v rv → wpAny (model prog w) A (assign t env rv) (fun _ s' => ∃ ρ' vars' H', Step (own env) ρ s ρ' s' ∧ HR G ρ' H' s' ∧ FR G env ρ' vars' s' ∧ Φ vars' H') (fun _ _ => False) s
theorem a_name {x : Str} {pos : Pos} {v : V} {Φ : Vars → List O → Prop} (h : Φ (upd vars x v) H) (hk : env.scope.kind = .function := by rfl) (hl : env.kindOf x = some .local := by rfl) : aA prog w G d env (.Name x pos) v vars H Φ :=
  fun _ ρ _ _ _ hr fr vv => wpAny_assign_Name (store_of hr fr vv hk (.inl hl) fun _ st hr' fr' => ⟨ρ, _, H, st, hr', fr', h⟩)

def namesOf : List Expr → List (Str × Pos)
  | .Name x p :: r => (x, p) :: namesOf r
  | _ => []
def updAll (vars : Vars) : List (Str × Pos) → List V → Vars
  | x :: xs, v :: vs => updAll (upd vars x.1 v) xs vs
  | _, _ => vars
theorem names_of (hk : env.scope.kind = .function) : ∀ (xs : List (Str × Pos)) (vs : List V) (vars : Vars) (ρ : List Addr) (s : Shared) (rs : List Value) (Q : Unit → Shared → Prop) (E : Value → Shared → Prop),
    (∀ x ∈ xs, env.kindOf x.1 = some .local) → HR G ρ H s → FR G env ρ vars s → VRs G ρ s.heap vs rs →
    (∀ s', Step (own env) ρ s ρ s' → HR G ρ H s' → FR G env ρ (updAll vars xs vs) s' → Q () s') → wpAny (model prog w) A (assignInOrder (xs.map fun x v => assign (.Name x.1 x.2) env v) rs) Q E s
  | [], vs, vars, ρ, s, rs, Q, E, _, hr, fr, hv, hQ => by
    unfold assignInOrder
    exact wpAny_pure (hQ s (Step.refl _ _ _) hr (by simpa [updAll] using fr))
  | x :: xs, [], vars, ρ, s, rs, Q, E, _, hr, fr, hv, hQ => by
    unfold VRs at hv; subst hv
    unfold assignInOrder
    exact wpAny_pure (hQ s (Step.refl _ _ _) hr (by simpa [updAll] using fr))
  | x :: xs, v :: vs, vars, ρ, s, rs, Q, E, hl, hr, fr, hv, hQ => by
    unfold VRs at hv
    obtain ⟨r, rs', rfl, h1, h2⟩ := hv
    simp only [List.map_cons]
    unfold assignInOrder
    refine wpAny_bind (wpAny_holding (wpAny_assign_Name (store_of hr fr h1 hk (.inl (hl x (by simp))) fun s' st hr' fr' => ?_)))
    refine names_of hk xs vs _ ρ s' rs' Q E (fun y hy => hl y (by simp [hy])) hr' fr' (VRs.mono st.pre st.newT fr.noTup st.keep h2) fun s'' st' hr'' fr'' => hQ s'' (st.trans st') hr'' (by simpa [updAll] using fr'')
theorem a_tuple {elts : List Expr} {k : Nat} {pos : Pos} {vs : List V} {Φ : Vars → List O → Prop} (h : Φ (updAll vars (namesOf elts) vs) H) (hn : (assignEach elts env).length = vs.length := by rfl)
    (he : (assignEach elts env).map (·.2) = (namesOf elts).map fun x v => assign (.Name x.1 x.2) env v := by rfl)
    (hstar : (assignEach elts env).findIdx? (·.1) = none := by rfl) (hk : env.scope.kind = .function := by rfl) (hl : (namesOf elts).map (fun x => env.kindOf x.1) = (namesOf elts).map (fun _ => some NameKind.local) := by rfl) : aA prog w G d env (.Tuple elts k pos) (.tup vs) vars H Φ := by
  intro A ρ s rv ok hr fr vv
  unfold VR at vv
  obtain ⟨a, items, kk, rfl, ha, e1, hv⟩ := vv
  refine wpAny_assign_Tuple ok.handled ⟨_, e1, rfl, _, rfl⟩ (by rw [hn, ← hv.length]; simp) hstar fun h' he' => ?_
  rw [he]
  have fresh : s.heap.get? s.heap.objs.size = none := gone_size (Nat.le_refl _)
  have nt : ∀ items k, s.heap.get? s.heap.objs.size ≠ some { cls := .type "tuple", data := .seq items k } := fun _ _ q => by rw [fresh] at q; cases q
  have st0 : Step (own env) ρ s ρ { s with heap := h', toks := s.toks } := Step.ext (Step.refl (own env) ρ s) fresh fun b o hb e => he' b o hb e
  have hl' : ∀ x ∈ namesOf elts, env.kindOf x.1 = some .local := fun x hx => List.map_inj_left.mp hl x hx
  refine names_of hk _ vs vars ρ _ _ _ _ hl' (HR.ext (tk := s.toks) hr (hr.gone fresh).1 (hr.gone fresh).2 (fun b o hb e => he' b o hb e) nt) (FR.ext (tk := s.toks) fr (gone_own fr fresh) (fun b o hb e => he' b o hb e) nt)
    (VRs.mono (X := [s.heap.objs.size]) (fun _ _ e => e) (fun _ h => .inl h) (fun x hx => by rw [List.mem_singleton.mp hx]; exact nt) (fun c o _ hc e => he' _ _ (fun h => hc (by simp [h])) e) hv) fun s'' st' hr'' fr'' => ?_
  exact ⟨ρ, _, H, st0.trans st', hr'', fr'', h⟩

theorem s_assign_tuple {elts : List Expr} {k : Nat} {tpos pos : Pos} {value : Expr} {Φ : Fl → Vars → List O → Prop}
    (h : aE prog w G d env value vars H fun v H1 => aA prog w G d env (.Tuple elts k tpos) v vars H1 fun v' H' => Φ .next v' H')
    (hs : swapsWithSole [.Tuple elts k tpos] value pos.line env = pure false := by rfl)
    (hw : swappedStores [.Tuple elts k tpos] value env = pure none := by rfl) : aS prog w G d env (.Assign [.Tuple elts k tpos] value pos) vars H Φ := by
  intro A ρ s ok hr fr
  refine Assign_Tuple (wpAny_mono (h A ρ s ok hr fr) (fun rv s1 p1 => ?_) fun _ _ x => x) hs hw
  obtain ⟨ρ1, H1, st1, hr1, v, vv, h1⟩ := p1
  refine wpAny_mono (h1 A ρ1 s1 rv ok hr1 (fr.step st1) vv) (fun _ s2 p2 => ?_) fun _ _ x => x
  obtain ⟨ρ2, v2, H2, st2, hr2, fr2, h2⟩ := p2
  exact ⟨ρ2, v2, H2, .next, st1.toX.trans st2, hr2, fr2, rfl, h2⟩

/-- what a turn of a loop leaves -/
def turnS (J : Vars → List O → Prop) (Φ : Fl → Vars → List O → Prop) : Fl → Vars → List O → Prop
  | .next, v, h => J v h
  | .cont, v, h => J v h
  | .brk, v, h => Φ .next v h
  | .ret u, v, h => Φ (.ret u) v h

theorem s_while {test : Expr} {body : List Stmt} {pos : Pos} {Φ : Fl → Vars → List O → Prop} (J : Nat → Vars → List O → Prop) (n : Nat) (h0 : J n vars H)
    (turn : ∀ n v h, J n v h → aB prog w G d env test v h fun c H1 => if c then aSs prog w G d env body v H1 (turnS (fun v' h' => ∃ m, m < n ∧ J m v' h') Φ) else Φ .next v H1) :
    aS prog w G d env (.While test body [] pos) vars H Φ := by
  intro A ρ s ok hr fr
  refine wpAny_While (codeAny_whileLoop (fun n s' => ∃ ρ' v' H', Step (own env) ρ s ρ' s' ∧ HR G ρ' H' s' ∧ FR G env ρ' v' s' ∧ J n v' H') (fun n s' hI => ?_) n ⟨ρ, vars, H, Step.refl _ _ _, hr, fr, h0⟩)
  obtain ⟨ρ1, v1, H1, st1, hr1, fr1, j1⟩ := hI
  refine wpAny_mono (turn n v1 H1 j1 A ρ1 s' ok hr1 fr1) (fun c s2 p2 => ?_) fun _ _ x => x.elim
  obtain ⟨ρ2, H2, st2, hr2, h2⟩ := p2
  cases c with
  | false => exact wpAny_execs_nil ⟨ρ2, v1, H2, .next, st1.trans st2.toX, hr2, fr1.step st2, rfl, h2⟩
  | true =>
    refine wpAny_mono ((show aSs prog w G d env body v1 H2 _ from h2) A ρ2 s2 ok hr2 (fr1.step st2)) (fun f s3 p3 => ?_) fun _ _ x => x.elim
    obtain ⟨ρ3, v3, H3, fl, st3, hr3, fr3, hfl, h3⟩ := p3
    have st := (st1.trans st2.toX).trans st3
    cases fl with
    | next => cases (show f = .next from hfl); obtain ⟨m, hm, j⟩ := h3; exact ⟨m, hm, ρ3, v3, H3, st, hr3, fr3, j⟩
    | cont => cases (show f = .cont from hfl); obtain ⟨m, hm, j⟩ := h3; exact ⟨m, hm, ρ3, v3, H3, st, hr3, fr3, j⟩
    | brk => cases (show f = .brk from hfl); exact ⟨ρ3, v3, H3, .next, st, hr3, fr3, rfl, h3⟩
    | ret u => obtain ⟨ru, rfl, hu⟩ := hfl; exact ⟨ρ3, v3, H3, .ret u, st, hr3, fr3, ⟨ru, rfl, hu⟩, h3⟩

theorem s_for {target iter : Expr} {body : List Stmt} {pos : Pos} {Φ : Fl → Vars → List O → Prop}
    (h : aIt prog w G d env iter vars H fun vs C H1 => ∃ J : Nat → Vars → List O → Prop, J 0 vars H1 ∧
      (∀ i v vars' H', vs[i]? = some v → J i vars' H' → C H' ∧ ((∃ l elts k p, v = .tup l ∧ target = .Tuple elts k p) ∨ (∀ it v, letOwnedTupleGo target it v = pure ())) ∧
        aA prog w G d env target v vars' H' fun v1 H1 => aSs prog w G d env body v1 H1 (turnS (fun v' h' => J (i + 1) v' h') Φ)) ∧
      (∀ vars' H', J vs.length vars' H' → C H' ∧ Φ .next vars' H'))
    (hs : ∀ x, foldedSetIterable iter env x = pure x := by intro _; rfl) : aS prog w G d env (.For target iter body [] pos) vars H Φ := by
  intro A ρ s ok hr fr
  refine wpAny_For (wpAny_mono (h A ρ s ok hr fr) (fun xv s1 h1 => wpAny_mono h1 (fun it s2 h2 => ?_) fun _ _ x => x) fun _ _ x => x) hs
  obtain ⟨vs, C, H1, ρ1, I, D, fp, St, ⟨J, j0, turn, fin⟩, st1, hr1, rfl, hgone, hfp, itr, hD, hst, _⟩ := h2
  refine codeAny_forLoop_any (fun k s' => ∃ i ρ' v' H', k = vs.length - i ∧ i ≤ vs.length ∧ Step (own env) ρ s ρ' s' ∧ HR G ρ' H' s' ∧ FR G env ρ' v' s' ∧ J i v' H' ∧ (∀ b ∈ fp, b ∉ ρ') ∧ D ρ' ∧ St i s'.heap) (fun k s' hI => ?_) vs.length
    ⟨0, ρ1, vars, H1, by simp, Nat.zero_le _, st1.toX, hr1, fr.step st1, j0, fun b hb => (hfp b hb).1, hD, hst⟩
  obtain ⟨i, ρ2, v2, H2, rfl, hi, st2, hr2, fr2, j2, hfp2, hD2, hst2⟩ := hI
  have itr' := itr A ok.handled
  have hIown : I ∉ own env := (hfp I itr'.mem).2
  have nt := itr'.noTup _ _ hst2
  by_cases hlt : i < vs.length
  · have hvi : vs[i]? = some vs[i] := List.getElem?_eq_getElem hlt
    obtain ⟨hC, hgo, hbody⟩ := turn i vs[i] v2 H2 hvi j2
    refine itr'.item i vs[i] ρ2 H2 s' _ _ hr2 hC hD2 hst2 (hfp2 I itr'.mem) hvi fun rv h' tk hv keep hst3 => ?_
    have hr3 : HR G ρ2 H2 { s' with heap := h', toks := tk } := HR.ext hr2 (hfp2 I itr'.mem) (hr.gone hgone).2 keep nt
    have fr3 : FR G env ρ2 v2 { s' with heap := h', toks := tk } := FR.ext fr2 hIown keep nt
    have st3 : Step (own env) ρ s ρ2 { s' with heap := h', toks := tk } := Step.ext st2 hgone keep
    have hv3 : VR G ρ2 h' vs[i] rv := VR.mono (X := [I]) (fun _ _ e => e) (fun _ h => .inl h) (fun x hx => by rw [List.mem_singleton.mp hx]; exact nt) (fun c o _ hc e => keep _ _ (fun h => hc (by simp [h])) e) hv
    have body : ∀ E, wpAny (model prog w) A (assign target env rv) (fun _ s₂ => wpAny (model prog w) A (execs body env) (fun f s₃ => match f with
            | .next | .cont => ∃ m, m < vs.length - i ∧ ∃ i ρ' v' H', m = vs.length - i ∧ i ≤ vs.length ∧ Step (own env) ρ s ρ' s₃ ∧ HR G ρ' H' s₃ ∧ FR G env ρ' v' s₃ ∧ J i v' H' ∧ (∀ b ∈ fp, b ∉ ρ') ∧ D ρ' ∧ St i s₃.heap
            | .brk => PostS G env ρ s Φ .next s₃
            | .ret v => PostS G env ρ s Φ (.ret v) s₃) E s₂) E { s' with heap := h', toks := tk } := by
      intro E
      refine wpAny_mono (hbody A ρ2 _ rv ok hr3 fr3 hv3) (fun _ s4 p4 => ?_) fun _ _ x => x.elim
      obtain ⟨ρ4, v4, H4, st4, hr4, fr4, h4⟩ := p4
      refine wpAny_mono (h4 A ρ4 s4 ok hr4 fr4) (fun f s5 p5 => ?_) fun _ _ x => x.elim
      obtain ⟨ρ5, v5, H5, fl, st5, hr5, fr5, hfl, h5⟩ := p5
      have st35 := st4.trans st5
      have st := st3.trans st35
      have again : J (i + 1) v5 H5 → ∃ m, m < vs.length - i ∧ ∃ i ρ' v' H', m = vs.length - i ∧ i ≤ vs.length ∧ Step (own env) ρ s ρ' s5 ∧ HR G ρ' H' s5 ∧ FR G env ρ' v' s5 ∧ J i v' H' ∧ (∀ b ∈ fp, b ∉ ρ') ∧ D ρ' ∧ St i s5.heap := by
        intro j5
        refine ⟨vs.length - (i + 1), by (exact om248 hlt), i + 1, ρ5, v5, H5, rfl, hlt, st, hr5, fr5, j5, fun b hb hm => ?_, itr'.dkeep _ _ st35.pre hD2, itr'.keep _ _ _ hst3 fun b hb o e => st35.keep b o (hfp2 b hb) (hfp b hb).2 e⟩
        rcases st35.new b hm with q | q
        · exact hfp2 b hb q
        · exact itr'.live _ _ hst3 b hb q
      cases fl with
      | next => cases (show f = .next from hfl); exact again h5
      | cont => cases (show f = .cont from hfl); exact again h5
      | brk => cases (show f = .brk from hfl); exact ⟨ρ5, v5, H5, .next, st, hr5, fr5, rfl, h5⟩
      | ret u => obtain ⟨ru, rfl, hu⟩ := hfl; exact ⟨ρ5, v5, H5, .ret u, st, hr5, fr5, ⟨ru, rfl, hu⟩, h5⟩
    rcases hgo with ⟨l, elts, k, p, e1, e2⟩ | hgo
    · rw [e1] at hv3
      subst e2
      exact itr'.go (i + 1) elts k p l rv ρ2 _ _ _ hst3 hv3 (body _)
    · exact wpAny_of_eq (hgo _ _) (body _)
  · have hin : i = vs.length := by (exact om249 hi hlt)
    subst hin
    obtain ⟨hC, hΦ⟩ := fin v2 H2 j2
    refine itr'.done ρ2 H2 s' _ _ hr2 hC hD2 hst2 (hfp2 I itr'.mem) fun h' tk keep => ?_
    exact wpAny_execs_nil ⟨ρ2, v2, H2, .next, Step.ext st2 hgone keep, HR.ext hr2 (hfp2 I itr'.mem) (hr.gone hgone).2 keep nt, FR.ext fr2 hIown keep nt, rfl, hΦ⟩
end
end Mine
end

section
open PySem PySem.W PyProof.Rows PySem.Calls
set_option maxRecDepth 100000
namespace Mine
section
variable {prog : Program} {w : World} {G : Gl} {d : Nat} {env : Env} {vars : Vars} {H : List O} {α β : Type} {A : Around}

/-- objects that were not yet at the start may change -/
theorem Step.drop {X ρ ρ' : List Addr} {s s' : Shared} (x : Step X ρ s ρ' s') (h : ∀ b ∈ X, s.heap.get? b = none) : Step [] ρ s ρ' s' :=
  ⟨x.same, x.alive, fun b o hb _ e => x.keep b o hb (fun hm => by rw [h b hm] at e; cases e) e, x.pre, x.new⟩

theorem newT_snoc {ρ : List Addr} {h : Heap} {a : Addr} (hne : ∀ items k, h.get? a ≠ some { cls := .type "tuple", data := .seq items k }) : ∀ b ∈ ρ ++ [a], b ∈ ρ ∨ ∀ items k, h.get? b ≠ some { cls := .type "tuple", data := .seq items k } := by
  intro b hb
  rcases List.mem_append.mp hb with q | q
  · exact .inl q
  · rw [List.mem_singleton.mp q]; exact .inr hne

/-- an object that was made on the way is taken in -/
theorem HR.adopt {ρ : List Addr} {s : Shared} {a : Addr} {o : O} (x : HR G ρ H s) (ha : a ∉ ρ) (hg : G.h.get? a = none) (hne : ∀ items k, s.heap.get? a ≠ some { cls := .type "tuple", data := .seq items k })
    (q : OR G (ρ ++ [a]) s.heap a o) : HR G (ρ ++ [a]) (H ++ [o]) s where
  base := x.base
  newρ := fun b h => by
    rcases List.mem_append.mp h with h | h
    · exact x.newρ b h
    · rw [List.mem_singleton.mp h]; exact hg
  nodup := by
    rw [List.nodup_append]
    refine ⟨x.nodup, by simp, fun b hb c hc => ?_⟩
    rw [List.mem_singleton.mp hc]
    exact fun q => ha (by rw [← q]; exact hb)
  len := by simp [x.len]
  obj := fun n b o' h1 h2 => by
    by_cases hn : n < ρ.length
    · rw [List.getElem?_append_left hn] at h1
      rw [List.getElem?_append_left (by rw [← x.len]; exact hn)] at h2
      exact OR.mono pre_snoc (newT_snoc hne) noTup_nil (fun _ _ _ _ e => e) (fun _ e => e) (x.obj n b o' h1 h2)
    · have e1 : n = ρ.length := by
        have := (List.getElem?_eq_some_iff.mp h1).1
        simp at this; (exact om236 hn this)
      subst e1
      rw [List.getElem?_append_right (Nat.le_refl _)] at h1
      rw [x.len, List.getElem?_append_right (Nat.le_refl _)] at h2
      simp at h1 h2
      subst h1; subst h2
      exact q

/-- the test of a comprehension -/
def aIfs (prog : Program) (w : World) (G : Gl) (d : Nat) (env : Env) : List Expr → Vars → List O → (Bool → List O → Prop) → Prop
  | [], _, H, Φ => Φ true H
  | [c], vars, H, Φ => aB prog w G d env c vars H Φ
  | _, _, _, _ => False

/-- what a comprehension sees: its own name, and the cells -/
def cvars (env : Env) (scope : Scope) (vars : Vars) (x : Str) (v : V) : Vars := fun y => if y = x then some v else if (relabel scope env).names.lookup y = some .cell then vars y else none

structure CompOk (env : Env) (scope : Scope) (cl : List (Str × Addr)) (x : Str) : Prop where
  clos : closureFor scope env = pure cl
  cell : ∀ y ∈ scope.names, y.2 ≠ .cell
  kind : scope.kind = .function
  names : ∀ y ∈ scope.names, y.2 = .local → scope.names.lookup y.1 = some .local
  x : scope.names.lookup x = some .local
  sub : ∀ p ∈ cl, p ∈ env.cells
  apart : cl.Pairwise fun x y => x.2 ≠ y.2
  cells : ∀ y, (relabel scope env).names.lookup y = some .cell → env.kindOf y = some .cell ∧ cl.lookup y = env.cells.lookup y

theorem comp_block {elt iter : Expr} {x : Str} {px : Pos} {ifs : List Expr} {scope : Scope} {cl : List (Str × Addr)} {pos : Pos} (c : CompOk env scope cl x)
    {ρ ρ1 : List Addr} {s s2 : Shared} {H1 : List O} {vs : List V} {C : List O → Prop} {I : Addr} {D : List Addr → Prop} {fp : List Addr} {St : Nat → Heap → Prop}
    (ok : Ok d A) (fr : FR G env ρ vars s) (hr : HR G ρ H s)
    (st1 : Step [] ρ s ρ1 s2) (hr1 : HR G ρ1 H1 s2) (hgone : s.heap.get? I = none) (hfp : ∀ b ∈ fp, b ∉ ρ1 ∧ b ∉ own env) (itr : ∀ A', A'.handled = none → Itr prog w G A' I vs C D fp St) (hD : D ρ1) (hst : St 0 s2.heap) (hlen : vs.length ≤ 1000000)
    {J : Nat → List V → List O → Prop} (j0 : J 0 [] H1)
    (turn : ∀ Ca i v acc H', vs[i]? = some v → J i acc H' → C H' ∧ aIfs prog w G d (compEnvC scope cl Ca env) ifs (cvars env scope vars x v) H' fun ok H2 => if ok then aE prog w G d (compEnvC scope cl Ca env) elt (cvars env scope vars x v) H2 fun y H3 => J (i + 1) (acc ++ [y]) H3 else J (i + 1) acc H2)
    (fin : ∀ acc H', J vs.length acc H' → C H')
    (RR : Value → Addr → Result → Shared → Prop)
    (hRR : ∀ Da Ca ρ' H' acc ys s' m, s.heap.get? Da = none → s.heap.get? Ca = none → Da ≠ Ca → Da ∉ ρ' → Ca ∉ ρ' → Step [] ρ s ρ' s' → HR G ρ' H' s' → s'.heap.Ns Ca m → s'.heap.PlainList Da ys → VRs G ρ' s'.heap acc ys.toList → J vs.length acc H' → RR (.ref Da) Ca (.ok .next) s') :
    wpAny (model prog w) A (newList []) (fun acc s₃ => wpAny (model prog w) A (newFunctionEnv scope env.globals cl [] env.qual none .none (some env)) (fun cenv s₄ =>
      codeAny (model prog w) A (.compStart (.ListComp elt [⟨.Name x px, iter, ifs, 0⟩] scope pos) 0 (.ref I) acc { cenv with scope := relabel scope env }) (RR acc cenv.locals) s₄) (fun _ _ => False) s₃) (fun _ _ => False) s2 := by
  refine wpAny_newObj_type (wpAny_newFunctionEnv c.cell (by intro y hy; simp at hy) (fun h₁ hns₁ hsb₁ => ?_) c.kind)
  dsimp only at hns₁ hsb₁ ⊢
  generalize hH2 : s2.heap.push { cls := .type "list", dict := none, data := .seq ([] : List Value).toArray } = H2 at hns₁ hsb₁ ⊢
  generalize hDa : s2.heap.objs.size = Da at *
  generalize hCa : H2.objs.size = Ca at *
  have hkind := c.kind
  have hCD : Ca = Da + 1 := by rw [← hCa, ← hH2, Heap.size_push, hDa]
  have hDC : Da ≠ Ca := by rw [hCD]; exact Nat.ne_of_lt (Nat.lt_succ_self _)
  have gD : s2.heap.get? Da = none := gone_size (by rw [hDa]; exact Nat.le_refl _)
  have gC : s2.heap.get? Ca = none := gone_size (by rw [hDa, hCD]; exact Nat.le_succ _)
  have old : ∀ b o, s2.heap.get? b = some o → h₁.get? b = some o := fun b o e =>
    hsb₁.extBut b o (fun q => by rw [q, gC] at e; cases e) (Heap.get?_push_of_some _ (hH2 ▸ Heap.get?_push_of_some _ e))
  have hacc : h₁.PlainList Da #[] := ⟨_, hsb₁.extBut _ _ hDC (Heap.get?_push_of_some _ (hH2 ▸ hDa ▸ Heap.get?_push_size _ rfl))⟩
  have sD := st1.gone gD
  have sC := st1.gone gC
  have itr0 := itr A ok.handled
  have hst₁ : St 0 h₁ := itr0.keep _ _ _ hst fun b _ o e => old b o e
  have fpD : ∀ b ∈ fp, b ≠ Da ∧ b ≠ Ca := fun b hb => ⟨fun q => itr0.live _ _ hst b hb (q ▸ gD), fun q => itr0.live _ _ hst b hb (q ▸ gC)⟩
  have hrC : Ca ∉ ρ1 ∧ G.h.get? Ca = none := hr1.gone gC
  have hrD : Da ∉ ρ1 ∧ G.h.get? Da = none := hr1.gone gD
  have loop : ∀ s₃ : Shared, s₃ = { s2 with heap := h₁, toks := s2.toks + ([] : List (Str × Value)).length } →
      codeAny (model prog w) A (.compLoop (.ListComp elt [⟨.Name x px, iter, ifs, 0⟩] scope pos) 0 (.ref I) (.ref Da) (compEnvC scope cl Ca env)) (RR (.ref Da) Ca) s₃ := by
    rintro s₃ rfl
    refine codeAny_compLoop_tests (fun k s' => ∃ i ρ' H' acc ys m, k = vs.length - i ∧ i ≤ vs.length ∧ acc.length ≤ i ∧ Step [] ρ s ρ' s' ∧ HR G ρ' H' s' ∧ J i acc H' ∧ (∀ b ∈ fp, b ∉ ρ') ∧ D ρ' ∧ St i s'.heap ∧ Da ∉ ρ' ∧ Ca ∉ ρ' ∧
      s'.heap.Ns Ca m ∧ s'.heap.PlainList Da ys ∧ VRs G ρ' s'.heap acc ys.toList) (fun k s' hI => ?_) vs.length
      ⟨0, ρ1, H1, [], #[], _, by simp, Nat.zero_le _, by simp, st1.trans0 (Step.grow old), hr1.grow old, j0, fun b hb => (hfp b hb).1, hD, hst₁, hrD.1, hrC.1, hns₁, hacc, by simp [VRs]⟩
    obtain ⟨i, ρ', H', acc, ys, m, rfl, hi, hal, st', hr', j', hfp', hD', hst', hDa', hCa', hn', hpl', hvs'⟩ := hI
    have fr' := fr.step st'
    have nt := itr0.noTup _ _ hst'
    have hI' := hfp' I itr0.mem
    have ntD : ∀ {h : Heap} {ys}, h.PlainList Da ys → ∀ items k, h.get? Da ≠ some { cls := .type "tuple", data := .seq items k } := by
      rintro h ys ⟨n, e⟩ items k q
      rw [e] at q; simp at q
    by_cases hlt : i < vs.length
    · have hvi : vs[i]? = some vs[i] := List.getElem?_eq_getElem hlt
      obtain ⟨hC, hbody⟩ := turn Ca i vs[i] acc H' hvi j'
      refine itr0.item i vs[i] ρ' H' s' _ _ hr' hC hD' hst' hI' hvi fun rv h3 tk hv keep hst3 => ?_
      have keepI : ∀ c o, c ∉ ρ' → c ∉ [I] → s'.heap.get? c = some o → h3.get? c = some o := fun c o _ hc e => keep _ _ (fun h => hc (by simp [h])) e
      have ntI : ∀ x ∈ [I], ∀ items k, s'.heap.get? x ≠ some { cls := .type "tuple", data := .seq items k } := fun x hx => by rw [List.mem_singleton.mp hx]; exact nt
      have hr3 : HR G ρ' H' { s' with heap := h3, toks := tk } := HR.ext hr' hI' (hr.gone hgone).2 keep nt
      have fr3 : FR G env ρ' vars { s' with heap := h3, toks := tk } := FR.ext fr' (hfp I itr0.mem).2 keep nt
      have st3 : Step [] ρ s ρ' { s' with heap := h3, toks := tk } := Step.ext st' hgone keep
      have hv3 : VR G ρ' h3 vs[i] rv := VR.mono (X := [I]) (fun _ _ e => e) (fun _ h => .inl h) ntI keepI hv
      have hvs3 : VRs G ρ' h3 acc ys.toList := VRs.mono (X := [I]) (fun _ _ e => e) (fun _ h => .inl h) ntI keepI hvs'
      have hn3 : h3.Ns Ca m := hn'.at fun o e => keep _ o (fpD I itr0.mem).2.symm e
      have hpl3 : h3.PlainList Da ys := hpl'.at fun o e => keep _ o (fpD I itr0.mem).1.symm e
      -- the name is stored
      refine wpAny_assign_Name (wpAny_storeName_local (lookup_relabel_local c.x) hn3 (fun h4 hn4 sb4 => ?_) (by simp [compEnvC, relabel, hkind]))
      have ntC := noTup_ns hn3
      have keepC : ∀ c o, c ∉ ρ' → c ∉ [Ca] → h3.get? c = some o → h4.get? c = some o := fun c o _ hc e => (sb4.2 _ (fun h => hc (by rw [h]; exact List.mem_singleton.mpr rfl))).trans e
      have st34 : Step [Ca] ρ' { s' with heap := h3, toks := tk } ρ' { s' with heap := h4, toks := tk + 1 } :=
        ⟨⟨_, _, rfl⟩, alive_same sb4 (by obtain ⟨o, _, _, ho, _⟩ := hn4; rw [ho]; exact fun q => nomatch q), keepC, fun _ _ e => e, fun _ q => .inl q⟩
      have st4 : Step [] ρ s ρ' { s' with heap := h4, toks := tk + 1 } := ((Step.toX st3).trans st34).drop fun b hb => by rw [List.mem_singleton.mp hb]; exact sC
      have hr4 : HR G ρ' H' { s' with heap := h4, toks := tk + 1 } := HR.out (s := { s' with heap := h3, toks := tk }) (h' := h4) (tk := tk + 1) hr3 hCa' hrC.2 sb4 (ntC Ca (by simp))
      have fr4 := fr.step st4
      have hv4 : VR G ρ' h4 vs[i] rv := VR.mono (X := [Ca]) (fun _ _ e => e) (fun _ h => .inl h) ntC keepC hv3
      have hvs4 : VRs G ρ' h4 acc ys.toList := VRs.mono (X := [Ca]) (fun _ _ e => e) (fun _ h => .inl h) ntC keepC hvs3
      have hpl4 : h4.PlainList Da ys := hpl3.at fun o e => (sb4.2 _ hDC).trans e
      have hst4 : St (i + 1) h4 := itr0.keep _ _ _ hst3 fun b hb o e => (sb4.2 _ (fpD b hb).2).trans e
      -- the frame of the comprehension
      have cfr : FR G (compEnvC scope cl Ca env) ρ' (cvars env scope vars x vs[i]) { s' with heap := h4, toks := tk + 1 } := by
        obtain ⟨m', hm', hvars⟩ := fr4.ns
        refine ⟨⟨_, hn4, fun y u hy => ?_⟩, fun a ha => ?_, fun n ca hm => ?_, c.apart⟩
        · unfold cvars at hy
          by_cases e : y = x
          · rw [if_pos e] at hy; cases hy
            exact ⟨rv, hv4, .inl ⟨by rw [e]; exact lookup_relabel_local c.x, by simp [e]⟩⟩
          · rw [if_neg e] at hy
            by_cases e2 : (relabel scope env).names.lookup y = some .cell
            · rw [if_pos e2] at hy
              obtain ⟨ru, a, b⟩ := hvars y u hy
              obtain ⟨k1, k2⟩ := c.cells y e2
              rcases b with ⟨b, _⟩ | ⟨_, cc, b1, b2⟩
              · rw [k1] at b; cases b
              · exact ⟨ru, a, .inr ⟨.inl e2, cc, by show cl.lookup y = _; rw [k2]; exact b1, b2⟩⟩
            · rw [if_neg e2] at hy; cases hy
        · rcases List.mem_cons.mp ha with rfl | ha
          · exact ⟨hCa', hrC.2⟩
          · obtain ⟨⟨n, ca⟩, hm, rfl⟩ := List.mem_map.mp ha
            exact fr4.out _ (mem_own_cell (c.sub _ hm))
        · obtain ⟨_, v, hv⟩ := fr4.cell n ca (c.sub _ hm)
          refine ⟨fun q => ?_, v, hv⟩
          exact fr.live _ (mem_own_cell (c.sub _ hm)) (by rw [q]; exact sC)
      have tests : wpAny (model prog w) A (forIn ifs true fun cc r => if r = true then do let ok ← isTrue cc (compEnvC scope cl Ca env) (eval cc (compEnvC scope cl Ca env)); pure (ForInStep.yield ok) else pure (ForInStep.yield r))
          (Post G ρ' { s' with heap := h4, toks := tk + 1 } (PB fun ok H2 => if ok then aE prog w G d (compEnvC scope cl Ca env) elt (cvars env scope vars x vs[i]) H2 fun y H3 => J (i + 1) (acc ++ [y]) H3 else J (i + 1) acc H2)) (fun _ _ => False) { s' with heap := h4, toks := tk + 1 } := by
        match ifs, hbody with
        | [], hbody => exact wpAny_tests_nil (Post.here hr4 hbody)
        | [t], hbody => exact wpAny_tests_one ((show aB prog w G d _ t _ H' _ from hbody) A ρ' _ ok hr4 cfr)
        | _ :: _ :: _, hbody => exact hbody.elim
      refine wpAny_mono tests (fun okb s5 p5 => ?_) fun _ _ x => x.elim
      obtain ⟨ρ5, H5, st5, hr5, h5⟩ := p5
      have st05 := st4.trans0 st5
      have fp5 : ∀ b ∈ fp, b ∉ ρ5 := fun b hb hm => by
        rcases st5.new b hm with q | q
        · exact hfp' b hb q
        · exact itr0.live _ _ hst4 b hb q
      have D5 := itr0.dkeep _ _ st5.pre hD'
      have hDa5 : Da ∉ ρ5 := fun hm => (st5.new _ hm).elim hDa' fun q => by obtain ⟨n, e⟩ := hpl4; rw [show h4.get? Da = none from q] at e; cases e
      have hCa5 : Ca ∉ ρ5 := fun hm => (st5.new _ hm).elim hCa' fun q => by obtain ⟨o, _, _, e, _⟩ := hn4; exact nomatch (q.symm.trans e : (none : Option Obj) = some o)
      have hst5 := itr0.keep _ _ _ hst4 fun b hb o e => st5.keep b o (hfp' b hb) (fun h => nomatch h) e
      have hn5 := hn4.at fun o e => st5.keep _ o hCa' (fun h => nomatch h) e
      have hpl5 := hpl4.at fun o e => st5.keep _ o hDa' (fun h => nomatch h) e
      have hvs5 := hvs4.step st5
      cases okb with
      | false => exact ⟨vs.length - (i + 1), by (exact om248 hlt), i + 1, ρ5, H5, acc, ys, _, rfl, hlt, by (exact om250 hal), st05, hr5, h5, fp5, D5, hst5, hDa5, hCa5, hn5, hpl5, hvs5⟩
      | true =>
        refine wpAny_mono ((show aE prog w G d _ elt _ H5 _ from h5) A ρ5 s5 ok hr5 (cfr.step st5)) (fun ry s6 p6 => ?_) fun _ _ x => x.elim
        obtain ⟨ρ6, H6, st6, hr6, y, vy, h6⟩ := p6
        have st06 := st05.trans0 st6
        have fp6 : ∀ b ∈ fp, b ∉ ρ6 := fun b hb hm => by
          rcases st6.new b hm with q | q
          · exact fp5 b hb q
          · exact itr0.live _ _ hst5 b hb q
        have D6 := itr0.dkeep _ _ st6.pre D5
        have hDa6 : Da ∉ ρ6 := fun hm => (st6.new _ hm).elim hDa5 fun q => by obtain ⟨n, e⟩ := hpl5; rw [q] at e; cases e
        have hCa6 : Ca ∉ ρ6 := fun hm => (st6.new _ hm).elim hCa5 fun q => by obtain ⟨o, _, _, e, _⟩ := hn5; exact nomatch (q.symm.trans e : (none : Option Obj) = some o)
        have hst6 := itr0.keep _ _ _ hst5 fun b hb o e => st6.keep b o (fp5 b hb) (fun h => nomatch h) e
        have hn6 := hn5.at fun o e => st6.keep _ o hCa5 (fun h => nomatch h) e
        have hpl6 := hpl5.at fun o e => st6.keep _ o hDa5 (fun h => nomatch h) e
        have hvs6 := hvs5.step st6
        have hys : ys.size ≤ sizeLine := by
          have e1 := hvs6.length
          have e2 : ys.toList.length = ys.size := by simp
          rw [sizeLine_eq]; (exact om251 hlen hal hlt e1 e2)
        refine wpAny_list_append_plain (hsz := hys) hpl6 fun h7 hpl7 sb7 => ?_
        have ntD6 := ntD hpl6
        have keepD : ∀ c o, c ∉ ρ6 → c ∉ [Da] → s6.heap.get? c = some o → h7.get? c = some o := fun c o _ hc e => (sb7.2 _ (fun h => hc (by simp [h]))).trans e
        have ntDl : ∀ x ∈ [Da], ∀ items k, s6.heap.get? x ≠ some { cls := .type "tuple", data := .seq items k } := fun x hx => by rw [List.mem_singleton.mp hx]; exact ntD6
        have st67 : Step [Da] ρ6 s6 ρ6 { s6 with heap := h7 } :=
          ⟨⟨_, _, rfl⟩, alive_same sb7 (by obtain ⟨n, e⟩ := hpl7; rw [e]; exact fun q => nomatch q), keepD, fun _ _ e => e, fun _ q => .inl q⟩
        refine ⟨vs.length - (i + 1), by (exact om248 hlt), i + 1, ρ6, H6, acc ++ [y], ys.push ry, _, rfl, hlt, by simpa using hal, ((Step.toX st06).trans st67).drop fun b hb => by rw [List.mem_singleton.mp hb]; exact sD,
          HR.out (tk := s6.toks) hr6 hDa6 hrD.2 sb7 ntD6, h6, fp6, D6, itr0.keep _ _ _ hst6 fun b hb o e => (sb7.2 _ (fpD b hb).1).trans e, hDa6, hCa6, hn6.sameBut sb7 hDC.symm, hpl7, ?_⟩
        have a1 : VRs G ρ6 h7 acc ys.toList := VRs.mono (X := [Da]) (fun _ _ e => e) (fun _ h => .inl h) ntDl keepD hvs6
        have a2 : VR G ρ6 h7 y ry := VR.mono (X := [Da]) (fun _ _ e => e) (fun _ h => .inl h) ntDl keepD vy
        simpa using a1.append (VRs.one a2)
    · have hin : i = vs.length := by (exact om249 hi hlt)
      subst hin
      refine itr0.done ρ' H' s' _ _ hr' (fin _ _ j') hD' hst' hI' fun h3 tk keep => ?_
      have keepI : ∀ c o, c ∉ ρ' → c ∉ [I] → s'.heap.get? c = some o → h3.get? c = some o := fun c o _ hc e => keep _ _ (fun h => hc (by simp [h])) e
      have ntI : ∀ x ∈ [I], ∀ items k, s'.heap.get? x ≠ some { cls := .type "tuple", data := .seq items k } := fun x hx => by rw [List.mem_singleton.mp hx]; exact nt
      exact hRR Da Ca ρ' H' acc ys _ m sD sC hDC hDa' hCa' (Step.ext st' hgone keep) (HR.ext hr' hI' (hr.gone hgone).2 keep nt) (hn'.at fun o e => keep _ o (fpD I itr0.mem).2.symm e) (hpl'.at fun o e => keep _ o (fpD I itr0.mem).1.symm e)
        (VRs.mono (X := [I]) (fun _ _ e => e) (fun _ h => .inl h) ntI keepI hvs') j'
  exact codeAny_compStart_list (loop _ rfl) (itr0.self 0 _ _ _ hst₁ (loop _ rfl))

theorem OR.ofPlain {ρ : List Addr} {h : Heap} {a : Addr} {ys : Array Value} {acc : List V} (hp : h.PlainList a ys) (hv : VRs G ρ h acc ys.toList) : OR G (ρ ++ [a]) h a (.lst acc) := by
  obtain ⟨n, e⟩ := hp
  exact ⟨ys, n, e, VRs.mono pre_snoc (newT_snoc fun items k q => by rw [e] at q; simp at q) noTup_nil (fun _ _ _ _ e => e) hv⟩

theorem e_ListComp {elt iter : Expr} {x : Str} {px : Pos} {ifs : List Expr} {scope : Scope} {cl : List (Str × Addr)} {pos : Pos} {Φ : V → List O → Prop} (c : CompOk env scope cl x)
    (h : aIt prog w G d env iter vars H fun vs C H1 => ∃ J : Nat → List V → List O → Prop, J 0 [] H1 ∧
      (∀ Ca i v acc H', vs[i]? = some v → J i acc H' → C H' ∧ aIfs prog w G d (compEnvC scope cl Ca env) ifs (cvars env scope vars x v) H' fun ok H2 => if ok then aE prog w G d (compEnvC scope cl Ca env) elt (cvars env scope vars x v) H2 fun y H3 => J (i + 1) (acc ++ [y]) H3 else J (i + 1) acc H2) ∧
      (∀ acc H', J vs.length acc H' → C H' ∧ Φ (.ref H'.length) (H' ++ [.lst acc])))
    (hs : ∀ x, foldedSetIterable iter env x = pure x := by intro _; rfl) : aE prog w G d env (.ListComp elt [⟨.Name x px, iter, ifs, 0⟩] scope pos) vars H Φ := by
  intro A ρ s ok hr fr
  rw [eval_ListComp]
  refine wpAny_comprehension_free (use := none) rfl hs c.clos c.kind c.names (wpAny_mono (h A ρ s ok hr fr) (fun xv s1 h1 => wpAny_mono h1 (fun it s2 h2 => ?_) fun _ _ e => e) fun _ _ e => e)
  obtain ⟨vs, C, H1, ρ1, I, D, fp, St, ⟨J, j0, turn, fin⟩, st1, hr1, rfl, hgone, hfp, itr, hD, hst, hlen⟩ := h2
  refine comp_block c ok fr hr st1 hr1 hgone hfp itr hD hst hlen j0 turn (fun acc H' j => (fin acc H' j).1) (fun acc Ca => compPost (model prog w) A (fun _ _ => False) none (Post G ρ s (PV G Φ)) acc Ca) ?_
  intro Da Ca ρ' H' acc ys s' m gD gC hDC hDa hCa st hr' hn hpl hv hj
  refine ⟨m, hn, fun h' sb => ?_⟩
  have ntC := noTup_ns hn
  have hr2 : HR G ρ' H' { s' with heap := h' } := HR.out (tk := s'.toks) hr' hCa (hr.gone gC).2 sb (ntC Ca (by simp))
  have keepC : ∀ c o, c ∉ ρ' → c ∉ [Ca] → s'.heap.get? c = some o → h'.get? c = some o := fun c o _ hc e => (sb.2 _ (fun h => hc (by rw [h]; exact List.mem_singleton.mpr rfl))).trans e
  have hv2 : VRs G ρ' h' acc ys.toList := VRs.mono (X := [Ca]) (fun _ _ e => e) (fun _ h => .inl h) ntC keepC hv
  have hpl2 : h'.PlainList Da ys := hpl.at fun o e => (sb.2 _ hDC).trans e
  have st2 : Step [] ρ s ρ' { s' with heap := h' } := Step.ext (tk := s'.toks) st gC fun b o hb e => (sb.2 _ hb).trans e
  refine ⟨ρ' ++ [Da], H' ++ [.lst acc], ?_, HR.adopt hr2 hDa (hr.gone gD).2 (fun items k q => by obtain ⟨n, e⟩ := hpl2; rw [show h'.get? Da = _ from e] at q; simp at q) (OR.ofPlain hpl2 hv2), .ref H'.length, ?_, (fin acc H' hj).2⟩
  · refine ⟨st2.same, st2.alive, st2.keep, fun n a e => pre_snoc n a (st2.pre n a e), fun a ha => ?_⟩
    rcases List.mem_append.mp ha with q | q
    · exact st2.new a q
    · rw [List.mem_singleton.mp q]; exact .inr gD
  · unfold VR
    exact ⟨Da, by rw [← hr2.len]; simp, rfl⟩

theorem s_assign_ListComp {elt iter : Expr} {x y : Str} {px py : Pos} {ifs : List Expr} {scope : Scope} {cl : List (Str × Addr)} {pos spos : Pos} {Φ : Fl → Vars → List O → Prop} (c : CompOk env scope cl x)
    (h : aIt prog w G d env iter vars H fun vs C H1 => ∃ J : Nat → List V → List O → Prop, J 0 [] H1 ∧
      (∀ Ca i v acc H', vs[i]? = some v → J i acc H' → C H' ∧ aIfs prog w G d (compEnvC scope cl Ca env) ifs (cvars env scope vars x v) H' fun ok H2 => if ok then aE prog w G d (compEnvC scope cl Ca env) elt (cvars env scope vars x v) H2 fun y H3 => J (i + 1) (acc ++ [y]) H3 else J (i + 1) acc H2) ∧
      (∀ acc H', J vs.length acc H' → C H' ∧ Φ .next (upd vars y (.ref H'.length)) (H' ++ [.lst acc])))
    (hsw : swapsWith (.ListComp elt [⟨.Name x px, iter, ifs, 0⟩] scope pos) (some (.Name y py)) spos.line env = pure true := by rfl)
    (hs : ∀ x, foldedSetIterable iter env x = pure x := by intro _; rfl) (hk : env.scope.kind = .function := by rfl) (hl : env.kindOf y = some .local := by rfl) :
    aS prog w G d env (.Assign [.Name y py] (.ListComp elt [⟨.Name x px, iter, ifs, 0⟩] scope pos) spos) vars H Φ := by
  intro A ρ s ok hr fr
  rw [exec_Assign_Name_used _ _ _ _ hsw]
  refine wpAny_bind (wpAny_standAt (wpAny_bind ?_))
  show wpAny _ A (do let _ ← comprehension (.ListComp elt [⟨.Name x px, iter, ifs, 0⟩] scope pos) scope env _ (newList []) false (eval iter env) (some (assign (.Name y py) env))) _ _ s
  refine wpAny_bind (wpAny_mono (wpAny_comprehension_free (E := fun _ _ => False) (use := some (assign (.Name y py) env)) (Q := fun _ s' => PostS G env ρ s Φ .next s') rfl hs c.clos c.kind c.names
    (wpAny_mono (h A ρ s ok hr fr) (fun xv s1 h1 => wpAny_mono h1 (fun it s2 h2 => ?_) fun _ _ e => e) fun _ _ e => e)) (fun _ s' hq => wpAny_pure (wpAny_pure hq)) fun _ _ e => e.elim)
  obtain ⟨vs, C, H1, ρ1, I, D, fp, St, ⟨J, j0, turn, fin⟩, st1, hr1, rfl, hgone, hfp, itr, hD, hst, hlen⟩ := h2
  refine comp_block c ok fr hr st1 hr1 hgone hfp itr hD hst hlen j0 turn (fun acc H' j => (fin acc H' j).1) (fun acc Ca => compPost (model prog w) A (fun _ _ => False) (some (assign (.Name y py) env)) (fun _ s' => PostS G env ρ s Φ .next s') acc Ca) ?_
  intro Da Ca ρ' H' acc ys s' m gD gC hDC hDa hCa st hr' hn hpl hv hj
  show wpAny _ A (assign (.Name y py) env (.ref Da)) _ _ _
  have hr2 : HR G (ρ' ++ [Da]) (H' ++ [.lst acc]) s' := HR.adopt hr' hDa (hr.gone gD).2 (fun items k q => by obtain ⟨n, e⟩ := hpl; rw [e] at q; simp at q) (OR.ofPlain hpl hv)
  have st2 : Step [] ρ s (ρ' ++ [Da]) s' := by
    refine ⟨st.same, st.alive, st.keep, fun n a e => pre_snoc n a (st.pre n a e), fun a ha => ?_⟩
    rcases List.mem_append.mp ha with q | q
    · exact st.new a q
    · rw [List.mem_singleton.mp q]; exact .inr gD
  have vv : VR G (ρ' ++ [Da]) s'.heap (.ref H'.length) (.ref Da) := by
    unfold VR
    exact ⟨Da, by rw [← hr'.len]; simp, rfl⟩
  refine wpAny_assign_Name (store_of hr2 (fr.step st2) vv hk (.inl hl) fun s3 st3 hr3 fr3 => ?_)
  have hCr : Ca ∉ ρ' ++ [Da] := fun q => by
    rcases List.mem_append.mp q with q | q
    · exact hCa q
    · exact hDC (List.mem_singleton.mp q).symm
  have hn3 : s3.heap.Ns Ca m := hn.at fun o e => st3.keep _ o hCr (fun q => fr.live _ q gC) e
  refine ⟨m, hn3, fun h' sb => ?_⟩
  have ntC := noTup_ns hn3
  exact ⟨_, _, _, .next, Step.ext (tk := s3.toks) ((st2.toX).trans st3) gC fun b o hb e => (sb.2 _ hb).trans e, HR.out (tk := s3.toks) hr3 hCr (hr.gone gC).2 sb (ntC Ca (by simp)),
    FR.ext (tk := s3.toks) fr3 (gone_own fr gC) (fun b o hb e => (sb.2 _ hb).trans e) (ntC Ca (by simp)), rfl, (fin acc H' hj).2⟩
end
end Mine
end

section
open PySem PySem.W PyProof.Rows PySem.Calls
set_option maxRecDepth 100000
namespace Mine
section
variable {prog : Program} {w : World} {G : Gl} {d : Nat} {env : Env} {vars : Vars} {H : List O} {α β : Type} {A : Around}

def RelLC (G : Gl) (ρ : List Addr) (h : Heap) (k : Str → Option NameKind) (acc : Vars) (m cm : Str → Option Value) : Prop :=
  ∀ y v, acc y = some v → ∃ rv, VR G ρ h v rv ∧ ((k y = some .local ∧ m y = some rv) ∨ (k y = some .cell ∧ cm y = some rv))

theorem bind_rel {ρ : List Addr} {h : Heap} {k : Str → Option NameKind} : ∀ (ps : List Str) (vs : List V) (rs : List Value) (acc : List (Str × V)) (m cm : Str → Option Value), VRs G ρ h vs rs →
    (∀ p ∈ ps, k p = some .local ∨ k p = some .cell) → RelLC G ρ h k (fun y => acc.lookup y) m cm →
    RelLC G ρ h k (fun y => ((ps.zip vs).reverse ++ acc).lookup y) (bindL k (ps.zip rs) m) (bindC k (ps.zip rs) cm)
  | [], vs, rs, acc, m, cm, _, _, hr => by simpa [bindL, bindC] using hr
  | p :: ps, [], rs, acc, m, cm, hv, _, hr => by
    unfold VRs at hv; subst hv
    simpa [bindL, bindC] using hr
  | p :: ps, v :: vs, rs, acc, m, cm, hv, hk, hr => by
    unfold VRs at hv
    obtain ⟨r, rs', rfl, h1, h2⟩ := hv
    simp only [List.zip_cons_cons, List.reverse_cons, List.append_assoc, List.cons_append, List.nil_append]
    unfold bindL bindC
    refine bind_rel ps vs rs' ((p, v) :: acc) _ _ h2 (fun q hq => hk q (by simp [hq])) ?_
    intro y u hy
    simp only [List.lookup_cons] at hy
    by_cases e : y = p
    · subst e
      simp only [beq_self_eq_true, Option.some.injEq] at hy
      subst hy
      rcases hk y (by simp) with q | q
      · exact ⟨r, h1, .inl ⟨q, by simp [q]⟩⟩
      · exact ⟨r, h1, .inr ⟨q, by simp [q]⟩⟩
    · have : (y == p) = false := beq_eq_false_iff_ne.mpr e
      rw [this] at hy
      obtain ⟨rv, a, b⟩ := hr y u hy
      refine ⟨rv, a, b.imp (fun q => ⟨q.1, ?_⟩) fun q => ⟨q.1, ?_⟩⟩
      · split
        · simp [e, q.2]
        · exact q.2
      · split
        · exact q.2
        · simp [e, q.2]

theorem c_def_cells {x : Str} {params : Arguments} {body : List Stmt} {scope : Scope} {vs : List V} {Φ : V → List O → Prop} (g : Glb G) (f : FnAt G x params body scope)
    (hbind : ∀ rs : List Value, rs.length = vs.length → ∀ pm cd doc, bindArgs (Calls.docDef x params body scope pm cd doc) ⟨rs, []⟩ = pure ((params.args.map (·.arg)).zip rs))
    (hloc : ∀ p ∈ params.args.map (·.arg), scope.names.lookup p = some .local ∨ (scope.names.lookup p = some .cell ∧ ∀ L, ((cellsFrom (L + 1) scope.names []).lookup p).isSome = true))
    (hlook : ∀ L, ∀ p ∈ cellsFrom (L + 1) scope.names [], (cellsFrom (L + 1) scope.names []).lookup p.1 = some p.2)
    (h : ∀ L a cd, aSs prog w G d (envOfC x scope L a cd) body (bindV (params.args.map (·.arg)) vs) H fun fl _ H' => Φ fl.val H')
    (hco : scope.isCoroutine = false := by rfl) (hgen : scope.isGenerator = false := by rfl) (hk : scope.kind = .function := by rfl) : aC prog w G (d + 1) x vs H Φ := by
  intro a hm A ρ s rs ok hr hv
  obtain ⟨a', pm, cd, doc, hm', ho, hc⟩ := f.at_
  rw [hm] at hm'; cases hm'
  have hdep := ok.depth
  have huni := ok.units
  refine wpAny_call (codeAny_call_cells (fd := docDef x params body scope pm cd doc) (body := body) (binds := (params.args.map (·.arg)).zip rs) (by (exact om239 hdep)) (hr.base _ _ ho) rfl (g.lim.keeps hr.base) (hc.keeps hr.base) rfl (hbind rs hv.length pm cd doc) rfl
    (fun y hy => ?_) (fun s1 ic => ?_) hco hgen hk)
  · exact (hloc y.1 (List.of_mem_zip hy).1).imp id fun q => ⟨q.1, q.2 _⟩
  · have keep : ∀ b o, s.heap.get? b = some o → s1.heap.get? b = some o := ic.toInCall.keep
    have hs1 : Step [] ρ s ρ s1 ∧ HR G ρ H s1 := by
      obtain ⟨h1, tk, rfl⟩ := ic.toInCall.same
      exact ⟨Step.grow keep, hr.grow keep⟩
    have fresh : ∀ b, s.heap.objs.size ≤ b → s.heap.get? b = none := fun b hb => gone_size hb
    have hownL : ∀ b ∈ own (envOfC x scope s.heap.objs.size a cd), s.heap.get? b = none := by
      intro b hb
      rcases List.mem_cons.mp hb with rfl | hb
      · exact fresh _ (Nat.le_refl _)
      · obtain ⟨⟨n, c⟩, hmem, rfl⟩ := List.mem_map.mp hb
        exact fresh _ (Nat.le_of_lt (ic.above n c hmem))
    have hvs1 : VRs G ρ s1.heap vs rs := hv.step hs1.1
    refine wpAny_mono (h s.heap.objs.size a cd (A.deeper (envOfC x scope s.heap.objs.size a cd)) ρ s1 ⟨ok.handled, by show A.depth + 1 + d < _; (exact om240 hdep), by show A.units + 3 + 8 * d + 40 < _; (exact om241 huni)⟩ hs1.2
      ⟨⟨_, ic.toInCall.ns, fun y v hy => ?_⟩, fun z hz => hr.gone (hownL z hz), fun n c hmem => ?_, ic.apart⟩) (fun fl s' p => ?_) fun _ _ x => x.elim
    · have := bind_rel (k := (envOfC x scope s.heap.objs.size a cd).kindOf) (params.args.map (·.arg)) vs rs [] (fun _ => none) (fun _ => none) hvs1 (fun p hp => (hloc p hp).imp id fun q => q.1) (fun y v hy => by simp at hy)
      obtain ⟨rv, a1, b1⟩ := this y v (by simpa [bindV] using hy)
      refine ⟨rv, a1, b1.imp id fun q => ⟨.inl q.1, ?_⟩⟩
      have hsome : ((cellsFrom (s.heap.objs.size + 1) scope.names []).lookup y).isSome = true := by
        have hmem : y ∈ params.args.map (·.arg) := by
          have hy' : ((params.args.map (·.arg)).zip vs).reverse.lookup y = some v := hy
          exact (List.of_mem_zip (List.mem_reverse.mp (mem_of_lookup hy'))).1
        rcases hloc y hmem with q1 | q1
        · have : scope.names.lookup y = some .cell := q.1
          rw [q1] at this; cases this
        · exact q1.2 _
      obtain ⟨c, hcc⟩ := Option.isSome_iff_exists.mp hsome
      refine ⟨c, hcc, ?_⟩
      have h2 := ic.cell y c hcc
      have h3 : bindC (callEnvC (docDef x params body scope pm cd doc) s.heap.objs.size a).kindOf ((params.args.map (·.arg)).zip rs) (fun _ => none) y = some rv := q.2
      rw [h3] at h2; exact h2
    · exact ⟨fun q => absurd (ic.above n c hmem) (by rw [q]; exact Nat.lt_irrefl _), _, ic.cell n c (hlook _ _ hmem)⟩
    · obtain ⟨ρ', vars', H', fl', st, hr', _, hfl, hΦ⟩ := p
      have st' : Step [] ρ s ρ' s' := ((Step.toX hs1.1).trans st).drop hownL
      have fin : ∀ {rv : Value} {v : V}, VR G ρ' s'.heap v rv → v = fl'.val → Post G ρ s (PV G Φ) rv s' := by
        intro rv v h1 h2
        exact ⟨ρ', H', st', hr', v, h1, h2 ▸ hΦ⟩
      cases fl' with
      | next => cases (show fl = .next from hfl); exact fin (v := .none) (rv := .none) rfl rfl
      | brk => cases (show fl = .brk from hfl); exact fin (v := .none) (rv := .none) rfl rfl
      | cont => cases (show fl = .cont from hfl); exact fin (v := .none) (rv := .none) rfl rfl
      | ret v =>
        obtain ⟨rv, e, h1⟩ := hfl
        cases e
        exact fin h1 rfl
end
end Mine
end

section
open PySem PySem.W PyProof.Rows PySem.Calls
set_option maxRecDepth 100000
namespace Mine
section
variable {prog : Program} {w : World} {G : Gl} {d : Nat} {env : Env} {vars : Vars} {H : List O}

theorem Post.int {ρ : List Addr} {s : Shared} {a : Int} {t tk : Nat} {Φ : V → List O → Prop} (hr : HR G ρ H s) (h : Φ (.int a) H) : Post G ρ s (PV G Φ) (Value.int a t) { s with toks := tk } :=
  Post.tk hr ⟨.int a, ⟨t, rfl⟩, h⟩
theorem Post.flt {ρ : List Addr} {s : Shared} {a : UInt64} {t tk : Nat} {Φ : V → List O → Prop} (hr : HR G ρ H s) (h : Φ (.flt a) H) : Post G ρ s (PV G Φ) (Value.float a t) { s with toks := tk } :=
  Post.tk hr ⟨.flt a, ⟨t, rfl⟩, h⟩
theorem Post.str {ρ : List Addr} {s : Shared} {a : Str} {t tk : Nat} {Φ : V → List O → Prop} (hr : HR G ρ H s) (h : Φ (.str a) H) : Post G ρ s (PV G Φ) (Value.str a t) { s with toks := tk } :=
  Post.tk hr ⟨.str a, ⟨t, rfl⟩, h⟩
theorem Post.bool {ρ : List Addr} {s : Shared} {a : Bool} {Φ : V → List O → Prop} (hr : HR G ρ H s) (h : Φ (.bool a) H) : Post G ρ s (PV G Φ) (Value.bool a) s :=
  Post.here hr ⟨.bool a, rfl, h⟩
theorem Post.boolT {ρ : List Addr} {s : Shared} {a : Bool} {tk : Nat} {Φ : V → List O → Prop} (hr : HR G ρ H s) (h : Φ (.bool a) H) : Post G ρ s (PV G Φ) (Value.bool a) { s with toks := tk } :=
  Post.tk hr ⟨.bool a, rfl, h⟩
theorem Post.same {ρ : List Addr} {s : Shared} {v : V} {r : Value} {Φ : V → List O → Prop} (hr : HR G ρ H s) (hv : VR G ρ s.heap v r) (h : Φ v H) : Post G ρ s (PV G Φ) r s :=
  Post.here hr ⟨v, hv, h⟩
theorem Post.sameT {ρ : List Addr} {s : Shared} {v : V} {r : Value} {tk : Nat} {Φ : V → List O → Prop} (hr : HR G ρ H s) (hv : VR G ρ s.heap v r) (h : Φ v H) : Post G ρ s (PV G Φ) r { s with toks := tk } :=
  Post.tk hr ⟨v, hv, h⟩

/-! numbers -/
theorem o_add_int {a b : Int} {Φ : V → List O → Prop} (h : Φ (.int (a + b)) H) : aO2 prog w G d (binaryOp .Add) (.int a) (.int b) H (PV G Φ) := by
  rintro A ρ s q r ok hr ⟨t, rfl⟩ ⟨u, rfl⟩; exact PyProof.Rows.add_int (Post.int hr h)
theorem o_iadd_int {a b : Int} {Φ : V → List O → Prop} (h : Φ (.int (a + b)) H) : aO2 prog w G d (inplaceOp .Add) (.int a) (.int b) H (PV G Φ) := by
  rintro A ρ s q r ok hr ⟨t, rfl⟩ ⟨u, rfl⟩; exact P.iadd_int (Post.int hr h)
theorem o_sub_int {a b : Int} {Φ : V → List O → Prop} (h : Φ (.int (a - b)) H) : aO2 prog w G d (binaryOp .Sub) (.int a) (.int b) H (PV G Φ) := by
  rintro A ρ s q r ok hr ⟨t, rfl⟩ ⟨u, rfl⟩; exact PyProof.Rows.sub_int (Post.int hr h)
theorem o_mul_int {a b : Int} {Φ : V → List O → Prop} (hb : (-(2 ^ 64) < a ∧ a < 2 ^ 64) ∨ (-(2 ^ 64) < b ∧ b < 2 ^ 64)) (h : Φ (.int (a * b)) H) : aO2 prog w G d (binaryOp .Mult) (.int a) (.int b) H (PV G Φ) := by
  rintro A ρ s q r ok hr ⟨t, rfl⟩ ⟨u, rfl⟩
  exact PyProof.Rows.mul_int (Post.int hr h) (hb.elim (fun q => .of_left (intBits_le_64 q.1 q.2)) fun q => .of_right (intBits_le_64 q.1 q.2))
theorem o_imul_int {a b : Int} {Φ : V → List O → Prop} (hb : (-(2 ^ 64) < a ∧ a < 2 ^ 64) ∨ (-(2 ^ 64) < b ∧ b < 2 ^ 64)) (h : Φ (.int (a * b)) H) : aO2 prog w G d (inplaceOp .Mult) (.int a) (.int b) H (PV G Φ) := by
  rintro A ρ s q r ok hr ⟨t, rfl⟩ ⟨u, rfl⟩
  exact PyProof.Rows.imul_int (Post.int hr h) (hb.elim (fun q => .of_left (intBits_le_64 q.1 q.2)) fun q => .of_right (intBits_le_64 q.1 q.2))
theorem o_mod_int {a b : Int} {Φ : V → List O → Prop} (hb : 0 < b) (h : Φ (.int (a % b)) H) : aO2 prog w G d (binaryOp .Mod) (.int a) (.int b) H (PV G Φ) := by
  rintro A ρ s q r ok hr ⟨t, rfl⟩ ⟨u, rfl⟩
  refine PyProof.Rows.mod_int' (by (exact om252 hb)) (Post.int hr ?_)
  rw [Int.fmod_eq_emod_of_nonneg _ (by (exact om253 hb))]; exact h
theorem o_div_int {a b : Int} {Φ : V → List O → Prop} (hb : 0 < b) (hb2 : b < 1073741824) (h : Φ (.int (a / b)) H) : aO2 prog w G d (binaryOp .FloorDiv) (.int a) (.int b) H (PV G Φ) := by
  rintro A ρ s q r ok hr ⟨t, rfl⟩ ⟨u, rfl⟩
  refine PyProof.Rows.floordiv_int (by (exact om252 hb)) (Post.int hr ?_) (Or.inl (PyProof.noPylong_small (by (exact om254 hb hb2))))
  rw [Int.fdiv_eq_ediv_of_nonneg _ (by (exact om253 hb))]; exact h
theorem o_and_int {a b : Int} {Φ : V → List O → Prop} (h : Φ (.int (Builtin.bitAnd a b)) H) : aO2 prog w G d (binaryOp .BitAnd) (.int a) (.int b) H (PV G Φ) := by
  rintro A ρ s q r ok hr ⟨t, rfl⟩ ⟨u, rfl⟩; exact PyProof.Rows.and_int (Post.int hr h)
theorem o_xor_int {a b : Int} {Φ : V → List O → Prop} (h : Φ (.int (Builtin.bitXor a b)) H) : aO2 prog w G d (binaryOp .BitXor) (.int a) (.int b) H (PV G Φ) := by
  rintro A ρ s q r ok hr ⟨t, rfl⟩ ⟨u, rfl⟩; exact PyProof.Rows.xor_int (Post.int hr h)
theorem o_rshift_int {a n : Int} {Φ : V → List O → Prop} (hn : 0 ≤ n) (h : Φ (.int (a / 2 ^ n.toNat)) H) : aO2 prog w G d (binaryOp .RShift) (.int a) (.int n) H (PV G Φ) := by
  rintro A ρ s q r ok hr ⟨t, rfl⟩ ⟨u, rfl⟩
  refine PyProof.Rows.rshift_int hn (Post.int hr ?_)
  rw [Int.fdiv_eq_ediv_of_nonneg _ (Int.le_of_lt (Int.pow_pos (by decide)))]; exact h
theorem o_lshift_int {a n : Int} {Φ : V → List O → Prop} (hn : 0 ≤ n) (hn2 : n ≤ 1000000) (ha : a.natAbs < 2 ^ 64) (h : Φ (.int (a * 2 ^ n.toNat)) H) : aO2 prog w G d (binaryOp .LShift) (.int a) (.int n) H (PV G Φ) := by
  rintro A ρ s q r ok hr ⟨t, rfl⟩ ⟨u, rfl⟩; exact PyProof.Rows.lshift_int_small hn hn2 ha (Post.int hr h)
theorem o_pow_int {a n : Int} {Φ : V → List O → Prop} (hn : 0 ≤ n) (hn2 : n ≤ 1000000) (ha : -(2 ^ 64) < a ∧ a < 2 ^ 64) (h : Φ (.int (a ^ n.toNat)) H) : aO2 prog w G d (binaryOp .Pow) (.int a) (.int n) H (PV G Φ) := by
  rintro A ρ s q r ok hr ⟨t, rfl⟩ ⟨u, rfl⟩
  refine PyProof.Rows.pow_int hn ?_ (Post.int hr h)
  have h1 : (Builtin.Int.intBits a : Int) ≤ 64 := by have := intBits_le_64 ha.1 ha.2; (exact om255 this)
  calc (Builtin.Int.intBits a : Int) * n ≤ 64 * n := Int.mul_le_mul_of_nonneg_right h1 hn
    _ ≤ 2 ^ 27 := by (exact om256 hn2)
theorem o_eq_int {a b : Int} {Φ : V → List O → Prop} (h : Φ (.bool (a == b)) H) : aO2 prog w G d (compareOp .Eq) (.int a) (.int b) H (PV G Φ) := by
  rintro A ρ s q r ok hr ⟨t, rfl⟩ ⟨u, rfl⟩; exact PyProof.Rows.eq_int (Post.bool hr h)
theorem o_ne_int {a b : Int} {Φ : V → List O → Prop} (h : Φ (.bool (a != b)) H) : aO2 prog w G d (compareOp .NotEq) (.int a) (.int b) H (PV G Φ) := by
  rintro A ρ s q r ok hr ⟨t, rfl⟩ ⟨u, rfl⟩; exact PyProof.Rows.ne_int (Post.bool hr h)
theorem o_lt_int {a b : Int} {Φ : V → List O → Prop} (h : Φ (.bool (decide (a < b))) H) : aO2 prog w G d (compareOp .Lt) (.int a) (.int b) H (PV G Φ) := by
  rintro A ρ s q r ok hr ⟨t, rfl⟩ ⟨u, rfl⟩; exact PyProof.Rows.lt_int (Post.bool hr h)
theorem o_gt_int {a b : Int} {Φ : V → List O → Prop} (h : Φ (.bool (decide (b < a))) H) : aO2 prog w G d (compareOp .Gt) (.int a) (.int b) H (PV G Φ) := by
  rintro A ρ s q r ok hr ⟨t, rfl⟩ ⟨u, rfl⟩; exact PyProof.Rows.gt_int (Post.bool hr h)
theorem o_ge_int {a b : Int} {Φ : V → List O → Prop} (h : Φ (.bool (decide (b ≤ a))) H) : aO2 prog w G d (compareOp .GtE) (.int a) (.int b) H (PV G Φ) := by
  rintro A ρ s q r ok hr ⟨t, rfl⟩ ⟨u, rfl⟩; exact PyProof.Rows.ge_int (Post.bool hr h)
theorem o_ne_bool {a b : Bool} {Φ : V → List O → Prop} (h : Φ (.bool (a != b)) H) : aO2 prog w G d (compareOp .NotEq) (.bool a) (.bool b) H (PV G Φ) := by
  rintro A ρ s q r ok hr hq hr'
  cases (show q = .bool a from hq); cases (show r = .bool b from hr')
  exact PyProof.Rows.ne_bool (Post.bool hr h)
theorem o_mul_int_bool {a : Int} {b : Bool} {Φ : V → List O → Prop} (h : Φ (.int (a * if b = true then 1 else 0)) H) : aO2 prog w G d (binaryOp .Mult) (.int a) (.bool b) H (PV G Φ) := by
  rintro A ρ s q r ok hr ⟨t, rfl⟩ hr'
  cases (show r = .bool b from hr')
  exact PySem.IntBool.mul_int_bool (Post.int hr h)
theorem o_add_int_bool {a : Int} {b : Bool} {Φ : V → List O → Prop} (h : Φ (.int (a + if b = true then 1 else 0)) H) : aO2 prog w G d (binaryOp .Add) (.int a) (.bool b) H (PV G Φ) := by
  rintro A ρ s q r ok hr ⟨t, rfl⟩ hr'
  cases (show r = .bool b from hr')
  exact PySem.add_int_bool (Post.int hr h)
theorem t_bool {b : Bool} {Φ : Bool → List O → Prop} (h : Φ b H) : aO1 prog w G d truthy (.bool b) H (PB Φ) := by
  rintro A ρ s r ok hr hr'
  cases (show r = .bool b from hr')
  exact wpAny_truthy_bool (Post.here hr h)
theorem o_neg_int {a : Int} {Φ : V → List O → Prop} (h : Φ (.int (-a)) H) : aO1 prog w G d (unaryOp .USub) (.int a) H (PV G Φ) := by
  rintro A ρ s r ok hr ⟨t, rfl⟩
  exact PyProof.Rows.neg_int (Post.int hr h)

/-! floats -/
theorem o_add_flt {a b : UInt64} {Φ : V → List O → Prop} (h : Φ (.flt (Float64.add a b)) H) : aO2 prog w G d (binaryOp .Add) (.flt a) (.flt b) H (PV G Φ) := by
  rintro A ρ s q r ok hr ⟨t, rfl⟩ ⟨u, rfl⟩; exact PyProof.Rows.add_float (Post.flt hr h)
theorem o_sub_flt {a b : UInt64} {Φ : V → List O → Prop} (h : Φ (.flt (Float64.sub a b)) H) : aO2 prog w G d (binaryOp .Sub) (.flt a) (.flt b) H (PV G Φ) := by
  rintro A ρ s q r ok hr ⟨t, rfl⟩ ⟨u, rfl⟩; exact PyProof.Rows.sub_float (Post.flt hr h)
theorem o_mul_flt {a b : UInt64} {Φ : V → List O → Prop} (h : Φ (.flt (Float64.mul a b)) H) : aO2 prog w G d (binaryOp .Mult) (.flt a) (.flt b) H (PV G Φ) := by
  rintro A ρ s q r ok hr ⟨t, rfl⟩ ⟨u, rfl⟩; exact PyProof.Rows.mul_float (Post.flt hr h)
theorem o_mod_flt {a b : UInt64} {Φ : V → List O → Prop} (hb : ¬ Float64.isZero b = true) (h : Φ (.flt (Float64.divmod a b).2) H) : aO2 prog w G d (binaryOp .Mod) (.flt a) (.flt b) H (PV G Φ) := by
  rintro A ρ s q r ok hr ⟨t, rfl⟩ ⟨u, rfl⟩; exact AutoFloatOps.mod_1 hb (Post.flt hr h)
theorem o_lt_flt {a b : UInt64} {Φ : V → List O → Prop} (h : Φ (.bool (Float64.cmp a b == some .lt)) H) : aO2 prog w G d (compareOp .Lt) (.flt a) (.flt b) H (PV G Φ) := by
  rintro A ρ s q r ok hr ⟨t, rfl⟩ ⟨u, rfl⟩; exact AutoFloatOps.lt_0 (Post.bool hr h)
theorem o_add_flt_int {a : UInt64} {n : Int} {Φ : V → List O → Prop} (hn : n.natAbs < 2 ^ 64) (h : Φ (.flt (Float64.add a (Float64.ofInt n))) H) : aO2 prog w G d (binaryOp .Add) (.flt a) (.int n) H (PV G Φ) := by
  rintro A ρ s q r ok hr ⟨t, rfl⟩ ⟨u, rfl⟩; exact PyProof.Rows.add_fi_fits (Nat.lt_of_lt_of_le hn (Nat.pow_le_pow_right (by decide) (show 64 ≤ 1023 by (exact om257)))) (Post.flt hr h)
theorem o_div_int_flt {a : UInt64} {n : Int} {Φ : V → List O → Prop} (hn : n.natAbs < 2 ^ 64) (ha : ¬ Float64.isZero a = true) (h : Φ (.flt (Float64.div (Float64.ofInt n) a)) H) : aO2 prog w G d (binaryOp .Div) (.int n) (.flt a) H (PV G Φ) := by
  rintro A ρ s q r ok hr ⟨t, rfl⟩ ⟨u, rfl⟩
  refine AutoFloatOpsIf.truediv_if ?_
  rw [if_neg (Float64.ofInt_fits (Nat.lt_of_lt_of_le hn (Nat.pow_le_pow_right (by decide) (show 64 ≤ 1023 by (exact om257))))), if_neg ha]
  exact Post.flt hr h
theorem o_float_int {n : Int} {Φ : V → List O → Prop} (hn : n.natAbs < 2 ^ 64) (h : Φ (.flt (Float64.ofInt n)) H) : aOn prog w G d (fun rs => call (.type "float") rs) [.int n] H (PV G Φ) := by
  intro A ρ s rs ok hr hv
  simp only [VRs] at hv
  obtain ⟨r, rs', rfl, ⟨t, rfl⟩, rfl⟩ := hv
  exact PyProof.Rows.call_float_int_fits (Nat.lt_of_lt_of_le hn (Nat.pow_le_pow_right (by decide) (show 64 ≤ 1023 by (exact om257)))) (Post.flt hr h)
theorem o_int_flt {x : UInt64} {sg : Bool} {m : Nat} {e : Int} {Φ : V → List O → Prop} (hd : Float64.decode x = .fin sg m e) (h : Φ (.int (Float64.truncOf sg m e)) H) : aOn prog w G d (fun rs => call (.type "int") rs) [.flt x] H (PV G Φ) := by
  intro A ρ s rs ok hr hv
  simp only [VRs] at hv
  obtain ⟨r, rs', rfl, ⟨t, rfl⟩, rfl⟩ := hv
  exact PySem.call_int_float hd (Post.int hr h)

/-! built-in functions -/
theorem o_abs {a : Int} {Φ : V → List O → Prop} (h : Φ (.int (if a < 0 then -a else a)) H) : aOn prog w G d (fun rs => call (.builtin "abs") rs) [.int a] H (PV G Φ) := by
  intro A ρ s rs ok hr hv
  simp only [VRs] at hv
  obtain ⟨r, rs', rfl, ⟨t, rfl⟩, rfl⟩ := hv
  exact PyProof.Rows.call_abs_int fun u tk => Post.int hr h
theorem o_max {a b : Int} {Φ : V → List O → Prop} (h : Φ (.int (max a b)) H) : aOn prog w G d (fun rs => call (.builtin "max") rs) [.int a, .int b] H (PV G Φ) := by
  intro A ρ s rs ok hr hv
  simp only [VRs] at hv
  obtain ⟨r, rs', rfl, ⟨t, rfl⟩, r2, rs2, rfl, ⟨u, rfl⟩, rfl⟩ := hv
  refine max_two_ints ok.handled fun h' tk keep => ?_
  refine Post.grow hr keep ⟨.int (max a b), ?_, h⟩
  by_cases hb : b > a
  · rw [if_pos hb, Int.max_eq_right (by (exact om258 hb))]; exact ⟨u, rfl⟩
  · rw [if_neg hb, Int.max_eq_left (by (exact om259 hb))]; exact ⟨t, rfl⟩
theorem o_min {a b : Int} {Φ : V → List O → Prop} (h : Φ (.int (min a b)) H) : aOn prog w G d (fun rs => call (.builtin "min") rs) [.int a, .int b] H (PV G Φ) := by
  intro A ρ s rs ok hr hv
  simp only [VRs] at hv
  obtain ⟨r, rs', rfl, ⟨t, rfl⟩, r2, rs2, rfl, ⟨u, rfl⟩, rfl⟩ := hv
  refine min_two_ints ok.handled fun h' tk keep => ?_
  refine Post.grow hr keep ⟨.int (min a b), ?_, h⟩
  by_cases hb : b < a
  · rw [if_pos hb, Int.min_eq_right (by (exact om260 hb))]; exact ⟨u, rfl⟩
  · rw [if_neg hb, Int.min_eq_left (by (exact om261 hb))]; exact ⟨t, rfl⟩
theorem o_chr {i : Int} {Φ : V → List O → Prop} (h0 : 0 ≤ i) (h1 : i ≤ 1114111) (h : Φ (.str ⟨#[i.toNat]⟩) H) : aOn prog w G d (fun rs => call (.builtin "chr") rs) [.int i] H (PV G Φ) := by
  intro A ρ s rs ok hr hv
  simp only [VRs] at hv
  obtain ⟨r, rs', rfl, ⟨t, rfl⟩, rfl⟩ := hv
  exact PyProof.Rows.chr_of_range h0 h1 (Post.str hr h)
theorem o_ord {x : Str} {Φ : V → List O → Prop} (h1 : x.length = 1) (h : Φ (.int (x.cps.getD 0 0 : Nat)) H) : aOn prog w G d (fun rs => call (.builtin "ord") rs) [.str x] H (PV G Φ) := by
  intro A ρ s rs ok hr hv
  simp only [VRs] at hv
  obtain ⟨r, rs', rfl, ⟨t, rfl⟩, rfl⟩ := hv
  exact PyProof.Rows.ord_of_one h1 (Post.int hr h)
theorem o_len_str {x : Str} {Φ : V → List O → Prop} (hl : x.length ≤ 1000000) (h : Φ (.int x.length) H) : aOn prog w G d (fun rs => call (.builtin "len") rs) [.str x] H (PV G Φ) := by
  intro A ρ s rs ok hr hv
  simp only [VRs] at hv
  obtain ⟨r, rs', rfl, ⟨t, rfl⟩, rfl⟩ := hv
  exact PyProof.Rows.len_str (by (exact om262 hl)) (Post.int hr h)
theorem o_len_list {n : Nat} {vs : List V} {Φ : V → List O → Prop} (hn : H[n]? = some (.lst vs)) (hl : vs.length ≤ 1000000) (h : Φ (.int vs.length) H) : aOn prog w G d (fun rs => call (.builtin "len") rs) [.ref n] H (PV G Φ) := by
  intro A ρ s rs ok hr hv
  simp only [VRs] at hv
  obtain ⟨r, rs', rfl, hr', rfl⟩ := hv
  unfold VR at hr'
  obtain ⟨a, ha, rfl⟩ := hr'
  obtain ⟨items, k, e, hv⟩ := hr.obj n a _ ha hn
  have hsz : items.size = vs.length := by simpa using hv.length
  refine PyProof.Rows.len_list ⟨_, e, rfl, _, rfl⟩ (by (exact om263 hl hsz)) (Post.int hr ?_)
  rw [hsz]; exact h

/-! strs -/
theorem o_eq_str {a b : Str} {Φ : V → List O → Prop} (h : Φ (.bool (a == b)) H) : aO2 prog w G d (compareOp .Eq) (.str a) (.str b) H (PV G Φ) := by
  rintro A ρ s q r ok hr ⟨t, rfl⟩ ⟨u, rfl⟩; exact PyProof.Rows.eq_str (Post.bool hr h)
theorem o_add_str {a b : Str} {Φ : V → List O → Prop} (hl : a.length + b.length ≤ 1000000) (h : Φ (.str (a ++ b)) H) : aO2 prog w G d (binaryOp .Add) (.str a) (.str b) H (PV G Φ) := by
  rintro A ρ s q r ok hr ⟨t, rfl⟩ ⟨u, rfl⟩
  exact PyProof.Rows.add_str (fun _ _ => Post.str hr h) (by rw [sizeLine_eq]; (exact om264 hl))
theorem o_mul_str0 {a : Str} {Φ : V → List O → Prop} (h : Φ (.str Str.empty) H) : aO2 prog w G d (binaryOp .Mult) (.str a) (.int 0) H (PV G Φ) := by
  rintro A ρ s q r ok hr ⟨t, rfl⟩ ⟨u, rfl⟩
  exact P.mul_str_none (by decide) (by decide) (Post.str hr h)
theorem o_mul_str1 {a : Str} {Φ : V → List O → Prop} (h : Φ (.str a) H) : aO2 prog w G d (binaryOp .Mult) (.str a) (.int 1) H (PV G Φ) := by
  rintro A ρ s q r ok hr ⟨t, rfl⟩ ⟨u, rfl⟩
  refine P.mul_str (by decide) (fun _ h2 => by simp at h2) (fun _ h2 => by simp at h2) ?_
  rw [if_neg (by decide), if_pos (by rfl)]
  exact Post.here hr ⟨.str a, ⟨t, rfl⟩, h⟩
end
end Mine
end

section
open PySem PySem.W PyProof.Rows PySem.Calls
set_option maxRecDepth 100000
namespace Mine
section
variable {prog : Program} {w : World} {G : Gl} {d : Nat} {env : Env} {vars : Vars} {H : List O}

theorem ref_list {ρ : List Addr} {s : Shared} {n : Nat} {vs : List V} {r : Value} (hr : HR G ρ H s) (hn : H[n]? = some (.lst vs)) (hv : VR G ρ s.heap (.ref n) r) :
    ∃ a items k, ρ[n]? = some a ∧ r = .ref a ∧ IsL s.heap a items k ∧ VRs G ρ s.heap vs items.toList ∧ items.size = vs.length := by
  unfold VR at hv
  obtain ⟨a, ha, rfl⟩ := hv
  obtain ⟨items, k, e, hv⟩ := hr.obj n a _ ha hn
  exact ⟨a, items, k, ha, rfl, e, hv, by simpa using hv.length⟩
theorem ref_dct {ρ : List Addr} {s : Shared} {n : Nat} {f : Int → Option V} {sz : Nat} {r : Value} (hr : HR G ρ H s) (hn : H[n]? = some (.dct f sz)) (hv : VR G ρ s.heap (.ref n) r) :
    ∃ a m, ρ[n]? = some a ∧ r = .ref a ∧ s.heap.IntMap a m ∧ s.heap.DictLe a sz ∧ ∀ k, (f k = none → m k = none) ∧ ∀ v, f k = some v → ∃ rv, m k = some rv ∧ VR G ρ s.heap v rv := by
  unfold VR at hv
  obtain ⟨a, ha, rfl⟩ := hv
  obtain ⟨m, e, le, hv⟩ := hr.obj n a _ ha hn
  exact ⟨a, m, ha, rfl, e, le, hv⟩
theorem tup_of {ρ : List Addr} {s : Shared} {vs : List V} {r : Value} (hv : VR G ρ s.heap (.tup vs) r) :
    ∃ a items k, r = .ref a ∧ a ∉ ρ ∧ s.heap.get? a = some { cls := .type "tuple", data := .seq items k } ∧ VRs G ρ s.heap vs items.toList ∧ items.size = vs.length := by
  unfold VR at hv
  obtain ⟨a, items, k, rfl, ha, e, hv⟩ := hv
  exact ⟨a, items, k, rfl, ha, e, hv, by simpa using hv.length⟩

/-- a write into one object of ρ -/
theorem Post.upd {α : Type} {ρ : List Addr} {s : Shared} {n : Nat} {a : Addr} {h' : Heap} {o : O} {tk : Nat} {r : α} {Φ : α → List Addr → List O → Shared → Prop} (hr : HR G ρ H s) (hn : ρ[n]? = some a) (sb : Heap.SameBut a s.heap h') (hl : h'.get? a ≠ none)
    (q : OR G ρ h' a o) (h : Φ r ρ (H.set n o) { s with heap := h', toks := tk }) : Post G ρ s Φ r { s with heap := h', toks := tk } :=
  ⟨ρ, H.set n o, Step.upd (List.mem_of_getElem? hn) sb hl, hr.upd hn sb q, h⟩

/-! subscripts -/
theorem subscripted_false (slice : Expr) (o i : Value) : ∃ l, subscripted slice false o i = operate l (getItem o i) := by
  cases slice with
  | Slice a b c p => cases c with
    | none => exact ⟨_, rfl⟩
    | some _ => exact ⟨_, rfl⟩
  | _ => exact ⟨_, rfl⟩
theorem sub_of {A : Around} {s : Shared} {value slice : Expr} {o i : Value} {T id : String} {Q : Value → Shared → Prop} {E : Value → Shared → Prop} (hT : s.TypeIs o T)
    (hl : typeLookup (.type T) "__getitem__" = pure (some (.builtin id))) (h : wpAny (model prog w) A (getItem o i) Q E s) : wpAny (model prog w) A (subscriptTail value slice o i) Q E s := by
  unfold subscriptTail
  refine wpAny_bind ?_
  rw [getitemInPython_of_ne hT.not_modules]
  refine wpAny_bind (wpAny_specialOf hT hl ?_)
  obtain ⟨l, e⟩ := subscripted_false slice o i
  have fin : wpAny (model prog w) A (subscripted slice false o i) (fun r s₃ => wpAny (model prog w) A (letTemporaryGo value o r >>= fun _ => pure r) Q E s₃) E s := by
    rw [e]
    exact wpAny_operating (wpAny_mono h (fun r s₃ h₃ => wpAny_bind (wpAny_letTemporaryGo (wpAny_pure h₃))) fun _ _ x => x)
  first
    | exact wpAny_pure (wpAny_bind fin)
    | exact wpAny_bind (wpAny_pure (wpAny_bind fin))
    | exact wpAny_bind fin

theorem seqIndex_pos {k : Int} {n : Nat} (h0 : 0 ≤ k) (h : k < n) : seqIndex? k n = some k.toNat := by
  unfold seqIndex?
  simp only [show ¬ k < 0 by (exact om265 h0), if_false]
  rw [if_pos (by simp [h0, h])]
theorem g_list {n : Nat} {k : Int} {vs : List V} {v : V} {Φ : V → List O → Prop} (hn : H[n]? = some (.lst vs)) (h0 : 0 ≤ k) (hk : k < 2 ^ 63) (hv : vs[k.toNat]? = some v) (h : Φ v H) : aO2 prog w G d getItem (.ref n) (.int k) H (PV G Φ) := by
  rintro A ρ s q r ok hr hq ⟨u, rfl⟩
  obtain ⟨a, items, kk, ha, rfl, il, vv, hsz⟩ := ref_list hr hn hq
  obtain ⟨rv, h1, h2⟩ := vv.get hv
  exact wpAny_getItem_list il.isList h0 hk (by simpa using h1) (Post.same hr h2 h)
theorem o_sub_list {value slice : Expr} {n : Nat} {k : Int} {vs : List V} {v : V} {Φ : V → List O → Prop} (hn : H[n]? = some (.lst vs)) (h0 : 0 ≤ k) (hk : k < 2 ^ 63) (hv : vs[k.toNat]? = some v) (h : Φ v H) :
    aO2 prog w G d (subscriptTail value slice) (.ref n) (.int k) H (PV G Φ) := by
  rintro A ρ s q r ok hr hq hr'
  obtain ⟨a, items, kk, ha, rfl, il, vv, hsz⟩ := ref_list hr hn hq
  exact sub_of il.isList.typeIs slot_list_getitem.lookup (g_list hn h0 hk hv h A ρ s _ _ ok hr hq hr')
/-- the last one of a list -/
theorem o_sub_last {value slice : Expr} {n : Nat} {vs : List V} {v : V} {Φ : V → List O → Prop} (hn : H[n]? = some (.lst (vs ++ [v]))) (hl : vs.length ≤ 1000000) (h : Φ v H) :
    aO2 prog w G d (subscriptTail value slice) (.ref n) (.int (-1)) H (PV G Φ) := by
  rintro A ρ s q r ok hr hq ⟨u, rfl⟩
  obtain ⟨a, items, kk, ha, rfl, il, vv, hsz⟩ := ref_list hr hn hq
  have hv : (vs ++ [v])[vs.length]? = some v := get_last _ _
  obtain ⟨rv, h1, h2⟩ := vv.get hv
  rw [List.length_append, List.length_singleton] at hsz
  refine sub_of il.isList.typeIs slot_list_getitem.lookup (wpAny_getItem_list_neg il.isList (by decide) (by (exact om266 hsz)) (by decide) (x := rv) ?_ (Post.same hr h2 h))
  have : (-1 + (items.size : Int)).toNat = vs.length := by (exact om267 hsz)
  rw [this]; simpa using h1
theorem o_sub_tup {value slice : Expr} {k : Int} {vs : List V} {v : V} {Φ : V → List O → Prop} (h0 : 0 ≤ k) (hk : k < 2 ^ 63) (hv : vs[k.toNat]? = some v) (h : Φ v H) : aO2 prog w G d (subscriptTail value slice) (.tup vs) (.int k) H (PV G Φ) := by
  rintro A ρ s q r ok hr hq ⟨u, rfl⟩
  obtain ⟨a, items, kk, rfl, ha, e, vv, hsz⟩ := tup_of hq
  obtain ⟨rv, h1, h2⟩ := vv.get hv
  have it : IsTup s.heap a items := ⟨_, e, rfl, _, rfl⟩
  have hlt : k.toNat < vs.length := (List.getElem?_eq_some_iff.mp hv).1
  refine sub_of it.typeIs slot_tuple_getitem.lookup (PyProof.Rows.getItem_tuple it (by (exact om268 h0)) hk (j := k.toNat) ?_ (by simpa using h1) (Post.same hr h2 h))
  rw [hsz]; exact seqIndex_pos h0 (by (exact om269 hlt))
theorem o_sub_str {value slice : Expr} {k : Int} {x : Str} {c : Nat} {Φ : V → List O → Prop} (h0 : 0 ≤ k) (hk : k < 2 ^ 63) (hc : x.cps[k.toNat]? = some c) (h : Φ (.str ⟨#[c]⟩) H) : aO2 prog w G d (subscriptTail value slice) (.str x) (.int k) H (PV G Φ) := by
  rintro A ρ s q r ok hr ⟨t, rfl⟩ ⟨u, rfl⟩
  have hlt : k.toNat < x.cps.size := (Array.getElem?_eq_some_iff.mp hc).1
  refine sub_of (typeIs_str s x t) slot_str_getitem.lookup (PyProof.Rows.getItem_str (c := c) ?_ ?_ (Post.str hr h))
  · rw [decide_eq_false (by (exact om270 h0)), decide_eq_false (by (exact om271 hk))]; rfl
  · have : seqIndex? k x.length = some k.toNat := by
      exact seqIndex_pos h0 (by unfold Str.length; (exact om269 hlt))
    rw [this]
    exact hc
theorem o_sub_dct {value slice : Expr} {n : Nat} {k : Int} {f : Int → Option V} {sz : Nat} {v : V} {Φ : V → List O → Prop} (hn : H[n]? = some (.dct f sz)) (hv : f k = some v) (h : Φ v H) : aO2 prog w G d (subscriptTail value slice) (.ref n) (.int k) H (PV G Φ) := by
  rintro A ρ s q r ok hr hq ⟨u, rfl⟩
  obtain ⟨a, m, ha, rfl, im, le, vv⟩ := ref_dct hr hn hq
  obtain ⟨rv, h1, h2⟩ := (vv k).2 v hv
  exact sub_of im.typeIs slot_dict_getitem.lookup (wpAny_getItem_intMap im h1 (Post.sameT hr h2 h))

/-! stores -/
theorem o_set_list {n : Nat} {k : Int} {vs : List V} {v : V} {Φ : List O → Prop} (hn : H[n]? = some (.lst vs)) (h0 : 0 ≤ k) (hk : k < vs.length) (hl : vs.length ≤ 1000000) (h : Φ (H.set n (.lst (vs.set k.toNat v)))) :
    aO3 prog w G d setItem (.ref n) (.int k) v H (PU Φ) := by
  rintro A ρ s q r z ok hr hq ⟨u, rfl⟩ hv
  obtain ⟨a, items, kk, ha, rfl, il, vv, hsz⟩ := ref_list hr hn hq
  have T := il.isList.typeIs
  unfold setItem
  refine wpAny_holding (wpAny_bind (wpAny_sequenceKey T (by decide) ?_))
  refine wpAny_bind (wpAny_callSpecial?_slot (name := Str.ofString "__setitem__") T slot_list_setitem (wpAny_call_entry slot_list_setitem T entry_list_setitem ?_ (args_list_setitem _ _ _)))
  show wpAny _ _ (Builtin.List.listSubscript? (.int k u) >>= _) _ _ s
  refine wpAny_bind (wpAny_listSubscript_int (fitsIndex_of h0 (by (exact om272 hk hl))) ?_)
  obtain ⟨j, rfl⟩ := Int.eq_ofNat_of_zero_le h0
  have hj : j < items.size := by (exact om273 hsz hk)
  show wpAny _ _ ((seqItemAt a j >>= fun r => pure (r.map (j, ·))) >>= _) _ _ s
  refine wpAny_bind (wpAny_bind (wpAny_seqItemAt il rfl (wpAny_pure ?_)))
  rw [Array.getElem?_eq_getElem hj]
  show wpAny _ _ (setSeqItemAt a j z >>= _) _ _ s
  have il' : IsL (s.heap.update a (Obj.mapSeq (·.setIfInBounds j z))) a (items.setIfInBounds j z) _ := IsL.update il (·.setIfInBounds j z)
  have fin : Post G ρ s (PU Φ) () { s with heap := s.heap.update a (Obj.mapSeq (·.setIfInBounds j z)) } := by
    have ha' : a ∈ ρ := List.mem_of_getElem? ha
    refine Post.upd (tk := s.toks) hr ha (Heap.SameBut.update ..) (by rw [il']; exact fun q => nomatch q) (o := .lst (vs.set j v)) ⟨_, _, il', ?_⟩ h
    rw [Array.toList_setIfInBounds]
    exact VRs.set (vv.upd ha' (Heap.SameBut.update ..)) j (VR.upd ha' (Heap.SameBut.update ..) hv)
  refine wpAny_bind (wpAny_setSeqItemAt il rfl ?_)
  first
    | exact wpAny_bind (wpAny_pure (wpAny_pure ⟨.none, rfl, wpAny_pure fin⟩))
    | exact wpAny_pure ⟨.none, rfl, wpAny_pure fin⟩
theorem o_set_dct {n : Nat} {k : Int} {f : Int → Option V} {sz : Nat} {v : V} {Φ : List O → Prop} (hn : H[n]? = some (.dct f sz)) (hsz : sz ≤ 1000000) (h : Φ (H.set n (.dct (fun x => if x = k then some v else f x) (sz + 1)))) :
    aO3 prog w G d setItem (.ref n) (.int k) v H (PU Φ) := by
  rintro A ρ s q r z ok hr hq ⟨u, rfl⟩ hv
  obtain ⟨a, m, ha, rfl, im, le, vv⟩ := ref_dct hr hn hq
  have ha' : a ∈ ρ := List.mem_of_getElem? ha
  refine wpAny_setItem_intMap_le im le (by rw [sizeLine_eq]; (exact om274 hsz)) fun h' im' le' sb => ?_
  refine Post.upd hr ha sb (by obtain ⟨o, _, _, e, _⟩ := im'; rw [e]; exact fun q => nomatch q) (o := .dct (fun x => if x = k then some v else f x) (sz + 1)) ⟨_, im', le', fun x => ?_⟩ h
  by_cases e : x = k
  · subst e
    simp only [if_true]
    exact ⟨(fun q => nomatch q), fun v' q => by cases q; exact ⟨z, rfl, VR.upd ha' sb hv⟩⟩
  · simp only [if_neg e]
    refine ⟨(vv x).1, fun v' q => ?_⟩
    obtain ⟨rv, h1, h2⟩ := (vv x).2 v' q
    exact ⟨rv, h1, VR.upd ha' sb h2⟩

/-! membership -/
theorem o_notin_dct {n : Nat} {k : Int} {f : Int → Option V} {sz : Nat} {Φ : V → List O → Prop} (hn : H[n]? = some (.dct f sz)) (hnd : ∀ a, G.h.get? a = none → a ≠ sysModules) (h : Φ (.bool (!(f k).isSome)) H) : aO2 prog w G d (compareOp .NotIn) (.int k) (.ref n) H (PV G Φ) := by
  rintro A ρ s q r ok hr ⟨u, rfl⟩ hq
  obtain ⟨a, m, ha, rfl, im, le, vv⟩ := ref_dct hr hn hq
  have hm : (m k).isSome = (f k).isSome := by
    cases hf : f k with
    | none => rw [(vv k).1 hf]; rfl
    | some v => obtain ⟨rv, h1, _⟩ := (vv k).2 v hf; rw [h1]; rfl
  have hne : (a == sysModules) = false := beq_eq_false_iff_ne.mpr (hnd a (hr.newρ a (List.mem_of_getElem? ha)))
  show wpAny _ _ (do return Value.bool (!(← contains (.ref a) (.int k u)))) _ _ s
  refine wpAny_bind ?_
  unfold contains
  refine wpAny_holding (wpAny_bind (wpAny_specialOf im.typeIs slot_dict_contains.lookup ?_))
  show wpAny _ _ (if (some (Value.builtin "dict.__contains__") == some Value.none) = true then _ else _) _ _ s
  rw [if_neg (by rw [beq_builtin_none]; exact Bool.false_ne_true)]
  refine wpAny_bind (wpAny_callSpecialUnlessNone?_slot (name := Str.ofString "__contains__") im.typeIs slot_dict_contains (wpAny_call_entry slot_dict_contains im.typeIs entry_dict_contains ?_ (args_dict_contains _ _)))
  show wpAny _ _ (dictGet a (.int k u) >>= _) _ _ s
  refine wpAny_bind (wpAny_dictGet_int im ?_)
  rw [← hm] at h
  cases hf : m k with
  | some v =>
    rw [hf] at h
    show wpAny _ _ (ret (.bool true)) _ _ _
    exact wpAny_pure ⟨_, rfl, wpAny_truthy_bool (wpAny_pure (Post.boolT hr h))⟩
  | none =>
    rw [hf] at h
    show wpAny _ _ (Builtin.Dict.pendingKey? a (.int k u) >>= _) _ _ _
    exact wpAny_bind (wpAny_pendingKey_int (wpAny_pure ⟨_, rfl, wpAny_truthy_bool (wpAny_pure (Post.boolT hr h))⟩))

/-- a list of zs -/
abbrev zs (l : List Int) : List V := l.map .int
def isI (k : Int) : Value → Bool
  | .int i _ => i == k
  | _ => false
theorem ints_items {ρ : List Addr} {h : Heap} : ∀ {l : List Int} {rs : List Value}, VRs G ρ h (zs l) rs → ∀ k, (∀ y ∈ rs, ∃ i t, y = .int i t) ∧ rs.any (isI k) = l.contains k
  | [], rs, e, k => by unfold zs VRs at e; subst e; simp
  | i :: l, rs, e, k => by
    simp only [zs, List.map_cons] at e
    unfold VRs at e
    obtain ⟨r, rs', rfl, ⟨t, rfl⟩, e'⟩ := e
    obtain ⟨h1, h2⟩ := ints_items e' k
    refine ⟨fun y hy => ?_, ?_⟩
    · rcases List.mem_cons.mp hy with rfl | hy
      · exact ⟨i, t, rfl⟩
      · exact h1 y hy
    · simp only [List.any_cons, h2, List.contains_cons, isI]
      congr 1
      exact Bool.beq_comm
theorem isI_gives {k : Int} {u : Tok} {y : Value} (h : ∃ i t, y = .int i t) : MeetsSeq.EqGives y (.int k u) (isI k y) := by
  obtain ⟨i, t, rfl⟩ := h
  exact MeetsSeq.EqGives.int i k t u
theorem o_in_ints {n : Nat} {k : Int} {l : List Int} {Φ : V → List O → Prop} (hn : H[n]? = some (.lst (zs l))) (h : Φ (.bool (l.contains k)) H) : aO2 prog w G d (compareOp .In) (.int k) (.ref n) H (PV G Φ) := by
  rintro A ρ s q r ok hr ⟨u, rfl⟩ hq
  obtain ⟨a, items, kk, ha, rfl, il, vv, hsz⟩ := ref_list hr hn hq
  obtain ⟨h1, h2⟩ := ints_items vv k
  refine SeqInW.in_listW (isI k) (fun y hy => isI_gives (h1 y (by simpa using hy))) il.isList ?_
  rw [← Array.any_toList, h2]
  exact Post.bool hr h
theorem o_notin_ints {n : Nat} {k : Int} {l : List Int} {Φ : V → List O → Prop} (hn : H[n]? = some (.lst (zs l))) (h : Φ (.bool (!l.contains k)) H) : aO2 prog w G d (compareOp .NotIn) (.int k) (.ref n) H (PV G Φ) := by
  rintro A ρ s q r ok hr ⟨u, rfl⟩ hq
  obtain ⟨a, items, kk, ha, rfl, il, vv, hsz⟩ := ref_list hr hn hq
  obtain ⟨h1, h2⟩ := ints_items vv k
  refine SeqInW.notIn_listW (isI k) (fun y hy => isI_gives (h1 y (by simpa using hy))) il.isList ?_
  rw [← Array.any_toList, h2]
  exact Post.bool hr h

/-! equality of lists of zs -/
theorem ints_eq {ρ ρ' : List Addr} {h : Heap} {l m : List Int} {rs qs : List Value} (hl : l.length = m.length) (e : VRs G ρ h (zs l) rs) (e' : VRs G ρ' h (zs m) qs) :
    ∀ j (h1 : j < rs.length) (h2 : j < qs.length), ∃ t u, rs[j] = .int (l.getD j 0) t ∧ qs[j] = .int (m.getD j 0) u := by
  intro j h1 h2
  have a1 : rs.length = l.length := by simpa [zs] using e.length
  have a2 : qs.length = m.length := by simpa [zs] using e'.length
  have b1 : (zs l)[j]? = some (.int (l.getD j 0)) := by simp [zs, List.getElem?_map, List.getElem?_eq_getElem (show j < l.length by (exact om275 hl h2 a2)), List.getD]
  have b2 : (zs m)[j]? = some (.int (m.getD j 0)) := by simp [zs, List.getElem?_map, List.getElem?_eq_getElem (show j < m.length by (exact om276 h2 a2)), List.getD]
  obtain ⟨r, c1, t, d1⟩ := e.get b1
  obtain ⟨q, c2, u, d2⟩ := e'.get b2
  refine ⟨t, u, ?_, ?_⟩
  · rw [List.getElem?_eq_getElem h1] at c1; cases c1; exact d1
  · rw [List.getElem?_eq_getElem h2] at c2; cases c2; exact d2
theorem range_all_eq : ∀ (l m : List Int), l.length = m.length → ((List.range l.length).all fun j => l.getD j 0 == m.getD j 0) = (l == m) := by
  intro l m h
  rw [Bool.eq_iff_iff, List.all_eq_true]
  constructor
  · intro q
    rw [beq_iff_eq]
    refine List.ext_getElem h fun j h1 h2 => ?_
    have := q j (List.mem_range.mpr h1)
    simpa [List.getD, List.getElem?_eq_getElem h1, List.getElem?_eq_getElem h2] using this
  · intro q j _
    rw [beq_iff_eq.mp q]; simp
theorem o_eq_ints {n n' : Nat} {l m : List Int} {Φ : V → List O → Prop} (hn : H[n]? = some (.lst (zs l))) (hn' : H[n']? = some (.lst (zs m))) (hlen : l.length = m.length) (h : Φ (.bool (l == m)) H) :
    aO2 prog w G d (compareOp .Eq) (.ref n) (.ref n') H (PV G Φ) := by
  rintro A ρ s q r ok hr hq hr'
  obtain ⟨a, items, kk, ha, rfl, il, vv, hsz⟩ := ref_list hr hn hq
  obtain ⟨b, items', kk', hb, rfl, il', vv', hsz'⟩ := ref_list hr hn' hr'
  simp only [zs, List.length_map] at hsz hsz'
  have hu := ok.units
  refine SeqAt.eq_listAt (e := fun j => l.getD j 0 == m.getD j 0) il.isList il'.isList (by (exact om277 hlen hsz hsz')) (by (exact om278 hu)) (fun j h1 h2 => ?_) ?_
  · obtain ⟨t, u, e1, e2⟩ := ints_eq hlen vv vv' j (by simpa using h1) (by simpa using h2)
    simp only [Array.getElem_toList] at e1 e2
    rw [e1, e2]
    exact (MeetsSeq.EqGives.int _ _ t u).at _ _
  · rw [hsz, range_all_eq l m hlen]
    exact Post.bool hr h
theorem o_ne_ints {n n' : Nat} {l m : List Int} {Φ : V → List O → Prop} (hn : H[n]? = some (.lst (zs l))) (hn' : H[n']? = some (.lst (zs m))) (hlen : l.length = m.length) (h : Φ (.bool (!(l == m))) H) :
    aO2 prog w G d (compareOp .NotEq) (.ref n) (.ref n') H (PV G Φ) := by
  rintro A ρ s q r ok hr hq hr'
  obtain ⟨a, items, kk, ha, rfl, il, vv, hsz⟩ := ref_list hr hn hq
  obtain ⟨b, items', kk', hb, rfl, il', vv', hsz'⟩ := ref_list hr hn' hr'
  simp only [zs, List.length_map] at hsz hsz'
  have hu := ok.units
  refine SeqAt.RcNeAt.lists (e := fun j => l.getD j 0 == m.getD j 0) il.isList il'.isList (by (exact om277 hlen hsz hsz')) (by (exact om278 hu)) (fun j h1 h2 => ?_) prog w _ _ ?_
  · obtain ⟨t, u, e1, e2⟩ := ints_eq hlen vv vv' j (by simpa using h1) (by simpa using h2)
    simp only [Array.getElem_toList] at e1 e2
    rw [e1, e2]
    exact (MeetsSeq.EqGives.int _ _ t u).at _ _
  · rw [hsz, range_all_eq l m hlen]
    exact Post.bool hr h

/-! lists: truth, sum -/
theorem t_list {n : Nat} {vs : List V} {Φ : Bool → List O → Prop} (hn : H[n]? = some (.lst vs)) (hl : vs.length ≤ 1000000) (h : Φ (!vs.isEmpty) H) : aO1 prog w G d truthy (.ref n) H (PB Φ) := by
  rintro A ρ s r ok hr hq
  obtain ⟨a, items, kk, ha, rfl, il, vv, hsz⟩ := ref_list hr hn hq
  refine wpAny_truthy_list il.isList (by (exact om263 hl hsz)) ?_
  have : (!items.isEmpty) = !vs.isEmpty := by
    cases vs with
    | nil => simp at hsz; simp [hsz]
    | cons v vs =>
      have : items.isEmpty = false := by
        rw [Array.isEmpty_eq_false_iff]; intro q; rw [q] at hsz; simp at hsz
      simp [this]
  first
    | exact (Post.tk hr (by rw [this]; exact h))
    | exact (this ▸ Post.tk hr (this ▸ h))
theorem o_add_list {n n' : Nat} {vs us : List V} {Φ : V → List O → Prop} (hn : H[n]? = some (.lst vs)) (hn' : H[n']? = some (.lst us)) (hl : vs.length + us.length ≤ 1000000) (h : Φ (.ref H.length) (H ++ [.lst (vs ++ us)])) :
    aO2 prog w G d (binaryOp .Add) (.ref n) (.ref n') H (PV G Φ) := by
  rintro A ρ s q r ok hr hq hr'
  obtain ⟨a, items, kk, ha, rfl, il, vv, hsz⟩ := ref_list hr hn hq
  obtain ⟨b, items', kk', hb, rfl, il', vv', hsz'⟩ := ref_list hr hn' hr'
  refine P.add_list il il' ?_ (by rw [sizeLine_eq]; (exact om279 hl hsz hsz'))
  have e : items ++ items' = (items.toList ++ items'.toList).toArray := by apply Array.ext'; simp
  rw [e]
  exact ⟨ρ ++ [s.heap.objs.size], H ++ [.lst (vs ++ us)], Step.newρ (tk := s.toks), HR.new (tk := s.toks) hr rfl (OR.newList hr (vv.append vv')), _, VR.newRef hr, h⟩
end
end Mine
end

section
open PySem PySem.W PyProof.Rows PySem.Calls
set_option maxRecDepth 100000
namespace Mine
section
variable {prog : Program} {w : World} {G : Gl} {d : Nat} {env : Env} {vars : Vars} {H : List O}

/-! list methods -/
theorem e_append {o e : Expr} {apos pos : Pos} {Φ : V → List O → Prop}
    (h : aE prog w G d env o vars H fun ov H1 => ∃ n, ov = .ref n ∧ (∃ vs, H1[n]? = some (.lst vs)) ∧ aE prog w G d env e vars H1 fun v H2 => ∃ vs, H2[n]? = some (.lst vs) ∧ vs.length ≤ 1000000 ∧ Φ .none (H2.set n (.lst (vs ++ [v]))))
    (hs : backTo pos (starEach [e] env) = [(false, eval e env)] := by rfl) (hbase : attributeBase o "append" env (eval o env) = eval o env := by rfl) (hline : (apos.endLine == pos.line) = true := by rfl) :
    aE prog w G d env (.Call (.Attribute o "append" apos) [e] [] pos) vars H Φ := by
  intro A ρ s ok hr fr
  refine wpAny_Call_method (T := "list") (id := "list.append") hbase (by rw [hs]; rfl) hline F.plainAttrs_list F.slot_list_append F.type_list_append (wpAny_mono (h A ρ s ok hr fr) (fun ro s1 p1 => ?_) fun _ _ x => x)
  obtain ⟨ρ1, H1, st1, hr1, ov, vo, n, rfl, ⟨vs0, hn0⟩, h1⟩ := p1
  obtain ⟨a, items0, k0, ha, rfl, il0, _, _⟩ := ref_list hr1 hn0 vo
  refine ⟨il0.isList.typeIs, fun b e => by cases e; exact ⟨_, il0, rfl⟩, ?_⟩
  rw [hs]
  refine P.append_list (wpAny_mono (h1 A ρ1 s1 ok hr1 (fr.step st1)) (fun rv s2 p2 => ?_) fun _ _ x => x)
  obtain ⟨ρ2, H2, st2, hr2, v, vv, vs, hn, hlen, h2⟩ := p2
  have ha2 : ρ2[n]? = some a := st2.pre _ _ ha
  obtain ⟨items, k, il, vvs⟩ := hr2.obj n a _ ha2 hn
  have hsz : items.size = vs.length := by simpa using vvs.length
  have ham : a ∈ ρ2 := List.mem_of_getElem? ha2
  have il' := IsL.update il (fun xs => xs.push rv)
  refine ⟨items, k, by rw [sizeLine_eq]; (exact om238 hlen hsz), il, ?_⟩
  refine (Post.upd (tk := s2.toks) hr2 ha2 (Heap.SameBut.update ..) (by rw [il']; exact fun q => nomatch q) (o := .lst (vs ++ [v])) ⟨_, _, il', ?_⟩ ⟨.none, rfl, h2⟩).after (st1.trans0 st2)
  rw [Array.toList_push]
  exact (vvs.upd ham (Heap.SameBut.update ..)).append (VRs.one (vv.upd ham (Heap.SameBut.update ..)))

theorem e_pop {o : Expr} {apos pos : Pos} {Φ : V → List O → Prop}
    (h : aE prog w G d env o vars H fun ov H1 => ∃ n vs v, ov = .ref n ∧ H1[n]? = some (.lst (vs ++ [v])) ∧ vs.length ≤ 1000000 ∧ Φ v (H1.set n (.lst vs)))
    (hbase : attributeBase o "pop" env (eval o env) = eval o env := by rfl) (hline : (apos.endLine == pos.line) = true := by rfl) :
    aE prog w G d env (.Call (.Attribute o "pop" apos) [] [] pos) vars H Φ := by
  intro A ρ s ok hr fr
  refine wpAny_Call_method (T := "list") (id := "list.pop") hbase rfl hline F.plainAttrs_list F.slot_list_pop F.type_list_pop (wpAny_mono (h A ρ s ok hr fr) (fun ro s1 p1 => ?_) fun _ _ x => x)
  obtain ⟨ρ1, H1, st1, hr1, ov, vo, n, vs, v, rfl, hn, hlen, h1⟩ := p1
  obtain ⟨a, items, k, ha, rfl, il, vv, hsz⟩ := ref_list hr1 hn vo
  refine ⟨il.isList.typeIs, fun b e => by cases e; exact ⟨_, il, rfl⟩, ?_⟩
  rw [List.length_append, List.length_singleton] at hsz
  have hv : (vs ++ [v])[vs.length]? = some v := get_last _ _
  obtain ⟨rv, g1, g2⟩ := vv.get hv
  have ham : a ∈ ρ1 := List.mem_of_getElem? ha
  have il' := IsL.update il (fun xs => xs.eraseIdxIfInBounds (items.size - 1))
  refine P.pop_list il (y := rv) ?_ ?_ (by rw [sizeLine_eq]; (exact om280 hlen hsz))
  · have : items.size - 1 = vs.length := by (exact om281 hsz)
    rw [this]; simpa using g1
  · refine (Post.upd (tk := s1.toks) hr1 ha (Heap.SameBut.update ..) (by rw [il']; exact fun q => nomatch q) (o := .lst vs) ⟨_, _, il', ?_⟩ ⟨v, g2.upd ham (Heap.SameBut.update ..), h1⟩).after st1
    have e1 : (items.eraseIdxIfInBounds (items.size - 1)).toList = items.toList.take vs.length := by
      unfold Array.eraseIdxIfInBounds
      rw [dif_pos (by (exact om282 hsz))]
      rw [Array.toList_eraseIdx, List.eraseIdx_eq_take_drop_succ]
      rw [List.drop_eq_nil_of_le (by simp; (exact om283)), List.append_nil]
      congr 1; (exact om281 hsz)
    rw [e1]
    have := (vv.upd ham (Heap.SameBut.update s1.heap a (Obj.mapSeq fun xs => xs.eraseIdxIfInBounds (items.size - 1)))).take vs.length
    simpa using this

theorem e_extend {o e : Expr} {apos pos : Pos} {Φ : V → List O → Prop}
    (h : aE prog w G d env o vars H fun ov H1 => ∃ n, ov = .ref n ∧ (∃ vs, H1[n]? = some (.lst vs)) ∧ aE prog w G d env e vars H1 fun v H2 => ∃ m vs us, v = .ref m ∧ H2[n]? = some (.lst vs) ∧ H2[m]? = some (.lst us) ∧ vs.length + us.length ≤ 1000000 ∧ Φ .none (H2.set n (.lst (vs ++ us))))
    (hs : backTo pos (starEach [e] env) = [(false, eval e env)] := by rfl) (hbase : attributeBase o "extend" env (eval o env) = eval o env := by rfl) (hline : (apos.endLine == pos.line) = true := by rfl) :
    aE prog w G d env (.Call (.Attribute o "extend" apos) [e] [] pos) vars H Φ := by
  intro A ρ s ok hr fr
  refine wpAny_Call_method (T := "list") (id := "list.extend") hbase (by rw [hs]; rfl) hline F.plainAttrs_list F.slot_list_extend F.type_list_extend (wpAny_mono (h A ρ s ok hr fr) (fun ro s1 p1 => ?_) fun _ _ x => x)
  obtain ⟨ρ1, H1, st1, hr1, ov, vo, n, rfl, ⟨vs0, hn0⟩, h1⟩ := p1
  obtain ⟨a, items0, k0, ha, rfl, il0, _, _⟩ := ref_list hr1 hn0 vo
  refine ⟨il0.isList.typeIs, fun b e => by cases e; exact ⟨_, il0, rfl⟩, ?_⟩
  rw [hs]
  refine P.extend_list (wpAny_mono (h1 A ρ1 s1 ok hr1 (fr.step st1)) (fun rv s2 p2 => ?_) fun _ _ x => x)
  obtain ⟨ρ2, H2, st2, hr2, v, vv, m, vs, us, rfl, hn, hm, hlen, h2⟩ := p2
  have ha2 : ρ2[n]? = some a := st2.pre _ _ ha
  obtain ⟨items, k, il, vvs⟩ := hr2.obj n a _ ha2 hn
  obtain ⟨b, items2, k2, hb, rfl, il2, vus, hsz2⟩ := ref_list hr2 hm vv
  have hsz : items.size = vs.length := by simpa using vvs.length
  have ham : a ∈ ρ2 := List.mem_of_getElem? ha2
  have il' := IsL.update il (fun xs => xs ++ items2)
  refine ⟨b, items, items2, k, k2, by rw [sizeLine_eq]; (exact om284 hlen hsz), by rw [sizeLine_eq]; (exact om285 hlen hsz2 hsz), ?_, rfl, il, il2, ?_⟩
  · have : Builtin.List.listTooLong (items.size + items2.size) = false := by
      unfold Builtin.List.listTooLong
      rw [decide_eq_false (by rw [sizeLine_eq]; (exact om286 hlen hsz2 hsz))]
    rw [this]; simp
  refine (Post.upd (tk := s2.toks) hr2 ha2 (Heap.SameBut.update ..) (by rw [il']; exact fun q => nomatch q) (o := .lst (vs ++ us)) ⟨_, _, il', ?_⟩ ⟨.none, rfl, h2⟩).after (st1.trans0 st2)
  rw [Array.toList_append]
  exact (vvs.upd ham (Heap.SameBut.update ..)).append (vus.upd ham (Heap.SameBut.update ..))

/-! slices -/
theorem e_slice_list {value : Expr} {lower upper : Option Expr} {p pos : Pos} {Φ : V → List O → Prop}
    (h : aE prog w G d env value vars H fun o H1 => ∃ n, o = .ref n ∧
      aT prog w G d env (evalPart lower env) vars H1 (PV G fun l H2 => aT prog w G d env (evalPart upper env) vars H2 (PV G fun u H3 => ∃ vs, H3[n]? = some (.lst vs) ∧ vs.length ≤ 1000000 ∧
        ((∃ a : Nat, l = .int a ∧ u = .none ∧ Φ (.ref H3.length) (H3 ++ [.lst (vs.drop a)])) ∨ (∃ b : Nat, l = .none ∧ u = .int b ∧ Φ (.ref H3.length) (H3 ++ [.lst (vs.take b)]))))))
    (ht : ∀ o r, letTemporaryGo value o r = pure () := by intro _ _; rfl) : aE prog w G d env (.Subscript value (.Slice lower upper none p) pos) vars H Φ := by
  intro A ρ s ok hr fr
  refine wpAny_Subscript_list_slice (wpAny_mono (h A ρ s ok hr fr) (fun ro s1 p1 => ?_) fun _ _ x => x) ht
  obtain ⟨ρ1, H1, st1, hr1, o, vo, n, rfl, h1⟩ := p1
  refine wpAny_mono (h1 A ρ1 s1 ok hr1 (fr.step st1)) (fun rl s2 p2 => ?_) fun _ _ x => x
  obtain ⟨ρ2, H2, st2, hr2, l, vl, h2⟩ := p2
  have s12 := st1.trans0 st2
  refine wpAny_mono (h2 A ρ2 s2 ok hr2 (fr.step s12)) (fun ru s3 p3 => ?_) fun _ _ x => x
  obtain ⟨ρ3, H3, st3, hr3, u, vu, vs, hn, hlen, h3⟩ := p3
  have s13 := s12.trans0 st3
  obtain ⟨a, items, k, ha, rfl, il, vv, hsz⟩ := ref_list hr3 hn (vo.step (st2.trans0 st3))
  have fin : ∀ (items' : Array Value) (vs' : List V) (vl vu : Value), VRs G ρ3 s3.heap vs' items'.toList → Φ (.ref H3.length) (H3 ++ [.lst vs']) →
      Post G ρ s (PV G Φ) (.ref (s3.heap.objs.size + 1)) { s3 with heap := (s3.heap.push { cls := .type "slice", data := .fields #[vl, vu, .none] }).push { cls := .type "list", data := .seq items' } } := by
    intro items' vs' vl vu hv hΦ
    have g1 : Step [] ρ3 s3 ρ3 { s3 with heap := s3.heap.push { cls := .type "slice", data := .fields #[vl, vu, .none] }, toks := s3.toks } := Step.grow fun _ _ e => Heap.get?_push_of_some _ e
    have hr4 := hr3.grow (tk := s3.toks) (h' := s3.heap.push { cls := .type "slice", data := .fields #[vl, vu, .none] }) fun _ _ e => Heap.get?_push_of_some _ e
    have e : s3.heap.objs.size + 1 = (s3.heap.push { cls := .type "slice", data := .fields #[vl, vu, .none] }).objs.size := by rw [Heap.size_push]
    rw [e]
    exact ⟨ρ3 ++ [_], H3 ++ [.lst vs'], (s13.trans0 g1).trans0 (Step.newρ (tk := s3.toks)), HR.new (tk := s3.toks) hr4 rfl (OR.newList (rs := items'.toList) hr4 (hv.step g1)), _, VR.newRef hr4, hΦ⟩
  rcases h3 with ⟨b, rfl, rfl, hΦ⟩ | ⟨b, rfl, rfl, hΦ⟩
  · obtain ⟨t, rfl⟩ := vl
    cases (show ru = .none from vu)
    refine ⟨a, items, some (b : Int), none, rfl, il.isList, by rw [sizeLine_eq]; (exact om238 hlen hsz), .int _ _, .none, ?_⟩
    rw [slicePick_from']
    exact fin _ _ _ _ (by simpa using vv.drop b) hΦ
  · cases (show rl = .none from (vl.step st3))
    obtain ⟨t, rfl⟩ := vu
    refine ⟨a, items, none, some (b : Int), rfl, il.isList, by rw [sizeLine_eq]; (exact om238 hlen hsz), .none, .int _ _, ?_⟩
    rw [slicePick_upto']
    exact fin _ _ _ _ (by simpa using vv.take b) hΦ
theorem p_none {Φ : V → List O → Prop} (h : Φ .none H) : aT prog w G d env (evalPart none env) vars H (PV G Φ) := fun _ _ _ _ hr _ => wpAny_pure (Post.here hr ⟨.none, rfl, h⟩)
theorem p_some {e : Expr} {Φ : V → List O → Prop} (h : aE prog w G d env e vars H Φ) : aT prog w G d env (evalPart (some e) env) vars H (PV G Φ) := h

theorem strSlice_clip {a b n : Nat} : Builtin.Str.strSliceIndices (some (a : Int)) (some (b : Int)) 1 n = Builtin.Str.strSliceIndices (some (a : Int)) (some ((min b n : Nat) : Int)) 1 n := by
  have h1 : ¬ ((b : Int) < 0) := by (exact om287)
  have h2 : ¬ (((min b n : Nat) : Int) < 0) := by (exact om288)
  simp only [Builtin.Str.strSliceIndices, h1, h2, if_false, show ((1 : Int) > 0) = True from by simp, if_true]
  congr 1
  (exact om289)
theorem sliceMade_ss {s : Shared} {x : Str} {t u v : Tok} {a b : Nat} {Q : Value → Shared → Prop} (ha : a ≤ x.length) (hab : a ≤ b) (hx : x.length ≤ sizeLine)
    (h : ∀ t' k, Q (.str ⟨((x.cps.toList.drop a).take (b - a)).toArray⟩ t') { s with toks := k }) : (sliceMade x t (some ((a : Int), u)) (some ((b : Int), v)) none).post Q s := by
  unfold sliceMade slicePicked
  simp only [Option.map_some, Option.map_none, Option.getD_none]
  rw [strSlice_clip, StrLaws.sliced_plain x (by (exact om290 ha hab)) (by (exact om291))]
  have hlen : (x.cps.toList.drop a).length = x.length - a := by simp [Str.length]
  have e1 : (x.cps.toList.drop a).take (min b x.length - a) = (x.cps.toList.drop a).take (b - a) := by
    by_cases hb : b ≤ x.length
    · rw [Nat.min_eq_left hb]
    · rw [List.take_of_length_le (by (exact om292 hlen hb)), List.take_of_length_le (by (exact om293 hlen hb))]
  rw [e1]
  refine post_val_or_made (fun _ => ?_) fun t' k => ?_
  · show (List.toArray _).size ≤ _
    rw [List.size_toArray, List.length_take]; (exact om294 hx hlen)
  · split
    · rename_i hc
      rw [StrLaws.strSliceIndices_plain (by (exact om290 ha hab)) (by (exact om291))] at hc
      simp at hc
      have ha0 : a = 0 := by (exact om295 ha hc)
      have : (⟨((x.cps.toList.drop a).take (b - a)).toArray⟩ : Str) = x := by
        subst ha0
        rw [List.take_of_length_le (by (exact om296 hlen hc))]
        simp
      have h' := h t' k
      rw [this] at h'
      exact h'
    · exact h t' k
theorem e_slice_str {value : Expr} {lower upper : Expr} {p pos : Pos} {Φ : V → List O → Prop}
    (h : aE prog w G d env value vars H fun o H1 => ∃ x : Str, o = .str x ∧ x.length ≤ 1000000 ∧ aE prog w G d env lower vars H1 fun l H2 => ∃ a : Nat, l = .int a ∧ a ≤ x.length ∧ aE prog w G d env upper vars H2 fun u H3 => ∃ b : Nat, u = .int b ∧ a ≤ b ∧
      Φ (.str ⟨((x.cps.toList.drop a).take (b - a)).toArray⟩) H3)
    (ht : ∀ o r, letTemporaryGo value o r = pure () := by intro _ _; rfl) : aE prog w G d env (.Subscript value (.Slice (some lower) (some upper) none p) pos) vars H Φ := by
  intro A ρ s ok hr fr
  refine wpAny_Subscript_str_slice (wpAny_mono (h A ρ s ok hr fr) (fun ro s1 p1 => ?_) fun _ _ x => x) ht
  obtain ⟨ρ1, H1, st1, hr1, o, vo, x, rfl, hx, h1⟩ := p1
  obtain ⟨t, rfl⟩ := vo
  refine wpAny_mono (h1 A ρ1 s1 ok hr1 (fr.step st1)) (fun rl s2 p2 => ?_) fun _ _ x => x
  obtain ⟨ρ2, H2, st2, hr2, l, vl, a, rfl, ha, h2⟩ := p2
  obtain ⟨tl, rfl⟩ := vl
  have s12 := st1.trans0 st2
  refine wpAny_mono (h2 A ρ2 s2 ok hr2 (fr.step s12)) (fun ru s3 p3 => ?_) fun _ _ x => x
  obtain ⟨ρ3, H3, st3, hr3, u, vu, b, rfl, hab, hΦ⟩ := p3
  obtain ⟨tu, rfl⟩ := vu
  have s13 := s12.trans0 st3
  refine ⟨x, t, some (a, tl), some (b, tu), rfl, rfl, rfl, sliceMade_ss ha hab (by rw [sizeLine_eq]; (exact om274 hx)) fun t' k => ?_⟩
  have keep : ∀ b o, s3.heap.get? b = some o → (s3.heap.push { cls := .type "slice", data := .fields #[Value.int a tl, Value.int b tu, .none] }).get? b = some o := fun _ _ e => Heap.get?_push_of_some _ e
  exact ⟨ρ3, H3, s13.trans0 (Step.grow (tk := k) fun _ _ e => Heap.get?_push_of_some _ e), hr3.grow (tk := k) fun _ _ e => Heap.get?_push_of_some _ e, .str _, ⟨t', rfl⟩, hΦ⟩

/-! dicts -/
theorem e_Dict_empty {pos : Pos} {Φ : V → List O → Prop} (h : Φ (.ref H.length) (H ++ [.dct (fun _ => none) 0])) : aE prog w G d env (.Dict [] [] pos) vars H Φ := by
  intro A ρ s ok hr fr
  refine wpAny_Dict_empty ?_
  refine ⟨ρ ++ [s.heap.objs.size], H ++ [.dct (fun _ => none) 0], Step.newρ (tk := s.toks), HR.new (o := .dct (fun _ => none) 0) (tk := s.toks) hr rfl ⟨_, Heap.IntMap.new _, Heap.DictLe.new _, fun k => ⟨fun _ => rfl, fun v q => nomatch q⟩⟩, _, VR.newRef hr, h⟩

/-- the pairs of a display, each evaluated in turn -/
def aPs (prog : Program) (w : World) (G : Gl) (d : Nat) (env : Env) : List (Expr × Expr) → Vars → List O → (List (Int × V) → List O → Prop) → Prop
  | [], _, H, Φ => Φ [] H
  | (k, e) :: es, vars, H, Φ => aE prog w G d env k vars H fun kv H1 => ∃ i, kv = .int i ∧ aE prog w G d env e vars H1 fun v H2 => aPs prog w G d env es vars H2 fun vs H3 => Φ ((i, v) :: vs) H3

def CR (G : Gl) (ρ : List Addr) (h : Heap) : List (Int × V) → List (Value × Value) → Prop
  | [], rs => rs = []
  | (k, v) :: l, rs => ∃ t r rs', rs = (.int k t, r) :: rs' ∧ VR G ρ h v r ∧ CR G ρ h l rs'
theorem CR.step {ρ ρ' : List Addr} {s s' : Shared} (y : Step [] ρ s ρ' s') : ∀ {l : List (Int × V)} {rs : List (Value × Value)}, CR G ρ s.heap l rs → CR G ρ' s'.heap l rs
  | [], rs, e => by unfold CR at e ⊢; exact e
  | (k, v) :: l, rs, e => by
    unfold CR at e ⊢
    obtain ⟨t, r, rs', q, h1, h2⟩ := e
    exact ⟨t, r, rs', q, h1.step y, h2.step y⟩

theorem standIn {A : Around} {M : Model} {E : Value → Shared → Prop} {s : Shared} {m : Sem Value} {p : Pos} {Q : Value → Shared → Prop} (h : wpAny M A m Q E s) : wpAny M A (do let x ← m; standAt p; pure x) Q E s :=
  wpAny_bind (wpAny_mono h (fun _ _ x => wpAny_bind (wpAny_standAt (wpAny_pure x))) fun _ _ x => x)

theorem pairs_of {p : Pos} : ∀ {es : List (Expr × Expr)} {vars : Vars} {H : List O} {Φ : List (Int × V) → List O → Prop}, aPs prog w G d env es vars H Φ →
    aT prog w G d env (evalPairs (es.map fun e => (eval e.1 env, do let x ← eval e.2 env; standAt p; pure x))) vars H (fun vs ρ' H' s' => ∃ l, CR G ρ' s'.heap l vs ∧ Φ l H')
  | [], vars, H, Φ, h => fun A ρ s ok hr fr => evalPairs_nil (Post.here hr ⟨[], rfl, h⟩)
  | (k, e) :: es, vars, H, Φ, h => fun A ρ s ok hr fr => by
    have h' : aE prog w G d env k vars H fun kv H1 => ∃ i, kv = .int i ∧ aE prog w G d env e vars H1 fun v H2 => aPs prog w G d env es vars H2 fun vs H3 => Φ ((i, v) :: vs) H3 := h
    refine evalPairs_cons (wpAny_mono (h' A ρ s ok hr fr) (fun rk s1 p1 => ?_) fun _ _ x => x)
    obtain ⟨ρ1, H1, st1, hr1, kv, vk, i, rfl, h1⟩ := p1
    obtain ⟨t, rfl⟩ := vk
    refine standIn (wpAny_mono (h1 A ρ1 s1 ok hr1 (fr.step st1)) (fun rv s2 p2 => ?_) fun _ _ x => x)
    obtain ⟨ρ2, H2, st2, hr2, v, vv, h2⟩ := p2
    have s12 := st1.trans0 st2
    refine wpAny_mono (pairs_of h2 A ρ2 s2 ok hr2 (fr.step s12)) (fun vs s3 p3 => ?_) fun _ _ x => x
    obtain ⟨ρ3, H3, st3, hr3, l, cr, h3⟩ := p3
    refine ⟨ρ3, H3, s12.trans0 st3, hr3, (i, v) :: l, ?_, h3⟩
    unfold CR
    exact ⟨t, rv, vs, rfl, vv.step st3, cr⟩

theorem carries_of {ρ : List Addr} {h : Heap} : ∀ {l : List (Int × V)} {rs : List (Value × Value)}, CR G ρ h l rs → ∃ kvs : List (Int × Value), Carries (intKind prog w) rs kvs ∧ kvs.map (·.1) = l.map (·.1) ∧
    ∀ k v, l.lookup k = some v → ∃ rv, kvs.lookup k = some rv ∧ VR G ρ h v rv
  | [], rs, e => by
    unfold CR at e; subst e
    exact ⟨[], trivial, rfl, fun k v q => by simp at q⟩
  | (k, v) :: l, rs, e => by
    unfold CR at e
    obtain ⟨t, r, rs', rfl, h1, h2⟩ := e
    obtain ⟨kvs, c1, c2, c3⟩ := carries_of h2
    refine ⟨(k, r) :: kvs, ⟨intKind_is prog w k t, rfl, c1⟩, by simp [c2], fun k' v' q => ?_⟩
    simp only [List.lookup_cons] at q ⊢
    split at q
    · cases q; exact ⟨r, rfl, h1⟩
    · exact c3 k' v' q

theorem valueAt_lookup (kvs : List (Int × Value)) (k : Int) : valueAt kvs k = kvs.lookup k := by
  induction kvs with
  | nil => rfl
  | cons x l ih =>
    obtain ⟨a, b⟩ := x
    unfold valueAt at ih ⊢
    by_cases e : a = k
    · subst e; simp [List.lookup_cons]
    · have : (k == a) = false := beq_eq_false_iff_ne.mpr fun q => e q.symm
      simp only [List.find?_cons, e, decide_false, List.lookup_cons, this]
      exact ih

theorem e_Dict {keys : List (Option Expr)} {values : List Expr} {pos : Pos} {es : List (Expr × Expr)} {Φ : V → List O → Prop}
    (h : aPs prog w G d env es vars H fun l H1 => (l.map (·.1)).Nodup ∧ Φ (.ref H1.length) (H1 ++ [.dct (fun k => l.lookup k) l.length])) (h0 : es ≠ []) (hlen : es.length ≤ 15)
    (hshape : (evalEachOpt keys env).zip ((evalEach values env).map fun v => do let x ← v; standAt pos; pure x) = (es.map fun e => (eval e.1 env, do let x ← eval e.2 env; standAt pos; pure x)).map fun p => (some p.1, p.2)) :
    aE prog w G d env (.Dict keys values pos) vars H Φ := by
  intro A ρ s ok hr fr
  refine wpAny_Dict_pairs (knd := intKind prog w) hshape (by simpa using h0) (by simpa using hlen) ?_
  have fresh : s.heap.get? s.heap.objs.size = none := gone_size (Nat.le_refl _)
  have g1 : Step [] ρ s ρ { s with heap := s.heap.push { cls := .type "dict", data := .dict #[] }, toks := s.toks } := Step.grow fun _ _ e => Heap.get?_push_of_some _ e
  have hr0 : HR G ρ H { s with heap := s.heap.push { cls := .type "dict", data := .dict #[] }, toks := s.toks } := hr.grow fun _ _ e => Heap.get?_push_of_some _ e
  refine wpAny_mono (pairs_of (p := pos) h A ρ _ ok hr0 (fr.step g1)) (fun vs s1 p1 => ?_) fun _ _ x => x
  obtain ⟨ρ1, H1, st1, hr1, l, cr, hnd, hΦ⟩ := p1
  obtain ⟨kvs, c1, c2, c3⟩ := carries_of (prog := prog) (w := w) cr
  have hn : s.heap.objs.size ∉ ρ := (hr.gone fresh).1
  have live0 : (s.heap.push { cls := .type "dict", data := .dict #[] }).get? s.heap.objs.size = some { cls := .type "dict", data := .dict #[] } := Heap.get?_push_size _ rfl
  have hn1 : s.heap.objs.size ∉ ρ1 := fun hm => (st1.new _ hm).elim hn fun q => by rw [show (s.heap.push { cls := .type "dict", data := .dict #[] }).get? s.heap.objs.size = none from q] at live0; cases live0
  have hkeep : ∀ o, (s.heap.push { cls := .type "dict", data := .dict #[] }).get? s.heap.objs.size = some o → s1.heap.get? s.heap.objs.size = some o := fun o e => st1.keep _ o hn (fun q => nomatch q) e
  refine ⟨kvs, c1, (Heap.DictOf.new s.heap).at hkeep, fun h' hd sb => ?_⟩
  have nt : ∀ items k, s1.heap.get? s.heap.objs.size ≠ some { cls := .type "tuple", data := .seq items k } := fun items k q => by rw [hkeep _ live0] at q; simp at q
  have hr2 : HR G ρ1 H1 { s1 with heap := h', toks := s1.toks + vs.length } := HR.out hr1 hn1 (hr.gone fresh).2 sb nt
  have hnd' : (kvs.map (·.1)).Nodup := by rw [c2]; exact hnd
  rw [merged_nil_of_nodup kvs hnd'] at hd
  have keepX : ∀ c o, c ∉ ρ1 → c ∉ [s.heap.objs.size] → s1.heap.get? c = some o → h'.get? c = some o := fun c o _ hc e => (sb.2 _ (fun q => hc (by rw [q]; exact List.mem_singleton.mpr rfl))).trans e
  have ntl : ∀ x ∈ [s.heap.objs.size], ∀ items k, s1.heap.get? x ≠ some { cls := .type "tuple", data := .seq items k } := fun x hx => by rw [List.mem_singleton.mp hx]; exact nt
  obtain ⟨o, es', ep, ho, hcls, hdat, hks, hps, _⟩ := hd
  have hdo : h'.DictOf (intKind prog w) s.heap.objs.size kvs := ⟨o, es', ep, ho, hcls, hdat, hks, hps, by assumption⟩
  have nt' : ∀ items k, h'.get? s.heap.objs.size ≠ some { cls := .type "tuple", data := .seq items k } := fun items k q => by rw [ho] at q; cases q; cases hdat
  have st2 : Step [] ρ s (ρ1 ++ [s.heap.objs.size]) { s1 with heap := h', toks := s1.toks + vs.length } := by
    have a1 : Step [] ρ s ρ1 { s1 with heap := h', toks := s1.toks + vs.length } := Step.ext (g1.trans0 st1) fresh fun b o hb e => (sb.2 _ hb).trans e
    refine ⟨a1.same, a1.alive, a1.keep, fun n a e => pre_snoc n a (a1.pre n a e), fun a ha => ?_⟩
    rcases List.mem_append.mp ha with q | q
    · exact a1.new a q
    · rw [List.mem_singleton.mp q]; exact .inr fresh
  have kl : kvs.length = l.length := by simpa using congrArg List.length c2
  refine ⟨ρ1 ++ [s.heap.objs.size], H1 ++ [.dct (fun k => l.lookup k) l.length], st2, HR.adopt (o := .dct (fun k => l.lookup k) l.length) hr2 hn1 (hr.gone fresh).2 nt' ⟨_, hdo.mapOf.intMap, ?_, fun k => ⟨fun q => ?_, fun v q => ?_⟩⟩, .ref H1.length, ?_, hΦ⟩
  · intro o2 es2 ep2 ho2 hd2
    rw [show h'.get? s.heap.objs.size = _ from ho2] at ho; cases ho
    rw [hd2] at hdat; cases hdat
    have := hps.length
    simp at this
    (exact om297 kl this)
  · rw [valueAt_lookup]
    cases e : kvs.lookup k with
    | none => rfl
    | some rv =>
      exfalso
      have h1 : k ∈ kvs.map (·.1) := by
        have : ∀ (kvs : List (Int × Value)), kvs.lookup k = some rv → k ∈ kvs.map (·.1) := by
          intro kvs
          induction kvs with
          | nil => intro q; simp at q
          | cons x r ih =>
            intro q
            obtain ⟨xa, xb⟩ := x
            simp only [List.lookup_cons] at q
            split at q
            · rename_i hb; rw [beq_iff_eq.mp hb]; simp
            · simp [ih q]
        exact this kvs e
      rw [c2] at h1
      obtain ⟨p, hp, e2⟩ := List.mem_map.mp h1
      have : ∀ (l : List (Int × V)), p ∈ l → l.lookup k ≠ none := by
        intro l
        induction l with
        | nil => intro q; simp at q
        | cons x r ih =>
          intro hm
          obtain ⟨xa, xb⟩ := x
          simp only [List.lookup_cons]
          split
          · simp
          · rename_i hb
            rcases List.mem_cons.mp hm with rfl | hm
            · rw [← e2] at hb; simp at hb
            · exact ih hm
      exact this l hp q
  · rw [valueAt_lookup]
    obtain ⟨rv, e1, e2⟩ := c3 k v q
    refine ⟨rv, e1, ?_⟩
    have a1 : VR G ρ1 h' v rv := VR.mono (X := [s.heap.objs.size]) (fun _ _ e => e) (fun _ h => .inl h) ntl keepX e2
    exact VR.mono pre_snoc (newT_snoc nt') noTup_nil (fun _ _ _ _ e => e) a1
  · unfold VR
    exact ⟨s.heap.objs.size, by rw [← hr2.len]; simp, rfl⟩
end
end Mine
end

section
open PySem PySem.W PyProof.Rows PySem.Calls
set_option maxRecDepth 100000
namespace Mine

/-- the tables of the top -/
structure Tabs (prog : Program) (w : World) (G : Gl) (tokFn : Str → Option Int) (b3Fn : Int → Option Str) (b1Fn : Int → Bool) : Prop where
  tok : ∃ f, G.h.MapOf (strKind prog w) (G.tok 0) f ∧ ∀ x, (tokFn x = none → f x = none) ∧ ∀ n, tokFn x = some n → ∃ t, f x = some (.int n t)
  b3 : ∃ f, G.h.MapOf (intKind prog w) (G.tok 1) f ∧ ∀ x, (b3Fn x = none → f x = none) ∧ ∀ n, b3Fn x = some n → ∃ t, f x = some (.str n t)
  b1 : ∃ n, G.h.SetOf (intKind prog w) (G.tok 2) b1Fn n
  ne : ∀ k, G.tok k ≠ sysModules
  sys : ∀ a, G.h.get? a = none → a ≠ sysModules

section
variable {prog : Program} {w : World} {G : Gl} {d : Nat} {env : Env} {vars : Vars} {H : List O} {tokFn : Str → Option Int} {b3Fn : Int → Option Str} {b1Fn : Int → Bool}

theorem mapOf_keeps {K : Type} [DecidableEq K] {knd : KeyKind prog w K} {h h' : Heap} {a : Addr} {f : K → Option Value} (x : h.MapOf knd a f) (k : ∀ b o, h.get? b = some o → h'.get? b = some o) : h'.MapOf knd a f :=
  let ⟨o, es, ep, ho, r⟩ := x; ⟨o, es, ep, k a o ho, r⟩
theorem setOf_keeps {K : Type} [DecidableEq K] {knd : KeyKind prog w K} {h h' : Heap} {a : Addr} {S : K → Bool} {n : Nat} (x : h.SetOf knd a S n) (k : ∀ b o, h.get? b = some o → h'.get? b = some o) : h'.SetOf knd a S n :=
  let ⟨o, es, ep, t, ho, r⟩ := x; ⟨o, es, ep, t, k a o ho, r⟩

theorem o_notin_tok {x : Str} {Φ : V → List O → Prop} (T : Tabs prog w G tokFn b3Fn b1Fn) (h : Φ (.bool (!(tokFn x).isSome)) H) : aO2 prog w G d (compareOp .NotIn) (.str x) (.gd 0) H (PV G Φ) := by
  rintro A ρ s q r ok hr ⟨t, rfl⟩ hq
  cases (show r = .ref (G.tok 0) from hq)
  obtain ⟨f, hf, hv⟩ := T.tok
  refine wpAny_notIn_of (knd := strKind prog w) (strKind_is prog w x t) (beq_eq_false_iff_ne.mpr (T.ne 0)) (mapOf_keeps hf hr.base) ?_
  have : (f x).isSome = (tokFn x).isSome := by
    cases e : tokFn x with
    | none => rw [(hv x).1 e]; rfl
    | some n => obtain ⟨u, e2⟩ := (hv x).2 n e; rw [e2]; rfl
  rw [this]
  exact Post.boolT hr h
theorem o_in_b1 {k : Int} {Φ : V → List O → Prop} (T : Tabs prog w G tokFn b3Fn b1Fn) (h : Φ (.bool (b1Fn k)) H) : aO2 prog w G d (compareOp .In) (.int k) (.gd 2) H (PV G Φ) := by
  rintro A ρ s q r ok hr ⟨t, rfl⟩ hq
  cases (show r = .ref (G.tok 2) from hq)
  obtain ⟨n, hS⟩ := T.b1
  exact wpAny_inSet_of (knd := intKind prog w) (intKind_is prog w k t) rfl (setOf_keeps hS hr.base) (Post.boolT hr h)

theorem e_get_tok {o e1 e2 : Expr} {apos pos : Pos} {Φ : V → List O → Prop} (T : Tabs prog w G tokFn b3Fn b1Fn)
    (h : aE prog w G d env o vars H fun ov H1 => ov = .gd 0 ∧ aE prog w G d env e1 vars H1 fun v H2 => ∃ x, v = .str x ∧ aE prog w G d env e2 vars H2 fun u H3 => ∃ n, u = .int n ∧ Φ (.int ((tokFn x).getD n)) H3)
    (hs : backTo pos (starEach [e1, e2] env) = [(false, eval e1 env), (false, eval e2 env)] := by rfl) (hbase : attributeBase o "get" env (eval o env) = eval o env := by rfl) (hline : (apos.endLine == pos.line) = true := by rfl) :
    aE prog w G d env (.Call (.Attribute o "get" apos) [e1, e2] [] pos) vars H Φ := by
  intro A ρ s ok hr fr
  refine wpAny_Call_method (T := "dict") (id := "dict.get") hbase (by rw [hs]; rfl) hline F.plainAttrs_dict F.slot_dict_get F.type_dict_get (wpAny_mono (h A ρ s ok hr fr) (fun ro s1 p1 => ?_) fun _ _ x => x)
  obtain ⟨ρ1, H1, st1, hr1, ov, vo, rfl, h1⟩ := p1
  cases (show ro = .ref (G.tok 0) from vo)
  obtain ⟨f, hf, hv⟩ := T.tok
  refine ⟨(mapOf_keeps hf hr1.base).typeIs, (mapOf_keeps hf hr1.base).noDict, ?_⟩
  rw [hs]
  refine wpAny_dict_get2 (knd := strKind prog w) (beq_eq_false_iff_ne.mpr (T.ne 0)) (wpAny_mono (h1 A ρ1 s1 ok hr1 (fr.step st1)) (fun rx s2 p2 => ?_) fun _ _ x => x)
  obtain ⟨ρ2, H2, st2, hr2, v, vv, x, rfl, h2⟩ := p2
  obtain ⟨t, rfl⟩ := vv
  refine wpAny_mono (h2 A ρ2 s2 ok hr2 (fr.step (st1.trans0 st2))) (fun ru s3 p3 => ?_) fun _ _ x => x
  obtain ⟨ρ3, H3, st3, hr3, u, vu, n, rfl, hΦ⟩ := p3
  obtain ⟨tn, rfl⟩ := vu
  refine ⟨x, f, strKind_is prog w x t, mapOf_keeps hf hr3.base, ?_⟩
  refine (Post.tk hr3 ⟨.int ((tokFn x).getD n), ?_, hΦ⟩).after ((st1.trans0 st2).trans0 st3)
  cases e : tokFn x with
  | none => rw [(hv x).1 e]; exact ⟨tn, rfl⟩
  | some m => obtain ⟨u, e2⟩ := (hv x).2 m e; rw [e2]; exact ⟨u, rfl⟩

theorem e_get_b3 {o e1 : Expr} {apos pos : Pos} {Φ : V → List O → Prop} (T : Tabs prog w G tokFn b3Fn b1Fn)
    (h : aE prog w G d env o vars H fun ov H1 => ov = .gd 1 ∧ aE prog w G d env e1 vars H1 fun v H2 => ∃ k, v = .int k ∧ Φ (match b3Fn k with | none => .none | some x => .str x) H2)
    (hs : backTo pos (starEach [e1] env) = [(false, eval e1 env)] := by rfl) (hbase : attributeBase o "get" env (eval o env) = eval o env := by rfl) (hline : (apos.endLine == pos.line) = true := by rfl) :
    aE prog w G d env (.Call (.Attribute o "get" apos) [e1] [] pos) vars H Φ := by
  intro A ρ s ok hr fr
  refine wpAny_Call_method (T := "dict") (id := "dict.get") hbase (by rw [hs]; rfl) hline F.plainAttrs_dict F.slot_dict_get F.type_dict_get (wpAny_mono (h A ρ s ok hr fr) (fun ro s1 p1 => ?_) fun _ _ x => x)
  obtain ⟨ρ1, H1, st1, hr1, ov, vo, rfl, h1⟩ := p1
  cases (show ro = .ref (G.tok 1) from vo)
  obtain ⟨f, hf, hv⟩ := T.b3
  refine ⟨(mapOf_keeps hf hr1.base).typeIs, (mapOf_keeps hf hr1.base).noDict, ?_⟩
  rw [hs]
  refine wpAny_dict_get1 (knd := intKind prog w) (beq_eq_false_iff_ne.mpr (T.ne 1)) (wpAny_mono (h1 A ρ1 s1 ok hr1 (fr.step st1)) (fun rx s2 p2 => ?_) fun _ _ x => x)
  obtain ⟨ρ2, H2, st2, hr2, v, vv, k, rfl, hΦ⟩ := p2
  obtain ⟨t, rfl⟩ := vv
  refine ⟨k, f, intKind_is prog w k t, mapOf_keeps hf hr2.base, ?_⟩
  refine (Post.tk hr2 ⟨_, ?_, hΦ⟩).after (st1.trans0 st2)
  cases e : b3Fn k with
  | none => rw [(hv k).1 e]; exact rfl
  | some m => obtain ⟨u, e2⟩ := (hv k).2 m e; rw [e2]; exact ⟨u, rfl⟩

/-! strs: join, lower -/
theorem strsAre_of {ρ : List Addr} {h : Heap} : ∀ {ys : List Str} {rs : List Value}, VRs G ρ h (ys.map .str) rs → StrsAre rs ys
  | [], rs, e => by simp only [List.map_nil] at e; unfold VRs at e; subst e; exact .nil
  | y :: ys, rs, e => by
    simp only [List.map_cons] at e
    unfold VRs at e
    obtain ⟨r, rs', rfl, ⟨t, rfl⟩, e'⟩ := e
    exact .cons y t (strsAre_of e')
theorem e_join {o e : Expr} {apos pos : Pos} {Φ : V → List O → Prop}
    (h : aE prog w G d env o vars H fun ov H1 => ∃ x, ov = .str x ∧ aE prog w G d env e vars H1 fun v H2 => ∃ n ys, v = .ref n ∧ H2[n]? = some (.lst (ys.map .str)) ∧ (ys.map (·.length)).sum + ys.length * x.length ≤ 1000000 ∧ Φ (.str (Txt.join x ys)) H2)
    (hs : backTo pos (starEach [e] env) = [(false, eval e env)] := by rfl) (hbase : attributeBase o "join" env (eval o env) = eval o env := by rfl) (hline : (apos.endLine == pos.line) = true := by rfl) :
    aE prog w G d env (.Call (.Attribute o "join" apos) [e] [] pos) vars H Φ := by
  intro A ρ s ok hr fr
  refine wpAny_Call_method (T := "str") (id := "str.join") hbase (by rw [hs]; rfl) hline F.plainAttrs_str F.slot_str_join F.type_str_join (wpAny_mono (h A ρ s ok hr fr) (fun ro s1 p1 => ?_) fun _ _ x => x)
  obtain ⟨ρ1, H1, st1, hr1, ov, vo, x, rfl, h1⟩ := p1
  obtain ⟨t, rfl⟩ := vo
  refine ⟨typeIs_str _ _ _, (fun b q => by cases q), ?_⟩
  rw [hs]
  refine Calls.callWith_builtin rfl (Calls.evalArgs_plain (Calls.spliced_cons (wpAny_mono (h1 A ρ1 s1 ok hr1 (fr.step st1)) (fun rl s2 p2 => ?_) fun _ _ x => x)))
  obtain ⟨ρ2, H2, st2, hr2, v, vv, n, ys, rfl, hn, hl, hΦ⟩ := p2
  obtain ⟨a, items, k, ha, rfl, il, vvs, hsz⟩ := ref_list hr2 hn vv
  refine Calls.spliced_nil ?_
  exact PyProof.Rows.join_list il.isList (strsAre_of vvs) (by (exact om264 hl)) fun t' tk => (Post.str hr2 hΦ).after (st1.trans0 st2)
theorem e_lower {o : Expr} {apos pos : Pos} {Φ : V → List O → Prop}
    (h : aE prog w G d env o vars H fun ov H1 => ∃ x, ov = .str x ∧ Builtin.Str.tooLong (Txt.lower x).length = false ∧ Φ (.str (Txt.lower x)) H1)
    (hbase : attributeBase o "lower" env (eval o env) = eval o env := by rfl) (hline : (apos.endLine == pos.line) = true := by rfl) :
    aE prog w G d env (.Call (.Attribute o "lower" apos) [] [] pos) vars H Φ := by
  intro A ρ s ok hr fr
  refine PySem.Call_method0 hbase hline (wpAny_mono (h A ρ s ok hr fr) (fun ro s1 p1 => ?_) fun _ _ x => x)
  obtain ⟨ρ1, H1, st1, hr1, ov, vo, x, rfl, hf, hΦ⟩ := p1
  obtain ⟨t, rfl⟩ := vo
  exact SB.lower hf ((Post.str hr1 hΦ).after st1)
theorem o_isnot_none {v : V} {Φ : V → List O → Prop} (hv : v = .none ∨ ∃ x, v = .str x) (h : Φ (.bool (match v with | .none => false | _ => true)) H) : aO2 prog w G d (compareOp .IsNot) v .none H (PV G Φ) := by
  intro A ρ s q r ok hr hq hr'
  cases (show r = .none from hr')
  rcases hv with rfl | ⟨x, rfl⟩
  · cases (show q = .none from hq)
    exact wpAny_isNot_self rfl (Post.bool hr h)
  · obtain ⟨t, rfl⟩ := hq
    exact wpAny_isNot_other rfl (by intro q; cases q) (Post.bool hr h)
theorem e_none {k : Nat} {pos : Pos} {Φ : V → List O → Prop} (h : Φ .none H) : aE prog w G d env (.Constant .none k pos) vars H Φ :=
  fun _ _ _ _ hr _ => (fun _ _ _ => Post.here hr ⟨.none, rfl, h⟩)
end
end Mine
end

section
open PySem PySem.W PyProof.Rows PySem.Calls
set_option maxRecDepth 100000
set_option genInjectivity false
namespace Mine
abbrev P : Program := PySem.Challenge.pw_re0151_01

def tokPairs : List (Str × Int) := [(Str.ofString "!", 54), (Str.ofString "!=", 28), (Str.ofString "%", 24), (Str.ofString "%=", 40), (Str.ofString "&", 19), (Str.ofString "&=", 41), (Str.ofString "(", 7), (Str.ofString ")", 8), (Str.ofString "*", 16), (Str.ofString "**", 35), (Str.ofString "**=", 46), (Str.ofString "*=", 38), (Str.ofString "+", 14), (Str.ofString "+=", 36), (Str.ofString ",", 12), (Str.ofString "-", 15), (Str.ofString "-=", 37), (Str.ofString "->", 51), (Str.ofString ".", 23), (Str.ofString "...", 52),
  (Str.ofString "/", 17), (Str.ofString "//", 47), (Str.ofString "//=", 48), (Str.ofString "/=", 39), (Str.ofString ":", 11), (Str.ofString ":=", 53), (Str.ofString ";", 13), (Str.ofString "<", 20), (Str.ofString "<<", 33), (Str.ofString "<<=", 44), (Str.ofString "<=", 29), (Str.ofString "=", 22), (Str.ofString "==", 27), (Str.ofString ">", 21), (Str.ofString ">=", 30), (Str.ofString ">>", 34), (Str.ofString ">>=", 45), (Str.ofString "@", 49), (Str.ofString "@=", 50), (Str.ofString "[", 9), (Str.ofString "]", 10), (Str.ofString "^", 32), (Str.ofString "^=", 43), (Str.ofString "{", 25), (Str.ofString "|", 18), (Str.ofString "|=", 42), (Str.ofString "}", 26), (Str.ofString "~", 31)]
def tokFn (x : Str) : Option Int := tokPairs.lookup x
structure LitD where
  n : Int
  k : Nat
  p : Pos
  x : Str
  k2 : Nat
  p2 : Pos
def b3D : List LitD := match P.main.body[7]? with
  | some (Stmt.Assign _ (Expr.Dict ks vs _) _) => (ks.zip vs).filterMap fun p => match p with
    | (some (.Constant (.int n) k p), .Constant (.str x) k2 p2) => some ⟨n, k, p, x, k2, p2⟩
    | _ => none
  | _ => []
def b3Pairs : List (Int × Str) := b3D.map fun d => (d.n, d.x)
def b3Fn (k : Int) : Option Str := b3Pairs.lookup k
def b1Fn (k : Int) : Bool := [173, 847, 6150, 6155, 6156, 6157, 8203, 8204, 8205, 8288, 65279].contains k || (decide (65024 ≤ k) && decide (k < 65040))

/-- 1/6 and 2/3 as the program makes them -/
def oneSixth : UInt64 := Float64.div 0x3ff0000000000000 0x4018000000000000
def twoThird : UInt64 := Float64.div 0x4000000000000000 0x4008000000000000

structure Top (w : World) (G : Gl) : Prop where
  g : Glb G
  fn : ∀ (i : Nat) x p b s pos, P.main.body[i]? = some (.FunctionDef x p b [] none [] s none x pos) → FnAt G x p b s
  tabs : Tabs P w G tokFn b3Fn b1Fn
  nt : ∃ t, G.mg "NT_OFFSET" = some (.int 256 t)
  em : ∃ t, G.mg "ENDMARKER" = some (.int 0 t)
  os : ∃ t, G.mg "ONE_SIXTH" = some (.float oneSixth t)
  tt : ∃ t, G.mg "TWO_THIRD" = some (.float twoThird t)
  tk : G.mg "EXACT_TOKEN_TYPES" = some (.ref (G.tok 0))
  b3 : G.mg "b3_exceptions" = some (.ref (G.tok 1))
  b1 : G.mg "b1_set" = some (.ref (G.tok 2))
  blt : ∀ x ∈ (["len", "chr", "ord", "min", "max", "abs"] : List String), G.mg (Str.ofString x) = none ∧ G.mb (Str.ofString x) = some (.builtin x)
  typ : ∀ x ∈ (["range", "int", "float"] : List String), G.mg (Str.ofString x) = none ∧ G.mb (Str.ofString x) = some (.type x)

section
variable {w : World} {G : Gl} {d : Nat} {H : List O}

theorem Top.gint {x : Str} {n : Int} (h : ∃ t, G.mg x = some (.int n t)) : ∃ rv, G.mg x = some rv ∧ GV G (.int n) rv := let ⟨t, e⟩ := h; ⟨_, e, fun _ _ => ⟨t, rfl⟩⟩
theorem Top.gflt {x : Str} {n : UInt64} (h : ∃ t, G.mg x = some (.float n t)) : ∃ rv, G.mg x = some rv ∧ GV G (.flt n) rv := let ⟨t, e⟩ := h; ⟨_, e, fun _ _ => ⟨t, rfl⟩⟩
theorem e_glob' {prog : Program} {env : Env} {vars : Vars} {x : Str} {pos : Pos} {v : V} {Φ : V → List O → Prop} (g : Glb G) (hv : ∃ rv, G.mg x = some rv ∧ GV G v rv) (h : Φ v H)
    (hgl : env.globals = mainGlobals := by rfl) (hk : env.scope.kind = .function := by rfl) (hl : env.kindOf x = some .globalImplicit := by rfl)
    (hd : (x == ("__debug__" : Str)) = false := by decide) : aE prog w G d env (.Name x pos) vars H Φ := let ⟨_, e, q⟩ := hv; e_glob g e q h hgl hk hl hd

theorem c_ISTERMINAL (T : Top w G) {n : Int} {Φ : V → List O → Prop} (h : Φ (.bool (decide (n < 256))) H) : aC P w G (d + 1) "ISTERMINAL" [.int n] H Φ := by
  refine c_def T.g (T.fn 61 _ _ _ _ _ rfl) (by intro rs h pm cd doc; obtain ⟨a, rfl⟩ := len1 h; rfl) (by rfl) (fun L a cd => ?_)
  refine ss_cons (s_return (e_Compare (e_var rfl (e_glob' T.g (Top.gint T.nt) (o_lt_int ?_)))))
  exact h

theorem c_ISNONTERMINAL (T : Top w G) {n : Int} {Φ : V → List O → Prop} (h : Φ (.bool (decide (256 ≤ n))) H) : aC P w G (d + 1) "ISNONTERMINAL" [.int n] H Φ := by
  refine c_def T.g (T.fn 62 _ _ _ _ _ rfl) (by intro rs h pm cd doc; obtain ⟨a, rfl⟩ := len1 h; rfl) (by rfl) (fun L a cd => ?_)
  refine ss_cons (s_return (e_Compare (e_var rfl (e_glob' T.g (Top.gint T.nt) (o_ge_int ?_)))))
  exact h
theorem c_ISEOF (T : Top w G) {n : Int} {Φ : V → List O → Prop} (h : Φ (.bool (n == 0)) H) : aC P w G (d + 1) "ISEOF" [.int n] H Φ := by
  refine c_def T.g (T.fn 63 _ _ _ _ _ rfl) (by intro rs h pm cd doc; obtain ⟨a, rfl⟩ := len1 h; rfl) (by rfl) (fun L a cd => ?_)
  refine ss_cons (s_return (e_Compare (e_var rfl (e_glob' T.g (Top.gint T.em) (o_eq_int ?_)))))
  exact h

theorem c_in_table_b1 (T : Top w G) {x : Str} {Φ : V → List O → Prop} (hx : x.length = 1) (h : Φ (.bool (b1Fn (x.cps.getD 0 0 : Nat))) H) : aC P w G (d + 1) "in_table_b1" [.str x] H Φ := by
  refine c_def T.g (T.fn 6 _ _ _ _ _ rfl) (by intro rs h pm cd doc; obtain ⟨a, rfl⟩ := len1 h; rfl) (by rfl) (fun L a cd => ?_)
  refine ss_cons (s_return (e_Compare (e_Call_builtin T.g (T.blt "ord" (by decide)).1 (T.blt "ord" (by decide)).2 (e_var rfl (o_ord hx (e_glob T.g T.b1 (v := .gd 2) (fun _ _ => rfl) (o_in_b1 T.tabs ?_)))))))
  exact h

def mapB3 (x : Str) : Str := match b3Fn (x.cps.getD 0 0 : Nat) with
  | none => Txt.lower x
  | some y => y
theorem c_map_table_b3 (T : Top w G) {x : Str} {Φ : V → List O → Prop} (hx : x.length = 1) (hl : b3Fn (x.cps.getD 0 0 : Nat) = none → Builtin.Str.tooLong (Txt.lower x).length = false) (h : Φ (.str (mapB3 x)) H) : aC P w G (d + 1) "map_table_b3" [.str x] H Φ := by
  refine c_def T.g (T.fn 8 _ _ _ _ _ rfl) (by intro rs h pm cd doc; obtain ⟨a, rfl⟩ := len1 h; rfl) (by rfl) (fun L a cd => ?_)
  refine ss_cons (s_assign (e_get_b3 T.tabs (e_glob T.g T.b3 (v := .gd 1) (fun _ _ => rfl) ⟨rfl, e_Call_builtin T.g (T.blt "ord" (by decide)).1 (T.blt "ord" (by decide)).2 (e_var rfl (o_ord hx ⟨_, rfl, ?_⟩))⟩)))
  unfold mapB3 at h
  cases hb : b3Fn (x.cps.getD 0 0 : Nat) with
  | none =>
    rw [hb] at h
    refine ss_cons (s_if (b_Compare (e_var rfl (e_none (o_isnot_none (.inl rfl) (t_bool (ss_nil ?_)))))))
    refine ss_cons (s_return (e_lower (e_var rfl ⟨_, rfl, hl hb, ?_⟩)))
    exact h
  | some y =>
    rw [hb] at h
    refine ss_cons (s_if (b_Compare (e_var rfl (e_none (o_isnot_none (.inr ⟨_, rfl⟩) (t_bool (ss_cons (s_return (e_var rfl ?_)))))))))
    exact h

/-- the function _v -/
def vF (m1 m2 hue : UInt64) : UInt64 :=
  let h := (Float64.divmod hue 0x3ff0000000000000).2
  if Float64.cmp h oneSixth == some .lt then Float64.add m1 (Float64.mul (Float64.mul (Float64.sub m2 m1) h) 0x4018000000000000)
  else if Float64.cmp h 0x3fe0000000000000 == some .lt then m2
  else if Float64.cmp h twoThird == some .lt then Float64.add m1 (Float64.mul (Float64.mul (Float64.sub m2 m1) (Float64.sub twoThird h)) 0x4018000000000000)
  else m1
theorem c_v (T : Top w G) {m1 m2 hue : UInt64} {Φ : V → List O → Prop} (h : Φ (.flt (vF m1 m2 hue)) H) : aC P w G (d + 1) "_v" [.flt m1, .flt m2, .flt hue] H Φ := by
  refine c_def T.g (T.fn 3 _ _ _ _ _ rfl) (by intro rs h pm cd doc; obtain ⟨a, b, c, rfl⟩ := len3 h; rfl) (by rfl) (fun L a cd => ?_)
  refine ss_cons (s_assign (e_BinOp (e_var rfl (e_flt (o_mod_flt (by decide +kernel) ?_)))))
  unfold vF at h
  simp only at h
  refine ss_cons (s_if (b_Compare (e_var rfl (e_glob' T.g (Top.gflt T.os) (o_lt_flt (t_bool ?_))))))
  by_cases h1 : (Float64.cmp (Float64.divmod hue 0x3ff0000000000000).2 oneSixth == some .lt) = true
  · rw [if_pos h1] at h ⊢
    refine ss_cons (s_return (e_BinOp (e_var rfl (e_BinOp (e_BinOp (e_BinOp (e_var rfl (e_var rfl (o_sub_flt (e_var rfl (o_mul_flt (e_flt (o_mul_flt (o_add_flt ?_))))))))))))))
    exact h
  rw [if_neg h1] at h ⊢
  refine ss_nil ?_
  refine ss_cons (s_if (b_Compare (e_var rfl (e_flt (o_lt_flt (t_bool ?_))))))
  by_cases h2 : (Float64.cmp (Float64.divmod hue 0x3ff0000000000000).2 0x3fe0000000000000 == some .lt) = true
  · rw [if_pos h2] at h ⊢
    refine ss_cons (s_return (e_var rfl ?_))
    exact h
  rw [if_neg h2] at h ⊢
  refine ss_nil ?_
  refine ss_cons (s_if (b_Compare (e_var rfl (e_glob' T.g (Top.gflt T.tt) (o_lt_flt (t_bool ?_))))))
  by_cases h3 : (Float64.cmp (Float64.divmod hue 0x3ff0000000000000).2 twoThird == some .lt) = true
  · rw [if_pos h3] at h ⊢
    refine ss_cons (s_return (e_BinOp (e_var rfl (e_BinOp (e_BinOp (e_BinOp (e_var rfl (e_var rfl (o_sub_flt (e_BinOp (e_glob' T.g (Top.gflt T.tt) (e_var rfl (o_sub_flt (o_mul_flt (e_flt (o_mul_flt (o_add_flt ?_)))))))))))))))))
    exact h
  rw [if_neg h3] at h ⊢
  refine ss_nil ?_
  refine ss_cons (s_return (e_var rfl ?_))
  exact h
end
end Mine
end

section
open PySem PySem.W PyProof.Rows PySem.Calls
set_option maxRecDepth 100000
namespace Mine

/-- the module's state, walked from s0 on -/
structure MS (s0 : Shared) (c Pl : Addr) (mg : Str → Option Value) (l : List (Pos × Addr)) (s : Shared) : Prop where
  main : s.heap.Main mg c Pl (triples l).toArray
  keep : ∀ b o, b ≠ Pl → b ≠ mainGlobals → s0.heap.get? b = some o → s.heap.get? b = some o
  gens : s.gens = s0.gens
  os : s.os = s0.os
  drawn : s.drawn = s0.drawn

section
variable {prog : Program} {w : World} {A : Around} {E : Value → Shared → Prop} {s0 s : Shared} {c Pl F : Addr} {mg : Str → Option Value} {l : List (Pos × Addr)}

/-- a step that keeps all but the code table and the globals -/
def Adv (Pl : Addr) (s s' : Shared) : Prop := ∀ b o, b ≠ Pl → b ≠ mainGlobals → s.heap.get? b = some o → s'.heap.get? b = some o

theorem m_assign {x : Str} {pos' pos : Pos} {value : Expr} {rest : List Stmt} {Q : Flow → Shared → Prop} (ms : MS s0 c Pl mg l s) (hmod : prog.main.scope.kind = .module) (hloc : prog.main.scope.names.lookup x = some .local) (hnb : x ≠ "__builtins__")
    (hv : wpAny (model prog w) A (eval value (mainEnv prog c F)) (fun v s1 => MS s0 c Pl mg l s1 ∧ Adv Pl s s1 ∧ ∀ s2, MS s0 c Pl (fun y => if y = x then some v else mg y) l s2 → Adv Pl s1 s2 →
      wpAny (model prog w) A (execs rest (mainEnv prog c F)) Q E s2) E s)
    (hs : swapsWith value (some (.Name x pos')) pos.line (mainEnv prog c F) = pure false := by rfl) :
    wpAny (model prog w) A (execs (.Assign [.Name x pos'] value pos :: rest) (mainEnv prog c F)) Q E s := by
  refine wpAny_execs_cons (wpAny_Assign_Name (wpAny_mono hv (fun v s1 p => ?_) fun _ _ x => x) hs)
  obtain ⟨m1, _, k⟩ := p
  refine wpAny_storeName_local (env := mainEnv prog c F) hloc m1.main.g (fun h' hg' hs' => ?_) (by show (prog.main.scope.kind == .class || (prog.main.scope.kind == .module && mainGlobals != mainGlobals)) = false; rw [hmod]; rfl)
  have hs' : Heap.SameBut mainGlobals s1.heap h' := hs'
  have kp : ∀ b o, b ≠ mainGlobals → s1.heap.get? b = some o → h'.get? b = some o := fun b o hb e => (hs'.2 _ hb).trans e
  refine k { s1 with heap := h', toks := s1.toks + 1 } ⟨⟨hg', m1.main.code.sameBut hs' (Nat.ne_of_gt m1.main.low.1) (Nat.ne_of_gt m1.main.low.2), m1.main.low, ?_⟩, fun b o h1 h2 e => kp b o h2 (m1.keep b o h1 h2 e), m1.gens, m1.os, m1.drawn⟩ fun b o _ h2 e => kp b o h2 e
  obtain ⟨bm, o, hbm, hne0, hneG, hneP, hbo, hrest⟩ := m1.main.bmod
  exact ⟨bm, o, by simp only [Ne.symm hnb, if_false]; exact hbm, hne0, hneG, hneP, kp _ _ hneG hbo, hrest⟩

theorem m_def {name : Str} {params : Arguments} {body : List Stmt} {scope : Scope} {pos : Pos} {rest : List Stmt} {Q : Flow → Shared → Prop} (ms : MS s0 c Pl mg l s) (hkw : params.kwonlyargs = []) (hkd : params.kw_defaults = []) (hd : params.defaults = [])
    (hann0 : annTrees params none (mainEnv prog c F) = []) (hfree : ∀ x ∈ scope.names, x.2 ≠ .free) (hloc : prog.main.scope.names.lookup name = some .local)
    (hq : qualnameIn { scope := prog.main.scope, locals := mainGlobals, globals := mainGlobals, cells := [] } name name = name)
    (hnb : name ≠ "__builtins__") (hmod : prog.main.scope.kind = .module) (hl : ∀ q ∈ l, ¬ (q.1.line = pos.line ∧ q.1.col = pos.col))
    (k : ∀ a c' pm doc s2, MS s0 c Pl (fun y => if y = name then some (.ref a) else mg y) (l ++ [(pos, c')]) s2 → Adv Pl s s2 → Pl < a → Pl < c' →
      s2.heap.get? a = some { cls := .type "function", data := .func (docDef name params body scope pm (.ref c') doc) } → s2.heap.CodeRec (.ref c') name → wpAny (model prog w) A (execs rest (mainEnv prog c F)) Q E s2) :
    wpAny (model prog w) A (execs (.FunctionDef name params body [] none [] scope none name pos :: rest) (mainEnv prog c F)) Q E s := by
  have hPl : Pl < s.heap.objs.size := ms.main.code.lt.2
  refine wpAny_execs_cons (wpAny_defStmt0 hkw hkd (by rw [hd]; exact fun _ h => nomatch h) hann0 hfree hloc hq ms.main (fun a c' doc dV vs h' tk ha hm' hf hvs hdv hc keep => ?_) hnb hmod (by rw [List.toList_toArray]; exact codeAmong_triples _ _ hl))
  have hvs' : vs = [] := by rw [hd] at hvs; cases vs with | nil => rfl | cons _ _ => exact hvs.elim
  subst hvs'
  have hdV : dV = .none := by
    rcases hdv with ⟨_, h⟩ | ⟨h, _⟩
    · exact h
    · exact absurd rfl h
  subst hdV
  refine k a c' _ doc { s with heap := h', toks := tk } ⟨?_, fun b o h1 h2 e => keep b o h1 h2 (ms.keep b o h1 h2 e), ms.gens, ms.os, ms.drawn⟩ (fun b o h1 h2 e => keep b o h1 h2 e) (Nat.lt_of_lt_of_le hPl ha) (Nat.lt_of_lt_of_le hPl hc.1) hf hc.2
  rw [triples_append]; simpa using hm'
end
end Mine
end

section
open PySem PySem.W PyProof.Rows PySem.Calls
set_option maxRecDepth 100000
set_option linter.unusedSectionVars false
namespace Mine

/-! a dict display of any length, of keys and values that make no object -/
def Ext (h0 h : Heap) : Prop := ∀ b o, h0.get? b = some o → h.get? b = some o
theorem Ext.but {h0 h h' : Heap} {d : Addr} (x : Ext h0 h) (hs : Heap.SameBut d h h') (hd : h0.get? d = none) : Ext h0 h' := fun b o e => by
  have : b ≠ d := by rintro rfl; rw [hd] at e; cases e
  exact (hs.2 b this).trans (x b o e)

section
variable {prog : Program} {w : World} {K : Type} [DecidableEq K] {knd : KeyKind prog w K} {A : Around} {E : Value → Shared → Prop}

/-- a pair's trees give the key k and a value in R, whatever the heap holds beyond h0 -/
structure PairEv (knd : KeyKind prog w K) (A : Around) (h0 : Heap) (p : Sem Value × Sem Value) (k : K × (Value → Prop)) : Prop where
  key : ∀ (E : Value → Shared → Prop) s, Ext h0 s.heap → ∀ Q : Value → Shared → Prop, (∀ v tk, knd.is k.1 v = true → Q v { s with toks := tk }) → wpAny (model prog w) A p.1 Q E s
  val : ∀ (E : Value → Shared → Prop) s, Ext h0 s.heap → ∀ Q : Value → Shared → Prop, (∀ v tk, k.2 v → Q v { s with toks := tk }) → wpAny (model prog w) A p.2 Q E s
inductive PairsEv (knd : KeyKind prog w K) (A : Around) (h0 : Heap) : List (Sem Value × Sem Value) → List (K × (Value → Prop)) → Prop
  | nil : PairsEv knd A h0 [] []
  | cons {p k ps ks} : PairEv knd A h0 p k → PairsEv knd A h0 ps ks → PairsEv knd A h0 (p :: ps) (k :: ks)
inductive Fits : List (K × (Value → Prop)) → List (K × Value) → Prop
  | nil : Fits [] []
  | cons {k : K} {R : Value → Prop} {v : Value} {ks kvs} : R v → Fits ks kvs → Fits ((k, R) :: ks) ((k, v) :: kvs)
theorem Fits.keys {ks : List (K × (Value → Prop))} {kvs : List (K × Value)} (f : Fits ks kvs) : kvs.map (·.1) = ks.map (·.1) := by
  induction f with
  | nil => rfl
  | cons _ _ ih => simp [ih]
theorem Fits.length {ks : List (K × (Value → Prop))} {kvs : List (K × Value)} (f : Fits ks kvs) : kvs.length = ks.length := by
  have := congrArg List.length f.keys; simpa using this
theorem Fits.append {ks ks' : List (K × (Value → Prop))} {kvs kvs' : List (K × Value)} (f : Fits ks kvs) (g : Fits ks' kvs') : Fits (ks ++ ks') (kvs ++ kvs') := by
  induction f with
  | nil => exact g
  | cons h _ ih => exact .cons h ih
theorem PairsEv.length {h0 : Heap} {ps ks} (x : PairsEv knd A h0 ps ks) : ps.length = ks.length := by
  induction x with
  | nil => rfl
  | cons _ _ ih => simp [ih]

theorem stored_fresh (acc : List (K × Value)) (k : K) (v : Value) (hn : k ∉ acc.map (·.1)) : stored acc k v = acc ++ [(k, v)] := by
  unfold stored
  rw [if_neg]
  rw [List.any_eq_true]
  rintro ⟨x, hx, he⟩
  exact hn (List.mem_map.mpr ⟨x, hx, of_decide_eq_true he⟩)

/-- the long arm: a pair after the other -/
theorem wp_fill {h0 : Heap} {d : Addr} (hd : h0.get? d = none) {ps : List (Sem Value × Sem Value)} {ks : List (K × (Value → Prop))} (es : PairsEv knd A h0 ps ks) : ∀ (acc : List (K × Value)) (s : Shared) (Q : PUnit → Shared → Prop),
    Ext h0 s.heap → s.heap.DictOf knd d acc → (acc.map (·.1) ++ ks.map (·.1)).Nodup → acc.length + ks.length ≤ sizeLine →
    (∀ h' tk kvs, Fits ks kvs → h'.DictOf knd d (acc ++ kvs) → Heap.SameBut d s.heap h' → Q PUnit.unit { s with heap := h', toks := tk }) →
    wpAny (model prog w) A (forIn ps PUnit.unit fun (x : Sem Value × Sem Value) (_ : PUnit) => (do let kv ← x.1; let vv ← holding [kv] x.2; holding [kv, vv] (dictSet d kv vv); pure (ForInStep.yield PUnit.unit) : Sem (ForInStep PUnit))) Q E s := by
  induction es with
  | nil =>
    intro acc s Q _ hm _ _ hQ
    rw [List.forIn_nil]
    exact wpAny_pure (by have := hQ s.heap s.toks [] .nil; rw [List.append_nil] at this; exact this hm (Heap.SameBut.refl _ _))
  | @cons p k ps ks e es ih =>
    intro acc s Q hx hm hn hsz hQ
    obtain ⟨k, R⟩ := k
    rw [List.length_cons] at hsz
    rw [List.forIn_cons]
    refine wpAny_bind (wpAny_bind (e.key E s hx _ fun kv tk1 hkey => ?_))
    refine wpAny_bind (wpAny_holding (e.val E { s with toks := tk1 } hx _ fun vv tk2 hval => ?_))
    have hfresh : k ∉ acc.map (·.1) := fun hk => by
      rw [List.nodup_append] at hn
      exact hn.2.2 k hk k (List.mem_cons_self ..) rfl
    refine wpAny_bind (wpAny_holding (wpAny_dictSet_pairs (s := { s with toks := tk2 }) (hsz := Nat.le_trans (Nat.le_add_right _ _) hsz) hkey hm fun h₁ hm₁ hs₁ => wpAny_pure ?_))
    rw [stored_fresh acc k vv hfresh] at hm₁
    have hn' : ((acc ++ [(k, vv)]).map (·.1) ++ ks.map (·.1)).Nodup := by rw [List.map_append, List.append_assoc]; exact hn
    refine ih (acc ++ [(k, vv)]) _ Q (hx.but hs₁ hd) hm₁ hn' (by rw [len_a1, Nat.add_assoc, Nat.add_comm 1]; exact hsz) fun h' tk kvs hf hm' hs' => ?_
    rw [List.append_assoc] at hm'
    exact hQ h' tk ((k, vv) :: kvs) (.cons hval hf) hm' (hs₁.trans hs')

/-- the short arm's first half -/
theorem wp_evalPairs {h0 : Heap} {ps : List (Sem Value × Sem Value)} {ks : List (K × (Value → Prop))} (es : PairsEv knd A h0 ps ks) : ∀ (s : Shared) (Q : List (Value × Value) → Shared → Prop), Ext h0 s.heap →
    (∀ vs kvs tk, Carries knd vs kvs → Fits ks kvs → Q vs { s with toks := tk }) → wpAny (model prog w) A (evalPairs ps) Q E s := by
  induction es with
  | nil => intro s Q _ hQ; exact evalPairs_nil (hQ [] [] s.toks trivial .nil)
  | @cons p k ps ks e es ih =>
    intro s Q hx hQ
    obtain ⟨t, u⟩ := p
    obtain ⟨k, R⟩ := k
    refine evalPairs_cons (e.key E s hx _ fun kv tk1 hkey => e.val E { s with toks := tk1 } hx _ fun vv tk2 hval => ?_)
    exact ih _ _ hx fun vs kvs tk hc hf => hQ _ ((k, vv) :: kvs) tk ⟨hkey, rfl, hc⟩ (.cons hval hf)

theorem wp_subDict {h0 : Heap} {s : Shared} {ps : List (Sem Value × Sem Value)} {ks : List (K × (Value → Prop))} {Q : Addr → Shared → Prop} (es : PairsEv knd A h0 ps ks) (hx : Ext h0 s.heap) (hn : (ks.map (·.1)).Nodup) (hsz : ks.length ≤ sizeLine)
    (hQ : ∀ h' tk kvs, Fits ks kvs → h'.DictOf knd s.heap.objs.size kvs → (∀ b o, s.heap.get? b = some o → h'.get? b = some o) → Q s.heap.objs.size { s with heap := h', toks := tk }) :
    wpAny (model prog w) A (subDict ps) Q E s := by
  have hd0 : h0.get? s.heap.objs.size = none := by
    cases e : h0.get? s.heap.objs.size with
    | none => rfl
    | some o => exact absurd (Heap.lt_size (hx _ _ e)) (Nat.lt_irrefl _)
  have hx1 : Ext h0 (s.heap.push { cls := .type "dict", data := .dict #[] }) := fun b o e => Heap.get?_push_of_some _ (hx b o e)
  have hnew : (s.heap.push { cls := .type "dict", data := .dict #[] }).DictOf knd s.heap.objs.size [] :=
    ⟨_, #[], 0, Heap.get?_push_size _ rfl, ⟨rfl, rfl, rfl⟩, rfl, fun _ he => by simp at he, by simpa using Pairs.nil, by simp⟩
  have keep : ∀ h' : Heap, Heap.SameBut s.heap.objs.size (s.heap.push { cls := .type "dict", data := .dict #[] }) h' → ∀ b o, s.heap.get? b = some o → h'.get? b = some o := fun h' hs b o e =>
    (hs.2 b (Nat.ne_of_lt (Heap.lt_size e))).trans (Heap.get?_push_of_some _ e)
  by_cases hlen : ps.length ≤ 15
  · refine wpAny_subDict (knd := knd) hlen (wp_evalPairs es _ _ hx1 fun vs kvs tk hc hf => ⟨kvs, hc, hnew, fun h' hm' hs' => ?_⟩)
    rw [merged_nil_of_nodup kvs (by rw [hf.keys]; exact hn)] at hm'
    exact hQ h' _ kvs hf hm' (keep h' hs')
  · unfold subDict
    refine wpAny_bind (wpAny_alloc ?_)
    refine wpAny_bind (wpAny_holding ?_)
    rw [if_neg hlen]
    refine wpAny_bind (wpAny_rule ?_)
    refine wpAny_bind (wp_fill hd0 es [] _ _ hx1 hnew (by simpa using hn) (by simpa using hsz) fun h' tk kvs hf hm' hs' => ?_)
    exact wpAny_pure (wpAny_pure (hQ h' tk kvs hf (by simpa using hm') (keep h' hs')))

theorem wp_dictPut_fresh {s : Shared} {d : Addr} {kvs : List (K × Value)} {k : K} {key v : Value} {Q : Unit → Shared → Prop} (hkey : knd.is k key = true) (hm : s.heap.DictOf knd d kvs) (hnot : k ∉ kvs.map (·.1)) (hsz : kvs.length ≤ sizeLine)
    (hQ : ∀ h', h'.DictOf knd d (kvs ++ [(k, v)]) → Heap.SameBut d s.heap h' → Q () { s with heap := h' }) :
    wpAny (model prog w) A (dictPut d (knd.hash k) key v) Q E s := by
  obtain ⟨o, es, ep, ho, hc, hd, hk, hp, hn⟩ := hm
  have hes : es.size ≤ sizeLine := by have e1 := hp.length; have e2 : es.toList.length = es.size := by simp
                                      (exact om573 hsz e1 e2)
  unfold dictPut
  refine wpAny_bind (wpAny_dictFind_of hkey ho hd hk ?_)
  have hidx : (es.findIdx? fun e => knd.is k e.key) = kvs.findIdx? fun kv => decide (kv.1 = k) := by
    rw [← hp.findIdx k]; obtain ⟨l⟩ := es; simp
  have hnone : (es.findIdx? fun e => knd.is k e.key) = none := by
    rw [hidx, List.findIdx?_eq_none_iff]
    intro x hx
    exact decide_eq_false fun e => hnot (List.mem_map.mpr ⟨x, hx, e⟩)
  rw [hnone]
  refine wpAny_updateDictKeys (hz := hes) ho hd (hQ _ ⟨_, _, ep + 1, Heap.get?_update_self _ ho (Obj.isFreed_of_dict (Obj.data_mapDictKeys hd _)),
      hc.mapDictKeys _, Obj.data_mapDictKeys hd _, hk.push hkey _, ?_, ?_⟩ (Heap.SameBut.update ..))
  · have := hp.append hkey (knd.hash k) v
    obtain ⟨l⟩ := es
    simpa using this
  · rw [List.map_append, List.nodup_append]
    refine ⟨hn, by simp, ?_⟩
    intro a ha b hb
    simp only [List.map_cons, List.map_nil, List.mem_singleton] at hb
    subst hb
    exact fun e => hnot (e ▸ ha)

theorem wp_mergeMapping {s : Shared} {d o : Addr} {kvs more : List (K × Value)} {Q : Unit → Shared → Prop} (hdo : d ≠ o) (hoS : (o == sysModules) = false) (h0 : kvs ≠ [])
    (hd : s.heap.DictOf knd d kvs) (ho : s.heap.DictOf knd o more) (hn : (kvs.map (·.1) ++ more.map (·.1)).Nodup) (hsz : kvs.length + more.length ≤ sizeLine)
    (hQ : ∀ h', h'.DictOf knd d (kvs ++ more) → Heap.SameBut d s.heap h' → Q () { s with heap := h' }) :
    wpAny (model prog w) A (mergeMapping d (.ref o) false) Q E s := by
  obtain ⟨od, esd, epd, hod, hcd, hdd, hkd, hpd, hnd⟩ := id hd
  obtain ⟨oo, eso, epo, hoo, hco, hdo', hko, hpo, hno⟩ := id ho
  have hT : s.TypeIs (.ref o) "dict" := ⟨oo, hoo, hco.1⟩
  have hlen : more.length = eso.size := by rw [← hpo.length]; simp
  have hemp : esd.isEmpty = false := by
    cases e : esd.isEmpty with
    | false => rfl
    | true =>
      have h1 : esd = #[] := Array.isEmpty_iff.mp e
      have := hpd.length; rw [h1] at this
      exact absurd (List.length_eq_zero_iff.mp (by simpa using this.symm)) h0
  unfold mergeMapping
  refine wpAny_bind (wpAny_isInstance hT isSubtype_dict_dict ?_)
  rw [if_pos rfl]
  refine wpAny_bind (wpAny_specialOf hT F.slot_dict_iter.lookup (wpAny_bind (wpAny_pure ?_)))
  rw [show ((some (Value.builtin "dict.__iter__") == some (Value.builtin "dict.__iter__")) : Bool) = true from by decide]
  dsimp only
  rw [hoS, if_neg Bool.false_ne_true]
  refine wpAny_bind (wpAny_dictEntries hod hdd ?_)
  rw [hemp, if_neg Bool.false_ne_true]
  refine wpAny_bind (wpAny_dictEntries hoo hdo' ?_)
  refine wpAny_bind (wpAny_dictEpoch hoo hdo' ?_)
  refine wpAny_bind (wpAny_mono (E := E) (wpAny_forIn_list _
    (fun rest _ s' => ∃ h' i, s' = { s with heap := h' } ∧ rest = List.range' i (eso.size - i) ∧ i ≤ eso.size ∧ h'.DictOf knd d (kvs ++ more.take i) ∧ h'.get? o = some oo ∧ Heap.SameBut d s.heap h')
    (fun _ s' => Q () s') ?_ ?_ _ _ ⟨s.heap, 0, rfl, by rw [List.range_eq_range', Nat.sub_zero], Nat.zero_le _, by simpa using hd, hoo, Heap.SameBut.refl _ _⟩) (fun _ _ x => wpAny_pure x) fun _ _ x => x)
  · rintro x rest b s' ⟨h', i, rfl, hr, hi, hd', hoo', hs'⟩
    have hlt : i < eso.size := by
      rcases Nat.lt_or_ge i eso.size with h | h
      · exact h
      · rw [Nat.sub_eq_zero_of_le h] at hr; simp at hr
    obtain ⟨rfl, hrest⟩ : x = i ∧ rest = List.range' (i + 1) (eso.size - (i + 1)) := by
      have e : eso.size - i = (eso.size - (i + 1)) + 1 := by (exact om574 hlt)
      rw [e, List.range'_succ] at hr
      injection hr with h1 h2
      exact ⟨h1, h2⟩
    refine wpAny_bind (wpAny_dictEntries hoo' hdo' ?_)
    rw [Array.getElem?_eq_getElem hlt]
    obtain ⟨kv, hkv⟩ : ∃ kv, more[x]? = some kv := ⟨more[x]'(by rw [hlen]; exact hlt), List.getElem?_eq_getElem _⟩
    obtain ⟨k, v⟩ := kv
    obtain ⟨hkey, hval⟩ := hpo.get? (e := eso[x]) (by simp [hlt]) hkv
    obtain ⟨k', hkey', hhash⟩ := hko eso[x] (Array.getElem_mem hlt)
    obtain rfl : k' = k := knd.inj _ _ _ hkey' hkey
    have htake : more.take (x + 1) = more.take x ++ [(k', v)] := by rw [List.take_add_one, hkv]; rfl
    have hfresh : k' ∉ (kvs ++ more.take x).map (·.1) := fun hm => by
      have hs1 : ((kvs ++ more.take (x + 1)).map (·.1)).Nodup := by
        rw [← List.map_append] at hn
        refine List.Sublist.nodup (List.Sublist.map _ ((List.Sublist.refl kvs).append (List.take_sublist _ _))) hn
      rw [htake, ← List.append_assoc, List.map_append, List.nodup_append] at hs1
      exact hs1.2.2 k' hm k' (by simp) rfl
    have hmx : (kvs ++ more.take x).length ≤ sizeLine := by
      have e2 : (more.take x).length ≤ more.length := by rw [List.length_take]; (exact om291)
      rw [List.length_append]; (exact om575 hsz e2)
    dsimp only
    rw [hhash, hval]
    refine wpAny_bind (wpAny_holding ?_)
    rw [if_neg Bool.false_ne_true]
    refine wp_dictPut_fresh (s := { s with heap := h' }) hkey hd' hfresh hmx fun h'' hd'' hs'' => ?_
    have hoo'' : h''.get? o = some oo := (hs''.2 o (Ne.symm hdo)).trans hoo'
    refine wpAny_bind (wpAny_dictEpoch hoo'' hdo' ?_)
    rw [if_neg (by simp)]
    exact wpAny_pure ⟨h'', x + 1, rfl, hrest, hlt, by rw [htake, ← List.append_assoc]; exact hd'', hoo'', hs'.trans hs''⟩
  · rintro b s' ⟨h', i, rfl, hr, hi, hd', hoo', hs'⟩
    have hin : i = eso.size := by
      rcases Nat.lt_or_ge i eso.size with h | h
      · have e : eso.size - i = (eso.size - (i + 1)) + 1 := by (exact om574 h)
        rw [e, List.range'_succ] at hr; exact nomatch hr
      · exact Nat.le_antisymm hi h
    refine hQ h' ?_ hs'
    rw [hin, ← hlen, List.take_length] at hd'; exact hd'
end
end Mine
end

section
open PySem PySem.W PyProof.Rows PySem.Calls
set_option maxRecDepth 100000
set_option linter.unusedSectionVars false
namespace Mine
section
variable {prog : Program} {w : World} {K : Type} [DecidableEq K] {knd : KeyKind prog w K} {A : Around} {E : Value → Shared → Prop}

def flushT (run : List (Sem Value × Sem Value)) (main : Option Addr) : Sem (Option Addr) := do
  if run.isEmpty then return main
  match main with
  | none => return some (← subDict run)
  | some d =>
    let sub ← holding [.ref d] (subDict run)
    (holding [.ref d, .ref sub] (mergeMapping d (.ref sub) false)).onRaise fun x => do let _ ← holding [.ref d, x] (runValue (.builtin "proto.let_go" {}))
    return some d

/-- the display so far: none yet, or a dict -/
def MainOk (knd : KeyKind prog w K) (h0 : Heap) (main : Option Addr) (ks : List (K × (Value → Prop))) (h : Heap) : Prop := match main with
  | none => ks = []
  | some d => ∃ kvs, Fits ks kvs ∧ kvs ≠ [] ∧ h.DictOf knd d kvs ∧ h0.get? d = none

theorem wp_flush {h0 : Heap} {s : Shared} {main : Option Addr} {done : List (K × (Value → Prop))} {ps : List (Sem Value × Sem Value)} {ks : List (K × (Value → Prop))} {Q : Option Addr → Shared → Prop}
    (hsys : h0.get? sysModules ≠ none) (h0r : ps ≠ []) (es : PairsEv knd A h0 ps ks) (hx : Ext h0 s.heap) (hm : MainOk knd h0 main done s.heap) (hn : ((done ++ ks).map (·.1)).Nodup) (hsz : (done ++ ks).length ≤ sizeLine)
    (hQ : ∀ d h' tk, Ext h0 h' → MainOk knd h0 (some d) (done ++ ks) h' → Q (some d) { s with heap := h', toks := tk }) :
    wpAny (model prog w) A (flushT ps main) Q E s := by
  have he : ps.isEmpty = false := by cases ps with | nil => exact absurd rfl h0r | cons _ _ => rfl
  have hk0 : ks ≠ [] := fun e => h0r (List.length_eq_zero_iff.mp (by rw [es.length, e]; rfl))
  have hnd : (ks.map (·.1)).Nodup := by rw [List.map_append, List.nodup_append] at hn; exact hn.2.1
  have hsz' : ks.length ≤ sizeLine := by rw [List.length_append] at hsz; (exact om576 hsz)
  have hd0 : h0.get? s.heap.objs.size = none := by
    cases e : h0.get? s.heap.objs.size with
    | none => rfl
    | some o => exact absurd (Heap.lt_size (hx _ _ e)) (Nat.lt_irrefl _)
  unfold flushT
  rw [he, if_neg Bool.false_ne_true]
  cases main with
  | none =>
    have hm' : done = [] := hm
    subst hm'
    refine wpAny_bind (wp_subDict es hx hnd hsz' fun h' tk kvs hf hd hk => wpAny_pure ?_)
    refine hQ _ h' tk (fun b o e => hk b o (hx b o e)) ⟨kvs, hf, fun e => hk0 (List.length_eq_zero_iff.mp (by rw [← hf.length, e]; rfl)), hd, hd0⟩
  | some d =>
    obtain ⟨kvs0, hf0, hne0, hdd, hd00⟩ := hm
    have hdlt : d < s.heap.objs.size := let ⟨o, _, _, ho, _⟩ := hdd; Heap.lt_size ho
    refine wpAny_bind (wpAny_holding (wp_subDict es hx hnd hsz' fun h' tk kvs hf hd hk => ?_))
    have hdd' : h'.DictOf knd d kvs0 := let ⟨o, es', ep, ho, r⟩ := hdd; ⟨o, es', ep, hk _ _ ho, r⟩
    refine wpAny_bind (wpAny_onRaise (wpAny_holding (wp_mergeMapping (s := { s with heap := h', toks := tk }) (Nat.ne_of_lt hdlt) ?_ hne0 hdd' hd ?_ ?_ fun h'' hd'' hs'' => wpAny_pure ?_)))
    · refine beq_eq_false_iff_ne.mpr fun e => ?_
      rw [e] at hd0; exact hsys hd0
    · rw [hf0.keys, hf.keys, ← List.map_append]; exact hn
    · rw [hf0.length, hf.length, ← List.length_append]; exact hsz
    · exact hQ d h'' tk (Ext.but (fun b o e => hk b o (hx b o e)) hs'' hd00) ⟨_, hf0.append hf, by simp [hne0], hd'', hd00⟩

theorem PairsEv.snoc {h0 : Heap} {ps : List (Sem Value × Sem Value)} {ks : List (K × (Value → Prop))} {p : Sem Value × Sem Value} {k : K × (Value → Prop)} (x : PairsEv knd A h0 ps ks) (e : PairEv knd A h0 p k) : PairsEv knd A h0 (ps ++ [p]) (ks ++ [k]) := by
  induction x with
  | nil => exact .cons e .nil
  | cons y _ ih => exact .cons y ih

theorem wp_display_loop {h0 : Heap} (hsys : h0.get? sysModules ≠ none) (f : (Option (Sem Value) × Sem Value) → (Option Addr × List (Sem Value × Sem Value)) → Sem (ForInStep (Option Addr × List (Sem Value × Sem Value))))
    (hf : ∀ (p : Sem Value × Sem Value) (main : Option Addr) (run : List (Sem Value × Sem Value)), f (some p.1, p.2) (main, run) =
      if ((run ++ [p]).length == 17) = true then (do let m ← flushT (run ++ [p]) main; pure (.yield (m, []))) else pure (.yield (main, run ++ [p]))) :
    ∀ {rest : List (Sem Value × Sem Value)} {restK : List (K × (Value → Prop))} (_ : PairsEv knd A h0 rest restK) (run : List (Sem Value × Sem Value)) (runK : List (K × (Value → Prop))) (main : Option Addr) (done : List (K × (Value → Prop))) (s : Shared) (Q : Option Addr × List (Sem Value × Sem Value) → Shared → Prop),
    PairsEv knd A h0 run runK → Ext h0 s.heap → MainOk knd h0 main done s.heap → ((done ++ runK ++ restK).map (·.1)).Nodup → (done ++ runK ++ restK).length ≤ sizeLine →
    (∀ main' run' runK' done' h' tk, done' ++ runK' = done ++ runK ++ restK → PairsEv knd A h0 run' runK' → Ext h0 h' → MainOk knd h0 main' done' h' → Q (main', run') { s with heap := h', toks := tk }) →
    wpAny (model prog w) A (forIn (rest.map fun p => (some p.1, p.2)) (main, run) f) Q E s := by
  intro rest restK es
  induction es with
  | nil =>
    intro run runK main done s Q er hx hm hn hsz hQ
    rw [List.map_nil, List.forIn_nil]
    exact wpAny_pure (hQ main run runK done s.heap s.toks (List.append_nil _).symm er hx hm)
  | @cons p k rest restK e es ih =>
    intro run runK main done s Q er hx hm hn hsz hQ
    have er' : PairsEv knd A h0 (run ++ [p]) (runK ++ [k]) := er.snoc e
    have eqK : done ++ runK ++ (k :: restK) = done ++ (runK ++ [k]) ++ restK := by rw [← List.append_assoc done, List.append_assoc _ [k]]; rfl
    rw [List.map_cons, List.forIn_cons, hf]
    rw [eqK] at hn hsz hQ
    by_cases h17 : ((run ++ [p]).length == 17) = true
    · rw [if_pos h17]
      refine wpAny_bind (wpAny_bind (wp_flush hsys (List.append_ne_nil_of_right_ne_nil _ (List.cons_ne_nil _ _)) er' hx hm ?_ ?_ fun d h' tk hx' hm' => wpAny_pure ?_))
      · rw [List.map_append, List.nodup_append] at hn; exact hn.1
      · rw [List.length_append] at hsz; exact Nat.le_trans (Nat.le_add_right _ _) hsz
      · have e0 : done ++ (runK ++ [k]) ++ [] ++ restK = done ++ (runK ++ [k]) ++ restK := by rw [List.append_nil]
        exact ih [] [] (some d) (done ++ (runK ++ [k])) { s with heap := h', toks := tk } Q .nil hx' hm' (e0 ▸ hn) (e0 ▸ hsz) fun main' run' runK' done' h'' tk' he ev hx'' hm'' => hQ main' run' runK' done' h'' tk' (he.trans e0) ev hx'' hm''
    · rw [if_neg h17]
      exact wpAny_bind (wpAny_pure (ih (run ++ [p]) (runK ++ [k]) main done s Q er' hx hm hn hsz hQ))

theorem wp_dictDisplay {h0 : Heap} {s : Shared} {ps : List (Sem Value × Sem Value)} {ks : List (K × (Value → Prop))} {Q : Value → Shared → Prop} (hsys : h0.get? sysModules ≠ none) (hne : ps ≠ []) (es : PairsEv knd A h0 ps ks) (hx : Ext h0 s.heap)
    (hn : (ks.map (·.1)).Nodup) (hsz : ks.length ≤ sizeLine)
    (hQ : ∀ d h' tk kvs, Fits ks kvs → h'.DictOf knd d kvs → h0.get? d = none → Ext h0 h' → Q (.ref d) { s with heap := h', toks := tk }) :
    wpAny (model prog w) A (dictDisplay (ps.map fun p => (some p.1, p.2))) Q E s := by
  have hk0 : ks ≠ [] := fun e => hne (List.length_eq_zero_iff.mp (by rw [es.length, e]; rfl))
  unfold dictDisplay
  refine wpAny_bind (wp_display_loop hsys _ (fun p main run => ?_) es [] [] none [] s _ .nil hx rfl (by simpa using hn) (by simpa using hsz) fun main run runK done h' tk he ev hx' hm' => ?_)
  · rfl
  have he' : done ++ runK = ks := by simpa using he
  subst he'
  show wpAny _ A (flushT run main >>= _) Q E _
  by_cases hr : run = []
  · subst hr
    cases ev
    unfold flushT
    rw [List.isEmpty_nil, if_pos rfl]
    refine wpAny_bind (wpAny_pure ?_)
    cases main with
    | none => exact absurd (by simpa using (show done = [] from hm')) hk0
    | some d =>
      obtain ⟨kvs, hf, _, hd, hd0⟩ := hm'
      exact wpAny_pure (hQ d h' tk kvs (by simpa using hf) hd hd0 hx')
  · refine wpAny_bind (wp_flush hsys hr ev hx' hm' hn hsz fun d h'' tk' hx'' hm'' => ?_)
    obtain ⟨kvs, hf, _, hd, hd0⟩ := hm''
    exact wpAny_pure (hQ d h'' tk' kvs hf hd hd0 hx'')
end
end Mine
end

section
open PySem PySem.W PyProof.Rows PySem.Calls
set_option maxRecDepth 100000
set_option linter.unusedSectionVars false
set_option genInjectivity false
namespace Mine

/-! the top's walk: facts on the globals, gathered statement by statement -/
def KeepsT (Pl : Addr) (h h' : Heap) : Prop := ∀ b o, b ≠ Pl → b ≠ mainGlobals → h.get? b = some o → h'.get? b = some o
structure Rel where
  R : Addr → Heap → Value → Prop
  st : ∀ Pl h h' v, KeepsT Pl h h' → R Pl h v → R Pl h' v

structure WS (prog : Program) (s0 : Shared) (mg0 : Str → Option Value) (c Pl : Addr) (F : List (Str × Rel)) (L : List (Nat × Nat)) (mg : Str → Option Value) (s : Shared) : Prop where
  ms : ∃ l, MS s0 c Pl mg l s ∧ l.map (fun q => (q.1.line, q.1.col)) = L
  facts : ∀ p ∈ F, ∃ v, mg p.1 = some v ∧ p.2.R Pl s.heap v
  rest : ∀ x, prog.main.scope.names.lookup x ≠ some .local → mg x = mg0 x

theorem MS.grown {s0 s : Shared} {c Pl : Addr} {mg : Str → Option Value} {l : List (Pos × Addr)} {h' : Heap} {tk : Nat} (m : MS s0 c Pl mg l s) (hk : ∀ b o, s.heap.get? b = some o → h'.get? b = some o) : MS s0 c Pl mg l { s with heap := h', toks := tk } := by
  obtain ⟨bm, o, hbm, hne0, hneG, hneP, hbo, hrest⟩ := m.main.bmod
  exact ⟨⟨m.main.g.keeps hk, m.main.code.keeps hk, m.main.low, ⟨bm, o, hbm, hne0, hneG, hneP, hk _ _ hbo, hrest⟩⟩, fun b o h1 h2 e => hk b o (m.keep b o h1 h2 e), m.gens, m.os, m.drawn⟩

section
variable {prog : Program} {w : World} {A : Around} {E : Value → Shared → Prop} {s0 s : Shared} {c Pl Fr : Addr} {mg0 mg : Str → Option Value} {F : List (Str × Rel)} {L : List (Nat × Nat)}

theorem r_bind {x : Str} {pos' pos : Pos} {value : Expr} {rest : List Stmt} {Q : Flow → Shared → Prop} (F' : List (Str × Rel)) (P : Value → Heap → Prop) (X : WS prog s0 mg0 c Pl F L mg s) (hmod : prog.main.scope.kind = .module) (hloc : prog.main.scope.names.lookup x = some .local) (hnb : x ≠ "__builtins__")
    (hnew : ∀ p ∈ F, p.1 ≠ x) (hF : ∀ v h, KeepsT Pl s.heap h → P v h → ∀ p ∈ F', p ∈ F ∨ (p.1 = x ∧ p.2.R Pl h v))
    (hv : ∀ Q' : Value → Shared → Prop, (∀ v h' tk, (∀ b o, s.heap.get? b = some o → h'.get? b = some o) → P v h' → Q' v { s with heap := h', toks := tk }) → wpAny (model prog w) A (eval value (mainEnv prog c Fr)) Q' E s)
    (k : ∀ mg' s2, WS prog s0 mg0 c Pl F' L mg' s2 → wpAny (model prog w) A (execs rest (mainEnv prog c Fr)) Q E s2)
    (hs : swapsWith value (some (.Name x pos')) pos.line (mainEnv prog c Fr) = pure false := by rfl) :
    wpAny (model prog w) A (execs (.Assign [.Name x pos'] value pos :: rest) (mainEnv prog c Fr)) Q E s := by
  obtain ⟨l, m, hl⟩ := X.ms
  refine m_assign m hmod hloc hnb (hv _ fun v h' tk hk hP => ?_) hs
  have kk : KeepsT Pl s.heap h' := fun b o _ _ e => hk b o e
  refine ⟨m.grown hk, kk, fun s2 m2 adv => k _ s2 ⟨⟨l, m2, hl⟩, fun p hp => ?_, fun y hy => ?_⟩⟩
  · rcases hF v h' kk hP p hp with q | ⟨q1, q2⟩
    · obtain ⟨u, hu, hr⟩ := X.facts p q
      exact ⟨u, by simp only [hnew p q, if_false]; exact hu, p.2.st _ _ _ _ (fun b o h1 h2 e => adv b o h1 h2 (hk b o e)) hr⟩
    · exact ⟨v, by simp only [q1, if_true], p.2.st _ _ _ _ adv q2⟩
  · have : y ≠ x := by rintro rfl; exact hy hloc
    simp only [this, if_false]; exact X.rest y hy

/-- x = value, a fact on it -/
theorem r_assign {x : Str} {pos' pos : Pos} {value : Expr} {rest : List Stmt} {Q : Flow → Shared → Prop} (R : Rel) (X : WS prog s0 mg0 c Pl F L mg s)
    (hv : ∀ Q' : Value → Shared → Prop, (∀ v h' tk, (∀ b o, s.heap.get? b = some o → h'.get? b = some o) → R.R Pl h' v → Q' v { s with heap := h', toks := tk }) → wpAny (model prog w) A (eval value (mainEnv prog c Fr)) Q' E s)
    (k : ∀ mg' s2, WS prog s0 mg0 c Pl ((x, R) :: F) L mg' s2 → wpAny (model prog w) A (execs rest (mainEnv prog c Fr)) Q E s2)
    (hmod : prog.main.scope.kind = .module := by rfl) (hloc : prog.main.scope.names.lookup x = some .local := by rfl) (hnb : x ≠ "__builtins__" := by decide)
    (hnew : (F.map (·.1)).contains x = false := by kernel_rfl)
    (hs : swapsWith value (some (.Name x pos')) pos.line (mainEnv prog c Fr) = pure false := by rfl) :
    wpAny (model prog w) A (execs (.Assign [.Name x pos'] value pos :: rest) (mainEnv prog c Fr)) Q E s := by
  refine r_bind ((x, R) :: F) (fun v h => R.R Pl h v) X hmod hloc hnb (fun p hp e => ?_) (fun v h _ hP p hp => ?_) hv k hs
  · have : (F.map (·.1)).contains x = true := List.contains_iff_mem.mpr (List.mem_map.mpr ⟨p, hp, e⟩)
    rw [hnew] at this; cases this
  · rcases List.mem_cons.mp hp with rfl | hp
    · exact .inr ⟨rfl, hP⟩
    · exact .inl hp
/-- x = value, of which nothing is kept -/
theorem r_skip {x : Str} {pos' pos : Pos} {value : Expr} {rest : List Stmt} {Q : Flow → Shared → Prop} (X : WS prog s0 mg0 c Pl F L mg s)
    (hv : ∀ Q' : Value → Shared → Prop, (∀ v h' tk, (∀ b o, s.heap.get? b = some o → h'.get? b = some o) → Q' v { s with heap := h', toks := tk }) → wpAny (model prog w) A (eval value (mainEnv prog c Fr)) Q' E s)
    (k : ∀ mg' s2, WS prog s0 mg0 c Pl F L mg' s2 → wpAny (model prog w) A (execs rest (mainEnv prog c Fr)) Q E s2)
    (hmod : prog.main.scope.kind = .module := by rfl) (hloc : prog.main.scope.names.lookup x = some .local := by rfl) (hnb : x ≠ "__builtins__" := by decide)
    (hnew : (F.map (·.1)).contains x = false := by kernel_rfl)
    (hs : swapsWith value (some (.Name x pos')) pos.line (mainEnv prog c Fr) = pure false := by rfl) :
    wpAny (model prog w) A (execs (.Assign [.Name x pos'] value pos :: rest) (mainEnv prog c Fr)) Q E s := by
  refine r_bind F (fun _ _ => True) X hmod hloc hnb (fun p hp e => ?_) (fun v h _ hP p hp => .inl hp) (fun Q' hQ => hv Q' fun v h' tk hk => hQ v h' tk hk trivial) k hs
  have : (F.map (·.1)).contains x = true := List.contains_iff_mem.mpr (List.mem_map.mpr ⟨p, hp, e⟩)
  rw [hnew] at this; cases this

/-! facts -/
def rInt (n : Int) : Rel := ⟨fun _ _ v => ∃ t, v = .int n t, fun _ _ _ _ _ x => x⟩
def rFlt (n : UInt64) : Rel := ⟨fun _ _ v => ∃ t, v = .float n t, fun _ _ _ _ _ x => x⟩
/-- the def that stands as statement i -/
def rFn (prog : Program) (i : Nat) : Rel :=
  ⟨fun Pl h v => ∀ x params body scope pos, prog.main.body[i]? = some (.FunctionDef x params body [] none [] scope none x pos) →
      ∃ a c' pm doc, v = .ref a ∧ Pl < a ∧ Pl < c' ∧ mainGlobals < Pl ∧ h.get? a = some { cls := .type "function", data := .func (docDef x params body scope pm (.ref c') doc) } ∧ h.CodeRec (.ref c') x,
   fun Pl h h' v k r x params body scope pos e => by
    obtain ⟨a, c', pm, doc, h1, h2, h3, h4, h5, h6⟩ := r x params body scope pos e
    exact ⟨a, c', pm, doc, h1, h2, h3, h4, k _ _ (Nat.ne_of_gt h2) (Nat.ne_of_gt (Nat.lt_trans h4 h2)) h5, h6.at fun o => k _ o (Nat.ne_of_gt h3) (Nat.ne_of_gt (Nat.lt_trans h4 h3))⟩⟩

/-- a def -/
theorem r_def {i : Nat} {name : Str} {params : Arguments} {body : List Stmt} {scope : Scope} {pos : Pos} {Q : Flow → Shared → Prop}
    (h : prog.main.body[i]? = some (.FunctionDef name params body [] none [] scope none name pos)) (X : WS prog s0 mg0 c Pl F L mg s)
    (k : ∀ mg' s2, WS prog s0 mg0 c Pl ((name, rFn prog i) :: F) (L ++ [(pos.line, pos.col)]) mg' s2 → wpAny (model prog w) A (execs (prog.main.body.drop (i + 1)) (mainEnv prog c Fr)) Q E s2)
    (hkw : params.kwonlyargs = [] := by rfl) (hkd : params.kw_defaults = [] := by rfl) (hd : params.defaults = [] := by rfl)
    (hann0 : annTrees params none (mainEnv prog c Fr) = [] := by rfl) (hfree : ∀ x ∈ scope.names, x.2 ≠ .free := by decide) (hloc : prog.main.scope.names.lookup name = some .local := by rfl)
    (hq : qualnameIn { scope := prog.main.scope, locals := mainGlobals, globals := mainGlobals, cells := [] } name name = name := by rfl)
    (hnb : name ≠ "__builtins__" := by decide) (hmod : prog.main.scope.kind = .module := by rfl) (hnew : (F.map (·.1)).contains name = false := by kernel_rfl) (hl : L.contains (pos.line, pos.col) = false := by decide) :
    wpAny (model prog w) A (execs (prog.main.body.drop i) (mainEnv prog c Fr)) Q E s := by
  obtain ⟨l, m, hL⟩ := X.ms
  have hi : i < prog.main.body.length := (List.getElem?_eq_some_iff.mp h).1
  have he : prog.main.body.drop i = (.FunctionDef name params body [] none [] scope none name pos) :: prog.main.body.drop (i + 1) := by
    rw [List.drop_eq_getElem_cons hi, (List.getElem?_eq_some_iff.mp h).2]
  rw [he]
  have hnew' : ∀ p ∈ F, p.1 ≠ name := fun p hp e => by
    have : (F.map (·.1)).contains name = true := List.contains_iff_mem.mpr (List.mem_map.mpr ⟨p, hp, e⟩)
    rw [hnew] at this; cases this
  refine m_def m hkw hkd hd hann0 hfree hloc hq hnb hmod (fun q hq e => ?_) fun a c' pm doc s2 m2 adv ha hc' ho hcr => ?_
  · have : L.contains (pos.line, pos.col) = true := List.contains_iff_mem.mpr (by rw [← hL]; exact List.mem_map.mpr ⟨q, hq, by rw [e.1, e.2]⟩)
    rw [hl] at this; cases this
  · refine k _ s2 ⟨⟨_, m2, by rw [List.map_append, hL]; rfl⟩, fun p hp => ?_, fun y hy => ?_⟩
    · rcases List.mem_cons.mp hp with rfl | hp
      · refine ⟨.ref a, by simp only [if_true], fun x params' body' scope' pos'' e => ?_⟩
        rw [h] at e; cases e
        exact ⟨a, c', pm, doc, rfl, ha, hc', m.main.low.2, ho, hcr⟩
      · obtain ⟨u, hu, hr⟩ := X.facts p hp
        exact ⟨u, by simp only [hnew' p hp, if_false]; exact hu, p.2.st _ _ _ _ adv hr⟩
    · have : y ≠ name := by rintro rfl; exact hy hloc
      simp only [this, if_false]; exact X.rest y hy

theorem at_drop {i : Nat} {st : Stmt} (h : prog.main.body[i]? = some st) : prog.main.body.drop i = st :: prog.main.body.drop (i + 1) := by
  have hi : i < prog.main.body.length := (List.getElem?_eq_some_iff.mp h).1
  rw [List.drop_eq_getElem_cons hi, (List.getElem?_eq_some_iff.mp h).2]

/-! runs of x = n -/
structure IntD where
  x : Str
  p1 : Pos
  n : Int
  k : Nat
  p2 : Pos
  p3 : Pos
def IntD.st (d : IntD) : Stmt := .Assign [.Name d.x d.p1] (.Constant (.int d.n) d.k d.p2) d.p3
def intsOk (prog : Program) : List IntD → List Str → Bool
  | [], _ => true
  | d :: r, ns => (prog.main.scope.names.lookup d.x == some .local) && d.x != "__builtins__" && !ns.contains d.x && intsOk prog r (d.x :: ns)
def withInts (l : List IntD) (F : List (Str × Rel)) : List (Str × Rel) := (l.map fun d => (d.x, rInt d.n)).reverse ++ F

theorem r_ints (hmod : prog.main.scope.kind = .module) : ∀ (l : List IntD) {rest : List Stmt} {F : List (Str × Rel)} {mg : Str → Option Value} {s : Shared} {Q : Flow → Shared → Prop} (_ : WS prog s0 mg0 c Pl F L mg s) (_ : intsOk prog l (F.map (·.1)) = true)
    (_ : ∀ mg' s2, WS prog s0 mg0 c Pl (withInts l F) L mg' s2 → wpAny (model prog w) A (execs rest (mainEnv prog c Fr)) Q E s2), wpAny (model prog w) A (execs (l.map IntD.st ++ rest) (mainEnv prog c Fr)) Q E s := by
  intro l
  induction l with
  | nil => intro rest F mg s Q X ok k; exact k mg s X
  | cons d l ih =>
    intro rest F mg s Q X ok k
    obtain ⟨ok, h4⟩ := Bool.and_eq_true_iff.mp (show (_ && intsOk prog l (d.x :: F.map (·.1))) = true from ok)
    obtain ⟨ok, h3⟩ := Bool.and_eq_true_iff.mp ok
    obtain ⟨h1, h2⟩ := Bool.and_eq_true_iff.mp ok
    refine r_assign (rInt d.n) X (fun Q' hQ => wpAny_Constant_int (hQ _ _ _ (fun _ _ e => e) ⟨_, rfl⟩)) (fun mg' s2 X2 => ?_) hmod (eq_of_beq h1) (bne_iff_ne.mp h2) ((Bool.not_eq_true' _).mp h3)
    refine ih X2 h4 fun mg' s3 X3 => k mg' s3 ?_
    have e : withInts (d :: l) F = withInts l ((d.x, rInt d.n) :: F) := by simp [withInts]
    rw [e]; exact X3
end
end Mine
end

section
open PySem PySem.W PyProof.Rows PySem.Calls
set_option maxRecDepth 100000
set_option linter.unusedSectionVars false
set_option genInjectivity false
namespace Mine

section
variable {prog : Program} {w : World} {A : Around} {E : Value → Shared → Prop} {s0 s : Shared} {c Pl Fr : Addr} {mg0 mg mb : Str → Option Value} {F : List (Str × Rel)} {L : List (Nat × Nat)}

/-! displays of constants -/
def isS (x : Str) : Value → Prop := fun v => ∃ t, v = .str x t
def isN (n : Int) : Value → Prop := fun v => ∃ t, v = .int n t
theorem standIn' {M : Model} {m : Sem Value} {p : Pos} {Q : Value → Shared → Prop} (h : wpAny M A m Q E s) : wpAny M A (do let x ← m; standAt p; pure x) Q E s :=
  wpAny_bind (wpAny_mono h (fun _ _ q => wpAny_bind (wpAny_standAt (wpAny_pure q))) fun _ _ x => x)

def LitD.key (d : LitD) : Option Expr := some (.Constant (.int d.n) d.k d.p)
def LitD.val (d : LitD) : Expr := .Constant (.str d.x) d.k2 d.p2
theorem lit_ev {env : Env} {pos : Pos} {h0 : Heap} (l : List LitD) :
    PairsEv (intKind prog w) A h0 (pairTrees (l.map LitD.key) (l.map LitD.val) env pos) (l.map fun d => (d.n, isS d.x)) ∧ (l.map LitD.key).all (·.isSome) = true ∧ (l.map LitD.key).length = (l.map LitD.val).length := by
  refine ⟨?_, by simp [LitD.key], by rw [List.length_map, List.length_map]⟩
  induction l with
  | nil => exact .nil
  | cons d l ih =>
    refine .cons ⟨fun E s _ Q h => ?_, fun E s _ Q h => ?_⟩ ih
    · show wpAny _ _ (eval (.Constant (.int d.n) d.k d.p) env) Q E s
      refine wpAny_Constant_int ?_
      exact h _ _ (intKind_is _ _ _ _)
    · show wpAny _ _ (do let z ← eval (.Constant (.str d.x) d.k2 d.p2) env; standAt pos; pure z) Q E s
      refine standIn' (Calls.Constant_str ?_)
      exact h _ _ ⟨_, rfl⟩

/-- str keys, names of globals -/
structure NameD where
  x : Str
  k : Nat
  p : Pos
  y : Str
  p2 : Pos
  n : Int
def NameD.key (d : NameD) : Option Expr := some (.Constant (.str d.x) d.k d.p)
def NameD.val (d : NameD) : Expr := .Name d.y d.p2
theorem name_ev {env : Env} {pos : Pos} {h0 : Heap} (hk : env.scope.kind = .module) (hl : env.locals = env.globals) (g : h0.Ns env.globals mg) (l : List NameD) (hv : ∀ d ∈ l, (d.y == ("__debug__" : Str)) = false ∧ ∃ t, mg d.y = some (.int d.n t)) :
    PairsEv (strKind prog w) A h0 (pairTrees (l.map NameD.key) (l.map NameD.val) env pos) (l.map fun d => (d.x, isN d.n)) ∧ (l.map NameD.key).all (·.isSome) = true ∧ (l.map NameD.key).length = (l.map NameD.val).length := by
  refine ⟨?_, by simp [NameD.key], by rw [List.length_map, List.length_map]⟩
  induction l with
  | nil => exact .nil
  | cons d l ih =>
    obtain ⟨hd, t, ht⟩ := hv d (List.mem_cons_self ..)
    refine .cons ⟨fun E s _ Q h => ?_, fun E s hx Q h => ?_⟩ (ih fun d hd => hv d (List.mem_cons_of_mem _ hd))
    · show wpAny _ _ (eval (.Constant (.str d.x) d.k d.p) env) Q E s
      refine Calls.Constant_str ?_
      exact h _ _ (strKind_is _ _ _ _)
    · show wpAny _ _ (do let z ← eval (.Name d.y d.p2) env; standAt pos; pure z) Q E s
      refine standIn' (Calls.Name_module hk hl (Calls.loadGlobal_global (g.keeps hx) ht ?_) hd)
      exact h _ s.toks ⟨_, rfl⟩

/-- what a display leaves -/
def rDict {K : Type} [DecidableEq K] (knd : KeyKind prog w K) (spec : List (K × (Value → Prop))) : Rel :=
  ⟨fun Pl h v => ∃ a kvs, v = .ref a ∧ a ≠ Pl ∧ a ≠ mainGlobals ∧ a ≠ sysModules ∧ h.DictOf knd a kvs ∧ Fits spec kvs,
   fun Pl h h' v k r => by
    obtain ⟨a, kvs, h1, h2, h3, h4, ⟨o, es, ep, ho, q⟩, h6⟩ := r
    exact ⟨a, kvs, h1, h2, h3, h4, ⟨o, es, ep, k _ _ h2 h3 ho, q⟩, h6⟩⟩

theorem ev_display {K : Type} [DecidableEq K] {knd : KeyKind prog w K} {keys : List (Option Expr)} {values : List Expr} {pos : Pos} {env : Env} {spec : List (K × (Value → Prop))}
    (hP : s.heap.get? Pl ≠ none) (hG : s.heap.get? mainGlobals ≠ none) (hS : s.heap.get? sysModules ≠ none) (h0 : keys ≠ [])
    (es : PairsEv knd A s.heap (pairTrees keys values env pos) spec ∧ keys.all (·.isSome) = true ∧ keys.length = values.length) (hn : (spec.map (·.1)).Nodup) (hsz : spec.length ≤ sizeLine)
    {Q : Value → Shared → Prop} (hQ : ∀ v h' tk, (∀ b o, s.heap.get? b = some o → h'.get? b = some o) → (rDict knd spec).R Pl h' v → Q v { s with heap := h', toks := tk }) :
    wpAny (model prog w) A (eval (.Dict keys values pos) env) Q E s := by
  have hp0 : pairTrees keys values env pos ≠ [] := by
    intro he
    have hn := pairTrees_length keys values env pos es.2.1 es.2.2
    rw [he] at hn
    exact h0 (List.length_eq_zero_iff.mp hn.symm)
  rw [arm_eval_Dict, zip_pairTrees keys values env pos es.2.1 es.2.2]
  refine wpAny_bind (wpAny_standAt (wp_dictDisplay (h0 := s.heap) hS hp0 es.1 (fun _ _ e => e) hn hsz fun d h' tk kvs hf hd hd0 hx => ?_))
  refine hQ _ h' tk hx ⟨d, kvs, rfl, ?_, ?_, ?_, hd, hf⟩
  · rintro rfl; exact hP hd0
  · rintro rfl; exact hG hd0
  · rintro rfl; exact hS hd0

/-! the set -/
theorem spliced_ints {env : Env} : ∀ (l : List (Int × Nat × Pos)) (s : Shared) (Q : List Value → Shared → Prop), (∀ vs tk, IntsAre vs (l.map (·.1)) → Q vs { s with toks := tk }) →
    wpAny (model prog w) A (spliced (l.map fun d => (false, eval (.Constant (.int d.1) d.2.1 d.2.2) env))) Q E s := by
  intro l
  induction l with
  | nil => intro s Q h; exact Calls.spliced_nil (h [] s.toks .nil)
  | cons d l ih =>
    intro s Q h
    refine Calls.spliced_cons (wpAny_Constant_int ?_)
    exact ih _ _ fun vs tk hvs => h _ _ (.cons _ _ hvs)

theorem ints_append : ∀ {vs ws : List Value} {ns ms : List Int}, IntsAre vs ns → IntsAre ws ms → IntsAre (vs ++ ws) (ns ++ ms)
  | _, _, _, _, .nil, b => b
  | _, _, _, _, .cons n t a, b => .cons n t (ints_append a b)
theorem ints_of_items {a : Int} : ∀ (n : Nat) (vs : List Value) (i : Nat), vs.length = n → (∀ j v, vs[j]? = some v → ∃ t, v = Value.int (a + ((i + j : Nat) : Int)) t) → IntsAre vs ((List.range' i n).map fun (j : Nat) => a + (j : Int))
  | 0, vs, i, hl, _ => by have : vs = [] := List.length_eq_zero_iff.mp hl
                          subst this; exact .nil
  | n + 1, [], i, hl, _ => by simp at hl
  | n + 1, v :: vs, i, hl, h => by
    obtain ⟨t, rfl⟩ := h 0 v rfl
    rw [List.range'_succ, List.map_cons]
    refine .cons _ _ (ints_of_items n vs (i + 1) (by simpa using hl) fun j v hv => ?_)
    have := h (j + 1) v (by simpa using hv)
    rwa [show i + (j + 1) = i + 1 + j by (exact om578)] at this

def rSet (prog : Program) (w : World) (S : Int → Bool) : Rel :=
  ⟨fun Pl h v => ∃ a n, v = .ref a ∧ a ≠ Pl ∧ a ≠ mainGlobals ∧ a ≠ sysModules ∧ h.SetOf (intKind prog w) a S n,
   fun Pl h h' v k r => by
    obtain ⟨a, n, h1, h2, h3, h4, ⟨o, es, ep, t, ho, q⟩⟩ := r
    exact ⟨a, n, h1, h2, h3, h4, ⟨o, es, ep, t, k _ _ h2 h3 ho, q⟩⟩⟩
end
end Mine
end

section
open PySem PySem.W PyProof.Rows PySem.Calls
set_option maxRecDepth 100000
set_option linter.unusedSectionVars false
namespace Mine
section
variable {prog : Program} {w : World} {A : Around} {E : Value → Shared → Prop} {s0 s : Shared} {c Pl Fr : Addr} {mg0 mg mb : Str → Option Value}

theorem b1_any (k : Int) : (([173, 847, 6150, 6155, 6156, 6157, 8203, 8204, 8205, 8288, 65279] : List Int) ++ (List.range' 0 16).map (fun (j : Nat) => (65024 : Int) + (j : Int))).any (· == k) = b1Fn k := by
  rw [List.any_append]
  unfold b1Fn
  congr 1
  · rw [List.contains_eq_any_beq]
    refine congrFun (congrArg List.any rfl) _ |>.trans ?_
    congr 1
    funext x
    exact Bool.beq_comm
  · rw [Bool.eq_iff_iff]
    simp only [List.any_map, List.any_eq_true, Function.comp, beq_iff_eq, Bool.and_eq_true, decide_eq_true_eq, List.mem_range'_1]
    constructor
    · rintro ⟨j, hj, rfl⟩; (exact om579 hj)
    · rintro ⟨h1, h2⟩; exact ⟨(k - 65024).toNat, by (exact om580 h2), by (exact om581 h1)⟩

theorem ev_tset {p0 p1 p2 p3 p4 p5 p6 p7 p8 p9 : Pos} {k1 k2 : Nat} {es : List Expr} {dl : List (Int × Nat × Pos)} (hmod : prog.main.scope.kind = .module) (hh : A.handled = none) (g : s.heap.Ns mainGlobals mg) (b : s.heap.Ns builtinsNs mb)
    (m1 : mg "set" = none) (m2 : mg "list" = none) (m3 : mg "range" = none) (b1 : mb "set" = some (.type "set")) (b2 : mb "list" = some (.type "list")) (b3 : mb "range" = some (.type "range"))
    (he : dl.map (·.1) = [173, 847, 6150, 6155, 6156, 6157, 8203, 8204, 8205, 8288, 65279]) (hst : backTo p3 (starEach es (mainEnv prog c Fr)) = dl.map fun d => (false, eval (.Constant (.int d.1) d.2.1 d.2.2) (mainEnv prog c Fr)))
    (hP : Pl < s.heap.objs.size) (hG : mainGlobals < s.heap.objs.size) (hS : sysModules < s.heap.objs.size)
    {Q : Value → Shared → Prop} (hQ : ∀ v h' tk, (∀ b o, s.heap.get? b = some o → h'.get? b = some o) → (rSet prog w b1Fn).R Pl h' v → Q v { s with heap := h', toks := tk }) :
    wpAny (model prog w) A (eval (.Call (.Name "set" p1) [.BinOp (.List es p3) .Add (.Call (.Name "list" p4) [.Call (.Name "range" p5) [.Constant (.int 65024) k1 p6, .Constant (.int 65040) k2 p7] [] p8] [] p9) p2] [] p0) (mainEnv prog c Fr)) Q E s := by
  have hk : (mainEnv prog c Fr).scope.kind = .module := hmod
  have hl : (mainEnv prog c Fr).locals = (mainEnv prog c Fr).globals := rfl
  refine wpAny_Call_NameR (Calls.Name_module hk hl (Calls.loadGlobal_builtin g m1 b b1 ?_))
  refine PySem.callWith_type rfl (Calls.evalArgs_plain (Calls.spliced_cons (wpAny_BinOp (List_ ?_))))
  rw [hst]
  refine spliced_ints dl s _ fun vs tk1 hvs => ?_
  rw [he] at hvs
  have hvl : vs.length = 11 := by rw [IntsAre.length hvs]; rfl
  refine wpAny_newObj_type (T := "list") ?_ (by show vs.toArray.size ≤ sizeLine; rw [List.size_toArray, sizeLine_eq]; (exact om582 hvl))
  let h1 : Heap := s.heap.push { cls := .type "list", data := .seq vs.toArray }
  have kp1 : ∀ b o, s.heap.get? b = some o → h1.get? b = some o := fun b o e => Heap.get?_push_of_some _ e
  have il1 : IsL h1 s.heap.objs.size vs.toArray 0 := Heap.get?_push_size _ rfl
  refine wpAny_Call_NameR (Calls.Name_module hk hl (Calls.loadGlobal_builtin (g.keeps kp1) m2 (b.keeps kp1) b2 ?_))
  refine PySem.callWith_type rfl (Calls.evalArgs_plain (Calls.spliced_cons ?_))
  refine wpAny_Call_NameR (Calls.Name_module hk hl (Calls.loadGlobal_builtin (g.keeps kp1) m3 (b.keeps kp1) b3 ?_))
  refine PySem.callWith_type rfl (Calls.evalArgs_plain (Calls.spliced_cons (wpAny_Constant_int (pos := p6) (k := k1) (Calls.spliced_cons (wpAny_Constant_int (pos := p7) (k := k2) (Calls.spliced_nil ?_))))))
  refine call_range_2 ?_
  refine Calls.spliced_nil ?_
  let h2 : Heap := h1.push { cls := .type "range", data := .fields #[.int 65024 tk1, .int 65040 (tk1 + 1), .int 1 (tk1 + 1 + 1)] }
  have kp2 : ∀ b o, s.heap.get? b = some o → h2.get? b = some o := fun b o e => Heap.get?_push_of_some _ (kp1 b o e)
  have il2 : IsL h2 s.heap.objs.size vs.toArray 0 := Heap.get?_push_of_some _ il1
  have ir : IsRange h2 h1.objs.size 65024 65040 1 tk1 (tk1 + 1) (tk1 + 1 + 1) := Heap.get?_push_size _ rfl
  refine call_list_range (n := 16) hh ir (by decide +kernel) (by decide +kernel) (by decide) fun h3 tk3 acc c3 kp il acc16 => ?_
  have kp3 : ∀ b o, s.heap.get? b = some o → h3.get? b = some o := fun b o e => kp b o (kp2 b o e)
  have il3 : IsL h3 s.heap.objs.size vs.toArray 0 := kp _ _ il2
  refine P.add_list il3 il ?_ (by rw [List.size_toArray, acc16.1, sizeLine_eq]; (exact om583 hvl))
  refine Calls.spliced_nil ?_
  have hacc : IntsAre acc.toList ((List.range' 0 16).map fun (j : Nat) => (65024 : Int) + (j : Int)) := by
    refine ints_of_items 16 acc.toList 0 (by simpa using acc16.1) fun j v hv => ?_
    obtain ⟨t, ht⟩ := acc16.2 j v (by rw [← hv]; simp)
    exact ⟨t, by rw [ht]; simp⟩
  have hints : IntsAre (vs.toArray ++ acc).toList (([173, 847, 6150, 6155, 6156, 6157, 8203, 8204, 8205, 8288, 65279] : List Int) ++ (List.range' 0 16).map fun (j : Nat) => (65024 : Int) + (j : Int)) := by
    rw [Array.toList_append]; exact ints_append hvs hacc
  have hsz : (vs.toArray ++ acc).size = 27 := by rw [Array.size_append, List.size_toArray, hvl, acc16.1]
  refine PySem.call_set_list (items := vs.toArray ++ acc) hh ⟨_, Heap.get?_push_size _ rfl, rfl, 0, rfl⟩ hints (by rw [hsz]; decide) fun h4 tk4 hset kp4 => ?_
  have kp5 : ∀ b o, s.heap.get? b = some o → h4.get? b = some o := fun b o e => kp4 b o (Nat.lt_of_lt_of_le (Heap.lt_size (kp3 b o e)) (by rw [Heap.size_push]; exact Nat.le_succ _)) (Heap.get?_push_of_some _ (kp3 b o e))
  have hle : s.heap.objs.size < (h3.push { cls := Value.type "list", data := Data.seq (vs.toArray ++ acc) }).objs.size := by
    rw [Heap.size_push]; exact Nat.lt_succ_of_lt (Heap.lt_size il3)
  refine hQ _ h4 tk4 kp5 ⟨_, _, rfl, Nat.ne_of_gt (Nat.lt_trans hP hle), Nat.ne_of_gt (Nat.lt_trans hG hle), Nat.ne_of_gt (Nat.lt_trans hS hle), SetOf_congr hset (fun k => ?_) rfl⟩
  rw [hsz, firstMet_any, ← b1_any k]
  congr 1
end
end Mine
end

section
open PySem PySem.W PyProof.Rows PySem.Calls
set_option maxRecDepth 100000
set_option linter.unusedSectionVars false
namespace Mine

/-! the top of the program, statement by statement -/
def asc : List Int → Bool
  | a :: b :: r => decide (a < b) && asc (b :: r)
  | _ => true
theorem asc_all : ∀ (l : List Int) (a : Int), asc (a :: l) = true → ∀ x ∈ l, a < x
  | [], a, _, x, h => nomatch h
  | b :: r, a, h, x, hx => by
    unfold asc at h
    obtain ⟨h1, h2⟩ := Bool.and_eq_true_iff.mp h
    have h1 := of_decide_eq_true h1
    rcases List.mem_cons.mp hx with rfl | hx
    · exact h1
    · exact Int.lt_trans h1 (asc_all r b h2 x hx)
theorem asc_nodup : ∀ l : List Int, asc l = true → l.Nodup
  | [], _ => List.nodup_nil
  | [a], _ => by simp
  | a :: b :: r, h => by
    refine List.nodup_cons.mpr ⟨fun hm => Int.lt_irrefl _ (asc_all _ _ h _ hm), asc_nodup (b :: r) ?_⟩
    unfold asc at h
    exact (Bool.and_eq_true_iff.mp h).2

theorem mem_withInts (l : List IntD) (F : List (Str × Rel)) : (∀ p ∈ F, p ∈ withInts l F) ∧ ∀ x n, (x, n) ∈ l.map (fun d => (d.x, d.n)) → (x, rInt n) ∈ withInts l F := by
  refine ⟨fun p hp => List.mem_append_right _ hp, fun x n h => List.mem_append_left _ (List.mem_reverse.mpr ?_)⟩
  obtain ⟨d, hd, e⟩ := List.mem_map.mp h
  cases e
  exact List.mem_map.mpr ⟨d, hd, rfl⟩

def intD : List IntD := ((P.main.body.drop 10).take 50).filterMap fun st => match st with
  | .Assign [.Name x p1] (.Constant (.int n) k p2) p3 => some ⟨x, p1, n, k, p2, p3⟩
  | _ => none
def tokD : List NameD := match P.main.body[60]? with
  | some (Stmt.Assign _ (Expr.Dict ks vs _) _) => (ks.zip vs).filterMap fun p => match p with
    | (some (.Constant (.str x) k p), .Name y p2) => some ⟨x, k, p, y, p2, ((intD.find? fun d => d.x == y).map (·.n)).getD 0⟩
    | _ => none
  | _ => []
def specB3 : List (Int × (Value → Prop)) := b3Pairs.map fun p => (p.1, isS p.2)
def specTok : List (Str × (Value → Prop)) := tokPairs.map fun p => (p.1, isN p.2)
def F9 (w : World) : List (Str × Rel) := [("map_table_b3", rFn P 8), ("b3_exceptions", rDict (intKind P w) specB3), ("in_table_b1", rFn P 6), ("b1_set", rSet P w b1Fn), ("_v", rFn P 3), ("TWO_THIRD", rFlt twoThird), ("ONE_SIXTH", rFlt oneSixth)]
def topF (w : World) : List (Str × Rel) :=
  ("law", rFn P 75) :: ("_law_rows", rFn P 74) :: ("_law_chances", rFn P 73) :: ("_law_pieces", rFn P 72) :: ("_law_sizes", rFn P 71) :: ("_law_read", rFn P 70) :: ("_law_apply", rFn P 69) :: ("_law_node", rFn P 68) :: ("_law_prepared", rFn P 67) ::
  ("_law_formula", rFn P 66) :: ("_law_joined", rFn P 65) :: ("ISEOF", rFn P 63) :: ("ISNONTERMINAL", rFn P 62) :: ("ISTERMINAL", rFn P 61) :: ("EXACT_TOKEN_TYPES", rDict (strKind P w) specTok) :: withInts intD (F9 w)

section
variable {w : World} {A : Around} {E : Value → Shared → Prop} {s0 s : Shared} {c Pl Fr : Addr} {mg0 mg mb : Str → Option Value} {F : List (Str × Rel)} {L : List (Nat × Nat)}

theorem stInts : P.main.body.drop 10 = intD.map IntD.st ++ P.main.body.drop 60 := by kernel_rfl
theorem specB3_eq : (b3D.map fun d => (d.n, isS d.x)) = specB3 := by
  have e : b3D.map (fun d => (d.n, d.x)) = b3Pairs := by decide +kernel
  unfold specB3
  rw [← e, List.map_map]
  rfl
theorem specTok_eq : (tokD.map fun d => (d.x, isN d.n)) = specTok := by
  have e : tokD.map (fun d => (d.x, d.n)) = tokPairs := by decide +kernel
  unfold specTok
  rw [← e, List.map_map]
  rfl
theorem tok_names : ∀ d ∈ tokD, (d.y == ("__debug__" : Str)) = false ∧ (d.y, d.n) ∈ intD.map (fun d => (d.x, d.n)) := by
  have e : (tokD.all fun d => !(d.y == ("__debug__" : Str)) && (intD.map fun d => (d.x, d.n)).contains (d.y, d.n)) = true := by decide +kernel
  intro d hd
  obtain ⟨a, b⟩ := Bool.and_eq_true_iff.mp (List.all_eq_true.mp e d hd)
  exact ⟨(Bool.not_eq_true' _).mp a, List.contains_iff_mem.mp b⟩
theorem st7 : ∃ D : List LitD, P.main.body[7]? = some (.Assign [.Name "b3_exceptions" ⟨17, 0, 17, 13⟩] (.Dict (D.map LitD.key) (D.map LitD.val) ⟨17, 16, 17, 8704⟩) ⟨17, 0, 17, 8704⟩) ∧ (D.map fun d => (d.n, isS d.x)) = specB3 ∧ D.map LitD.key ≠ [] :=
  ⟨b3D, by kernel_rfl, specB3_eq, fun e => absurd (congrArg List.length e) (by decide +kernel)⟩
theorem st60 : ∃ D : List NameD, P.main.body[60]? = some (.Assign [.Name "EXACT_TOKEN_TYPES" ⟨74, 0, 74, 17⟩] (.Dict (D.map NameD.key) (D.map NameD.val) ⟨74, 20, 74, 757⟩) ⟨74, 0, 74, 757⟩) ∧ (D.map fun d => (d.x, isN d.n)) = specTok ∧ D.map NameD.key ≠ [] ∧
    ∀ d ∈ D, (d.y == ("__debug__" : Str)) = false ∧ (d.y, d.n) ∈ intD.map (fun d => (d.x, d.n)) :=
  ⟨tokD, by kernel_rfl, specTok_eq, fun e => absurd (congrArg List.length e) (by decide +kernel), tok_names⟩
theorem b3_asc : asc (b3Pairs.map (·.1)) = true := by decide +kernel
theorem b3_nodup : (specB3.map (·.1)).Nodup := by
  unfold specB3
  rw [List.map_map]
  exact asc_nodup _ b3_asc
theorem tok_nodup : (specTok.map (·.1)).Nodup := by
  unfold specTok
  rw [List.map_map]
  exact (by decide +kernel : (tokPairs.map (·.1)).Nodup)
end
end Mine
end

section
open PySem PySem.W PyProof.Rows PySem.Calls
set_option maxRecDepth 100000
set_option linter.unusedSectionVars false
namespace Mine
section
variable {w : World} {A : Around} {E : Value → Shared → Prop} {s0 s : Shared} {c Pl Fr : Addr} {mg0 mg mb : Str → Option Value} {F : List (Str × Rel)} {L : List (Nat × Nat)}

theorem MS.live {mgx : Str → Option Value} {l : List (Pos × Addr)} (m : MS s0 c Pl mgx l s) : s.heap.get? Pl ≠ none ∧ s.heap.get? mainGlobals ≠ none := by
  refine ⟨?_, ?_⟩
  · obtain ⟨o, vs, file, tf, flags, tg, inF, text, tt, op, _, _, _, _, _, _, _, h, _⟩ := m.main.code
    rw [h]; exact fun e => nomatch e
  · obtain ⟨o, _, _, h, _⟩ := m.main.g
    rw [h]; exact fun e => nomatch e
theorem live_lt {h : Heap} {a : Addr} (x : h.get? a ≠ none) : a < h.objs.size := by
  cases e : h.get? a with
  | none => exact absurd e x
  | some o => exact Heap.lt_size e
theorem ev_float {env : Env} {x : UInt64} {k : Nat} {pos : Pos} {Q : Value → Shared → Prop} (h : Q (.float x s.toks) { s with toks := s.toks + 1 }) : wpAny (model P w) A (eval (.Constant (.float x) k pos) env) Q E s := fun _ _ _ => h
theorem ev_div {env : Env} {a b : UInt64} {k1 k2 : Nat} {p1 p2 p3 : Pos} (hb : ¬ Float64.isZero b = true) {Q : Value → Shared → Prop} (hQ : ∀ v h' tk, (∀ b o, s.heap.get? b = some o → h'.get? b = some o) → (rFlt (Float64.div a b)).R Pl h' v → Q v { s with heap := h', toks := tk }) :
    wpAny (model P w) A (eval (.BinOp (.Constant (.float a) k1 p1) .Div (.Constant (.float b) k2 p2) p3) env) Q E s := by
  refine wpAny_BinOp (ev_float (ev_float (AutoFloatOps.truediv_1 hb ?_)))
  exact hQ _ _ _ (fun _ _ e => e) ⟨_, rfl⟩

set_option maxHeartbeats 4000000 in
theorem top_walk (hh : A.handled = none) (ms : MS s0 c Pl mg0 [] s0) (hb : s0.heap.Ns builtinsNs mb) (hsys : s0.heap.get? sysModules ≠ none)
    (m1 : mg0 "set" = none) (m2 : mg0 "list" = none) (m3 : mg0 "range" = none) (b1 : mb "set" = some (.type "set")) (b2 : mb "list" = some (.type "list")) (b3 : mb "range" = some (.type "range")) {Q : Flow → Shared → Prop}
    (k : ∀ L mg' s2, WS P s0 mg0 c Pl (topF w) L mg' s2 → Q .next s2) : wpAny (model P w) A (execs P.main.body (mainEnv P c Fr)) Q E s0 := by
  have X : WS P s0 mg0 c Pl [] [] mg0 s0 := ⟨⟨[], ms, rfl⟩, (fun _ h => nomatch h), fun _ _ => rfl⟩
  show wpAny (model P w) A (execs (P.main.body.drop 0) (mainEnv P c Fr)) Q E s0
  -- 0 __name__
  rw [at_drop (prog := P) (i := 0) rfl]
  refine r_skip X (fun Q' hQ => Calls.Constant_str (hQ _ _ _ (fun _ _ e => e))) fun mg1 s1 X => ?_
  -- 1, 2
  rw [at_drop (prog := P) (i := 1) rfl]
  refine r_assign (rFlt oneSixth) X (fun Q' hQ => ev_div (by decide +kernel) hQ) fun mg2 s2 X => ?_
  rw [at_drop (prog := P) (i := 2) rfl]
  refine r_assign (rFlt twoThird) X (fun Q' hQ => ev_div (by decide +kernel) hQ) fun mg3 s3 X => ?_
  -- 3 _v
  refine r_def (i := 3) rfl X fun mg4 s4 X => ?_
  rw [at_drop (prog := P) (i := 4) rfl]
  refine r_skip X (fun Q' hQ => Calls.Constant_str (hQ _ _ _ (fun _ _ e => e))) fun mg5 s5 X => ?_
  -- 5 b1_set
  rw [at_drop (prog := P) (i := 5) rfl]
  refine r_assign (rSet P w b1Fn) X (fun Q' hQ => ?_) fun mg6 s6 X => ?_
  · obtain ⟨l, m, _⟩ := X.ms
    have kb : builtinsNs ≠ Pl := Nat.ne_of_lt (Nat.lt_trans (by decide) m.main.low.2)
    have ks : sysModules ≠ Pl := Nat.ne_of_lt (Nat.lt_trans (by decide) m.main.low.2)
    have hsys' : s5.heap.get? sysModules ≠ none := by
      cases e : s0.heap.get? sysModules with
      | none => exact absurd e hsys
      | some o => rw [m.keep _ _ ks (by decide) e]; exact fun e => nomatch e
    refine ev_tset (dl := [(173, 0, ⟨14, 14, 14, 17⟩), (847, 0, ⟨14, 19, 14, 22⟩), (6150, 0, ⟨14, 24, 14, 28⟩), (6155, 0, ⟨14, 30, 14, 34⟩), (6156, 0, ⟨14, 36, 14, 40⟩), (6157, 0, ⟨14, 42, 14, 46⟩), (8203, 0, ⟨14, 48, 14, 52⟩), (8204, 0, ⟨14, 54, 14, 58⟩), (8205, 0, ⟨14, 60, 14, 64⟩), (8288, 0, ⟨14, 66, 14, 70⟩), (65279, 0, ⟨14, 72, 14, 77⟩)]) rfl hh m.main.g (hb.at fun o => m.keep _ o kb (by decide)) ((X.rest _ (by decide +kernel)).trans m1) ((X.rest _ (by decide +kernel)).trans m2) ((X.rest _ (by decide +kernel)).trans m3) b1 b2 b3 rfl rfl
      (live_lt m.live.1) (live_lt m.live.2) (live_lt hsys') hQ
  refine r_def (i := 6) rfl X fun mg7 s7 X => ?_
  -- 7 b3_exceptions
  obtain ⟨D7, h7, e7, n7⟩ := st7
  rw [at_drop (prog := P) (i := 7) h7]
  refine r_assign (rDict (intKind P w) specB3) X (fun Q' hQ => ?_) fun mg8 s8 X => ?_
  · obtain ⟨l, m, _⟩ := X.ms
    have ks : sysModules ≠ Pl := Nat.ne_of_lt (Nat.lt_trans (by decide) m.main.low.2)
    have hsys' : s7.heap.get? sysModules ≠ none := by
      cases e : s0.heap.get? sysModules with
      | none => exact absurd e hsys
      | some o => rw [m.keep _ _ ks (by decide) e]; exact fun e => nomatch e
    exact ev_display m.live.1 m.live.2 hsys' n7 (e7 ▸ lit_ev D7) b3_nodup (by rw [sizeLine_eq]; decide +kernel) hQ
  refine r_def (i := 8) rfl X fun mg9 s9 X => ?_
  rw [at_drop (prog := P) (i := 9) rfl]
  refine r_skip X (fun Q' hQ => Calls.Constant_str (hQ _ _ _ (fun _ _ e => e))) fun mg10 s10 X => ?_
  -- the numbers
  rw [stInts]
  refine r_ints rfl intD X (by kernel_rfl) fun mg60 s60 X => ?_
  obtain ⟨D60, h60, e60, n60, tn⟩ := st60
  rw [at_drop (prog := P) (i := 60) h60]
  refine r_assign (rDict (strKind P w) specTok) X (fun Q' hQ => ?_) (fun mg61 s61 X => ?_) 
  · obtain ⟨l, m, _⟩ := X.ms
    have ks : sysModules ≠ Pl := Nat.ne_of_lt (Nat.lt_trans (by decide) m.main.low.2)
    have hsys' : s60.heap.get? sysModules ≠ none := by
      cases e : s0.heap.get? sysModules with
      | none => exact absurd e hsys
      | some o => rw [m.keep _ _ ks (by decide) e]; exact fun e => nomatch e
    refine ev_display m.live.1 m.live.2 hsys' n60 (e60 ▸ name_ev rfl rfl m.main.g D60 fun d hd => ⟨(tn d hd).1, ?_⟩) tok_nodup (by rw [sizeLine_eq]; decide +kernel) hQ
    obtain ⟨v, hv, hr⟩ := X.facts _ ((mem_withInts intD _).2 _ _ (tn d hd).2)
    obtain ⟨t, rfl⟩ := hr
    exact ⟨t, hv⟩
  refine r_def (i := 61) rfl X (fun mg62 s62 X => ?_) 
  refine r_def (i := 62) rfl X (fun mg63 s63 X => ?_) 
  refine r_def (i := 63) rfl X (fun mg64 s64 X => ?_) 
  rw [at_drop (prog := P) (i := 64) rfl]
  refine r_skip X (fun Q' hQ => Calls.Constant_str (hQ _ _ _ (fun _ _ e => e))) (fun mg65 s65 X => ?_) 
  refine r_def (i := 65) rfl X (fun mg66 s66 X => ?_) 
  refine r_def (i := 66) rfl X (fun mg67 s67 X => ?_) 
  refine r_def (i := 67) rfl X (fun mg68 s68 X => ?_) 
  refine r_def (i := 68) rfl X (fun mg69 s69 X => ?_) 
  refine r_def (i := 69) rfl X (fun mg70 s70 X => ?_) 
  refine r_def (i := 70) rfl X (fun mg71 s71 X => ?_) 
  refine r_def (i := 71) rfl X (fun mg72 s72 X => ?_) 
  refine r_def (i := 72) rfl X (fun mg73 s73 X => ?_) 
  refine r_def (i := 73) rfl X (fun mg74 s74 X => ?_) 
  refine r_def (i := 74) rfl X (fun mg75 s75 X => ?_) 
  refine r_def (i := 75) rfl X (fun mg76 s76 X => ?_) 
  rw [show P.main.body.drop 76 = [] from rfl]
  exact wpAny_execs_nil (k _ _ _ X)
end
end Mine
end

section
open PySem PySem.W PyProof.Rows PySem.Calls
set_option maxRecDepth 100000
set_option linter.unusedSectionVars false
namespace Mine

/-! from the logic to the machine: a thread that comes through -/
theorem halt_through {prog : Program} {w : World} {s s' : Shared} {t : Thread} {f : Flow} (hc : t.calm = true) (h : step (denote table) prog w s t = .halt (.done f) s') : through t = true := by
  have hl : t.loud = false := by
    rw [Thread.calm_eq] at hc
    cases e : t.loud with
    | false => rfl
    | true => rw [e] at hc; cases hc
  have e := stepK_forget (denote table) prog w s t
  rw [h] at e
  obtain ⟨cur, code, pos, st⟩ := t
  cases hk : stepK (denote table) prog w s ⟨cur, code, pos, st⟩ with
  | go s2 t2 => rw [hk] at e; cases e
  | halt o s2 =>
    rw [hk] at e
    injection e with e1 _
    subst e1
    obtain ⟨rfl, rfl, _⟩ := step_halt_result (M := model prog w) (r := .ok f) ((stepI_quiet _ _ _ hl).trans hk)
    rfl

theorem runN_last {den : Code → Sem Fin} {prog : Program} {w : World} : ∀ (n : Nat) (s : Shared) (t : Thread) (o : Outcome) (s' : Shared), runN den prog w n s t = .halted o s' →
    ∃ m s2 t2, runN den prog w m s t = .running s2 t2 ∧ step den prog w s2 t2 = .halt o s'
  | 0, s, t, o, s', h => by cases h
  | n + 1, s, t, o, s', h => by
    simp only [runN] at h
    cases hs : step den prog w s t with
    | go s₂ t₂ =>
      simp only [hs] at h
      obtain ⟨m, s3, t3, h1, h2⟩ := runN_last n s₂ t₂ o s' h
      exact ⟨m + 1, s3, t3, by simp only [runN, hs]; exact h1, h2⟩
    | halt o₂ s₂ =>
      simp only [hs] at h
      injection h with h1 h2
      subst h1; subst h2
      exact ⟨0, s, t, rfl, hs⟩

theorem thread_through {prog : Program} {w : World} {t : Sem Fin} {s : Shared} {R : Flow → Shared → Prop} (hreg : s.asleep)
    (h : wpAny (model prog w) callerA t (fun fin s' => ∃ f, fin = .done f ∧ R f s' ∧ s'.gens = #[]) (fun _ _ => False) s) :
    ∃ f s' n t', R f s' ∧ s'.gens = #[] ∧ schedN (denote table) prog w n (.single s ⟨t, .builtin "claim.caller" {}, default, []⟩) = .running (.single s' t') ∧ through t' = true ∧ s'.heap.life = s.heap.life := by
  have hw := wp_of_wpAny_done (R := fun r s' => ((∃ f, r = .ok f ∧ R f s') ∧ s'.gens = #[]) ∧ leftWithCleanup s'.gens = false) caller_in
    (wpAny_mono h (fun fin s' q => by
      obtain ⟨f, e, hR, hg⟩ := q
      exact ⟨f, e, ⟨⟨f, rfl, hR⟩, hg⟩, by rw [hg]; simp [leftWithCleanup]⟩) fun _ _ q => q.elim) default
  obtain ⟨n, r, s', hn, ⟨f, rfl, hR⟩, hg⟩ := (wp_iff_halts (M := model prog w) t _ default s).mp hw
  obtain ⟨s'', hr, hf, hc⟩ := runNI_real (denote table) prog w hn (outcomeOf_ends _)
  have hs : s'' = s' := Shared.eq_of_forget_eq hf hg
  subst hs
  obtain ⟨m, s2, t2, h1, h2⟩ := runN_last n _ _ _ _ hr
  have e2 := step_halt_same (denote table) prog w s2 s'' t2 _ h2
  subst e2
  refine ⟨f, s'', m, t2, hR, hg, ?_, halt_through (hc _ _ _ h1) h2, runN_life_running h1⟩
  have hne : ∀ k s₂, runN (denote table) prog w k s ⟨t, .builtin "claim.caller" {}, default, []⟩ ≠ .halted (.unsupported "lifetime:generator-with-cleanup-left-suspended") s₂ := by
    intro k s₂ hk
    have a := runN_mono (denote table) prog w n k s _ _ s'' hr
    have b := runN_mono (denote table) prog w k n s _ _ s₂ hk
    rw [Nat.add_comm, b] at a
    injection a with a1 _
    cases a1
  rw [schedN_eq_runN (denote table) prog w s _ hreg ⟨hc, hne⟩ m, h1]
  rfl
end Mine
end

section
open PySem PySem.W PyProof.Rows PySem.Calls
set_option maxRecDepth 100000
set_option linter.unusedSectionVars false
namespace Mine

/-! the start: the boot of the empty opening -/
def BootS (s : Shared) : Prop := s.gens = #[] ∧ ∃ mb mg c Pl, BootLeft s.heap mb mg c Pl
theorem boot_ok (w : World) : BodyOk (opening P) w BootS := by
  intro h tk mb mg c Pl F hB
  rw [show (opening P).main.body = [] from rfl]
  exact codeAny_body rfl rfl (wpAny_execs_nil ⟨⟨_, rfl⟩, .of hB (fun _ _ _ _ e => e) hB.g, ⟨rfl, mb, mg, c, Pl, hB⟩, rfl⟩)
theorem boot_run (w : World) : (∃ s, AfterImport (opening P) w s) ∧ ∀ s, AfterImport (opening P) w s → BootS s := AfterImport.of_body (boot_ok w)
theorem fence_id (s : Shared) : fenceModules? P s = some s := rfl

/-- what the top leaves -/
structure TopEnd (w : World) (mg mb : Str → Option Value) (s1 : Shared) : Prop where
  ex : ∃ s mg0 c Pl L, WS P s mg0 c Pl (topF w) L mg s1 ∧ (∀ x, x ∉ bootMainNames → mg0 x = none)
  b : s1.heap.Ns builtinsNs mb
  bb : ∀ x : Str, x ≠ "__name__" → mb x = bootBuiltins x
  st : s1.heap.Ns cStatics (fun _ => none)
  gens : s1.gens = #[]
  sys : s1.heap.get? sysModules ≠ none

theorem none_stat (key : Str) {h : Heap} (st : h.Ns cStatics (fun _ => none)) : staticOf h key = none := Pin.staticOf_of_ns st key

theorem top_ran (w : World) {s0 : Shared} (hz : s0.asleep) (B : BootS s0) : ∃ s1, TopRan P w s0 s1 ∧ s1.asleep ∧ ∃ mg mb, TopEnd w mg mb s1 := by
  obtain ⟨hg0, mb, mg0, c0, Pl0, hB⟩ := B
  have hsys0 : s0.heap.get? sysModules ≠ none := by
    obtain ⟨_, ⟨o, _, _, h, _⟩, _⟩ := hB.noThreading
    rw [h]; exact fun e => nomatch e
  have main : wpAny (model P w) callerA (topStub P).cur (fun fin s' => ∃ f, fin = .done f ∧ (s'.os = s0.os ∧ (∀ b o, b ≠ mainGlobals → s0.heap.get? b = some o → s'.heap.get? b = some o) ∧ ∃ mg, TopEnd w mg mb s' ∧ s'.heap.Ns mainGlobals mg ∧ s'.heap.BuiltinsAt mg 0 ∧ ∀ x, P.main.scope.names.lookup x ≠ some .local → mg x = mg0 x) ∧ s'.gens = #[]) (fun _ _ => False) s0 := by
    show wpAny _ _ (do let code ← moduleCode P.main
                       let frame ← newBodyFrame code mainNs mainNs
                       let _ ← run (.body (behindTheImports P) { scope := P.main.scope, locals := mainNs, globals := mainNs, cells := [], code, frame := some frame })
                       ret .none) _ _ _
    refine wpAny_bind (wpAny_moduleCode fun c Pl h1 tk1 hk hc hPl hcode => ?_)
    unfold newBodyFrame
    refine wpAny_bind (wpAny_bind (wpAny_nsGet (hB.g.keeps hk) (wpAny_alloc ?_)))
    refine wpAny_bind (wpAny_run ?_)
    show codeAny _ _ (.body P.main.body (mainEnv P c _)) _ _
    let hs : Heap := h1.push { cls := .type "frame", slots := #[some (.ref c), some (.ref mainNs), some (.ref mainNs), none, some ((mg0 "__name__").getD .none), none, some (.ref builtinsNs)] }
    have kp : ∀ b o, s0.heap.get? b = some o → hs.get? b = some o := fun b o e => Heap.get?_push_of_some _ (hk b o e)
    have ms : MS { s0 with heap := hs, toks := tk1 } c Pl mg0 [] { s0 with heap := hs, toks := tk1 } := by
      refine ⟨⟨hB.g.keeps kp, hcode.push _, ⟨Nat.lt_of_lt_of_le hB.g.lt hc, Nat.lt_of_lt_of_le hB.g.lt hPl⟩, ?_⟩, fun _ _ _ _ e => e, rfl, rfl, rfl⟩
      obtain ⟨bm, o, hbm, hne0, hneG, hneP, hbo, hrest⟩ := hB.bmod
      exact ⟨bm, o, hbm, hne0, hneG, Nat.ne_of_lt (Nat.lt_of_lt_of_le (Heap.lt_size hbo) hPl), kp _ _ hbo, hrest⟩
    have hsys1 : hs.get? sysModules ≠ none := by
      cases e : s0.heap.get? sysModules with
      | none => exact absurd e hsys0
      | some o => rw [kp _ _ e]; exact fun e => nomatch e
    have n0 : ∀ x, x ∉ bootMainNames → mg0 x = none := hB.others
    refine codeAny_body rfl rfl (top_walk rfl ms (hB.b.keeps kp) hsys1 (n0 _ (by decide +kernel)) (n0 _ (by decide +kernel)) (n0 _ (by decide +kernel))
      ((hB.builtins _ (by decide)).trans (by rfl)) ((hB.builtins _ (by decide)).trans (by rfl)) ((hB.builtins _ (by decide)).trans (by rfl)) fun L mg s2 X => ?_)
    refine wpAny_pure ⟨_, rfl, ?_, ?_⟩
    · obtain ⟨l, m, _⟩ := X.ms
      have low : s0.heap.objs.size ≤ Pl := hPl
      have kk : ∀ b o, b ≠ mainGlobals → s0.heap.get? b = some o → s2.heap.get? b = some o := fun b o hb e => m.keep b o (Nat.ne_of_lt (Nat.lt_of_lt_of_le (Heap.lt_size e) low)) hb (kp b o e)
      refine ⟨m.os, kk, mg, ⟨⟨_, mg0, c, Pl, L, X, n0⟩, hB.b.at fun o => kk _ o (by decide), hB.builtins, hB.statics.at fun o => kk _ o (by decide), m.gens.trans hg0, ?_⟩, m.main.g, ?_, X.rest⟩
      · cases e : s0.heap.get? sysModules with
        | none => exact absurd e hsys0
        | some o => rw [kk _ _ (by decide) e]; exact fun e => nomatch e
      · obtain ⟨bm, o, hbm, hne0, hneG, hneP, hbo, hrest⟩ := m.main.bmod
        exact ⟨bm, o, hbm, hne0, hneG, hne0, hbo, hrest⟩
    · obtain ⟨l, m, _⟩ := X.ms
      exact m.gens.trans hg0
  obtain ⟨f, s1, n, t', ⟨hos, kk, mg, T, hg, hbm, hrest⟩, hgens, hsched, hth, hlife⟩ := thread_through hz main
  refine ⟨s1, ⟨⟨n, t', hsched, hth⟩, hlife, Shared.rest_eq hos, fun b o e hn => kk b o (fun q => hn (.inl q)) e, ?_, ?_, ?_, ?_, ?_, ?_, ?_, ?_⟩, Shared.asleep_of_life hlife hz, mg, mb, T⟩
  · intro key v h; rw [none_stat key T.st] at h; cases h
  · intro key; exact .inl ((none_stat key T.st).trans (none_stat key hB.statics).symm)
  · obtain ⟨o, es, ep, ho, hd, hk, _⟩ := hg
    exact ⟨o, es, ep, ho, hd, hk⟩
  · intro name hn; rw [Pin.builtinOf_of_ns T.b]; exact T.bb name hn
  · obtain ⟨bm, o, h1, _, _, _, h2, h3, h4, _⟩ := hbm
    exact ⟨bm, o, (Claim2Try.globalOf_of_ns hg _).trans h1, h2, h3, h4⟩
  · intro g hg'; rw [hgens] at hg'; simp at hg'
  · intro x v hx
    rw [Claim2Try.globalOf_of_ns hg] at hx
    by_cases hl : P.main.scope.names.lookup x = some .local
    · refine .inr ?_
      unfold Program.boundNames
      exact List.mem_map.mpr ⟨(x, .local), List.mem_filter.mpr ⟨mem_of_lookup hl, rfl⟩, rfl⟩
    · refine .inl (Classical.byContradiction fun hn => ?_)
      rw [hrest x hl, hB.others x hn] at hx; cases hx
  · intro x hx
    rw [Claim2Try.globalOf_of_ns hg, Claim2Try.globalOf_of_ns hB.g]
    refine hrest x ?_
    have := (by decide +kernel : (laidNames.all fun x => !(P.main.scope.names.lookup x == some .local)) = true)
    have := List.all_eq_true.mp this x hx
    intro e; rw [e] at this; simp at this
end Mine
end

section
open PySem PySem.W PyProof.Rows PySem.Calls
set_option maxRecDepth 100000
set_option linter.unusedSectionVars false
namespace Mine

/-! the facts of the top, as the walk of law wants them -/
theorem fits_lookup {K A : Type} [DecidableEq K] [BEq K] [LawfulBEq K] {R : A → Value → Prop} : ∀ {l : List (K × A)} {kvs : List (K × Value)}, Fits (l.map fun p => (p.1, R p.2)) kvs → ∀ x, (l.lookup x = none → valueAt kvs x = none) ∧ ∀ n, l.lookup x = some n → ∃ v, valueAt kvs x = some v ∧ R n v
  | [], kvs, f, x => by
    cases f
    exact ⟨fun _ => rfl, fun n h => by simp at h⟩
  | (k, a) :: l, kvs, f, x => by
    cases f with
    | @cons _ _ v _ kvs' hr f' =>
      have ih := fits_lookup f' x
      by_cases hx : x = k
      · subst hx
        refine ⟨fun h => by simp [List.lookup] at h, fun n h => ⟨v, by simp [valueAt], ?_⟩⟩
        have : a = n := by simpa [List.lookup] using h
        subst this; exact hr
      · have hb : (x == k) = false := beq_eq_false_iff_ne.mpr hx
        have hk : ¬ k = x := fun e => hx e.symm
        have e : valueAt ((k, v) :: kvs') x = valueAt kvs' x := by simp [valueAt, List.find?_cons, hk]
        rw [e]
        simpa only [List.lookup, hb] using ih

def defsIdx : List (Nat × Str) := [(75, "law"), (74, "_law_rows"), (73, "_law_chances"), (72, "_law_pieces"), (71, "_law_sizes"), (70, "_law_read"), (69, "_law_apply"), (68, "_law_node"), (67, "_law_prepared"), (66, "_law_formula"), (65, "_law_joined"), (63, "ISEOF"), (62, "ISNONTERMINAL"), (61, "ISTERMINAL"), (8, "map_table_b3"), (6, "in_table_b1"), (3, "_v")]
theorem def_at {i : Nat} {x : Str} {p : Arguments} {b : List Stmt} {s : Scope} {pos : Pos} (h : P.main.body[i]? = some (.FunctionDef x p b [] none [] s none x pos)) : (i, x) ∈ defsIdx := by
  have e : ((List.range P.main.body.length).all fun i => match P.main.body[i]? with | some (Stmt.FunctionDef x ..) => defsIdx.contains (i, x) | _ => true) = true := by decide +kernel
  have hi : i < P.main.body.length := (List.getElem?_eq_some_iff.mp h).1
  have := List.all_eq_true.mp e i (List.mem_range.mpr hi)
  rw [h] at this
  exact List.contains_iff_mem.mp this

section
variable {w : World} {mg mb : Str → Option Value} {s1 : Shared}
theorem in_ints {p : Str × Rel} (k : Nat) (h : (F9 w)[k]? = some p) : p ∈ topF w := by
  unfold topF
  exact List.mem_of_mem_drop (i := 15) ((mem_withInts intD (F9 w)).1 p (List.mem_of_getElem? h))
theorem in_top {p : Str × Rel} (k : Nat) (h : (topF w)[k]? = some p) : p ∈ topF w := List.mem_of_getElem? h
theorem int_in {x : Str} {n : Int} (h : (intD.map fun d => (d.x, d.n)).contains (x, n) = true) : (x, rInt n) ∈ topF w := by
  unfold topF
  exact List.mem_of_mem_drop (i := 15) ((mem_withInts intD (F9 w)).2 x n (List.contains_iff_mem.mp h))
theorem defs_in : ∀ q ∈ defsIdx, (q.2, rFn P q.1) ∈ topF w := by
  intro q hq
  simp only [defsIdx, List.mem_cons, List.not_mem_nil, or_false] at hq
  rcases hq with rfl | rfl | rfl | rfl | rfl | rfl | rfl | rfl | rfl | rfl | rfl | rfl | rfl | rfl | rfl | rfl | rfl
  · exact in_top 0 rfl
  · exact in_top 1 rfl
  · exact in_top 2 rfl
  · exact in_top 3 rfl
  · exact in_top 4 rfl
  · exact in_top 5 rfl
  · exact in_top 6 rfl
  · exact in_top 7 rfl
  · exact in_top 8 rfl
  · exact in_top 9 rfl
  · exact in_top 10 rfl
  · exact in_top 11 rfl
  · exact in_top 12 rfl
  · exact in_top 13 rfl
  · exact in_ints 0 rfl
  · exact in_ints 2 rfl
  · exact in_ints 4 rfl

theorem top_facts (T : TopEnd w mg mb s1) {h : Heap} (hk : ∀ b o, s1.heap.get? b = some o → h.get? b = some o) {t3 : Addr} (h3 : t3 ≠ sysModules) : ∃ tok, tok 3 = t3 ∧ Top w ⟨h, tok, mg, mb⟩ := by
  obtain ⟨s, mg0, c, Pl, L, X, n0⟩ := T.ex
  obtain ⟨l, m, _⟩ := X.ms
  obtain ⟨v0, m0, a0, kvs0, rfl, -, -, ns0, d0, f0⟩ := X.facts _ (in_top (w := w) 14 rfl)
  obtain ⟨v1, m1, a1, kvs1, rfl, -, -, ns1, d1, f1⟩ := X.facts _ (in_ints (w := w) 1 rfl)
  obtain ⟨v2, m2, a2, n2, rfl, -, -, ns2, d2⟩ := X.facts _ (in_ints (w := w) 3 rfl)
  have none_of : ∀ x : Str, P.main.scope.names.lookup x ≠ some .local → x ∉ bootMainNames → mg x = none := fun x h1 h2 => (X.rest x h1).trans (n0 x h2)
  refine ⟨fun k => if k = 0 then a0 else if k = 1 then a1 else if k = 2 then a2 else t3, rfl, ?_⟩
  refine ⟨⟨m.main.g.keeps hk, T.b.keeps hk, Heap.NoLimit.keeps ⟨_, T.st, rfl⟩ hk⟩, fun i x p b s pos e => ?_, ⟨?_, ?_, ?_, ?_, ?_⟩, ?_, ?_, ?_, ?_, ?_, ?_, ?_, ?_, ?_⟩
  · obtain ⟨v, hv, hr⟩ := X.facts _ (defs_in (w := w) _ (def_at e))
    obtain ⟨a, c', pm, doc, rfl, _, _, _, ho, hc⟩ := hr x p b s pos e
    exact ⟨⟨a, pm, _, doc, hv, hk _ _ ho, hc.keeps hk⟩⟩
  · refine ⟨_, mapOf_keeps d0.mapOf hk, fun x => ?_⟩
    obtain ⟨q1, q2⟩ := fits_lookup f0 x
    exact ⟨q1, fun n e => let ⟨v, e1, t, e2⟩ := q2 n e; ⟨t, e2 ▸ e1⟩⟩
  · refine ⟨_, mapOf_keeps d1.mapOf hk, fun x => ?_⟩
    obtain ⟨q1, q2⟩ := fits_lookup f1 x
    exact ⟨q1, fun n e => let ⟨v, e1, t, e2⟩ := q2 n e; ⟨t, e2 ▸ e1⟩⟩
  · exact ⟨n2, setOf_keeps d2 hk⟩
  · intro k
    show (if k = 0 then a0 else if k = 1 then a1 else if k = 2 then a2 else t3) ≠ sysModules
    split
    · exact ns0
    · split
      · exact ns1
      · split
        · exact ns2
        · exact h3
  · rintro a ha rfl
    cases e : s1.heap.get? sysModules with
    | none => exact T.sys e
    | some o => rw [hk _ _ e] at ha; cases ha
  · obtain ⟨v, hv, t, rfl⟩ := X.facts _ (int_in (w := w) (x := "NT_OFFSET") (n := 256) (by decide +kernel)); exact ⟨t, hv⟩
  · obtain ⟨v, hv, t, rfl⟩ := X.facts _ (int_in (w := w) (x := "ENDMARKER") (n := 0) (by decide +kernel)); exact ⟨t, hv⟩
  · obtain ⟨v, hv, t, rfl⟩ := X.facts _ (in_ints (w := w) 6 rfl); exact ⟨t, hv⟩
  · obtain ⟨v, hv, t, rfl⟩ := X.facts _ (in_ints (w := w) 5 rfl); exact ⟨t, hv⟩
  · exact m0
  · exact m1
  · exact m2
  · intro x hx
    simp only [List.mem_cons, List.not_mem_nil, or_false] at hx
    rcases hx with rfl | rfl | rfl | rfl | rfl | rfl
    all_goals exact ⟨none_of _ (by decide +kernel) (by decide +kernel), (T.bb _ (by decide)).trans (by rfl)⟩
  · intro x hx
    simp only [List.mem_cons, List.not_mem_nil, or_false] at hx
    rcases hx with rfl | rfl | rfl
    all_goals exact ⟨none_of _ (by decide +kernel) (by decide +kernel), (T.bb _ (by decide)).trans (by rfl)⟩
end
end Mine
end

section
open PySem PySem.W PyProof.Rows PySem.Calls
set_option maxRecDepth 100000
namespace Mine

def nodeV (t : Nat × Nat × Nat) : V := .tup [.int t.1, .int t.2.1, .int t.2.2]
def knownV (B : BD) : Int → Option V := fun k => if 0 ≤ k then (B.known k.toNat).map fun (i : Nat) => .int i else none
structure Has (H : List O) (nN nK : Nat) (B : BD) : Prop where
  n : H[nN]? = some (.lst (B.nodes.map nodeV))
  k : H[nK]? = some (.dct (knownV B) B.nodes.length)
  ne : nN ≠ nK
structure Sames (H H' : List O) (nN nK : Nat) : Prop where
  len : H'.length = H.length
  at_ : ∀ i, i ≠ nN → i ≠ nK → H'[i]? = H[i]?
theorem Sames.refl {H : List O} {nN nK : Nat} : Sames H H nN nK := ⟨rfl, fun _ _ _ => rfl⟩
theorem Sames.trans {H H' H'' : List O} {nN nK : Nat} (a : Sames H H' nN nK) (b : Sames H' H'' nN nK) : Sames H H'' nN nK := ⟨b.len.trans a.len, fun i h1 h2 => (b.at_ i h1 h2).trans (a.at_ i h1 h2)⟩

section
variable {w : World} {G : Gl} {d : Nat} {H : List O}

theorem c_node (T : Top w G) {l lo hi nN nK : Nat} {B : BD} {Φ : V → List O → Prop} (hs : Has H nN nK B) (hlen : B.nodes.length ≤ 700)
    (h : ∀ H', Has H' nN nK (nodeF l lo hi B).2 → Sames H H' nN nK → Φ (.int ((nodeF l lo hi B).1 : Nat)) H') : aC P w G (d + 1) "_law_node" [.int l, .int lo, .int hi, .ref nN, .ref nK] H Φ := by
  refine c_def T.g (T.fn 68 _ _ _ _ _ rfl) (by intro rs h pm cd doc; obtain ⟨a, b, c, d, e, rfl⟩ := len5 h; rfl) (by rfl) (fun L a cd => ?_)
  refine ss_cons (s_if (b_Compare (e_var rfl (e_var rfl (o_eq_int (t_bool ?_))))))
  by_cases he : lo = hi
  · rw [if_pos (by simp [he])]
    refine ss_cons (s_return (e_var rfl ?_))
    have := h H
    unfold nodeF at this
    rw [if_pos he] at this
    exact this hs Sames.refl
  rw [if_neg (by simpa using fun q => he (by (exact om298 q)))]
  refine ss_nil ?_
  refine ss_cons (s_assign (e_BinOp (e_var rfl (e_BinOp (e_int (e_BinOp (e_var rfl (e_BinOp (e_int (e_var rfl (o_mul_int (.inl (by decide)) (o_add_int (o_mul_int (.inl (by decide)) (o_add_int ?_))))))))))))))
  have hm : ((l : Int) + 8 * ((lo : Int) + 1024 * (hi : Int))) = ((markOf l lo hi : Nat) : Int) := by unfold markOf; (exact om299)
  rw [hm]
  have hkv : knownV B (markOf l lo hi : Nat) = (B.known (markOf l lo hi)).map fun (i : Nat) => V.int i := by
    unfold knownV
    rw [if_pos (by (exact om300)), Int.toNat_natCast]
  refine ss_cons (s_if (b_Compare (e_var rfl (e_var rfl (o_notin_dct hs.k T.tabs.sys (t_bool ?_))))))
  rw [hkv]
  cases hk : B.known (markOf l lo hi) with
  | some i =>
    refine ss_nil ?_
    refine ss_cons (s_return (e_Subscript (e_var rfl (e_var rfl (o_sub_dct hs.k (v := .int i) (by rw [hkv, hk]; rfl) ?_)))))
    have := h H
    unfold nodeF at this
    rw [if_neg he, hk] at this
    exact this hs Sames.refl
  | none =>
    refine ss_cons (s_assign_sub (e_BinOp (e_glob' T.g (Top.gint T.nt) (e_Call_builtin T.g (T.blt "len" (by decide)).1 (T.blt "len" (by decide)).2 (e_var rfl (o_len_list hs.n (by simp; (exact om301 hlen)) (o_add_int (e_var rfl (e_var rfl (o_set_dct hs.k (by (exact om301 hlen)) ?_))))))))))
    have hn' : (H.set nK (.dct (fun x => if x = ((markOf l lo hi : Nat) : Int) then some (.int (256 + ((B.nodes.map nodeV).length : Nat))) else knownV B x) (B.nodes.length + 1)))[nN]? = some (.lst (B.nodes.map nodeV)) := by
      rw [List.getElem?_set_ne (Ne.symm hs.ne)]; exact hs.n
    refine ss_cons (s_expr (e_append (e_var rfl ⟨nN, rfl, ⟨_, hn'⟩, e_Tuple (e_var rfl (e_var rfl (e_var rfl ⟨by simp, _, hn', by simp; (exact om301 hlen), .inl rfl, ss_nil ?_⟩)))⟩)))
    refine ss_cons (s_return (e_Subscript (e_var rfl (e_var rfl (o_sub_dct (v := .int (256 + B.nodes.length)) (f := fun x => if x = ((markOf l lo hi : Nat) : Int) then some (.int (256 + ((B.nodes.map nodeV).length : Nat))) else knownV B x) (sz := B.nodes.length + 1) ?_ (by simp) ?_)))))
    · rw [List.getElem?_set_ne hs.ne, List.getElem?_set_self (List.getElem?_eq_some_iff.mp hs.k).1]
    · have e0 : ((256 + B.nodes.length : Nat) : Int) = 256 + (B.nodes.length : Int) := by (exact om302)
      unfold nodeF at h
      rw [if_neg he, hk] at h
      simp only [e0] at h
      refine h _ ⟨?_, ?_, hs.ne⟩ ⟨by simp, fun i h1 h2 => ?_⟩
      · rw [List.getElem?_set_self (by simp; exact (List.getElem?_eq_some_iff.mp hs.n).1)]
        simp [nodeV]
      · rw [List.getElem?_set_ne hs.ne, List.getElem?_set_self (List.getElem?_eq_some_iff.mp hs.k).1]
        simp only [List.length_append, List.length_singleton]
        congr 2
        funext x
        unfold knownV
        simp only [List.length_map]
        by_cases hx : x = ((markOf l lo hi : Nat) : Int)
        · rw [if_pos hx, if_pos (by (exact om303 hx)), hx, Int.toNat_natCast, if_pos rfl]
          simp [e0]
        · rw [if_neg hx]
          by_cases h0 : 0 ≤ x
          · rw [if_pos h0, if_pos h0, if_neg (by (exact om304 hx h0))]
          · rw [if_neg h0, if_neg h0]
      · rw [List.getElem?_set_ne (Ne.symm h1), List.getElem?_set_ne (Ne.symm h2)]

structure BitsAt (H : List O) (nB nN nK : Nat) (kind : Int) (f : Bool → Bool → Bool) : Prop where
  at_ : ∃ bf bsz m, H[nB]? = some (.dct bf bsz) ∧ bf kind = some (.ref m) ∧ H[m]? = some (.lst [.int ((f false false).toNat : Nat), .int ((f false true).toNat : Nat), .int ((f true false).toNat : Nat), .int ((f true true).toNat : Nat)]) ∧ nB ≠ nN ∧ nB ≠ nK ∧ m ≠ nN ∧ m ≠ nK
theorem BitsAt.sames {H H' : List O} {nB nN nK : Nat} {kind : Int} {f : Bool → Bool → Bool} (x : BitsAt H nB nN nK kind f) (s : Sames H H' nN nK) : BitsAt H' nB nN nK kind f := by
  obtain ⟨bf, bsz, m, h1, h2, h3, h4, h5, h6, h7⟩ := x.at_
  exact ⟨bf, bsz, m, by rw [s.at_ _ h4 h5]; exact h1, h2, by rw [s.at_ _ h6 h7]; exact h3, h4, h5, h6, h7⟩

theorem ofNat_lt256 (x : Nat) : decide ((x : Int) < 256) = decide (x < 256) := by
  by_cases h : x < 256
  · rw [decide_eq_true h, decide_eq_true (by (exact om305 h))]
  · rw [decide_eq_false h, decide_eq_false (by (exact om306 h))]

theorem ofNat_ge256 (x : Nat) : decide (256 ≤ (x : Int)) = decide (256 ≤ x) := by
  by_cases h : 256 ≤ x
  · rw [decide_eq_true h, decide_eq_true (by (exact om307 h))]
  · rw [decide_eq_false h, decide_eq_false (by (exact om308 h))]
theorem eof_bool (x : Nat) : (!((x : Int) == 0)) = (x != 0) := by
  cases x with
  | zero => rfl
  | succ n =>
    have h1 : (((n + 1 : Nat) : Int) == 0) = false := beq_eq_false_iff_ne.mpr (by (exact om309))
    rw [h1]; simp
/-- both arms of a choice give one value -/
theorem if_val {prog : Program} {env : Env} {vars : Vars} {c : Bool} {t1 t2 : Sem Value} {v : V} {Φ : V → List O → Prop} (h : Φ v H) (h1 : c = true → ∀ Ψ : V → List O → Prop, Ψ v H → aT prog w G d env t1 vars H (PV G Ψ))
    (h2 : c = false → ∀ Ψ : V → List O → Prop, Ψ v H → aT prog w G d env t2 vars H (PV G Ψ)) : if c = true then aT prog w G d env t1 vars H (PV G Φ) else aT prog w G d env t2 vars H (PV G Φ) := by
  cases c with
  | true => exact h1 rfl _ h
  | false => exact h2 rfl _ h
theorem upd_self {vars : Vars} {x : Str} {v : V} (h : vars x = some v) : upd vars x v = vars := by
  funext y
  unfold upd
  split
  · rename_i e; rw [e, h]
  · rfl
/-- an if without else that may set a name -/
theorem if_upd {prog : Program} {env : Env} {vars : Vars} {c : Bool} {b : List Stmt} {x : Str} {v : V} {Φ : Fl → Vars → List O → Prop} (h : Φ .next (upd vars x v) H)
    (h1 : c = true → ∀ Ψ : Fl → Vars → List O → Prop, Ψ .next (upd vars x v) H → aSs prog w G d env b vars H Ψ) (h2 : c = false → vars x = some v) :
    if c = true then aSs prog w G d env b vars H Φ else aSs prog w G d env [] vars H Φ := by
  cases c with
  | true => exact h1 rfl _ h
  | false =>
    refine ss_nil ?_
    rw [upd_self (h2 rfl)] at h
    exact h

theorem c_apply (T : Top w G) {kind : Int} {nB nN nK : Nat} (f : Bool → Bool → Bool) : ∀ (n l x y : Nat) (B : BD) (H : List O) (Φ : V → List O → Prop), Inv B → Valid B.nodes l x → Valid B.nodes l y → l ≤ 4 → 5 ≤ n + l →
    B.nodes.length + 2 ^ (4 - l) ≤ 700 → Has H nN nK B → BitsAt H nB nN nK kind f →
    (∀ H', Has H' nN nK (applyF (fun a b => (f a b).toNat) n x y B).2 → Sames H H' nN nK → Φ (.int ((applyF (fun a b => (f a b).toNat) n x y B).1 : Nat)) H') →
    aC P w G (d + n + 1) "_law_apply" [.int kind, .int x, .int y, .ref nB, .ref nN, .ref nK] H Φ
  | 0, l, x, y, B, H, Φ, I, hx, hy, hl, hn, hs, hh, hb, h => by (exact (om174 hl hn).elim)
  | n + 1, l, x, y, B, H, Φ, I, hx, hy, hl, hn, hs, hh, hb, h => by
    refine c_def T.g (T.fn 69 _ _ _ _ _ rfl) (by intro rs h pm cd doc; obtain ⟨a, b, c, d, e, f, rfl⟩ := len6 h; rfl) (by rfl) (fun L a cd => ?_)
    refine ss_cons (s_if (b_and (b_plain (e_Call_def T.g (T.fn 61 _ _ _ _ _ rfl) (e_var rfl (c_ISTERMINAL (d := d + n) T (t_bool ?_)))))))
    rw [ofNat_lt256]
    unfold applyF at h
    by_cases hc : x < 256 ∧ y < 256
    · rw [if_pos hc] at h
      rw [decide_eq_true hc.1]
      refine (b_plain (e_Call_def T.g (T.fn 61 _ _ _ _ _ rfl) (e_var rfl (c_ISTERMINAL (d := d + n) T (t_bool ?_)))))
      rw [ofNat_lt256, decide_eq_true hc.2]
      obtain ⟨bf, bsz, m, h1, h2, h3, h4, h5, h6, h7⟩ := hb.at_
      refine ss_cons (s_return (e_Subscript (e_Subscript (e_var rfl (e_var rfl (o_sub_dct h1 h2 ?_))))))
      refine e_BinOp (e_BinOp (e_int ?_))
      refine e_not (e_Call_def T.g (T.fn 63 _ _ _ _ _ rfl) (e_var rfl (c_ISEOF (d := d + n) T (t_bool (o_mul_int_bool ?_)))))
      refine e_not (e_Call_def T.g (T.fn 63 _ _ _ _ _ rfl) (e_var rfl (c_ISEOF (d := d + n) T (t_bool (o_add_int_bool ?_)))))
      rw [eof_bool, eof_bool]
      refine o_sub_list (v := .int ((f (x != 0) (y != 0)).toNat : Nat)) h3 ?_ ?_ ?_ ?_
      · cases (x != 0) <;> cases (y != 0) <;> decide
      · cases (x != 0) <;> cases (y != 0) <;> decide
      · cases (x != 0) <;> cases (y != 0) <;> rfl
      · exact h H hh Sames.refl
    rw [if_neg hc] at h
    suffices hne : ∀ c, c = false → (if c = true then _ else _) by
      by_cases hx1 : x < 256
      · rw [decide_eq_true hx1]
        refine (b_plain (e_Call_def T.g (T.fn 61 _ _ _ _ _ rfl) (e_var rfl (c_ISTERMINAL (d := d + n) T (t_bool ?_)))))
        rw [ofNat_lt256]
        exact hne _ (decide_eq_false (by (exact om310 hc hx1)))
      · rw [decide_eq_false hx1]
        exact hne _ rfl
    rintro c rfl
    show aSs P w G (d + (n + 1)) _ _ _ H _
    refine ss_nil ?_
    simp only [] at h
    have hsz := I.size
    have bx := hx.lt
    have by' := hy.lt
    obtain ⟨a1, a2, a3, a4⟩ := topOf_spec I hx hl
    obtain ⟨b1, b2, b3, b4⟩ := topOf_spec I hy hl
    -- the two tops
    refine ss_cons (s_assign (e_IfExp (b_plain (e_Call_def T.g (T.fn 62 _ _ _ _ _ rfl) (e_var rfl (c_ISNONTERMINAL (d := d + n) T (t_bool ?_)))))))
    rw [ofNat_ge256]
    refine if_val (v := nodeV (topOf B x)) ?_ (fun hc Ψ hΨ => ?_) (fun hc Ψ hΨ => ?_)
    rotate_left
    · have hc' := of_decide_eq_true hc
      refine e_Subscript (e_var rfl (e_BinOp (e_var rfl (e_glob' T.g (Top.gint T.nt) (o_sub_int (o_sub_list hh.n (by (exact om311 hc')) (by (exact om312 hsz bx)) ?_ hΨ))))))
      have e1 : ((x : Int) - 256).toNat = x - 256 := by (exact om313)
      rw [e1, List.getElem?_map, List.getElem?_eq_getElem (show x - 256 < B.nodes.length by (exact om314 bx hc'))]
      unfold topOf
      rw [if_pos hc', List.getD_eq_getElem?_getD, List.getElem?_eq_getElem (show x - 256 < B.nodes.length by (exact om314 bx hc'))]
      rfl
    · have hc' := of_decide_eq_false hc
      refine e_Tuple (e_int (e_var rfl (e_var rfl ⟨Nat.le_of_ble_eq_true rfl, ?_⟩)))
      unfold topOf at hΨ
      rw [if_neg hc'] at hΨ
      exact hΨ
    refine ss_cons (s_assign (e_IfExp (b_plain (e_Call_def T.g (T.fn 62 _ _ _ _ _ rfl) (e_var rfl (c_ISNONTERMINAL (d := d + n) T (t_bool ?_)))))))
    rw [ofNat_ge256]
    refine if_val (v := nodeV (topOf B y)) ?_ (fun hc Ψ hΨ => ?_) (fun hc Ψ hΨ => ?_)
    rotate_left
    · have hc' := of_decide_eq_true hc
      refine e_Subscript (e_var rfl (e_BinOp (e_var rfl (e_glob' T.g (Top.gint T.nt) (o_sub_int (o_sub_list hh.n (by (exact om311 hc')) (by (exact om312 hsz by')) ?_ hΨ))))))
      have e1 : ((y : Int) - 256).toNat = y - 256 := by (exact om313)
      rw [e1, List.getElem?_map, List.getElem?_eq_getElem (show y - 256 < B.nodes.length by (exact om314 by' hc'))]
      unfold topOf
      rw [if_pos hc', List.getD_eq_getElem?_getD, List.getElem?_eq_getElem (show y - 256 < B.nodes.length by (exact om314 by' hc'))]
      rfl
    · have hc' := of_decide_eq_false hc
      refine e_Tuple (e_int (e_var rfl (e_var rfl ⟨Nat.le_of_ble_eq_true rfl, ?_⟩)))
      unfold topOf at hΨ
      rw [if_neg hc'] at hΨ
      exact hΨ
    -- the level
    refine ss_cons (s_assign (e_Call_builtin T.g (T.blt "min" (by decide)).1 (T.blt "min" (by decide)).2 (e_Subscript (e_var rfl (e_int (o_sub_tup (v := .int (topOf B x).1) (by decide) (by decide) rfl
      (e_Subscript (e_var rfl (e_int (o_sub_tup (v := .int (topOf B y).1) (by decide) (by decide) rfl (o_min ?_)))))))))))
    have hmin : min ((topOf B x).1 : Int) ((topOf B y).1 : Int) = ((min (topOf B x).1 (topOf B y).1 : Nat) : Int) := by (exact om315)
    rw [hmin]
    obtain ⟨l0, hl0, hl0'⟩ : ∃ l0, l0 = min (topOf B x).1 (topOf B y).1 ∧ l ≤ l0 ∧ l0 ≤ (topOf B x).1 ∧ l0 ≤ (topOf B y).1 := ⟨_, rfl, by (exact om316 a1 b1)⟩
    rw [← hl0] at h ⊢
    have hl04 : l0 < 4 := by
      rcases Nat.lt_or_ge l0 4 with q | q
      · exact q
      · have c1 := a3 (by (exact om176 a2 hl0' q))
        have c2 := b3 (by (exact om177 b2 hl0' q))
        omega
    have hx0 : Valid B.nodes l0 x := by
      by_cases h5 : (topOf B x).1 < 4
      · obtain ⟨hx', e⟩ := a4 h5; exact .inr ⟨hx', _, _, _, e, hl0'.2.1⟩
      · exact .inl (a3 (by (exact om171 a2 h5))).1
    have hy0 : Valid B.nodes l0 y := by
      by_cases h5 : (topOf B y).1 < 4
      · obtain ⟨hy', e⟩ := b4 h5; exact .inr ⟨hy', _, _, _, e, hl0'.2.2⟩
      · exact .inl (b3 (by (exact om171 b2 h5))).1
    obtain ⟨c1, c2, _⟩ := cut_spec I hx0 hl0'.2.1 hl04
    obtain ⟨d1, d2, _⟩ := cut_spec I hy0 hl0'.2.2 hl04
    -- the cuts
    refine ss_cons (s_if (b_Compare (e_Subscript (e_var rfl (e_int (o_sub_tup (v := .int (topOf B x).1) (by decide) (by decide) rfl (e_var rfl (o_gt_int (t_bool ?_)))))))))
    refine if_upd (x := "top_one") (v := nodeV (cut l0 x (topOf B x))) ?_ (fun hc Ψ hΨ => ?_) (fun hc => ?_)
    rotate_left
    · have hc' : l0 < (topOf B x).1 := by have := of_decide_eq_true hc; (exact om317 this)
      refine ss_cons (s_assign (e_Tuple (e_var rfl (e_var rfl (e_var rfl ⟨by simp, ss_nil ?_⟩)))))
      unfold cut at hΨ
      rw [if_pos hc'] at hΨ
      exact hΨ
    · have hc' : ¬ l0 < (topOf B x).1 := by have := of_decide_eq_false hc; (exact om318 this)
      unfold cut
      rw [if_neg hc']
      rfl
    refine ss_cons (s_if (b_Compare (e_Subscript (e_var rfl (e_int (o_sub_tup (v := .int (topOf B y).1) (by decide) (by decide) rfl (e_var rfl (o_gt_int (t_bool ?_)))))))))
    refine if_upd (x := "top_two") (v := nodeV (cut l0 y (topOf B y))) ?_ (fun hc Ψ hΨ => ?_) (fun hc => ?_)
    rotate_left
    · have hc' : l0 < (topOf B y).1 := by have := of_decide_eq_true hc; (exact om317 this)
      refine ss_cons (s_assign (e_Tuple (e_var rfl (e_var rfl (e_var rfl ⟨by simp, ss_nil ?_⟩)))))
      unfold cut at hΨ
      rw [if_pos hc'] at hΨ
      exact hΨ
    · have hc' : ¬ l0 < (topOf B y).1 := by have := of_decide_eq_false hc; (exact om318 this)
      unfold cut
      rw [if_neg hc']
      rfl
    generalize cut l0 x (topOf B x) = t at c1 c2 h ⊢
    generalize cut l0 y (topOf B y) = u at d1 d2 h ⊢
    have hp2 : 2 ^ (4 - l0) = 2 * 2 ^ (4 - (l0 + 1)) := by
      rw [show 4 - l0 = (4 - (l0 + 1)) + 1 by (exact om122 hl04), Nat.pow_succ]; (exact om178)
    have hp3 : 2 ^ (4 - l0) ≤ 2 ^ (4 - l) := Nat.pow_le_pow_right (by decide) (by (exact om179 hl0'))
    -- the two halves
    refine ss_cons (s_assign (e_Call_def T.g (T.fn 69 _ _ _ _ _ rfl) (e_var rfl (e_Subscript (e_var rfl (e_int (o_sub_tup (v := .int t.2.1) (by decide) (by decide) rfl (e_Subscript (e_var rfl (e_int (o_sub_tup (v := .int u.2.1) (by decide) (by decide) rfl
      (e_var rfl (e_var rfl (e_var rfl ?_))))))))))))))
    obtain ⟨I1, ⟨m1, e1, k1⟩, v1, _⟩ := applyF_spec f n (l0 + 1) t.2.1 u.2.1 B I c1 d1 (by (exact om135 hl04)) (by (exact om180 hn hl0')) (by (exact om181 hs hp2 hp3))
    refine c_apply T f n (l0 + 1) t.2.1 u.2.1 B H _ I c1 d1 (by (exact om135 hl04)) (by (exact om180 hn hl0')) (by (exact om181 hs hp2 hp3)) hh hb fun H1 hh1 s1 => ?_
    generalize applyF (fun a b => (f a b).toNat) n t.2.1 u.2.1 B = p at I1 e1 v1 hh1 h ⊢
    have c2' : Valid p.2.nodes (l0 + 1) t.2.2 := by rw [e1]; exact c2.grow
    have d2' : Valid p.2.nodes (l0 + 1) u.2.2 := by rw [e1]; exact d2.grow
    have len1 : p.2.nodes.length = B.nodes.length + m1.length := by rw [e1, List.length_append]
    refine ss_cons (s_assign (e_Call_def T.g (T.fn 69 _ _ _ _ _ rfl) (e_var rfl (e_Subscript (e_var rfl (e_int (o_sub_tup (v := .int t.2.2) (by decide) (by decide) rfl (e_Subscript (e_var rfl (e_int (o_sub_tup (v := .int u.2.2) (by decide) (by decide) rfl
      (e_var rfl (e_var rfl (e_var rfl ?_))))))))))))))
    obtain ⟨I2, ⟨m2, e2, k2⟩, v2, _⟩ := applyF_spec f n (l0 + 1) t.2.2 u.2.2 p.2 I1 c2' d2' (by (exact om135 hl04)) (by (exact om180 hn hl0')) (by (exact om182 hs hp2 hp3 k1 len1))
    refine c_apply T f n (l0 + 1) t.2.2 u.2.2 p.2 H1 _ I1 c2' d2' (by (exact om135 hl04)) (by (exact om180 hn hl0')) (by (exact om182 hs hp2 hp3 k1 len1)) hh1 (hb.sames s1) fun H2 hh2 s2 => ?_
    generalize applyF (fun a b => (f a b).toNat) n t.2.2 u.2.2 p.2 = q at I2 e2 v2 hh2 h ⊢
    have len2 : q.2.nodes.length = p.2.nodes.length + m2.length := by rw [e2, List.length_append]
    refine ss_cons (s_return (e_Call_def T.g (T.fn 68 _ _ _ _ _ rfl) (e_var rfl (e_var rfl (e_var rfl (e_var rfl (e_var rfl ?_)))))))
    refine c_node (d := d + n) T hh2 (by (exact om319 hs hp2 hp3 k1 len1 k2 len2)) fun H3 hh3 s3 => ?_
    exact h H3 hh3 ((s1.trans s2).trans s3)
end
end Mine
end

section
open PySem PySem.W PyProof.Rows PySem.Calls
set_option maxRecDepth 100000
namespace Mine

/-- what a sign asks of its two sides -/
def signF : Int → Option (Bool → Bool → Bool)
  | 18 => some fun a b => a || b
  | 19 => some fun a b => a && b
  | 20 => some fun a b => !a && b
  | 21 => some fun a b => a && !b
  | 27 => some fun a b => a == b
  | 28 => some fun a b => a != b
  | 29 => some fun a b => !a || b
  | 30 => some fun a b => a || !b
  | 32 => some fun a b => a != b
  | _ => none
def natBit (f : Bool → Bool → Bool) : Bool → Bool → Nat := fun a b => (f a b).toNat
abbrev doApply (f : Bool → Bool → Bool) (x y : Nat) (B : BD) : Nat × BD := applyF (fun a b => (f a b).toNat) 5 x y B

/-- the reading's state: both lists with their ends ahead -/
structure RS where
  values : List Nat
  waiting : List Int
  B : BD

inductive Tildes : List Int → Nat → BD → List Int → Nat → BD → Prop
  | stop {ws v B} : ws.head? ≠ some 31 → Tildes ws v B ws v B
  | neg {ws v B ws' v' B'} : Inv B → Valid B.nodes 0 v → B.nodes.length + 16 ≤ 700 → Tildes ws (doApply (fun a b => a != b) v 1 B).1 (doApply (fun a b => a != b) v 1 B).2 ws' v' B' → Tildes (31 :: ws) v B ws' v' B'

def s1 (c : Nat) : Str := ⟨#[c]⟩
/-- the first piece of what is left -/
def pieceOf (cs : List Nat) : Str := if (tokFn ⟨(cs.take 2).toArray⟩).isSome then ⟨(cs.take 2).toArray⟩ else ⟨(cs.take 1).toArray⟩
def s2 (cs : List Nat) : Str := ⟨(cs.take 2).toArray⟩

inductive Runs : List Nat → RS → RS → Prop
  | done {st} : Runs [] st st
  | push1 {c rest k st fin} : pieceOf (c :: rest) = s1 c → tokFn (s1 c) = some k → k ≠ 0 → k ≠ 8 → Runs rest ⟨st.values, k :: st.waiting, st.B⟩ fin → Runs (c :: rest) st fin
  | push2 {c c' rest k st fin} : tokFn (s2 (c :: c' :: rest)) = some k → k ≠ 0 → k ≠ 8 → Runs rest ⟨st.values, k :: st.waiting, st.B⟩ fin → Runs (c :: c' :: rest) st fin
  | letter {c rest values waiting ws v fin} {B B' : BD} : pieceOf (c :: rest) = s1 c → tokFn (s1 c) = none → 97 ≤ c → c < 101 → Inv B → B.nodes.length + 1 ≤ 700 →
      Tildes waiting (nodeF (c - 97) 0 1 B).1 (nodeF (c - 97) 0 1 B).2 ws v B' → Runs rest ⟨v :: values, ws, B'⟩ fin → Runs (c :: rest) ⟨values, waiting, B⟩ fin
  | close {c rest values waiting ws v x y k k' f fin} {B B' : BD} : pieceOf (c :: rest) = s1 c → tokFn (s1 c) = some 8 → signF k = some f → Inv B → Valid B.nodes 0 x → Valid B.nodes 0 y → B.nodes.length + 16 ≤ 700 →
      Tildes waiting (doApply f x y B).1 (doApply f x y B).2 ws v B' → Runs rest ⟨v :: values, ws, B'⟩ fin → Runs (c :: rest) ⟨y :: x :: values, k :: k' :: waiting, B⟩ fin

/-- the table bits stands whole -/
def BitsAll (H : List O) (nB nN nK : Nat) : Prop := ∀ k f, signF k = some f → BitsAt H nB nN nK k f
/-- what stood stands, but for the diagram -/
structure Keeps2 (H H' : List O) (nN nK : Nat) : Prop where
  len : H.length ≤ H'.length
  at_ : ∀ i, i < H.length → i ≠ nN → i ≠ nK → H'[i]? = H[i]?
theorem Keeps2.refl {H : List O} {nN nK : Nat} : Keeps2 H H nN nK := ⟨Nat.le_refl _, fun _ _ _ _ => rfl⟩
theorem Keeps2.trans {H H' H'' : List O} {nN nK : Nat} (a : Keeps2 H H' nN nK) (b : Keeps2 H' H'' nN nK) : Keeps2 H H'' nN nK :=
  ⟨Nat.le_trans a.len b.len, fun i h0 h1 h2 => (b.at_ i (Nat.lt_of_lt_of_le h0 a.len) h1 h2).trans (a.at_ i h0 h1 h2)⟩
theorem Keeps2.snoc {H : List O} {o : O} {nN nK : Nat} : Keeps2 H (H ++ [o]) nN nK := ⟨by simp, fun i h _ _ => List.getElem?_append_left h⟩
theorem Sames.keeps {H H' : List O} {nN nK : Nat} (s : Sames H H' nN nK) : Keeps2 H H' nN nK := ⟨by rw [s.len]; exact Nat.le_refl _, fun i _ h1 h2 => s.at_ i h1 h2⟩
theorem lt_of_some {α : Type} {l : List α} {n : Nat} {a : α} (h : l[n]? = some a) : n < l.length := (List.getElem?_eq_some_iff.mp h).1
theorem BitsAll.keeps {H H' : List O} {nB nN nK : Nat} (x : BitsAll H nB nN nK) (s : Keeps2 H H' nN nK) : BitsAll H' nB nN nK := by
  intro k f hf
  obtain ⟨bf, bsz, m, h1, h2, h3, h4, h5, h6, h7⟩ := (x k f hf).at_
  exact ⟨bf, bsz, m, by rw [s.at_ _ (lt_of_some h1) h4 h5]; exact h1, h2, by rw [s.at_ _ (lt_of_some h3) h6 h7]; exact h3, h4, h5, h6, h7⟩

def nats (l : List Nat) : List V := l.reverse.map fun (i : Nat) => .int i
def kinds (l : List Int) : List V := l.reverse.map .int

section
variable {w : World} {G : Gl} {d : Nat} {H : List O}

/-- the state of the reading, in the program's names -/
structure RdS (nB nN nK a b : Nat) (t : Str) (H0 : List O) (rest : List Nat) (st : RS) (vars : Vars) (H : List O) : Prop where
  text : vars "text" = some (.str t)
  place : ∃ p : Nat, vars "place" = some (.int p) ∧ t.cps.toList.drop p = rest ∧ p + rest.length = t.cps.size
  vb : vars "bits" = some (.ref nB)
  vn : vars "nodes" = some (.ref nN)
  vk : vars "known" = some (.ref nK)
  vv : vars "values" = some (.ref a)
  vw : vars "waiting" = some (.ref b)
  ha : H[a]? = some (.lst (nats st.values))
  hb : H[b]? = some (.lst (kinds st.waiting))
  ab : a ≠ b
  old : H0.length ≤ a ∧ H0.length ≤ b
  has : Has H nN nK st.B
  keeps : ∀ i, i < H0.length → i ≠ nN → i ≠ nK → H[i]? = H0[i]?
  nk : nN < H0.length ∧ nK < H0.length
  len : H0.length ≤ H.length


theorem RdS.setW {nB nN nK a b : Nat} {t : Str} {H0 H : List O} {rest : List Nat} {st : RS} {vars : Vars} (x : RdS nB nN nK a b t H0 rest st vars H) (ws : List Int) : RdS nB nN nK a b t H0 rest ⟨st.values, ws, st.B⟩ vars (H.set b (.lst (kinds ws))) where
  text := x.text
  place := x.place
  vb := x.vb
  vn := x.vn
  vk := x.vk
  vv := x.vv
  vw := x.vw
  ha := by rw [List.getElem?_set_ne (Ne.symm x.ab)]; exact x.ha
  hb := by rw [List.getElem?_set_self (lt_of_some x.hb)]
  ab := x.ab
  old := x.old
  has := ⟨by rw [List.getElem?_set_ne (by have := x.nk; have := x.old; (exact om320 (by assumption) this))]; exact x.has.n, by rw [List.getElem?_set_ne (by have := x.nk; have := x.old; (exact om321 (by assumption) this))]; exact x.has.k, x.has.ne⟩
  keeps := fun i h h1 h2 => by rw [List.getElem?_set_ne (by have := x.old; (exact om322 h this))]; exact x.keeps i h h1 h2
  nk := x.nk
  len := by simp; exact x.len
theorem RdS.setV {nB nN nK a b : Nat} {t : Str} {H0 H : List O} {rest : List Nat} {st : RS} {vars : Vars} (x : RdS nB nN nK a b t H0 rest st vars H) (vs : List Nat) : RdS nB nN nK a b t H0 rest ⟨vs, st.waiting, st.B⟩ vars (H.set a (.lst (nats vs))) where
  text := x.text
  place := x.place
  vb := x.vb
  vn := x.vn
  vk := x.vk
  vv := x.vv
  vw := x.vw
  ha := by rw [List.getElem?_set_self (lt_of_some x.ha)]
  hb := by rw [List.getElem?_set_ne x.ab]; exact x.hb
  ab := x.ab
  old := x.old
  has := ⟨by rw [List.getElem?_set_ne (by have := x.nk; have := x.old; (exact om323 (by assumption) this))]; exact x.has.n, by rw [List.getElem?_set_ne (by have := x.nk; have := x.old; (exact om324 (by assumption) this))]; exact x.has.k, x.has.ne⟩
  keeps := fun i h h1 h2 => by rw [List.getElem?_set_ne (by have := x.old; (exact om325 h this))]; exact x.keeps i h h1 h2
  nk := x.nk
  len := by simp; exact x.len
theorem RdS.same {nB nN nK a b : Nat} {t : Str} {H0 H H' : List O} {rest : List Nat} {st : RS} {vars : Vars} {B : BD} (x : RdS nB nN nK a b t H0 rest st vars H) (s : Sames H H' nN nK) (hh : Has H' nN nK B) : RdS nB nN nK a b t H0 rest ⟨st.values, st.waiting, B⟩ vars H' where
  text := x.text
  place := x.place
  vb := x.vb
  vn := x.vn
  vk := x.vk
  vv := x.vv
  vw := x.vw
  ha := by rw [s.at_ _ (by have := x.nk; have := x.old; (exact om323 (by assumption) this)) (by have := x.nk; have := x.old; (exact om324 (by assumption) this))]; exact x.ha
  hb := by rw [s.at_ _ (by have := x.nk; have := x.old; (exact om320 (by assumption) this)) (by have := x.nk; have := x.old; (exact om321 (by assumption) this))]; exact x.hb
  ab := x.ab
  old := x.old
  has := hh
  keeps := fun i h h1 h2 => by rw [s.at_ i h1 h2]; exact x.keeps i h h1 h2
  nk := x.nk
  len := by rw [s.len]; exact x.len
/-- a name of no account is set -/
theorem RdS.upd {nB nN nK a b : Nat} {t : Str} {H0 H : List O} {rest : List Nat} {st : RS} {vars : Vars} (x : RdS nB nN nK a b t H0 rest st vars H) {y : Str} {v : V} (hy : y ∉ (["text", "place", "bits", "nodes", "known", "values", "waiting"] : List Str)) : RdS nB nN nK a b t H0 rest st (upd vars y v) H := by
  have k : ∀ z ∈ (["text", "place", "bits", "nodes", "known", "values", "waiting"] : List Str), Mine.upd vars y v z = vars z := fun z hz => by
    unfold Mine.upd
    rw [if_neg (fun q : z = y => hy (by rw [← q]; exact hz))]
  exact ⟨by rw [k _ (by simp)]; exact x.text, by rw [k _ (by simp)]; exact x.place, by rw [k _ (by simp)]; exact x.vb, by rw [k _ (by simp)]; exact x.vn, by rw [k _ (by simp)]; exact x.vk, by rw [k _ (by simp)]; exact x.vv,
    by rw [k _ (by simp)]; exact x.vw, x.ha, x.hb, x.ab, x.old, x.has, x.keeps, x.nk, x.len⟩
theorem RdS.bits {nB nN nK a b : Nat} {t : Str} {H0 H : List O} {rest : List Nat} {st : RS} {vars : Vars} (x : RdS nB nN nK a b t H0 rest st vars H) (hb : BitsAll H0 nB nN nK) : BitsAll H nB nN nK := hb.keeps ⟨x.len, x.keeps⟩

def bodyAt (i : Nat) : List Stmt := match P.main.body[i]? with
  | some (Stmt.FunctionDef _ _ b _ _ _ _ _ _ _) => b
  | _ => []
def scopeAt (i : Nat) : Scope := match P.main.body[i]? with
  | some (Stmt.FunctionDef _ _ _ _ _ _ s _ _ _) => s
  | _ => { kind := .function, names := [], isGenerator := false, isCoroutine := false }
def whileBody : Stmt → List Stmt
  | .While _ b _ _ => b
  | _ => []
def readTail : List Stmt := (whileBody ((bodyAt 70).getD 3 (.Pass ⟨0, 0, 0, 0⟩))).drop 5

theorem nats_snoc (v : Nat) (l : List Nat) : nats (v :: l) = nats l ++ [.int v] := by simp [nats]
theorem kinds_snoc (v : Int) (l : List Int) : kinds (v :: l) = kinds l ++ [.int v] := by simp [kinds]

theorem read_tail (T : Top w G) {nB nN nK a b : Nat} {t : Str} {H0 H1 : List O} {rest : List Nat} {values : List Nat} {ws0 ws : List Int} {v v' : Nat} {B0 B' : BD} {vars : Vars} {L a' : Addr} {cd : Value} {Ψ : Fl → Vars → List O → Prop}
    (rd : RdS nB nN nK a b t H0 rest ⟨values, ws0, B0⟩ vars H1) (hv : vars "value" = some (.int (v : Nat))) (tl : Tildes ws0 v B0 ws v' B') (hb0 : BitsAll H0 nB nN nK) (hl1 : values.length ≤ 100000) (hl2 : ws0.length ≤ 100000)
    (h : ∀ vars' H', RdS nB nN nK a b t H0 rest ⟨v' :: values, ws, B'⟩ vars' H' → Ψ .next vars' H') : aSs P w G (d + 7) (envOf "_law_read" (scopeAt 70) L a' cd) readTail vars H1 Ψ := by
  refine ss_cons (s_while (fun n vars H' => ∃ ws1 v1 B1, n = ws1.length ∧ n ≤ 100000 ∧ Tildes ws1 v1 B1 ws v' B' ∧ RdS nB nN nK a b t H0 rest ⟨values, ws1, B1⟩ vars H' ∧ vars "value" = some (.int (v1 : Nat))) ws0.length ⟨ws0, v, B0, rfl, hl2, tl, rd, hv⟩ ?_)
  rintro n vars H1 ⟨ws1, v1, B1, rfl, hlen, tl1, rd1, hv1⟩
  have last : ∀ vars H1, RdS nB nN nK a b t H0 rest ⟨values, ws1, B1⟩ vars H1 → vars "value" = some (.int (v1 : Nat)) → (ws1 = ws ∧ v1 = v' ∧ B1 = B') → aSs P w G (d + 7) (envOf "_law_read" (scopeAt 70) L a' cd) (readTail.drop 1) vars H1 Ψ := by
    rintro vars H1 rd1 hv1 ⟨rfl, rfl, rfl⟩
    refine ss_cons (s_expr (e_append (e_var rd1.vv ⟨a, rfl, ⟨_, rd1.ha⟩, e_var hv1 ⟨_, rd1.ha, by simp [nats]; (exact om326 hl1), .inl rfl, ss_nil ?_⟩⟩)))
    refine h vars _ ?_
    have := rd1.setV (v1 :: values)
    rw [nats_snoc] at this
    exact this
  refine b_and (b_plain (e_var rd1.vw (t_list rd1.hb (by simp [kinds]; (exact om326 hlen)) ?_)))
  cases tl1 with
  | stop hne =>
    cases ws with
    | nil => exact last vars H1 rd1 hv1 ⟨rfl, rfl, rfl⟩
    | cons k ws2 =>
      have hk : k ≠ 31 := fun q => hne (by rw [q]; rfl)
      have hb1 := rd1.hb
      simp only [kinds_snoc] at hb1
      rw [if_pos (by simp [kinds])]
      refine b_Compare (e_Subscript (e_var rd1.vw (e_unary (e_int (o_neg_int (o_sub_last hb1 (by simp [kinds]; simp at hlen; (exact om327 hlen)) (e_int (o_eq_int (t_bool ?_)))))))))
      rw [beq_eq_false_iff_ne.mpr hk]
      exact last vars H1 rd1 hv1 ⟨rfl, rfl, rfl⟩
  | neg I hval hsz tl2 =>
    rename_i ws2
    have hb1 := rd1.hb
    simp only [kinds_snoc] at hb1
    rw [if_pos (by simp [kinds])]
    refine b_Compare (e_Subscript (e_var rd1.vw (e_unary (e_int (o_neg_int (o_sub_last hb1 (by simp [kinds]; simp at hlen; (exact om327 hlen)) (e_int (o_eq_int (t_bool ?_)))))))))
    rw [if_pos (by decide)]
    refine ss_cons (s_expr (e_pop (e_var rd1.vw ⟨b, _, _, rfl, hb1, by simp [kinds]; simp at hlen; (exact om327 hlen), .inr ⟨_, rfl⟩, ?_⟩)))
    have rd2 := rd1.setW ws2
    refine ss_cons (s_assign (e_Call_def T.g (T.fn 69 _ _ _ _ _ rfl) (e_int (e_var hv1 (e_int (e_var rd2.vb (e_var rd2.vn (e_var rd2.vk ?_))))))))
    refine c_apply T (fun a b => a != b) 5 0 v1 1 B1 _ _ I hval (.inl (by decide)) (by decide) (by decide) (by simpa using hsz) rd2.has ((rd2.bits hb0) 28 _ rfl) fun H2 hh2 s2 => ss_nil ?_
    exact ⟨ws2.length, by simp, ws2, _, _, rfl, by simp at hlen; (exact om328 hlen), tl2, (rd2.same s2 hh2).upd (by decide), rfl⟩
theorem Tildes.len {ws v B ws' v' B'} (h : Tildes ws v B ws' v' B') : ws'.length ≤ ws.length := by
  induction h with
  | stop _ => exact Nat.le_refl _
  | neg _ _ _ _ ih => exact Nat.le_succ_of_le ih
theorem read_head (T : Top w G) {nB nN nK a b : Nat} {t : Str} {H0 H1 : List O} {rest : List Nat} {st : RS} {vars : Vars} {L a' : Addr} {cd : Value} {Ψ : Fl → Vars → List O → Prop}
    (rd : RdS nB nN nK a b t H0 rest st vars H1) (hne : rest ≠ []) (ht : t.length ≤ 10000)
    (h : ∀ vars', RdS nB nN nK a b t H0 (rest.drop (pieceOf rest).length) st vars' H1 → vars' "piece" = some (.str (pieceOf rest)) → vars' "kind" = some (.int ((tokFn (pieceOf rest)).getD 0)) →
      aSs P w G (d + 7) (envOf "_law_read" (scopeAt 70) L a' cd) ((whileBody ((bodyAt 70).getD 3 (.Pass ⟨0, 0, 0, 0⟩))).drop 4) vars' H1 Ψ) :
    aSs P w G (d + 7) (envOf "_law_read" (scopeAt 70) L a' cd) (whileBody ((bodyAt 70).getD 3 (.Pass ⟨0, 0, 0, 0⟩))) vars H1 Ψ := by
  obtain ⟨p, hp, hdrop, hplen⟩ := rd.place
  have hpos : 0 < rest.length := List.length_pos_iff.mpr hne
  have htl : t.cps.size ≤ 10000 := ht
  refine ss_cons (s_assign (e_slice_str (e_var rd.text ⟨t, rfl, by (exact om329 ht), e_var hp ⟨p, rfl, by unfold Str.length; (exact om330 hplen), e_BinOp (e_var hp (e_int (o_add_int ⟨p + 2, by push_cast; rfl, by (exact om331), ?_⟩)))⟩⟩)))
  rw [hdrop, Nat.add_sub_cancel_left]
  refine ss_cons (s_if (b_Compare (e_var rfl (e_glob T.g T.tk (v := .gd 0) (fun _ _ => rfl) (o_notin_tok T.tabs (t_bool ?_))))))
  refine if_upd (x := "piece") (v := .str (pieceOf rest)) ?_ (fun hc Ψ' hΨ => ?_) (fun hc => ?_)
  rotate_left
  · have hc' : (tokFn ⟨(rest.take 2).toArray⟩).isSome = false := by simpa using hc
    obtain ⟨c, rest', rfl⟩ := List.exists_cons_of_ne_nil hne
    have hget : t.cps[((p : Nat) : Int).toNat]? = some c := by
      have h1 : (t.cps.toList.drop p)[0]? = some c := by rw [hdrop]; rfl
      rw [List.getElem?_drop] at h1
      simpa using h1
    refine ss_cons (s_assign (e_Subscript (e_var rd.text (e_var hp (o_sub_str (c := c) (by (exact om300)) (by (exact om332 htl hplen)) hget (ss_nil ?_))))))
    unfold pieceOf at hΨ
    rw [hc'] at hΨ
    exact hΨ
  · have hc' : (tokFn ⟨(rest.take 2).toArray⟩).isSome = true := by simpa using hc
    show some (V.str _) = some (V.str _)
    unfold pieceOf
    rw [hc', if_pos rfl]
  have hlen : (pieceOf rest).length ≤ rest.length ∧ (pieceOf rest).length ≤ 2 := by
    unfold pieceOf Str.length
    split <;> simp <;> (first | exact om333 | exact om334)
  refine ss_cons (s_aug hp (e_Call_builtin T.g (T.blt "len" (by decide)).1 (T.blt "len" (by decide)).2 (e_var rfl (o_len_str (by (exact om335 hlen)) (o_iadd_int ?_)))))
  refine ss_cons (s_assign (e_get_tok T.tabs (e_glob T.g T.tk (v := .gd 0) (fun _ _ => rfl) ⟨rfl, e_var rfl ⟨_, rfl, e_int ⟨0, rfl, ?_⟩⟩⟩)))
  refine h _ ⟨rd.text, ⟨p + (pieceOf rest).length, rfl, ?_, ?_⟩, rd.vb, rd.vn, rd.vk, rd.vv, rd.vw, rd.ha, rd.hb, rd.ab, rd.old, rd.has, rd.keeps, rd.nk, rd.len⟩ rfl rfl
  · rw [← hdrop, List.drop_drop]
  · rw [List.length_drop]; (exact om336 hplen hlen)

theorem c_read (T : Top w G) {nB nN nK : Nat} {t : Str} {B : BD} {st : RS} {r : Nat} {Φ : V → List O → Prop} (ht : t.length ≤ 10000) (hr : Runs t.cps.toList ⟨[], [], B⟩ st) (hl : st.values.getLast? = some r) (hh : Has H nN nK B) (hb : BitsAll H nB nN nK)
    (hvl : st.values.length ≤ 10000)
    (h : ∀ H', Has H' nN nK st.B → Keeps2 H H' nN nK → Φ (.int (r : Nat)) H') : aC P w G (d + 8) "_law_read" [.str t, .ref nB, .ref nN, .ref nK] H Φ := by
  refine c_def T.g (T.fn 70 _ _ _ _ _ rfl) (by intro rs h pm cd doc; obtain ⟨a, b, c, d, rfl⟩ := len4 h; rfl) (by rfl) (fun L a cd => ?_)
  refine ss_cons (s_assign (e_List ⟨Nat.le_of_ble_eq_true rfl, ?_⟩))
  refine ss_cons (s_assign (e_List ⟨Nat.le_of_ble_eq_true rfl, ?_⟩))
  refine ss_cons (s_assign (e_int ?_))
  have hN := lt_of_some hh.n
  have hK := lt_of_some hh.k
  refine ss_cons (s_while (fun n vars H' => ∃ rest st', n = rest.length ∧ Runs rest st' st ∧ st'.waiting.length + rest.length ≤ t.cps.size ∧ st'.values.length + rest.length ≤ t.cps.size ∧ RdS nB nN nK H.length (H.length + 1) t H rest st' vars H') t.cps.size ⟨t.cps.toList, ⟨[], [], B⟩, by simp, hr, by simp, by simp, ?_⟩ ?_)
  · refine ⟨rfl, ⟨0, rfl, by simp, by simp⟩, rfl, rfl, rfl, rfl, ?_, ?_, ?_, by (exact om337), by (exact om338), ⟨?_, ?_, hh.ne⟩, fun i hi h1 h2 => ?_, ⟨hN, hK⟩, by simp⟩
    · show some (V.ref (H ++ [O.lst []]).length) = _; simp
    · simp [nats, List.getElem?_append]
    · simp [kinds, List.getElem?_append]
    · rw [List.getElem?_append_left (by simp; (exact om16 hN)), List.getElem?_append_left hN]; exact hh.n
    · rw [List.getElem?_append_left (by simp; (exact om16 hK)), List.getElem?_append_left hK]; exact hh.k
    · rw [List.getElem?_append_left (by simp; (exact om16 hi)), List.getElem?_append_left hi]
  · rintro n vars H1 ⟨rest, st', rfl, hruns, hwl, hvl', rd⟩
    obtain ⟨p, hp, hdrop, hplen⟩ := rd.place
    have htl : t.cps.size ≤ 10000 := ht
    have hbits := hb
    refine b_Compare (e_var hp (e_Call_builtin T.g (T.blt "len" (by decide)).1 (T.blt "len" (by decide)).2 (e_var rd.text (o_len_str (by (exact om329 ht)) (o_lt_int (t_bool ?_))))))
    cases hruns with
    | done =>
      rw [if_neg (by simp [Str.length]; simp at hplen; (exact om339 hplen))]
      have hg : (nats st.values)[0]? = some (.int (r : Nat)) := by
        unfold nats
        rw [List.getElem?_map, List.getElem?_reverse (by
          cases hq : st.values with
          | nil => rw [hq] at hl; simp at hl
          | cons _ _ => simp)]
        rw [List.getLast?_eq_getElem?] at hl
        simp [hl]
      refine ss_cons (s_return (e_Subscript (e_var rd.vv (e_int (o_sub_list rd.ha (by decide) (by decide) hg ?_)))))
      exact h _ rd.has ⟨rd.len, rd.keeps⟩
    | push1 hpc htk h0 h8 hr' =>
      rename_i c rest' k
      rw [if_pos (by simp [Str.length]; simp at hplen; (exact om340 hplen))]
      refine read_head T rd (by simp) ht fun vars' rd' hpv hkv => ?_
      rw [hpc] at rd' hpv hkv
      rw [htk] at hkv
      refine ss_cons (s_if (b_Compare (e_var hkv (e_int (o_eq_int (t_bool ?_))))))
      rw [if_neg (by simpa using h0)]
      refine ss_cons (s_if (b_Compare (e_var hkv (e_int (o_eq_int (t_bool ?_))))))
      rw [if_neg (by simpa using h8)]
      refine ss_cons (s_expr (e_append (e_var rd'.vw ⟨_, rfl, ⟨_, rd'.hb⟩, e_var hkv ⟨_, rd'.hb, by simp [kinds]; simp at hwl; (exact om341 htl hwl), .inl rfl, ?_⟩⟩)))
      refine ss_cons (s_continue ?_)
      refine ⟨rest'.length, by simp, rest', _, rfl, hr', by simp at hwl ⊢; (exact om342 hwl), by simp at hvl' ⊢; (exact om343 hvl'), ?_⟩
      rw [← kinds_snoc]
      exact rd'.setW (k :: st'.waiting)
    | push2 htk h0 h8 hr' =>
      rename_i c c' rest' k
      rw [if_pos (by simp [Str.length]; simp at hplen; (exact om344 hplen))]
      have hpc : pieceOf (c :: c' :: rest') = ⟨#[c, c']⟩ := by
        unfold pieceOf
        have : tokFn ⟨((c :: c' :: rest').take 2).toArray⟩ = some k := htk
        rw [this]; rfl
      have htk' : tokFn ⟨#[c, c']⟩ = some k := htk
      refine read_head T rd (by simp) ht fun vars' rd' hpv hkv => ?_
      rw [hpc] at rd' hpv hkv
      rw [htk'] at hkv
      refine ss_cons (s_if (b_Compare (e_var hkv (e_int (o_eq_int (t_bool ?_))))))
      rw [if_neg (by simpa using h0)]
      refine ss_cons (s_if (b_Compare (e_var hkv (e_int (o_eq_int (t_bool ?_))))))
      rw [if_neg (by simpa using h8)]
      refine ss_cons (s_expr (e_append (e_var rd'.vw ⟨_, rfl, ⟨_, rd'.hb⟩, e_var hkv ⟨_, rd'.hb, by simp [kinds]; simp at hwl; (exact om345 htl hwl), .inl rfl, ?_⟩⟩)))
      refine ss_cons (s_continue ?_)
      refine ⟨rest'.length, by simp; (exact om346), rest', _, rfl, hr', by simp at hwl ⊢; (exact om347 hwl), by simp at hvl' ⊢; (exact om348 hvl'), ?_⟩
      rw [← kinds_snoc]
      exact rd'.setW (k :: st'.waiting)
    | letter hpc htk h97 h101 I hsz tl hr' =>
      rename_i c rest' values waiting ws v B0 B1
      rw [if_pos (by simp [Str.length]; simp at hplen; (exact om340 hplen))]
      refine read_head T rd (by simp) ht fun vars' rd' hpv hkv => ?_
      rw [hpc] at rd' hpv hkv
      rw [htk] at hkv
      refine ss_cons (s_if (b_Compare (e_var hkv (e_int (o_eq_int (t_bool ?_))))))
      rw [if_pos (by rfl)]
      refine ss_cons (s_assign (e_Call_def T.g (T.fn 68 _ _ _ _ _ rfl) (e_BinOp (e_Call_builtin T.g (T.blt "ord" (by decide)).1 (T.blt "ord" (by decide)).2 (e_var hpv (o_ord rfl (e_int (o_sub_int (e_int (e_int (e_var rd'.vn (e_var rd'.vk ?_))))))))))))
      have hc : (((s1 c).cps.getD 0 0 : Nat) : Int) - 97 = ((c - 97 : Nat) : Int) := by
        show (c : Int) - 97 = _
        (exact om349 h97)
      rw [hc]
      refine c_node (lo := 0) (hi := 1) (d := d + 6) T rd'.has (by show B0.nodes.length ≤ 700; (exact om350 hsz)) fun H2 hh2 s2 => ss_nil ?_
      have rd2 : RdS nB nN nK H.length (H.length + 1) t H rest' ⟨values, waiting, _⟩ _ H2 := (rd'.same s2 hh2).upd (y := "value") (v := .int ((nodeF (c - 97) 0 1 B0).1 : Nat)) (by decide)
      have tll := tl.len
      simp at hwl hvl'
      refine read_tail T rd2 rfl tl hb (by (exact om351 htl hvl')) (by (exact om351 htl hwl)) fun vars3 H3 rd3 => ?_
      exact ⟨rest'.length, by simp, rest', _, rfl, hr', by simp; (exact om352 hwl tll), by simp; (exact om342 hvl'), rd3⟩
    | close hpc htk hsg I hx hy hsz tl hr' =>
      rename_i c rest' values waiting ws v x y k k' f B0 B1
      rw [if_pos (by simp [Str.length]; simp at hplen; (exact om340 hplen))]
      refine read_head T rd (by simp) ht fun vars' rd' hpv hkv => ?_
      rw [hpc] at rd' hpv hkv
      rw [htk] at hkv
      refine ss_cons (s_if (b_Compare (e_var hkv (e_int (o_eq_int (t_bool ?_))))))
      rw [if_neg (by decide)]
      refine ss_cons (s_if (b_Compare (e_var hkv (e_int (o_eq_int (t_bool ?_))))))
      rw [if_pos (by decide)]
      simp at hwl hvl'
      refine ss_cons (s_assign (e_pop (e_var rd'.vv ⟨_, nats (x :: values), .int (y : Nat), rfl, by rw [← nats_snoc]; exact rd'.ha, by simp [nats]; (exact om353 htl hvl'), ?_⟩)))
      have rd2 := (rd'.setV (x :: values)).upd (y := "second") (v := .int (y : Nat)) (by decide)
      refine ss_cons (s_assign (e_pop (e_var rd2.vv ⟨_, nats values, .int (x : Nat), rfl, by rw [← nats_snoc]; exact rd2.ha, by simp [nats]; (exact om354 htl hvl'), ?_⟩)))
      have rd3 := (rd2.setV values).upd (y := "first") (v := .int (x : Nat)) (by decide)
      refine ss_cons (s_assign (e_pop (e_var rd3.vw ⟨_, kinds (k' :: waiting), .int k, rfl, by rw [← kinds_snoc]; exact rd3.hb, by simp [kinds]; (exact om353 htl hwl), ?_⟩)))
      have rd4 := (rd3.setW (k' :: waiting)).upd (y := "sign") (v := .int k) (by decide)
      refine ss_cons (s_expr (e_pop (e_var rd4.vw ⟨_, kinds waiting, .int k', rfl, by rw [← kinds_snoc]; exact rd4.hb, by simp [kinds]; (exact om354 htl hwl), .inr ⟨_, rfl⟩, ?_⟩)))
      have rd5 := rd4.setW waiting
      refine ss_cons (s_assign (e_Call_def T.g (T.fn 69 _ _ _ _ _ rfl) (e_var rfl (e_var rfl (e_var rfl (e_var rd5.vb (e_var rd5.vn (e_var rd5.vk ?_))))))))
      refine c_apply T f 5 0 x y B0 _ _ I hx hy (by decide) (by decide) (by simpa using hsz) rd5.has ((rd5.bits hb) k f hsg) fun H2 hh2 s2 => ss_nil (ss_nil ?_)
      have rd6 : RdS nB nN nK H.length (H.length + 1) t H rest' ⟨values, waiting, _⟩ _ H2 := (rd5.same s2 hh2).upd (y := "value") (v := .int ((doApply f x y B0).1 : Nat)) (by decide)
      have tll := tl.len
      refine read_tail T rd6 rfl tl hb (by (exact om355 htl hvl')) (by (exact om355 htl hwl)) fun vars3 H3 rd7 => ?_
      exact ⟨rest'.length, by simp, rest', _, rfl, hr', by simp; (exact om356 hwl tll), by simp; (exact om357 hvl'), rd7⟩
end
end Mine
end

section
open PySem PySem.W PyProof.Rows PySem.Calls
set_option maxRecDepth 100000
namespace Mine
section
variable {prog : Program} {w : World} {G : Gl} {d : Nat} {env : Env} {vars : Vars} {H : List O}

theorem small_down (n : Nat) (hn : n ≤ 1000000) : Builtin.Range.rangeSize ((n : Int) - 1) (-1) (-1) = n ∧ Builtin.Range.small ((n : Int) - 1) (-1) (-1) = true := by
  have h1 : Builtin.Range.rangeSize ((n : Int) - 1) (-1) (-1) = n := by
    unfold Builtin.Range.rangeSize
    rw [if_neg (by decide)]
    split
    · rw [show (-(-1 : Int)) = 1 from rfl, Int.ediv_one]; (exact om358)
    · (exact om359 (by assumption))
  refine ⟨h1, ?_⟩
  unfold Builtin.Range.small
  rw [h1]
  simp only [Builtin.Range.rangeFitsLong, Bool.and_eq_true, Bool.or_eq_true, decide_eq_true_eq, beq_iff_eq]
  refine ⟨⟨⟨⟨⟨by (exact om360), by (exact om361 hn)⟩, by decide⟩, by decide⟩, by (exact om362), by (exact om363 hn)⟩, .inr ?_⟩
  rw [if_neg (by decide)]
  decide

theorem it_range_down {e1 e2 e3 : Expr} {p pos : Pos} {Φ : List V → (List O → Prop) → List O → Prop} (g : Glb G) (hm : G.mg "range" = none) (hb : G.mb "range" = some (.type "range"))
    (h : aEs prog w G d env [e1, e2, e3] vars H fun vs H1 => ∃ n : Nat, vs = [.int ((n : Int) - 1), .int (-1), .int (-1)] ∧ n ≤ 1000000 ∧ Φ ((List.range n).map fun i => .int ((n : Int) - 1 + (i : Nat) * (-1))) (fun _ => True) H1)
    (hs : backTo pos (starEach [e1, e2, e3] env) = [e1, e2, e3].map fun e => (false, eval e env) := by rfl)
    (hgl : env.globals = mainGlobals := by rfl) (hbl : env.builtins = builtinsNs := by rfl) (hk : env.scope.kind = .function := by rfl) (hl : env.kindOf "range" = some .globalImplicit := by rfl) : aIt prog w G d env (.Call (.Name "range" p) [e1, e2, e3] [] pos) vars H Φ := by
  intro A ρ s ok hr fr
  refine wpAny_Call_NameR (Calls.Name_function_global hk hl (Calls.loadGlobal_builtin (by rw [hgl]; exact g.g.keeps hr.base) hm (by rw [hbl]; exact g.b.keeps hr.base) hb ?_) (by decide))
  rw [hs]
  refine PySem.callWith_type (by simp) ?_
  refine Calls.evalArgs_plain (wpAny_mono (args_of h A ρ s ok hr fr) (fun rs s1 p1 => ?_) fun _ _ x => x)
  obtain ⟨ρ1, H1, st1, hr1, vs, vvs, n, rfl, hn, h1⟩ := p1
  simp only [VRs] at vvs
  obtain ⟨r, _, rfl, ⟨t, rfl⟩, r2, _, rfl, ⟨t2, rfl⟩, r3, _, rfl, ⟨t3, rfl⟩, rfl⟩ := vvs
  refine call_range_3 (by decide) ?_ (Or.inl (PyProof.noPylong_small (by decide)))
  obtain ⟨hz, hsm⟩ := small_down n hn
  refine wpAny_pyIter_range (Heap.get?_push_size _ rfl) hsm ?_
  simp only [Heap.size_push]
  have keep : ∀ b o, s1.heap.get? b = some o → ((s1.heap.push { cls := .type "range", data := .fields #[.int ((n : Int) - 1) t, .int (-1) t2, .int (-1) t3] }).push { cls := .type "range_iterator", data := .fields #[rawInt ((n : Int) - 1), rawInt (Builtin.Range.rangeSize ((n : Int) - 1) (-1) (-1)), rawInt (-1)] }).get? b = some o :=
    fun b o e => Heap.get?_push_of_some _ (Heap.get?_push_of_some _ e)
  have fresh : s1.heap.get? (s1.heap.objs.size + 1) = none := gone_size (Nat.le_succ _)
  refine ⟨_, _, H1, ρ1, _, fun _ => True, [s1.heap.objs.size + 1], (fun i h => IsRangeIter h (s1.heap.objs.size + 1) ((n : Int) - 1 + (i : Nat) * (-1)) ((n : Int) - (i : Nat)) (-1)), h1, st1.trans0 (Step.grow (tk := s1.toks) keep), hr1.grow (tk := s1.toks) keep, rfl, st1.gone fresh, fun b hb => ?_, fun A' hA' => ?_, trivial, ?_, by simpa using hn⟩
  · rw [List.mem_singleton.mp hb]
    exact ⟨(hr1.gone fresh).1, gone_own (fr.step st1) fresh⟩
  · exact Itr.range (prog := prog) (w := w) (G := G) hA' (s1.heap.objs.size + 1) ((n : Int) - 1) (-1) n
  · show Heap.get? _ _ = _
    have e := Heap.get?_push_size (s1.heap.push { cls := .type "range", data := .fields #[.int ((n : Int) - 1) t, .int (-1) t2, .int (-1) t3] }) (rfl : Obj.isFreed { cls := .type "range_iterator", data := .fields #[rawInt ((n : Int) - 1), rawInt (Builtin.Range.rangeSize ((n : Int) - 1) (-1) (-1)), rawInt (-1)] } = false)
    rw [Heap.size_push] at e
    rw [e, hz]
    simp
end

/-! the sizes -/
def sizesStep (ns : List (Nat × Nat × Nat)) (st : List Nat × List Nat) (p : Nat) : List Nat × List Nat :=
  if st.1.contains (256 + p) then (st.1 ++ [(ns.getD p (0, 0, 0)).2.1, (ns.getD p (0, 0, 0)).2.2], st.2.set (ns.getD p (0, 0, 0)).1 (st.2.getD (ns.getD p (0, 0, 0)).1 0 + 1)) else st
/-- the places from the last to the first, of which i are done -/
def sizesAt (ns : List (Nat × Nat × Nat)) (root : Nat) (i : Nat) : List Nat × List Nat := ((List.range i).map fun j => ns.length - 1 - j).foldl (sizesStep ns) ([root], [0, 0, 0, 0])
def sizesF (ns : List (Nat × Nat × Nat)) (root : Nat) : List Nat := (sizesAt ns root ns.length).2
theorem sizesAt_succ (ns : List (Nat × Nat × Nat)) (root i : Nat) : sizesAt ns root (i + 1) = sizesStep ns (sizesAt ns root i) (ns.length - 1 - i) := by
  unfold sizesAt
  rw [List.range_succ, List.map_append, List.foldl_append]
  rfl
theorem sizesAt_len (ns : List (Nat × Nat × Nat)) (root : Nat) : ∀ i, (sizesAt ns root i).2.length = 4 ∧ (sizesAt ns root i).1.length ≤ 1 + 2 * i
  | 0 => ⟨rfl, by simp [sizesAt]⟩
  | i + 1 => by
    obtain ⟨h1, h2⟩ := sizesAt_len ns root i
    rw [sizesAt_succ]
    unfold sizesStep
    split
    · exact ⟨by simp [h1], by simp; (exact om364 h2)⟩
    · exact ⟨h1, by (exact om365 h2)⟩

abbrev zsN (l : List Nat) : List V := zs (l.map fun (i : Nat) => (i : Int))

section
variable {w : World} {G : Gl} {d : Nat} {H : List O}
theorem c_sizes (T : Top w G) {nN root : Nat} {ns : List (Nat × Nat × Nat)} {Φ : V → List O → Prop} (hn : H[nN]? = some (.lst (ns.map nodeV))) (hlen : ns.length ≤ 700) (hlow : ∀ t ∈ ns, t.1 < 4)
    (h : ∀ H' n, (∀ i, i < H.length → H'[i]? = H[i]?) → H'[n]? = some (.lst (zsN (sizesF ns root))) → H.length ≤ H'.length → H.length ≤ n → Φ (.ref n) H') : aC P w G (d + 1) "_law_sizes" [.int root, .ref nN] H Φ := by
  refine c_def T.g (T.fn 71 _ _ _ _ _ rfl) (by intro rs h pm cd doc; obtain ⟨a, b, rfl⟩ := len2 h; rfl) (by rfl) (fun L a cd => ?_)
  have hN := lt_of_some hn
  refine ss_cons (s_assign (e_List (e_var rfl ⟨Nat.le_of_ble_eq_true rfl, ?_⟩)))
  refine ss_cons (s_assign (e_List (e_int (e_int (e_int (e_int ⟨Nat.le_of_ble_eq_true rfl, ?_⟩))))))
  have e1 : H[nN]? = (H ++ [O.lst [V.int root]] ++ [O.lst [V.int 0, V.int 0, V.int 0, V.int 0]])[nN]? := by
    rw [List.getElem?_append_left (by simp; (exact om16 hN)), List.getElem?_append_left hN]
  refine ss_cons (s_for (it_range_down T.g (T.typ "range" (by decide)).1 (T.typ "range" (by decide)).2 (e_BinOp (e_Call_builtin T.g (T.blt "len" (by decide)).1 (T.blt "len" (by decide)).2 (e_var rfl (o_len_list (vs := ns.map nodeV) (by rw [← e1]; exact hn) (by simp; (exact om301 hlen)) (e_int (o_sub_int
    (e_unary (e_int (o_neg_int (e_unary (e_int (o_neg_int ⟨ns.length, by simp, by (exact om301 hlen), ?_⟩))))))))))))))
  refine ⟨fun i vars H1 => vars "marked" = some (.ref H.length) ∧ vars "sizes" = some (.ref (H.length + 1)) ∧ vars "nodes" = some (.ref nN) ∧ H1[H.length]? = some (.lst (zsN (sizesAt ns root i).1)) ∧ H1[H.length + 1]? = some (.lst (zsN (sizesAt ns root i).2)) ∧
    (∀ j, j < H.length → H1[j]? = H[j]?) ∧ H.length + 2 ≤ H1.length, ?_, ?_, ?_⟩
  · refine ⟨rfl, by show some (V.ref (H ++ [O.lst _]).length) = _; simp, rfl, ?_, ?_, fun j hj => ?_, by simp⟩
    · rw [List.getElem?_append_left (by simp)]; simp [sizesAt]
    · simp [sizesAt]
    · rw [List.getElem?_append_left (by simp; (exact om16 hj)), List.getElem?_append_left hj]
  · rintro i v vars H1 hi ⟨h1, h2, h3, h4, h5, h6, h7⟩
    replace hi := map_range_some hi
    obtain ⟨_, ⟨hlt, rfl⟩, rfl⟩ := hi
    simp at hlt
    refine ⟨trivial, .inr (fun _ _ => rfl), a_name ?_⟩
    have hp : ((ns.length : Int) - 1 + (i : Nat) * (-1)) = ((ns.length - 1 - i : Nat) : Int) := by (exact om366 hlt)
    rw [hp]
    generalize hpp : ns.length - 1 - i = p
    have hplt : p < ns.length := by (exact om367 hp hpp)
    have hn1 : H1[nN]? = some (.lst (ns.map nodeV)) := by rw [h6 nN hN]; exact hn
    obtain ⟨k1, k2⟩ := sizesAt_len ns root i
    refine ss_cons (s_if (b_Compare (e_BinOp (e_glob' T.g (Top.gint T.nt) (e_var rfl (o_add_int (e_var h1 (o_in_ints (l := (sizesAt ns root i).1.map fun (i : Nat) => (i : Int)) h4 (t_bool ?_)))))))))
    have hcont : ((sizesAt ns root i).1.map fun (i : Nat) => (i : Int)).contains (256 + (p : Int)) = (sizesAt ns root i).1.contains (256 + p) := by
      rw [Bool.eq_iff_iff]
      simp only [List.contains_iff_mem, List.mem_map]
      constructor
      · rintro ⟨a, ha, e⟩
        have : a = 256 + p := by (exact om368 e)
        rw [← this]; exact ha
      · intro ha; exact ⟨_, ha, by (exact om302)⟩
    rw [hcont]
    have hs := sizesAt_succ ns root i
    rw [hpp] at hs
    unfold sizesStep at hs
    by_cases hc : (sizesAt ns root i).1.contains (256 + p) = true
    · rw [if_pos hc] at hs ⊢
      have hg : (ns.map nodeV)[((p : Nat) : Int).toNat]? = some (nodeV (ns.getD p (0, 0, 0))) := by
        rw [Int.toNat_natCast, List.getElem?_map, List.getD_eq_getElem?_getD, List.getElem?_eq_getElem hplt]; rfl
      have hlv : (ns.getD p (0, 0, 0)).1 < 4 := by
        rw [List.getD_eq_getElem?_getD, List.getElem?_eq_getElem hplt]
        exact hlow _ (List.getElem_mem hplt)
      generalize ns.getD p (0, 0, 0) = tt at hs hg hlv
      refine ss_cons (s_assign_tuple (e_Subscript (e_var h3 (e_var rfl (o_sub_list hn1 (by (exact om300)) (by (exact om369 hlen hpp)) hg (a_tuple ?_))))))
      have hsz : (zsN (sizesAt ns root i).2)[((tt.1 : Nat) : Int).toNat]? = some (.int (((sizesAt ns root i).2.getD tt.1 0 : Nat) : Int)) := by
        rw [Int.toNat_natCast]
        simp only [zsN, zs, List.getElem?_map]
        rw [List.getD_eq_getElem?_getD, List.getElem?_eq_getElem (by (exact om142 k1 hlv))]
        rfl
      refine ss_cons (s_aug_sub (e_var h2 (e_var rfl ?_)))
      refine g_list h5 (by (exact om300)) (by (exact om370 hlv)) hsz ?_
      refine e_int (o_iadd_int (o_set_list h5 (by (exact om300)) (by simp [zsN, zs]; (exact om142 k1 hlv)) (by simp [zsN, zs]; (exact om371 k1)) ?_))
      have hset : ∀ (l : List Nat) (j x : Nat), (zsN l).set ((j : Nat) : Int).toNat (.int ((x : Int) + 1)) = zsN (l.set j (x + 1)) := by
        intro l j x
        simp [zsN, zs, List.map_set]
      rw [hset]
      have h4' : (H1.set (H.length + 1) (.lst (zsN ((sizesAt ns root i).2.set tt.1 ((sizesAt ns root i).2.getD tt.1 0 + 1)))))[H.length]? = some (.lst (zsN (sizesAt ns root i).1)) := by
        rw [List.getElem?_set_ne (by (exact om372))]; exact h4
      refine ss_cons (s_expr (e_extend (e_var h1 ⟨_, rfl, ⟨_, h4'⟩, e_List (e_var rfl (e_var rfl ⟨Nat.le_of_ble_eq_true rfl, ?_⟩))⟩)))
      refine ⟨_, _, [.int (tt.2.1 : Nat), .int (tt.2.2 : Nat)], rfl, by rw [List.getElem?_append_left (by simp; (exact om373 h7))]; exact h4', by rw [List.getElem?_append_right (Nat.le_refl _)]; simp, by simp [zsN, zs]; (exact om374 hlen hlt k2), .inl rfl, ss_nil (ss_nil ?_)⟩
      refine ⟨h1, h2, h3, ?_, ?_, fun j hj => ?_, by simp; (exact om375 h7)⟩
      · rw [hs, List.getElem?_set_self (by simp; (exact om376 h7))]
        simp [zsN, zs]
      · rw [hs, List.getElem?_set_ne (by (exact om337)), List.getElem?_append_left (by simp; (exact om377 h7)), List.getElem?_set_self (by (exact om377 h7))]
      · rw [List.getElem?_set_ne (by (exact om378 hj)), List.getElem?_append_left (by simp; (exact om379 h7 hj)), List.getElem?_set_ne (by (exact om380 hj))]; exact h6 j hj
    · rw [if_neg hc] at hs ⊢
      refine ss_nil (ss_nil ?_)
      exact ⟨h1, h2, h3, by rw [hs]; exact h4, by rw [hs]; exact h5, h6, h7⟩
  · rintro vars H1 ⟨h1, h2, h3, h4, h5, h6, h7⟩
    simp only [List.length_map, List.length_range] at h5
    refine ⟨trivial, ss_cons (s_return (e_var h2 ?_))⟩
    exact h H1 _ h6 h5 (by (exact om381 h7)) (by (exact om382))
end
end Mine
end

section
open PySem PySem.W PyProof.Rows PySem.Calls
set_option maxRecDepth 100000
namespace Mine

theorem band_mask (x n : Nat) : Builtin.bitAnd (x : Int) ((2 ^ n : Nat) - 1 : Int) = ((x % 2 ^ n : Nat) : Int) := by
  have hp : 0 < 2 ^ n := Nat.two_pow_pos n
  have e : ((2 ^ n : Nat) - 1 : Int) = ((2 ^ n - 1 : Nat) : Int) := by (exact om383 hp)
  rw [e, bitAnd_pp (by (exact om300)) (by (exact om384)), Int.toNat_natCast, Int.toNat_natCast, Nat.and_two_pow_sub_one_eq_mod]
theorem shr_nat (x n : Nat) : (x : Int) / 2 ^ ((n : Nat) : Int).toNat = ((x / 2 ^ n : Nat) : Int) := by
  rw [Int.toNat_natCast]; push_cast; rfl
theorem shl_one (n : Nat) : (1 : Int) * 2 ^ ((n : Nat) : Int).toNat = ((2 ^ n : Nat) : Int) := by
  rw [Int.toNat_natCast, Int.one_mul]; push_cast; rfl

/-! the pieces -/
def pieceN (t h k : Nat) : Nat := t / 2 ^ (2 * h * k) % 2 ^ (2 * h)
def pieceStep (t h : Nat) (seen : List Nat) (k : Nat) : List Nat := if pieceN t h k / 2 ^ h ≠ pieceN t h k % 2 ^ h ∧ ¬ seen.contains (pieceN t h k) = true then seen ++ [pieceN t h k] else seen
def seenF (t h m : Nat) : List Nat := (List.range m).foldl (pieceStep t h) []
def piecesAt (t i : Nat) : List Nat := (List.range i).map fun j => (seenF t (8 / 2 ^ j) (2 ^ j)).length
def piecesF (t : Nat) : List Nat := piecesAt t 4
theorem seenF_succ (t h m : Nat) : seenF t h (m + 1) = pieceStep t h (seenF t h m) m := by
  unfold seenF; rw [List.range_succ, List.foldl_append]; rfl
theorem seenF_len (t h : Nat) : ∀ m, (seenF t h m).length ≤ m
  | 0 => by simp [seenF]
  | m + 1 => by
    have := seenF_len t h m
    rw [seenF_succ]; unfold pieceStep
    split
    · simp; (exact om385 this)
    · (exact om250 this)
theorem piecesAt_succ (t i : Nat) : piecesAt t (i + 1) = piecesAt t i ++ [(seenF t (8 / 2 ^ i) (2 ^ i)).length] := by
  unfold piecesAt; rw [List.range_succ, List.map_append]; rfl

theorem contains_cast (l : List Nat) (p : Nat) : (l.map fun (i : Nat) => (i : Int)).contains (p : Int) = l.contains p := by
  rw [Bool.eq_iff_iff]
  simp only [List.contains_iff_mem, List.mem_map]
  constructor
  · rintro ⟨a, ha, e⟩
    have : a = p := by (exact om298 e)
    rw [← this]; exact ha
  · intro ha; exact ⟨_, ha, rfl⟩

section
variable {w : World} {G : Gl} {d : Nat} {H : List O}
theorem c_pieces (T : Top w G) {t : Nat} {Φ : V → List O → Prop} (ht : t < 65536)
    (h : ∀ H' n, (∀ i, i < H.length → H'[i]? = H[i]?) → H'[n]? = some (.lst (zsN (piecesF t))) → H.length ≤ H'.length → H.length ≤ n → Φ (.ref n) H') : aC P w G (d + 1) "_law_pieces" [.int t] H Φ := by
  refine c_def T.g (T.fn 72 _ _ _ _ _ rfl) (by intro rs h pm cd doc; obtain ⟨a, rfl⟩ := len1 h; rfl) (by rfl) (fun L a cd => ?_)
  refine ss_cons (s_assign (e_List ⟨Nat.le_of_ble_eq_true rfl, ?_⟩))
  refine ss_cons (s_for (it_range1 T.g (T.typ "range" (by decide)).1 (T.typ "range" (by decide)).2 (e_int ⟨4, rfl, by decide, ?_⟩)))
  refine ⟨fun i vars H1 => vars "table" = some (.int t) ∧ vars "sizes" = some (.ref H.length) ∧ H1[H.length]? = some (.lst (zsN (piecesAt t i))) ∧
    (∀ j, j < H.length → H1[j]? = H[j]?) ∧ H.length + 1 ≤ H1.length, ?_, ?_, ?_⟩
  · refine ⟨rfl, rfl, ?_, fun j hj => ?_, by simp⟩
    · simp [piecesAt]
    · rw [List.getElem?_append_left hj]
  · rintro i v vars H1 hi ⟨h1, h2, h3, h4, h5⟩
    replace hi := map_range_some hi
    obtain ⟨_, ⟨hlt, rfl⟩, rfl⟩ := hi
    simp at hlt
    refine ⟨trivial, .inr (fun _ _ => rfl), a_name ?_⟩
    refine ss_cons (s_assign (e_BinOp (e_int (e_var rfl (o_rshift_int (by (exact om300)) ?_)))))
    rw [show (8 : Int) = ((8 : Nat) : Int) from rfl, shr_nat]
    generalize hh : 8 / 2 ^ i = hf
    have hf8 : hf ≤ 8 := by rw [← hh]; exact Nat.div_le_self _ _
    refine ss_cons (s_assign (e_List ⟨Nat.le_of_ble_eq_true rfl, ?_⟩))
    have hp16 : 2 ^ i ≤ 8 := by
      have : 2 ^ i ≤ 2 ^ 3 := Nat.pow_le_pow_right (by decide) (by (exact om386 hlt))
      (exact om387 this)
    refine ss_cons (s_for (it_range1 T.g (T.typ "range" (by decide)).1 (T.typ "range" (by decide)).2 (e_BinOp (e_int (e_var rfl (o_lshift_int (by (exact om300)) (by (exact om388 hlt)) (by decide) ⟨2 ^ i, by rw [shl_one], by (exact om389 hp16), ?_⟩))))))
    refine ⟨fun k vars H2 => vars "table" = some (.int t) ∧ vars "sizes" = some (.ref H.length) ∧ vars "half" = some (.int hf) ∧ vars "seen" = some (.ref H1.length) ∧ H2[H1.length]? = some (.lst (zsN (seenF t hf k))) ∧
      (∀ j, j < H1.length → H2[j]? = H1[j]?) ∧ H1.length + 1 ≤ H2.length, ?_, ?_, ?_⟩
    · refine ⟨h1, h2, rfl, rfl, ?_, fun j hj => ?_, by simp⟩
      · simp [seenF]
      · rw [List.getElem?_append_left hj]
    · rintro k v vars H2 hk ⟨g1, g2, g3, g4, g5, g6, g7⟩
      replace hk := map_range_some hk
      obtain ⟨_, ⟨hklt, rfl⟩, rfl⟩ := hk
      simp at hklt
      refine ⟨trivial, .inr (fun _ _ => rfl), a_name ?_⟩
      refine ss_cons (s_assign (e_BinOp (e_BinOp (e_var g1 (e_BinOp (e_BinOp (e_int (e_var g3 (o_mul_int (.inl (by decide)) (e_var rfl (o_mul_int (.inr (by (exact om390 hp16 hklt))) ?_)))))))))))
      have e1 : (2 : Int) * (hf : Int) * (k : Int) = ((2 * hf * k : Nat) : Int) := by push_cast; rfl
      rw [e1]
      refine o_rshift_int (by (exact om300)) ?_
      rw [shr_nat]
      refine e_BinOp (e_BinOp (e_int (e_BinOp (e_int (e_var g3 (o_mul_int (.inl (by decide)) ?_))))))
      have e2 : (2 : Int) * (hf : Int) = ((2 * hf : Nat) : Int) := by push_cast; rfl
      rw [e2]
      refine o_lshift_int (by (exact om391)) (by (exact om392 hf8)) (by decide) (e_int (o_sub_int (o_and_int ?_)))
      rw [shl_one, band_mask]
      have hpc : t / 2 ^ (2 * hf * k) % 2 ^ (2 * hf) = pieceN t hf k := rfl
      rw [hpc]
      have hss := seenF_succ t hf k
      unfold pieceStep at hss
      have hsl := seenF_len t hf k
      generalize pieceN t hf k = p at hss
      refine ss_cons (s_if (b_and (b_Compare (e_BinOp (e_var rfl (e_var g3 (o_rshift_int (by (exact om300)) (e_BinOp (e_var rfl (e_BinOp (e_BinOp (e_int (e_var g3 (o_lshift_int (by (exact om300)) (by (exact om393 hf8)) (by decide) (e_int (o_sub_int (o_and_int (o_ne_int (t_bool ?_)))))))))))))))))))
      rw [shr_nat, shl_one, band_mask]
      have hne : (((p / 2 ^ hf : Nat) : Int) != ((p % 2 ^ hf : Nat) : Int)) = decide (p / 2 ^ hf ≠ p % 2 ^ hf) := by
        by_cases q : p / 2 ^ hf = p % 2 ^ hf
        · rw [q]; simp
        · have : ((p / 2 ^ hf : Nat) : Int) ≠ ((p % 2 ^ hf : Nat) : Int) := by (exact om394 q)
          rw [decide_eq_true q, bne_iff_ne.mpr this]
      rw [hne]
      by_cases q1 : p / 2 ^ hf ≠ p % 2 ^ hf
      · rw [decide_eq_true q1, if_pos rfl]
        refine b_Compare (e_var rfl (e_var g4 (o_notin_ints (l := (seenF t hf k).map fun (i : Nat) => (i : Int)) g5 (t_bool ?_))))
        rw [contains_cast]
        by_cases q2 : (seenF t hf k).contains p = true
        · rw [if_neg (fun q => q.2 q2)] at hss
          rw [q2]
          refine ss_nil (ss_nil ⟨g1, g2, g3, g4, by rw [hss]; exact g5, g6, g7⟩)
        · rw [if_pos ⟨q1, q2⟩] at hss
          rw [Bool.not_eq_true _ |>.mp q2]
          refine ss_cons (s_expr (e_append (e_var g4 ⟨_, rfl, ⟨_, g5⟩, e_var rfl ⟨_, g5, by simp [zsN, zs]; (exact om395 hp16 hklt hsl), .inl rfl, ss_nil (ss_nil ?_)⟩⟩)))
          refine ⟨g1, g2, g3, g4, ?_, fun j hj => ?_, by simp; (exact om396 g7)⟩
          · rw [hss, List.getElem?_set_self (by (exact om131 g7))]
            simp [zsN, zs]
          · rw [List.getElem?_set_ne (by (exact om378 hj))]; exact g6 j hj
      · rw [decide_eq_false q1, if_neg (by decide)]
        rw [if_neg (fun q => q1 q.1)] at hss
        refine ss_nil (ss_nil ⟨g1, g2, g3, g4, by rw [hss]; exact g5, g6, g7⟩)
    · rintro vars H2 ⟨g1, g2, g3, g4, g5, g6, g7⟩
      simp only [List.length_map, List.length_range] at g5
      refine ⟨trivial, ?_⟩
      have h3' : H2[H.length]? = some (.lst (zsN (piecesAt t i))) := by rw [g6 _ (by (exact om131 h5))]; exact h3
      have hsl := seenF_len t hf (2 ^ i)
      refine ss_cons (s_expr (e_append (e_var g2 ⟨_, rfl, ⟨_, h3'⟩, e_Call_builtin T.g (T.blt "len" (by decide)).1 (T.blt "len" (by decide)).2 (e_var g4 (o_len_list g5 (by simp [zsN, zs]; (exact om397 hp16 hsl)) ⟨_, h3', by simp [zsN, zs, piecesAt]; (exact om398 hlt), .inl rfl, ss_nil ?_⟩))⟩)))
      refine ⟨g1, g2, ?_, fun j hj => ?_, by simp; (exact om399 h5 g7)⟩
      · rw [piecesAt_succ, hh, List.getElem?_set_self (by (exact om400 h5 g7))]
        simp [zsN, zs]
      · rw [List.getElem?_set_ne (by (exact om378 hj)), g6 j (by (exact om401 h5 hj))]; exact h4 j hj
  · rintro vars H1 ⟨h1, h2, h3, h4, h5⟩
    simp only [List.length_map, List.length_range] at h3
    refine ⟨trivial, ss_cons (s_return (e_var h2 ?_))⟩
    exact h H1 _ h4 h3 (by (exact om21 h5)) (by (exact om402))
end
end Mine
end

section
open PySem PySem.W PyProof.Rows PySem.Calls
set_option maxRecDepth 100000
namespace Mine

def factor (ws : List Nat) (r j : Nat) : Nat := if r / 2 ^ (3 - j) % 2 = 1 then ws.getD j 0 else 32 - ws.getD j 0
def partAt (ws : List Nat) (r i : Nat) : Nat := (List.range i).foldl (fun acc j => acc * factor ws r j) 1
def rowsAt (t : Nat) (ws : List Nat) (n : Nat) : Nat := (List.range n).foldl (fun acc r => if t / 2 ^ r % 2 = 1 then acc + partAt ws r 4 else acc) 0
def rowsF (t : Nat) (ws : List Nat) : Nat := rowsAt t ws 16
theorem partAt_succ (ws : List Nat) (r i : Nat) : partAt ws r (i + 1) = partAt ws r i * factor ws r i := by
  unfold partAt; rw [List.range_succ, List.foldl_append]; rfl
theorem rowsAt_succ (t : Nat) (ws : List Nat) (n : Nat) : rowsAt t ws (n + 1) = if t / 2 ^ n % 2 = 1 then rowsAt t ws n + partAt ws n 4 else rowsAt t ws n := by
  unfold rowsAt; rw [List.range_succ, List.foldl_append]; rfl

theorem band_one (x : Nat) : Builtin.bitAnd (x : Int) 1 = ((x % 2 : Nat) : Int) := by
  rw [bitAnd_m1]; (exact om403)
theorem bit_eq (x : Nat) : (((x % 2 : Nat) : Int) == 1) = decide (x % 2 = 1) := by
  by_cases h : x % 2 = 1
  · rw [h]; rfl
  · rw [decide_eq_false h]
    exact beq_eq_false_iff_ne.mpr (by (exact om404 h))

section
variable {w : World} {G : Gl} {d : Nat} {H : List O}
theorem c_rows (T : Top w G) {t nW : Nat} {ws : List Nat} {Φ : V → List O → Prop} (hw : H[nW]? = some (.lst (zsN ws))) (hwl : ws.length = 4) (hw32 : ∀ x ∈ ws, x ≤ 32)
    (h : ∀ H', (∀ i, i < H.length → H'[i]? = H[i]?) → H.length ≤ H'.length → Φ (.int (rowsF t ws : Nat)) H') : aC P w G (d + 1) "_law_rows" [.int t, .ref nW] H Φ := by
  refine c_def T.g (T.fn 74 _ _ _ _ _ rfl) (by intro rs h pm cd doc; obtain ⟨a, b, rfl⟩ := len2 h; rfl) (by rfl) (fun L a cd => ?_)
  refine ss_cons (s_assign (e_int ?_))
  refine ss_cons (s_for (it_range1 T.g (T.typ "range" (by decide)).1 (T.typ "range" (by decide)).2 (e_int ⟨16, rfl, by decide, ?_⟩)))
  refine ⟨fun r vars H1 => vars "table" = some (.int t) ∧ vars "weights" = some (.ref nW) ∧ vars "total" = some (.int (rowsAt t ws r : Nat)) ∧ (∀ i, i < H.length → H1[i]? = H[i]?) ∧ H.length ≤ H1.length, ?_, ?_, ?_⟩
  · exact ⟨rfl, rfl, rfl, fun _ _ => rfl, Nat.le_refl _⟩
  · rintro r v vars H1 hi ⟨h1, h2, h3, h4, h5⟩
    replace hi := map_range_some hi
    obtain ⟨_, ⟨hlt, rfl⟩, rfl⟩ := hi
    simp at hlt
    refine ⟨trivial, .inr (fun _ _ => rfl), a_name ?_⟩
    refine ss_cons (s_if (b_Compare (e_BinOp (e_BinOp (e_var h1 (e_var rfl (o_rshift_int (by (exact om300)) (e_int (o_and_int (e_int (o_eq_int (t_bool ?_))))))))))))
    rw [shr_nat, band_one, bit_eq]
    have hs := rowsAt_succ t ws r
    by_cases hb : t / 2 ^ r % 2 = 1
    · rw [if_pos hb] at hs
      rw [decide_eq_true hb, if_pos rfl]
      refine ss_cons (s_assign (e_int ?_))
      refine ss_cons (s_for (it_range1 T.g (T.typ "range" (by decide)).1 (T.typ "range" (by decide)).2 (e_int ⟨4, rfl, by decide, ?_⟩)))
      refine ⟨fun i vars H2 => vars "table" = some (.int t) ∧ vars "weights" = some (.ref nW) ∧ vars "total" = some (.int (rowsAt t ws r : Nat)) ∧ vars "row" = some (.int r) ∧ vars "part" = some (.int (partAt ws r i : Nat)) ∧ (∀ i, i < H.length → H2[i]? = H[i]?) ∧ H.length ≤ H2.length, ?_, ?_, ?_⟩
      · exact ⟨h1, h2, h3, rfl, rfl, h4, h5⟩
      · rintro i v vars H2 hi ⟨g1, g2, g3, g4, g5, g6, g7⟩
        replace hi := map_range_some hi
        obtain ⟨_, ⟨hilt, rfl⟩, rfl⟩ := hi
        simp at hilt
        refine ⟨trivial, .inr (fun _ _ => rfl), a_name ?_⟩
        have hw2 : H2[nW]? = some (.lst (zsN ws)) := by rw [g6 _ (lt_of_some hw)]; exact hw
        have hwi : (zsN ws)[((i : Nat) : Int).toNat]? = some (.int (ws.getD i 0 : Nat)) := by
          rw [Int.toNat_natCast]
          simp only [zsN, zs, List.getElem?_map]
          rw [List.getD_eq_getElem?_getD, List.getElem?_eq_getElem (by (exact om142 hwl hilt))]
          rfl
        have hle : ws.getD i 0 ≤ 32 := by
          rw [List.getD_eq_getElem?_getD, List.getElem?_eq_getElem (by (exact om142 hwl hilt))]
          exact hw32 _ (List.getElem_mem _)
        refine ss_cons (s_aug g5 (e_IfExp (b_Compare (e_BinOp (e_BinOp (e_var g4 (e_BinOp (e_int (e_var rfl (o_sub_int (o_rshift_int (by (exact om405 hilt)) (e_int (o_and_int (e_int (o_eq_int (t_bool ?_))))))))))))))))
        have e3 : (3 : Int) - (i : Int) = ((3 - i : Nat) : Int) := by (exact om406 hilt)
        rw [e3, shr_nat, band_one, bit_eq]
        have hf : factor ws r i ≤ 32 := by
          unfold factor
          split <;> (first | exact om407 hle | exact om408)
        refine if_val (v := .int (factor ws r i : Nat)) ?_ (fun hc Ψ hΨ => ?_) (fun hc Ψ hΨ => ?_)
        · refine o_imul_int (.inr (by (exact om409 hf))) (ss_nil ?_)
          refine ⟨g1, g2, g3, g4, ?_, g6, g7⟩
          show some (V.int ((partAt ws r i : Nat) * (factor ws r i : Nat))) = _
          rw [partAt_succ]; push_cast; rfl
        · refine e_Subscript (e_var g2 (e_var rfl (o_sub_list hw2 (by (exact om300)) (by (exact om370 hilt)) hwi ?_)))
          unfold factor at hΨ
          rw [if_pos (of_decide_eq_true hc)] at hΨ
          exact hΨ
        · refine e_BinOp (e_int (e_Subscript (e_var g2 (e_var rfl (o_sub_list hw2 (by (exact om300)) (by (exact om370 hilt)) hwi (o_sub_int ?_))))))
          unfold factor at hΨ
          rw [if_neg (of_decide_eq_false hc)] at hΨ
          have : (32 : Int) - (ws.getD i 0 : Nat) = ((32 - ws.getD i 0 : Nat) : Int) := by (exact om410 hle)
          rw [this]; exact hΨ
      · rintro vars H2 ⟨g1, g2, g3, g4, g5, g6, g7⟩
        simp only [List.length_map, List.length_range] at g5
        refine ⟨trivial, ?_⟩
        refine ss_cons (s_aug g3 (e_var g5 (o_iadd_int (ss_nil (ss_nil ?_)))))
        refine ⟨g1, g2, ?_, g6, g7⟩
        show some (V.int ((rowsAt t ws r : Nat) + (partAt ws r 4 : Nat))) = _
        rw [hs]; push_cast; rfl
    · rw [if_neg hb] at hs
      rw [decide_eq_false hb, if_neg (by decide)]
      refine ss_nil (ss_nil ⟨h1, h2, by rw [hs]; exact h3, h4, h5⟩)
  · rintro vars H1 ⟨h1, h2, h3, h4, h5⟩
    simp only [List.length_map, List.length_range] at h3
    refine ⟨trivial, ss_cons (s_return (e_var h3 ?_))⟩
    exact h H1 h4 h5
end
end Mine
end

section
open PySem PySem.W PyProof.Rows PySem.Calls
set_option maxRecDepth 100000
namespace Mine

def valF (lv : List UInt64) (x : Nat) : UInt64 := if x < 256 then Float64.ofInt (x : Int) else lv.getD (x - 256) 0
def levelsStep (hues : List UInt64) (lv : List UInt64) (t : Nat × Nat × Nat) : List UInt64 := lv ++ [vF (valF lv t.2.1) (valF lv t.2.2) (hues.getD t.1 0)]
def levelsF (hues : List UInt64) (ns : List (Nat × Nat × Nat)) : List UInt64 := ns.foldl (levelsStep hues) []
theorem levelsF_len (hues : List UInt64) (ns : List (Nat × Nat × Nat)) : (levelsF hues ns).length = ns.length := by
  unfold levelsF
  have : ∀ (ns : List (Nat × Nat × Nat)) (acc : List UInt64), (ns.foldl (levelsStep hues) acc).length = acc.length + ns.length := by
    intro ns
    induction ns with
    | nil => intro acc; simp
    | cons t r ih => intro acc; rw [List.foldl_cons, ih]; simp [levelsStep]; (exact om411)
  simpa using this ns []
theorem levelsF_take (hues : List UInt64) (ns : List (Nat × Nat × Nat)) (i : Nat) (t : Nat × Nat × Nat) (h : ns[i]? = some t) : levelsF hues (ns.take (i + 1)) = levelsStep hues (levelsF hues (ns.take i)) t := by
  unfold levelsF
  rw [List.take_add_one, h]
  simp [List.foldl_append]
theorem mem2 {α : Type} {x a b : α} (h : x ∈ [a, b]) : x = a ∨ x = b := by simpa using h
theorem mem3 {α : Type} {x a b c : α} (h : x ∈ [a, b, c]) : x = a ∨ x = b ∨ x = c := by simpa using h
/-- what int() is given -/
def endF (x : UInt64) : UInt64 := Float64.add (Float64.mul x 0x4130000000000000) 0x3fe0000000000000
abbrev flts (l : List UInt64) : List V := l.map .flt

section
variable {w : World} {G : Gl} {d : Nat} {H : List O}
theorem c_chances (T : Top w G) {nR nU nN : Nat} {roots : List Nat} {hues : List UInt64} {ns : List (Nat × Nat × Nat)} {out : List Int} {Φ : V → List O → Prop}
    (hR : H[nR]? = some (.lst (zsN roots))) (hU : H[nU]? = some (.lst (flts hues))) (hN : H[nN]? = some (.lst (ns.map nodeV)))
    (hul : hues.length = 4) (hlen : ns.length ≤ 700) (hrl : roots.length ≤ 100) (hroot : ∀ r ∈ roots, r < 256 + ns.length)
    (hlow : ∀ (i : Nat) t, ns[i]? = some t → t.1 < 4 ∧ t.2.1 < 256 + i ∧ t.2.2 < 256 + i)
    (hout : out.length = roots.length) (hI : ∀ (i : Nat) r, roots[i]? = some r → ∃ sg m e, Float64.decode (endF (valF (levelsF hues ns) r)) = .fin sg m e ∧ out[i]? = some (Float64.truncOf sg m e))
    (h : ∀ H' n, (∀ i, i < H.length → H'[i]? = H[i]?) → H.length ≤ H'.length → H'[n]? = some (.lst (zs out)) → Φ (.ref n) H') : aC P w G (d + 3) "_law_chances" [.ref nR, .ref nU, .ref nN] H Φ := by
  refine c_def_cells T.g (T.fn 73 _ _ _ _ _ rfl) (by intro rs h pm cd doc; obtain ⟨a, b, c, rfl⟩ := len3 h; rfl) (by intro p hp; rcases mem3 hp with rfl | rfl | rfl <;> exact .inl rfl) ?_ (fun L a cd => ?_)
  · intro L p hp
    have : p ∈ [((Str.ofString "levels", L + 1) : Str × Addr)] := hp
    rw [List.mem_singleton.mp this]; rfl
  have lR := lt_of_some hR
  have lU := lt_of_some hU
  have lN := lt_of_some hN
  refine ss_cons (s_assign_cell (e_List ⟨Nat.le_of_ble_eq_true rfl, ?_⟩))
  have hN1 : (H ++ [O.lst []])[nN]? = some (.lst (ns.map nodeV)) := by rw [List.getElem?_append_left lN]; exact hN
  refine ss_cons (s_for (it_list (e_var rfl ⟨nN, _, rfl, hN1, by simp; (exact om301 hlen), ?_⟩)))
  refine ⟨fun i vars H1 => vars "roots" = some (.ref nR) ∧ vars "hues" = some (.ref nU) ∧ vars "nodes" = some (.ref nN) ∧ vars "levels" = some (.ref H.length) ∧ H1[H.length]? = some (.lst (flts (levelsF hues (ns.take i)))) ∧
    (∀ j, j < H.length → H1[j]? = H[j]?) ∧ H.length + 1 ≤ H1.length, ?_, ?_, ?_⟩
  · refine ⟨rfl, rfl, rfl, rfl, ?_, fun j hj => ?_, by simp⟩
    · simp [levelsF]
    · rw [List.getElem?_append_left hj]
  · rintro i v vars H1 hi ⟨h1, h2, h3, h4, h5, h6, h7⟩
    have hN2 : H1[nN]? = some (.lst (ns.map nodeV)) := by rw [h6 nN lN]; exact hN
    rw [List.getElem?_map, Option.map_eq_some_iff] at hi
    obtain ⟨t, ht, rfl⟩ := hi
    obtain ⟨q1, q2, q3⟩ := hlow i t ht
    have hlt : i < ns.length := lt_of_some ht
    have hll : (levelsF hues (ns.take i)).length = i := by rw [levelsF_len]; simp; (exact om412 hlt)
    refine ⟨hN2, .inl ⟨_, _, _, _, rfl, rfl⟩, a_tuple ?_⟩
    have stepv : ∀ (x : Nat), x < 256 + i → 256 ≤ x → (flts (levelsF hues (ns.take i)))[((x : Int) - 256).toNat]? = some (.flt (valF (levelsF hues (ns.take i)) x)) := by
      intro x hx hx2
      have e1 : ((x : Int) - 256).toNat = x - 256 := by (exact om313)
      rw [e1, List.getElem?_map]
      unfold valF
      rw [if_neg (by (exact om132 hx2)), List.getD_eq_getElem?_getD, List.getElem?_eq_getElem (by (exact om413 hll hx hx2))]
      rfl
    refine ss_cons (s_assign (e_IfExp (b_plain (e_Call_def T.g (T.fn 61 _ _ _ _ _ rfl) (e_var rfl (c_ISTERMINAL (d := d + 1) T (t_bool ?_)))))))
    rw [ofNat_lt256]
    refine if_val (v := .flt (valF (levelsF hues (ns.take i)) t.2.1)) ?_ (fun hc Ψ hΨ => ?_) (fun hc Ψ hΨ => ?_)
    rotate_left
    · refine e_Call_type T.g (T.typ "float" (by decide)).1 (T.typ "float" (by decide)).2 (e_var rfl (o_float_int (by (exact om414 hlen q2 hlt)) ?_))
      unfold valF at hΨ
      rw [if_pos (of_decide_eq_true hc)] at hΨ
      exact hΨ
    · have hc' := of_decide_eq_false hc
      exact e_Subscript (e_cell h4 (e_BinOp (e_var rfl (e_glob' T.g (Top.gint T.nt) (o_sub_int (o_sub_list h5 (by (exact om415 hc')) (by (exact om416 hlen q2 hlt)) (stepv _ q2 (by (exact om417 hc'))) hΨ))))))
    refine ss_cons (s_assign (e_IfExp (b_plain (e_Call_def T.g (T.fn 61 _ _ _ _ _ rfl) (e_var rfl (c_ISTERMINAL (d := d + 1) T (t_bool ?_)))))))
    rw [ofNat_lt256]
    refine if_val (v := .flt (valF (levelsF hues (ns.take i)) t.2.2)) ?_ (fun hc Ψ hΨ => ?_) (fun hc Ψ hΨ => ?_)
    rotate_left
    · refine e_Call_type T.g (T.typ "float" (by decide)).1 (T.typ "float" (by decide)).2 (e_var rfl (o_float_int (by (exact om414 hlen q3 hlt)) ?_))
      unfold valF at hΨ
      rw [if_pos (of_decide_eq_true hc)] at hΨ
      exact hΨ
    · have hc' := of_decide_eq_false hc
      exact e_Subscript (e_cell h4 (e_BinOp (e_var rfl (e_glob' T.g (Top.gint T.nt) (o_sub_int (o_sub_list h5 (by (exact om415 hc')) (by (exact om416 hlen q3 hlt)) (stepv _ q3 (by (exact om417 hc'))) hΨ))))))
    have hU2 : H1[nU]? = some (.lst (flts hues)) := by rw [h6 nU lU]; exact hU
    have hug : (flts hues)[((t.1 : Nat) : Int).toNat]? = some (.flt (hues.getD t.1 0)) := by
      rw [Int.toNat_natCast, List.getElem?_map, List.getD_eq_getElem?_getD, List.getElem?_eq_getElem (by (exact om142 hul q1))]
      rfl
    refine ss_cons (s_expr (e_append (e_cell h4 ⟨_, rfl, ⟨_, h5⟩, e_Call_def T.g (T.fn 3 _ _ _ _ _ rfl) (e_var rfl (e_var rfl (e_Subscript (e_var h2 (e_var rfl (o_sub_list hU2 (by (exact om300)) (by (exact om370 q1)) hug (c_v (d := d + 1) T ⟨_, h5, by simp [flts]; (exact om418 hlen hlt hll), .inl rfl, ss_nil ?_⟩)))))))⟩)))
    refine ⟨h1, h2, h3, h4, ?_, fun j hj => ?_, by simp; (exact om396 h7)⟩
    · rw [List.getElem?_set_self (by (exact om131 h7)), levelsF_take hues ns i t ht]
      simp [levelsStep, flts]
    · rw [List.getElem?_set_ne (by (exact om378 hj))]; exact h6 j hj
  · rintro vars H1 ⟨h1, h2, h3, h4, h5, h6, h7⟩
    have hN2 : H1[nN]? = some (.lst (ns.map nodeV)) := by rw [h6 nN lN]; exact hN
    rw [List.length_map, List.take_length] at h5
    refine ⟨hN2, ?_⟩
    have hR2 : H1[nR]? = some (.lst (zsN roots)) := by rw [h6 nR lR]; exact hR
    have hll : (levelsF hues ns).length = ns.length := levelsF_len hues ns
    refine ss_cons (s_assign_ListComp (cl := [(Str.ofString "levels", L + 1)]) ⟨rfl, by decide, rfl, by decide, rfl, fun p hp => hp, List.pairwise_singleton _ _, fun y hy => ?_⟩ (it_list (e_var h1 ⟨nR, _, rfl, hR2, by simp [zsN, zs]; (exact om419 hrl), ?_⟩)))
    · have := mem_of_lookup hy
      repeat
        rcases List.mem_cons.mp this with q | this
        · first
            | (cases q; done)
            | (cases q; exact ⟨rfl, rfl⟩)
      cases this
    refine ⟨fun i acc H2 => acc = flts ((roots.take i).map (valF (levelsF hues ns))) ∧ H2 = H1, ⟨by simp, rfl⟩, ?_, ?_⟩
    · rintro Ca i v acc H2 hi ⟨rfl, rfl⟩
      simp only [zsN, zs, List.map_map, List.getElem?_map, Option.map_eq_some_iff] at hi
      obtain ⟨r, hr, hv⟩ := hi
      obtain rfl : v = .int (r : Int) := hv.symm
      have hrm := hroot r (List.mem_of_getElem? hr)
      refine ⟨hR2, ?_⟩
      show aE P w G (d + 2) _ _ _ H2 _
      refine e_IfExp (b_plain (e_Call_def T.g (T.fn 61 _ _ _ _ _ rfl) (e_var rfl (c_ISTERMINAL (d := d + 1) T (t_bool ?_)))))
      rw [ofNat_lt256]
      refine if_val (v := .flt (valF (levelsF hues ns) r)) ?_ (fun hc Ψ hΨ => ?_) (fun hc Ψ hΨ => ?_)
      · refine ⟨?_, rfl⟩
        rw [List.take_add_one, hr]
        simp
      · refine e_Call_type T.g (T.typ "float" (by decide)).1 (T.typ "float" (by decide)).2 (e_var rfl (o_float_int (by (exact om420 hlen hrm)) ?_))
        unfold valF at hΨ
        rw [if_pos (of_decide_eq_true hc)] at hΨ
        exact hΨ
      · have hc' := of_decide_eq_false hc
        have e1 : ((r : Int) - 256).toNat = r - 256 := by (exact om313)
        refine e_Subscript (e_cell h4 (e_BinOp (e_var rfl (e_glob' T.g (Top.gint T.nt) (o_sub_int (o_sub_list h5 (by (exact om415 hc')) (by (exact om312 hlen hrm)) (v := .flt (valF (levelsF hues ns) r)) ?_ hΨ))))))
        rw [e1, List.getElem?_map]
        unfold valF
        rw [if_neg hc', List.getD_eq_getElem?_getD, List.getElem?_eq_getElem (by (exact om421 hll hrm hc'))]
        rfl
    · rintro acc H2 ⟨rfl, rfl⟩
      refine ⟨hR2, ?_⟩
      simp only [List.length_map, zsN, zs]
      rw [List.take_length]
      have hE : (H2 ++ [O.lst (flts (roots.map (valF (levelsF hues ns))))])[H2.length]? = some (.lst (flts (roots.map (valF (levelsF hues ns))))) := get_last _ _
      refine ss_cons (s_return (e_ListComp (cl := []) ⟨rfl, by decide, rfl, by decide, rfl, fun p hp => (nomatch hp), List.Pairwise.nil, fun y hy => ?_⟩ (it_list (e_var rfl ⟨_, _, rfl, hE, by simp [flts]; (exact om419 hrl), ?_⟩))))
      · have := mem_of_lookup hy
        repeat
          rcases List.mem_cons.mp this with q | this
          · first
              | (cases q; done)
              | (cases q; exact ⟨rfl, rfl⟩)
        cases this
      refine ⟨fun i acc H3 => acc = zs (out.take i) ∧ H3 = H2 ++ [O.lst (flts (roots.map (valF (levelsF hues ns))))], ⟨by simp, rfl⟩, ?_, ?_⟩
      · rintro Ca i v acc H3 hi ⟨rfl, rfl⟩
        simp only [List.map_map, List.getElem?_map, Option.map_eq_some_iff] at hi
        obtain ⟨r, hr, hv⟩ := hi
        obtain rfl : v = .flt (valF (levelsF hues ns) r) := hv.symm
        obtain ⟨sg, m, e, hd, ho⟩ := hI i r hr
        refine ⟨hE, ?_⟩
        show aE P w G (d + 2) _ _ _ _ _
        refine e_Call_type T.g (T.typ "int" (by decide)).1 (T.typ "int" (by decide)).2 (e_BinOp (e_BinOp (e_var rfl (e_flt (o_mul_flt (e_flt (o_add_flt (o_int_flt hd ?_))))))))
        refine ⟨?_, rfl⟩
        rw [List.take_add_one, ho]
        simp
      · rintro acc H3 ⟨rfl, rfl⟩
        refine ⟨hE, ?_⟩
        have hlen' : (flts (roots.map (valF (levelsF hues ns)))).length = out.length := by simp [hout]
        rw [hlen', List.take_length]
        refine h _ _ (fun i hi => ?_) (by simp; (exact om422 h7)) (by simp)
        rw [List.getElem?_append_left (by simp; (exact om423 h7 hi)), List.getElem?_append_left (by (exact om401 h7 hi))]
        exact h6 i hi
end
end Mine
end

section
open PySem PySem.W PyProof.Rows PySem.Calls
set_option maxRecDepth 100000
namespace Mine

theorem xor_and_add : ∀ (n a b : Nat), a < 2 ^ n → a + b = (a ^^^ b) + 2 * (a &&& b)
  | 0, a, b, h => by
    have : a = 0 := by simpa using h
    subst this; simp
  | n + 1, a, b, h => by
    have ih := xor_and_add n (a / 2) (b / 2) (by rw [Nat.pow_succ] at h; (exact om424 h))
    have h1 : (a ^^^ b) / 2 = a / 2 ^^^ b / 2 := Nat.xor_div_two
    have h2 : (a &&& b) / 2 = a / 2 &&& b / 2 := Nat.and_div_two
    have h3 : (a &&& b) % 2 = 1 ↔ a % 2 = 1 ∧ b % 2 = 1 := Nat.and_mod_two_eq_one
    have h4 : (a ^^^ b) % 2 = 1 ↔ ¬(a % 2 = 1 ↔ b % 2 = 1) := Nat.xor_mod_two_eq_one
    rw [← h1, ← h2] at ih
    clear h1 h2 h
    generalize a ^^^ b = x at *
    generalize a &&& b = y at *
    have ha := Nat.mod_two_eq_zero_or_one a
    have hb := Nat.mod_two_eq_zero_or_one b
    have hx := Nat.mod_two_eq_zero_or_one x
    have hn := Nat.mod_two_eq_zero_or_one y
    by_cases q1 : a % 2 = 1 <;> by_cases q2 : b % 2 = 1 <;> simp only [q1, q2, and_self, and_true, and_false, false_and, true_and, iff_true, iff_false, iff_self, not_true_eq_false, not_false_eq_true] at h3 h4 <;> (first | exact om425 ih q1 q2 h3 h4 | exact om426 ih q1 q2 h3 h4 | exact om427 ih q1 q2 h3 h4 | exact om428 ih q1 q2 h3 h4)
theorem bxor_nat (a b : Nat) : Builtin.bitXor (a : Int) (b : Int) = ((a ^^^ b : Nat) : Int) := by
  have h := xor_and_add a a b (Nat.lt_two_pow_self)
  have e : Builtin.bitXor (a : Int) (b : Int) = (a : Int) + b - 2 * ((a &&& b : Nat) : Int) := by
    rw [PyProof.Rows.bitXor_and, bitAnd_pp (by (exact om300)) (by (exact om300)), Int.toNat_natCast, Int.toNat_natCast]
  rw [e]
  (exact om429 h)
theorem band_nat (a b : Nat) : Builtin.bitAnd (a : Int) (b : Int) = ((a &&& b : Nat) : Int) := by
  rw [bitAnd_pp (by (exact om300)) (by (exact om300)), Int.toNat_natCast, Int.toNat_natCast]

structure Ent where
  short : Str
  plain : Str
  a : Nat
  b : Nat
def entV (e : Ent) : V := .tup [.str e.short, .str e.plain, .int e.a, .int e.b]
def kindsS : List (List Str) := [["|", "~", "~", "&", "~"], ["&", "", "", "&", ""], ["^", "", "", "^", ""], ["<", "", "~", "&", ""], [">", "", "", "&", "~"], ["<=", "~", "", "&", "~"], [">=", "~", "~", "&", ""], ["==", "~", "", "^", ""], ["!=", "", "", "^", ""]]
def tilde (n : Nat) : Str := if n = 1 then "~" else Str.empty
def tabF (outer first inner second lead tail : Str) (x y : Nat) : Nat :=
  (if inner == ("&" : Str) then (x ^^^ 65535 * ((first ++ lead).length % 2)) &&& (y ^^^ 65535 * ((second ++ tail).length % 2)) else (x ^^^ 65535 * ((first ++ lead).length % 2)) ^^^ (y ^^^ 65535 * ((second ++ tail).length % 2))) ^^^ 65535 * outer.length
def joinWith (sgn outer first inner second lead tail : Str) (l r : Ent) : Ent where
  short := "(" ++ lead ++ l.short ++ sgn ++ tail ++ r.short ++ ")"
  plain := outer ++ "(" ++ first ++ lead ++ l.plain ++ inner ++ second ++ tail ++ r.plain ++ ")"
  a := tabF outer first inner second lead tail l.a r.a
  b := tabF outer first inner second lead tail l.b r.b
def joinedF (code : Nat) (l r : Ent) : Ent := match kindsS.getD (code / 6 % 9) [] with
  | [sgn, outer, first, inner, second] => joinWith sgn outer first inner second (tilde (code / 54 % 2)) (tilde (code / 108 % 2)) l r
  | _ => l
theorem map_get (L : List Nat) (k : Nat) (h : k < L.length) : (L.map fun (i : Nat) => V.int (i : Int))[((k : Nat) : Int).toNat]? = some (.int (L.getD k 0 : Nat)) := by
  rw [Int.toNat_natCast, List.getElem?_map, List.getD_eq_getElem?_getD, List.getElem?_eq_getElem h]; rfl
theorem kinds_get (i : Nat) (h : i < 9) : ∃ sgn outer first inner second : Str, kindsS[i]? = some [sgn, outer, first, inner, second] ∧ sgn.length ≤ 2 ∧ outer.length ≤ 1 ∧ first.length ≤ 1 ∧ inner.length ≤ 1 ∧ second.length ≤ 1 := by
  have hl : i < kindsS.length := h
  obtain ⟨a, b, c, d, e, he⟩ := len5 ((by decide : ∀ r ∈ kindsS, r.length = 5) _ (List.getElem_mem hl))
  have q := (by decide : ∀ r ∈ kindsS, (r.getD 0 Str.empty).length ≤ 2 ∧ (r.getD 1 Str.empty).length ≤ 1 ∧ (r.getD 2 Str.empty).length ≤ 1 ∧ (r.getD 3 Str.empty).length ≤ 1 ∧ (r.getD 4 Str.empty).length ≤ 1) _ (List.getElem_mem hl)
  rw [he] at q
  exact ⟨a, b, c, d, e, by rw [List.getElem?_eq_getElem hl, he], q⟩
theorem tilde_len (n : Nat) : (tilde n).length ≤ 1 := by unfold tilde; split <;> decide
theorem strLen (x y : Str) : (x ++ y).length = x.length + y.length := strLen_append x y

section
variable {prog : Program} {w : World} {G : Gl} {d : Nat} {H : List O}
theorem o_mul_tilde {a : Str} {n : Nat} {Φ : V → List O → Prop} (ha : a = "~") (hn : n < 2) (h : Φ (.str (tilde n)) H) : aO2 prog w G d (binaryOp .Mult) (.str a) (.int (n : Nat)) H (PV G Φ) := by
  subst ha
  match n, hn with
  | 0, _ => exact o_mul_str0 h
  | 1, _ => exact o_mul_str1 h

theorem c_joined (T : Top w G) {code : Nat} {l r : Ent} {Φ : V → List O → Prop} (hl : l.short.length ≤ 10000 ∧ l.plain.length ≤ 10000) (hr : r.short.length ≤ 10000 ∧ r.plain.length ≤ 10000)
    (h : ∀ H', (∀ i, i < H.length → H'[i]? = H[i]?) → H.length ≤ H'.length → Φ (entV (joinedF code l r)) H') : aC P w G (d + 1) "_law_joined" [.int code, entV l, entV r] H Φ := by
  refine c_def T.g (T.fn 65 _ _ _ _ _ rfl) (by intro rs h pm cd doc; obtain ⟨a, b, c, rfl⟩ := len3 h; rfl) (by rfl) (fun L a cd => ?_)
  refine ss_cons ?_
  refine s_assign ?_
  refine e_List ?_
  refine e_Tuple ?_
  refine e_str ?_
  refine e_str ?_
  refine e_str ?_
  refine e_str ?_
  refine e_str ⟨Nat.le_of_ble_eq_true rfl, ?_⟩
  refine e_Tuple ?_
  refine e_str ?_
  refine e_str ?_
  refine e_str ?_
  refine e_str ?_
  refine e_str ⟨Nat.le_of_ble_eq_true rfl, ?_⟩
  refine e_Tuple ?_
  refine e_str ?_
  refine e_str ?_
  refine e_str ?_
  refine e_str ?_
  refine e_str ⟨Nat.le_of_ble_eq_true rfl, ?_⟩
  refine e_Tuple ?_
  refine e_str ?_
  refine e_str ?_
  refine e_str ?_
  refine e_str ?_
  refine e_str ⟨Nat.le_of_ble_eq_true rfl, ?_⟩
  refine e_Tuple ?_
  refine e_str ?_
  refine e_str ?_
  refine e_str ?_
  refine e_str ?_
  refine e_str ⟨Nat.le_of_ble_eq_true rfl, ?_⟩
  refine e_Tuple ?_
  refine e_str ?_
  refine e_str ?_
  refine e_str ?_
  refine e_str ?_
  refine e_str ⟨Nat.le_of_ble_eq_true rfl, ?_⟩
  refine e_Tuple ?_
  refine e_str ?_
  refine e_str ?_
  refine e_str ?_
  refine e_str ?_
  refine e_str ⟨Nat.le_of_ble_eq_true rfl, ?_⟩
  refine e_Tuple ?_
  refine e_str ?_
  refine e_str ?_
  refine e_str ?_
  refine e_str ?_
  refine e_str ⟨Nat.le_of_ble_eq_true rfl, ?_⟩
  refine e_Tuple ?_
  refine e_str ?_
  refine e_str ?_
  refine e_str ?_
  refine e_str ?_
  refine e_str ⟨Nat.le_of_ble_eq_true rfl, ?_⟩
  refine ⟨by simp, ?_⟩
  obtain ⟨sgn, outer, first, inner, second, hk, k1, k2, k3, k4, k5⟩ := kinds_get (code / 6 % 9) (Nat.mod_lt _ (by decide))
  have hj : joinedF code l r = joinWith sgn outer first inner second (tilde (code / 54 % 2)) (tilde (code / 108 % 2)) l r := by
    unfold joinedF
    rw [List.getD_eq_getElem?_getD, hk]
    rfl
  rw [hj] at h
  have hK : (H ++ [O.lst (kindsS.map fun l => V.tup (l.map V.str))])[H.length]? = some (.lst (kindsS.map fun l => V.tup (l.map V.str))) := get_last _ _
  have hi : (((code / 6 % 9 : Nat) : Int)).toNat = code / 6 % 9 := by (exact om430)
  have hg : (kindsS.map fun l => V.tup (l.map V.str))[(((code / 6 % 9 : Nat) : Int)).toNat]? = some (.tup [.str sgn, .str outer, .str first, .str inner, .str second]) := by
    rw [hi, List.getElem?_map, hk]; rfl
  refine ss_cons ?_
  refine s_assign_tuple ?_
  refine e_Subscript ?_
  refine e_var rfl ?_
  refine e_BinOp ?_
  refine e_BinOp ?_
  refine e_var rfl ?_
  refine e_int ?_
  refine o_div_int (by decide) (by decide) ?_
  refine e_int ?_
  refine o_mod_int (by decide) ?_
  have e1 : (code : Int) / 6 % 9 = ((code / 6 % 9 : Nat) : Int) := by (exact om431)
  rw [e1]
  refine o_sub_list hK (by (exact om432)) (by (exact om433)) hg ?_
  refine a_tuple ?_
  have m1 : code / 54 % 2 < 2 := Nat.mod_lt _ (by decide)
  have m2 : code / 108 % 2 < 2 := Nat.mod_lt _ (by decide)
  refine ss_cons ?_
  refine s_assign ?_
  refine e_BinOp ?_
  refine e_str ?_
  refine e_BinOp ?_
  refine e_BinOp ?_
  refine e_var rfl ?_
  refine e_int ?_
  refine o_div_int (by decide) (by decide) ?_
  refine e_int ?_
  refine o_mod_int (by decide) ?_
  have e2 : (code : Int) / 54 % 2 = ((code / 54 % 2 : Nat) : Int) := by (exact om434)
  rw [e2]
  refine o_mul_tilde rfl m1 ?_
  refine ss_cons ?_
  refine s_assign ?_
  refine e_BinOp ?_
  refine e_str ?_
  refine e_BinOp ?_
  refine e_BinOp ?_
  refine e_var rfl ?_
  refine e_int ?_
  refine o_div_int (by decide) (by decide) ?_
  refine e_int ?_
  refine o_mod_int (by decide) ?_
  have e3 : (code : Int) / 108 % 2 = ((code / 108 % 2 : Nat) : Int) := by (exact om435)
  rw [e3]
  refine o_mul_tilde rfl m2 ?_
  have t1 := tilde_len (code / 54 % 2)
  have t2 := tilde_len (code / 108 % 2)
  generalize tilde (code / 54 % 2) = lead at *
  generalize tilde (code / 108 % 2) = tail at *
  have p1 : (Str.length "(") = 1 := rfl
  have p2 : (Str.length ")") = 1 := rfl
  refine ss_cons ?_
  refine s_assign ?_
  refine e_BinOp ?_
  refine e_BinOp ?_
  refine e_BinOp ?_
  refine e_BinOp ?_
  refine e_BinOp ?_
  refine e_BinOp ?_
  refine e_str ?_
  refine e_var rfl ?_
  refine o_add_str (by (exact om436 t1 p1)) ?_
  refine e_Subscript ?_
  refine e_var rfl ?_
  refine e_int ?_
  refine o_sub_tup (v := .str l.short) (by decide) (by decide) rfl ?_
  refine o_add_str (by rw [strLen]; (exact om437 hl t1 p1)) ?_
  refine e_var rfl ?_
  refine o_add_str (by rw [strLen, strLen]; (exact om438 hl k1 t1 p1)) ?_
  refine e_var rfl ?_
  refine o_add_str (by rw [strLen, strLen, strLen]; (exact om439 hl k1 t1 t2 p1)) ?_
  refine e_Subscript ?_
  refine e_var rfl ?_
  refine e_int ?_
  refine o_sub_tup (v := .str r.short) (by decide) (by decide) rfl ?_
  refine o_add_str (by rw [strLen, strLen, strLen, strLen]; (exact om440 hl hr k1 t1 t2 p1)) ?_
  refine e_str ?_
  refine o_add_str (by rw [strLen, strLen, strLen, strLen, strLen]; (exact om441 hl hr k1 t1 t2 p1 p2)) ?_
  refine ss_cons ?_
  refine s_assign ?_
  refine e_BinOp ?_
  refine e_BinOp ?_
  refine e_BinOp ?_
  refine e_BinOp ?_
  refine e_BinOp ?_
  refine e_BinOp ?_
  refine e_BinOp ?_
  refine e_BinOp ?_
  refine e_BinOp ?_
  refine e_var rfl ?_
  refine e_str ?_
  refine o_add_str (by (exact om442 k2 p1)) ?_
  refine e_var rfl ?_
  refine o_add_str (by rw [strLen]; (exact om443 k2 k3 p1)) ?_
  refine e_var rfl ?_
  refine o_add_str (by rw [strLen, strLen]; (exact om444 k2 k3 t1 p1)) ?_
  refine e_Subscript ?_
  refine e_var rfl ?_
  refine e_int ?_
  refine o_sub_tup (v := .str l.plain) (by decide) (by decide) rfl ?_
  refine o_add_str (by rw [strLen, strLen, strLen]; (exact om445 hl k2 k3 t1 p1)) ?_
  refine e_var rfl ?_
  refine o_add_str (by rw [strLen, strLen, strLen, strLen]; (exact om446 hl k2 k3 k4 t1 p1)) ?_
  refine e_var rfl ?_
  refine o_add_str (by rw [strLen, strLen, strLen, strLen, strLen]; (exact om447 hl k2 k3 k4 k5 t1 p1)) ?_
  refine e_var rfl ?_
  refine o_add_str (by rw [strLen, strLen, strLen, strLen, strLen, strLen]; (exact om448 hl k2 k3 k4 k5 t1 t2 p1)) ?_
  refine e_Subscript ?_
  refine e_var rfl ?_
  refine e_int ?_
  refine o_sub_tup (v := .str r.plain) (by decide) (by decide) rfl ?_
  refine o_add_str (by rw [strLen, strLen, strLen, strLen, strLen, strLen, strLen]; (exact om449 hl hr k2 k3 k4 k5 t1 t2 p1)) ?_
  refine e_str ?_
  refine o_add_str (by rw [strLen, strLen, strLen, strLen, strLen, strLen, strLen, strLen]; (exact om450 hl hr k2 k3 k4 k5 t1 t2 p1 p2)) ?_
  refine ss_cons ?_
  refine s_assign ?_
  refine e_List ⟨Nat.le_of_ble_eq_true rfl, ?_⟩
  have hLen : (H ++ [O.lst (kindsS.map fun l => V.tup (l.map V.str))]).length = H.length + 1 := by simp
  refine ss_cons ?_
  refine s_for ?_
  refine it_tuple ?_
  refine e_Tuple ?_
  refine e_int ?_
  refine e_int ⟨Nat.le_of_ble_eq_true rfl, ?_⟩
  refine ⟨[2, 3], rfl, by decide, ?_⟩
  refine ⟨fun i vars H1 => vars "left" = some (entV l) ∧ vars "right" = some (entV r) ∧ vars "outer" = some (.str outer) ∧ vars "first" = some (.str first) ∧ vars "inner" = some (.str inner) ∧ vars "second" = some (.str second) ∧
    vars "lead" = some (.str lead) ∧ vars "tail" = some (.str tail) ∧ vars "short" = some (.str (joinWith sgn outer first inner second lead tail l r).short) ∧ vars "plain" = some (.str (joinWith sgn outer first inner second lead tail l r).plain) ∧
    vars "tables" = some (.ref (H.length + 1)) ∧ H1[H.length + 1]? = some (.lst (zsN ([(joinWith sgn outer first inner second lead tail l r).a, (joinWith sgn outer first inner second lead tail l r).b].take i))) ∧
    (∀ j, j < H.length → H1[j]? = H[j]?) ∧ H.length + 2 ≤ H1.length, ?_, ?_, ?_⟩
  · refine ⟨rfl, rfl, rfl, rfl, rfl, rfl, rfl, rfl, rfl, rfl, ?_, ?_, fun j hj => ?_, by simp⟩
    · show some (V.ref (H ++ [O.lst (kindsS.map fun l => V.tup (l.map V.str))]).length) = _
      rw [hLen]
    · show ((H ++ [O.lst (kindsS.map fun l => V.tup (l.map V.str))]) ++ [O.lst []])[H.length + 1]? = _
      rw [List.getElem?_append_right (by rw [hLen]; exact Nat.le_refl _), hLen]
      simp
    · show ((H ++ [O.lst (kindsS.map fun l => V.tup (l.map V.str))]) ++ [O.lst []])[j]? = _
      rw [List.getElem?_append_left (by rw [hLen]; (exact om16 hj)), List.getElem?_append_left hj]
  · rintro i v vars H1 hi ⟨v1, v2, v3, v4, v5, v6, v7, v8, v9, v10, v11, h12, h13, h14⟩
    have hi2 : i < 2 := by
      have := lt_of_some hi
      simpa using this
    obtain ⟨n, hn, hln, hrn⟩ : ∃ n : Nat, v = .int (n : Int) ∧ (∃ x, [V.str l.short, .str l.plain, .int l.a, .int l.b][((n : Nat) : Int).toNat]? = some (.int (x : Nat)) ∧ ∃ y, [V.str r.short, .str r.plain, .int r.a, .int r.b][((n : Nat) : Int).toNat]? = some (.int (y : Nat)) ∧
        [(joinWith sgn outer first inner second lead tail l r).a, (joinWith sgn outer first inner second lead tail l r).b][i]? = some (tabF outer first inner second lead tail x y)) ∧ n < 10 := by
      match i, hi2 with
      | 0, _ => exact ⟨2, (Option.some.inj (show some (V.int 2) = some v from hi)).symm, ⟨l.a, rfl, r.a, rfl, rfl⟩, by decide⟩
      | 1, _ => exact ⟨3, (Option.some.inj (show some (V.int 3) = some v from hi)).symm, ⟨l.b, rfl, r.b, rfl, rfl⟩, by decide⟩
    obtain ⟨x, hx, y, hy, hxy⟩ := hln
    subst hn
    refine ⟨trivial, .inr (fun _ _ => rfl), a_name ?_⟩
    have f1 : (first ++ lead).length ≤ 1000000 := by rw [strLen]; (exact om451 k3 t1)
    have f2 : (second ++ tail).length ≤ 1000000 := by rw [strLen]; (exact om451 k5 t2)
    refine ss_cons ?_
    refine s_assign ?_
    refine e_BinOp ?_
    refine e_Subscript ?_
    refine e_var v1 ?_
    refine e_var rfl ?_
    refine o_sub_tup (v := .int (x : Nat)) (by (exact om300)) (by (exact om452 hrn)) hx ?_
    refine e_BinOp ?_
    refine e_int ?_
    refine e_BinOp ?_
    refine e_Call_builtin T.g (T.blt "len" (by decide)).1 (T.blt "len" (by decide)).2 ?_
    refine e_BinOp ?_
    refine e_var v4 ?_
    refine e_var v7 ?_
    refine o_add_str (by (exact om451 k3 t1)) ?_
    refine o_len_str f1 ?_
    refine e_int ?_
    refine o_mod_int (by decide) ?_
    refine o_mul_int (.inl (by decide)) ?_
    refine o_xor_int ?_
    have e4 : (65535 : Int) * (((first ++ lead).length : Int) % 2) = ((65535 * ((first ++ lead).length % 2) : Nat) : Int) := by (exact om453)
    rw [e4, bxor_nat]
    refine ss_cons ?_
    refine s_assign ?_
    refine e_BinOp ?_
    refine e_Subscript ?_
    refine e_var v2 ?_
    refine e_var rfl ?_
    refine o_sub_tup (v := .int (y : Nat)) (by (exact om300)) (by (exact om452 hrn)) hy ?_
    refine e_BinOp ?_
    refine e_int ?_
    refine e_BinOp ?_
    refine e_Call_builtin T.g (T.blt "len" (by decide)).1 (T.blt "len" (by decide)).2 ?_
    refine e_BinOp ?_
    refine e_var v6 ?_
    refine e_var v8 ?_
    refine o_add_str (by (exact om451 k5 t2)) ?_
    refine o_len_str f2 ?_
    refine e_int ?_
    refine o_mod_int (by decide) ?_
    refine o_mul_int (.inl (by decide)) ?_
    refine o_xor_int ?_
    have e5 : (65535 : Int) * (((second ++ tail).length : Int) % 2) = ((65535 * ((second ++ tail).length % 2) : Nat) : Int) := by (exact om453)
    rw [e5, bxor_nat]
    refine ss_cons ?_
    refine s_assign ?_
    refine e_IfExp ?_
    refine b_Compare ?_
    refine e_var v5 ?_
    refine e_str ?_
    refine o_eq_str ?_
    refine t_bool ?_
    refine if_val (v := .int ((if inner == ("&" : Str) then (x ^^^ 65535 * ((first ++ lead).length % 2)) &&& (y ^^^ 65535 * ((second ++ tail).length % 2)) else (x ^^^ 65535 * ((first ++ lead).length % 2)) ^^^ (y ^^^ 65535 * ((second ++ tail).length % 2)) : Nat) : Int)) ?_ (fun hc Ψ hΨ => ?_) (fun hc Ψ hΨ => ?_)
    rotate_left
    · rw [if_pos hc] at hΨ
      refine e_BinOp ?_
      refine e_var rfl ?_
      refine e_var rfl ?_
      refine o_and_int ?_
      rw [band_nat]
      exact hΨ
    · rw [if_neg (by rw [hc]; decide)] at hΨ
      refine e_BinOp ?_
      refine e_var rfl ?_
      refine e_var rfl ?_
      refine o_xor_int ?_
      rw [bxor_nat]
      exact hΨ
    refine ss_cons ?_
    refine s_expr ?_
    refine e_append ?_
    refine e_var v11 ⟨_, rfl, ⟨_, h12⟩, ?_⟩
    refine e_BinOp ?_
    refine e_var rfl ?_
    refine e_BinOp ?_
    refine e_int ?_
    refine e_Call_builtin T.g (T.blt "len" (by decide)).1 (T.blt "len" (by decide)).2 ?_
    refine e_var v3 ?_
    refine o_len_str (by (exact om454 k2)) ?_
    refine o_mul_int (.inl (by decide)) ?_
    refine o_xor_int ?_
    have e6 : (65535 : Int) * (outer.length : Int) = ((65535 * outer.length : Nat) : Int) := by (exact om455)
    rw [e6, bxor_nat]
    refine ⟨_, h12, by simp [zsN, zs]; (exact om456), .inl rfl, ?_⟩
    refine ss_nil ?_
    refine ⟨v1, v2, v3, v4, v5, v6, v7, v8, v9, v10, v11, ?_, fun j hj => ?_, by simp; (exact om457 h14)⟩
    · rw [List.getElem?_set_self (by (exact om377 h14)), List.take_add_one, hxy]
      simp [zsN, zs, tabF]
    · rw [List.getElem?_set_ne (by (exact om380 hj))]; exact h13 j hj
  · rintro vars H1 ⟨v1, v2, v3, v4, v5, v6, v7, v8, v9, v10, v11, h12, h13, h14⟩
    refine ⟨trivial, ?_⟩
    refine ss_cons ?_
    refine s_return ?_
    refine e_Tuple ?_
    refine e_var v9 ?_
    refine e_var v10 ?_
    refine e_Subscript ?_
    refine e_var v11 ?_
    refine e_int ?_
    refine o_sub_list h12 (by decide) (by decide) rfl ?_
    refine e_Subscript ?_
    refine e_var v11 ?_
    refine e_int ?_
    refine o_sub_list h12 (by decide) (by decide) rfl ⟨by simp, ?_⟩
    exact h H1 h13 (by (exact om381 h14))
end
end Mine
end

section
open PySem PySem.W PyProof.Rows PySem.Calls
set_option maxRecDepth 100000
namespace Mine

def unseenL : List Nat := [173, 847, 6155, 8203, 8288, 65024, 65279]
def unseenF (code : Nat) : Nat := unseenL.getD (code % 7) 0
def typedL (t : Str) (code : Nat) : List Str := (List.range t.length).map fun i => if i % (code / 7 % 4 + 2) = 0 then s1 (t.cps.getD i 0) ++ s1 (unseenF code) else s1 (t.cps.getD i 0)
def typedF (t : Str) (code : Nat) : Str := Txt.join ("" : Str) (typedL t code)
def keptAt (l : List Nat) : List Str := (((l.map s1).filter fun y => !b1Fn (y.cps.getD 0 0 : Nat)).map mapB3)
def keptL (x : Str) : List Str := keptAt x.cps.toList
theorem ad1 (n : Nat) : n + 1 + 1 ≠ n + 1 := by (exact om458)
theorem ad2 (n : Nat) : n + 1 + 1 ≠ n + 1 + 1 + 1 := by (exact om459)
theorem ad3 (n : Nat) : n + 1 ≠ n + 1 + 1 + 1 := by (exact om460)
def preparedF (t : Str) (code : Nat) : Str := Txt.join ("" : Str) (keptL (typedF t code))

theorem unseen_get (code : Nat) : (unseenL.map fun (i : Nat) => V.int (i : Int))[((code % 7 : Nat) : Int).toNat]? = some (.int (unseenF code : Nat)) ∧ unseenF code ≤ 1114111 :=
  have h : code % 7 < 7 := Nat.mod_lt _ (by decide)
  ⟨map_get unseenL _ h, (by decide : ∀ k < 7, unseenL.getD k 0 ≤ 1114111) _ h⟩

section
variable {w : World} {G : Gl} {d : Nat} {H : List O}
theorem c_prepared (T : Top w G) {t : Str} {code : Nat} {Φ : V → List O → Prop} (ht : t.length ≤ 10000)
    (hs1 : ((typedL t code).map (·.length)).sum ≤ 100000) (hty : (typedF t code).length ≤ 100000)
    (hlo : ∀ c ∈ (typedF t code).cps.toList, b1Fn (c : Nat) = false → b3Fn (c : Nat) = none → Builtin.Str.tooLong (Txt.lower (s1 c)).length = false)
    (hs2 : ((keptL (typedF t code)).map (·.length)).sum ≤ 100000)
    (h : ∀ H', (∀ i, i < H.length → H'[i]? = H[i]?) → H.length ≤ H'.length → Φ (.str (preparedF t code)) H') : aC P w G (d + 2) "_law_prepared" [.str t, .int code] H Φ := by
  refine c_def_cells T.g (T.fn 67 _ _ _ _ _ rfl) (by intro rs h pm cd doc; obtain ⟨a, b, rfl⟩ := len2 h; rfl) (by intro p hp; rcases mem2 hp with rfl | rfl; exact .inr ⟨rfl, fun L => rfl⟩; exact .inl rfl) ?_ (fun L a cd => ?_)
  · intro L p hp
    have : p ∈ [((Str.ofString "step", L + 1 + 1 + 1) : Str × Addr), (Str.ofString "unseen", L + 1 + 1), (Str.ofString "text", L + 1)] := hp
    rcases mem3 this with rfl | rfl | rfl <;> rfl
  obtain ⟨u1, u2⟩ := unseen_get code
  refine ss_cons ?_
  refine s_assign_cell ?_
  refine e_Call_builtin T.g (T.blt "chr" (by decide)).1 (T.blt "chr" (by decide)).2 ?_
  refine e_Subscript ?_
  refine e_List ?_
  refine e_int ?_
  refine e_int ?_
  refine e_int ?_
  refine e_int ?_
  refine e_int ?_
  refine e_int ?_
  refine e_int ⟨Nat.le_of_ble_eq_true rfl, ?_⟩
  refine e_BinOp ?_
  refine e_var rfl ?_
  refine e_int ?_
  refine o_mod_int (by decide) ?_
  have e1 : (code : Int) % 7 = ((code % 7 : Nat) : Int) := by (exact om461)
  rw [e1]
  have hU : (H ++ [O.lst (unseenL.map fun (i : Nat) => V.int (i : Int))])[H.length]? = some (.lst (unseenL.map fun (i : Nat) => V.int (i : Int))) := get_last _ _
  refine o_sub_list hU (by (exact om462)) (by (exact om463)) u1 ?_
  refine o_chr (by (exact om300)) (by (exact om464 u2)) ?_
  have e2 : (⟨#[((unseenF code : Nat) : Int).toNat]⟩ : Str) = s1 (unseenF code) := by rw [Int.toNat_natCast]; rfl
  rw [e2]
  refine ss_cons ?_
  refine s_assign_cell ?_
  refine e_BinOp ?_
  refine e_BinOp ?_
  refine e_BinOp ?_
  refine e_var rfl ?_
  refine e_int ?_
  refine o_div_int (by decide) (by decide) ?_
  refine e_int ?_
  refine o_mod_int (by decide) ?_
  refine e_int ?_
  refine o_add_int ?_
  have e3 : (code : Int) / 7 % 4 + 2 = ((code / 7 % 4 + 2 : Nat) : Int) := by (exact om465)
  rw [e3]
  generalize hst : code / 7 % 4 + 2 = st
  have hst0 : 0 < st := by (exact om466 hst)
  refine ss_cons ?_
  refine s_assign ?_
  refine e_join ?_
  refine e_str ⟨_, rfl, ?_⟩
  have hpw : [((Str.ofString "unseen", L + 1 + 1) : Str × Addr), (Str.ofString "text", L + 1), (Str.ofString "step", L + 1 + 1 + 1)].Pairwise fun x y => x.2 ≠ y.2 := by
    refine List.pairwise_cons.mpr ⟨fun y hy => ?_, List.pairwise_cons.mpr ⟨fun y hy => ?_, List.pairwise_singleton _ _⟩⟩
    · rcases mem2 hy with rfl | rfl
      · exact ad1 L
      · exact ad2 L
    · rw [List.mem_singleton.mp hy]
      exact ad3 L
  refine e_ListComp (cl := [(Str.ofString "unseen", L + 1 + 1), (Str.ofString "text", L + 1), (Str.ofString "step", L + 1 + 1 + 1)]) ⟨by rfl, by decide, rfl, by decide, rfl, fun p hp => ?_, hpw, fun y hy => ?_⟩ ?_
  · show p ∈ [((Str.ofString "step", L + 1 + 1 + 1) : Str × Addr), (Str.ofString "unseen", L + 1 + 1), (Str.ofString "text", L + 1)]
    rcases mem3 hp with rfl | rfl | rfl
    · exact List.mem_cons_of_mem _ List.mem_cons_self
    · exact List.mem_cons_of_mem _ (List.mem_cons_of_mem _ List.mem_cons_self)
    · exact List.mem_cons_self
  · have := mem_of_lookup hy
    repeat
      rcases List.mem_cons.mp this with q | this
      · first
          | (cases q; done)
          | (cases q; exact ⟨rfl, rfl⟩)
    cases this
  refine it_range1 T.g (T.typ "range" (by decide)).1 (T.typ "range" (by decide)).2 ?_
  refine e_Call_builtin T.g (T.blt "len" (by decide)).1 (T.blt "len" (by decide)).2 ?_
  refine e_cell rfl ?_
  refine o_len_str (by (exact om329 ht)) ?_
  refine ⟨t.length, rfl, by (exact om329 ht), ?_⟩
  have htl : typedL t code = (List.range t.length).map fun i => if i % st = 0 then s1 (t.cps.getD i 0) ++ s1 (unseenF code) else s1 (t.cps.getD i 0) := by
    unfold typedL; rw [hst]
  refine ⟨fun i acc H2 => acc = (((List.range i).map fun i => if i % st = 0 then s1 (t.cps.getD i 0) ++ s1 (unseenF code) else s1 (t.cps.getD i 0)).map V.str) ∧ H2 = H ++ [O.lst (unseenL.map fun (i : Nat) => V.int (i : Int))], ⟨by simp, rfl⟩, ?_, ?_⟩
  · rintro Ca i v acc H2 hi ⟨rfl, rfl⟩
    replace hi := map_range_some hi
    obtain ⟨_, ⟨hlt, rfl⟩, hv⟩ := hi
    obtain rfl : v = .int (i : Int) := hv.symm
    simp at hlt
    have hg : t.cps[((i : Nat) : Int).toNat]? = some (t.cps.getD i 0) := by
      rw [Int.toNat_natCast]
      have : i < t.cps.size := hlt
      simp [Array.getD, this]
    refine ⟨trivial, ?_⟩
    show aE P w G (d + 1) _ _ _ _ _
    refine e_IfExp ?_
    refine b_Compare ?_
    refine e_BinOp ?_
    refine e_var rfl ?_
    refine e_cell rfl ?_
    refine o_mod_int (by (exact om467 hst)) ?_
    refine e_int ?_
    refine o_eq_int ?_
    refine t_bool ?_
    have e4 : ((i : Int) % (st : Int) == 0) = decide (i % st = 0) := by
      have : (i : Int) % (st : Int) = ((i % st : Nat) : Int) := by omega
      rw [this]
      by_cases q : i % st = 0
      · rw [q]; rfl
      · rw [decide_eq_false q]; exact beq_eq_false_iff_ne.mpr (by (exact om468 q))
    rw [e4]
    refine if_val (v := .str (if i % st = 0 then s1 (t.cps.getD i 0) ++ s1 (unseenF code) else s1 (t.cps.getD i 0))) ?_ (fun hc Ψ hΨ => ?_) (fun hc Ψ hΨ => ?_)
    · refine ⟨?_, rfl⟩
      rw [List.range_succ]; simp
    · rw [if_pos (of_decide_eq_true hc)] at hΨ
      refine e_BinOp ?_
      refine e_Subscript ?_
      refine e_cell rfl ?_
      refine e_var rfl ?_
      refine o_sub_str (by (exact om300)) (by (exact om469 ht hlt)) hg ?_
      refine e_cell rfl ?_
      refine o_add_str (Nat.le_of_ble_eq_true rfl) ?_
      exact hΨ
    · rw [if_neg (of_decide_eq_false hc)] at hΨ
      refine e_Subscript ?_
      refine e_cell rfl ?_
      refine e_var rfl ?_
      refine o_sub_str (by (exact om300)) (by (exact om469 ht hlt)) hg ?_
      exact hΨ
  · rintro acc H2 ⟨rfl, rfl⟩
    simp only [List.length_map, List.length_range]
    rw [← htl]
    have hx : (Str.ofString "").length = 0 := rfl
    refine ⟨trivial, _, typedL t code, rfl, by simp, by rw [hx]; (exact om470 hs1), ?_⟩
    have hty' : (typedF t code).cps.size ≤ 100000 := hty
    refine ss_cons ?_
    refine s_return ?_
    refine e_join ?_
    refine e_str ⟨_, rfl, ?_⟩
    refine e_ListComp (cl := []) ⟨by rfl, by decide, rfl, by decide, rfl, fun p hp => (nomatch hp), List.Pairwise.nil, fun y hy => ?_⟩ ?_
    · have := mem_of_lookup hy
      repeat
        rcases List.mem_cons.mp this with q | this
        · first
            | (cases q; done)
            | (cases q; exact ⟨rfl, rfl⟩)
      cases this
    refine it_str ?_
    refine e_var rfl ⟨typedF t code, rfl, by (exact om326 hty'), ?_⟩
    refine ⟨fun i acc H3 => acc = (keptAt ((typedF t code).cps.toList.take i)).map V.str ∧ H3 = H ++ [O.lst (unseenL.map fun (i : Nat) => V.int (i : Int))] ++ [O.lst ((typedL t code).map V.str)], ⟨by simp [keptAt], rfl⟩, ?_, ?_⟩
    · rintro Ca i v acc H3 hi ⟨rfl, rfl⟩
      simp only [List.getElem?_map, Option.map_eq_some_iff] at hi
      obtain ⟨c, hc, hv⟩ := hi
      obtain rfl : v = .str (s1 c) := hv.symm
      have htake : keptAt ((typedF t code).cps.toList.take (i + 1)) = keptAt ((typedF t code).cps.toList.take i) ++ (if b1Fn (c : Nat) then [] else [mapB3 (s1 c)]) := by
        rw [List.take_add_one, hc]
        unfold keptAt
        simp only [Option.toList_some, List.map_append, List.map_cons, List.map_nil, List.filter_append]
        congr 1
        have hgd : ((s1 c).cps.getD 0 0 : Nat) = c := rfl
        simp only [List.filter_cons, hgd, List.filter_nil]
        cases b1Fn (c : Nat) <;> rfl
      refine ⟨trivial, ?_⟩
      show aB P w G (d + 1) _ _ _ _ _
      refine b_not ?_
      refine b_plain ?_
      refine e_Call_def T.g (T.fn 6 _ _ _ _ _ rfl) ?_
      refine e_var rfl ?_
      refine c_in_table_b1 (d := d) T rfl ?_
      refine t_bool ?_
      have hgd : ((s1 c).cps.getD 0 0 : Nat) = c := rfl
      rw [hgd]
      cases hb : b1Fn (c : Nat) with
      | true =>
        refine ⟨?_, rfl⟩
        rw [htake, hb]; simp
      | false =>
        refine e_Call_def T.g (T.fn 8 _ _ _ _ _ rfl) ?_
        refine e_var rfl ?_
        refine c_map_table_b3 (d := d) T rfl (hlo c (List.mem_of_getElem? hc) hb) ?_
        refine ⟨?_, rfl⟩
        rw [htake, hb]; simp
    · rintro acc H3 ⟨rfl, rfl⟩
      rw [List.length_map, List.take_length]
      have hkl : (keptAt (typedF t code).cps.toList).length ≤ 100000 := by
        unfold keptAt
        rw [List.length_map]
        refine Nat.le_trans (List.length_filter_le _ _) ?_
        simpa using hty'
      refine ⟨trivial, _, keptL (typedF t code), rfl, by simp [keptL], by rw [hx]; (exact om470 hs2), ?_⟩
      refine h _ (fun i hi => ?_) (by simp <;> omega)
      rw [List.getElem?_append_left (by simp <;> (exact om471 hi)), List.getElem?_append_left (by simp <;> (exact om16 hi)), List.getElem?_append_left hi]
end
end Mine
end

section
open PySem PySem.W PyProof.Rows PySem.Calls
set_option maxRecDepth 100000
namespace Mine

def facesL : List Nat := [97, 65, 119808, 119860, 119912, 120016, 120172, 120224, 120276, 120328, 120380, 120432]
def lettersL : List Nat := [65280, 61680, 52428, 43690]
def letterF (told : List Nat) (i : Nat) : Nat := told.getD 4 0 / 4 ^ i % 4
def otherF (told : List Nat) (i : Nat) : Nat := if i = told.getD 5 0 / 28 % 4 then told.getD 5 0 / 112 % 4 else letterF told i
def faceF (told : List Nat) (i : Nat) : Nat := facesL.getD ((told.getD 4 0 / 256 + 5 * i) % 12) 0
def startF (told : List Nat) (i : Nat) : Ent := ⟨s1 (faceF told i + letterF told i), s1 (faceF told i + otherF told i), lettersL.getD (letterF told i) 0, lettersL.getD (otherF told i) 0⟩
def dfl : Ent := ⟨Str.empty, Str.empty, 0, 0⟩
def placeF (row : List Ent) (code : Nat) : Nat := code % 6 % (row.length - 1)
def stepJ (row : List Ent) (code : Nat) : List Ent := row.take (placeF row code) ++ [joinedF code (row.getD (placeF row code) dfl) (row.getD (placeF row code + 1) dfl)] ++ row.drop (placeF row code + 2)
def rowsJ (told : List Nat) (j : Nat) : List Ent := (((told.drop 6).take j).foldl stepJ ((List.range 4).map (startF told)))
def formulaF (told : List Nat) : Ent := (rowsJ told 3).getD 0 dfl

theorem rowsJ_succ (told : List Nat) (j c : Nat) (h : (told.drop 6)[j]? = some c) : rowsJ told (j + 1) = stepJ (rowsJ told j) c := by
  unfold rowsJ
  rw [List.take_add_one, h]
  simp [List.foldl_append]
theorem stepJ_len (row : List Ent) (code : Nat) (h : 2 ≤ row.length) : (stepJ row code).length = row.length - 1 ∧ placeF row code + 1 < row.length := by
  have h1 : placeF row code < row.length - 1 := Nat.mod_lt _ (by (exact om472 h))
  refine ⟨?_, by (exact om473 h1)⟩
  unfold stepJ
  simp only [List.length_append, List.length_take, List.length_singleton, List.length_drop]
  (exact om474 h1)
def Short (B : Nat) (row : List Ent) : Prop := ∀ e ∈ row, e.short.length ≤ B ∧ e.plain.length ≤ B
theorem joinedF_len (code : Nat) (l r : Ent) (B : Nat) (hl : l.short.length ≤ B ∧ l.plain.length ≤ B) (hr : r.short.length ≤ B ∧ r.plain.length ≤ B) : (joinedF code l r).short.length ≤ 2 * B + 10 ∧ (joinedF code l r).plain.length ≤ 2 * B + 10 := by
  obtain ⟨sgn, outer, first, inner, second, hk, k1, k2, k3, k4, k5⟩ := kinds_get (code / 6 % 9) (Nat.mod_lt _ (by decide))
  have hj : joinedF code l r = joinWith sgn outer first inner second (tilde (code / 54 % 2)) (tilde (code / 108 % 2)) l r := by
    unfold joinedF
    rw [List.getD_eq_getElem?_getD, hk]
    rfl
  have t1 := tilde_len (code / 54 % 2)
  have t2 := tilde_len (code / 108 % 2)
  have p1 : (Str.length "(") = 1 := rfl
  have p2 : (Str.length ")") = 1 := rfl
  rw [hj]
  unfold joinWith
  simp only [strLen]
  (exact om475 hl hr k1 k2 k3 k4 k5 t1 t2 p1 p2)
theorem stepJ_short (row : List Ent) (code B : Nat) (h2 : 2 ≤ row.length) (h : Short B row) : Short (2 * B + 10) (stepJ row code) := by
  obtain ⟨_, hp⟩ := stepJ_len row code h2
  have hget : ∀ k, k < row.length → (row.getD k dfl) ∈ row := fun k hk => by
    rw [List.getD_eq_getElem?_getD, List.getElem?_eq_getElem hk]
    exact List.getElem_mem hk
  intro e he
  unfold stepJ at he
  rcases List.mem_append.mp he with he | he
  · rcases List.mem_append.mp he with he | he
    · have := h e (List.mem_of_mem_take he); (exact om476 this)
    · rw [List.mem_singleton.mp he]
      exact joinedF_len code _ _ B (h _ (hget _ (by (exact om212 hp)))) (h _ (hget _ hp))
  · have := h e (List.mem_of_mem_drop he); (exact om476 this)
theorem start_short (told : List Nat) : Short 1 (rowsJ told 0) := by
  intro e he
  simp only [rowsJ, List.take_zero, List.foldl_nil, List.mem_map] at he
  obtain ⟨i, _, rfl⟩ := he
  exact ⟨Nat.le_of_ble_eq_true rfl, Nat.le_of_ble_eq_true rfl⟩
theorem rowsJ_facts (told : List Nat) (h9 : told.length = 9) : ∀ j, j ≤ 3 → (rowsJ told j).length = 4 - j ∧ Short (100) (rowsJ told j) := by
  have g : ∀ j, j < 3 → ∃ c, (told.drop 6)[j]? = some c := fun j hj => ⟨_, List.getElem?_eq_getElem (by simp; (exact om477 h9 hj))⟩
  have l0 : (rowsJ told 0).length = 4 := by simp [rowsJ]
  have s0 := start_short told
  obtain ⟨c0, h0⟩ := g 0 (by (exact om478))
  obtain ⟨c1, h1⟩ := g 1 (by (exact om479))
  obtain ⟨c2, h2⟩ := g 2 (by (exact om480))
  have e0 := rowsJ_succ told 0 c0 h0
  have e1 := rowsJ_succ told 1 c1 h1
  have e2 := rowsJ_succ told 2 c2 h2
  have l1 : (rowsJ told 1).length = 3 := by rw [e0, (stepJ_len _ _ (by (exact om481 l0))).1]; (exact om482 l0)
  have s1' : Short 12 (rowsJ told 1) := by rw [e0]; exact stepJ_short _ _ 1 (by (exact om481 l0)) s0
  have l2 : (rowsJ told 2).length = 2 := by rw [e1, (stepJ_len _ _ (by (exact om483 l1))).1]; (exact om484 l1)
  have s2' : Short 34 (rowsJ told 2) := by rw [e1]; exact stepJ_short _ _ 12 (by (exact om483 l1)) s1'
  have l3 : (rowsJ told 3).length = 1 := by rw [e2, (stepJ_len _ _ (by (exact om485 l2))).1]; (exact om486 l2)
  have s3' : Short 78 (rowsJ told 3) := by rw [e2]; exact stepJ_short _ _ 34 (by (exact om485 l2)) s2'
  have up : ∀ B row, B ≤ 100 → Short B row → Short 100 row := fun B row hB hs e he => by have := hs e he; (exact om487 hB this)
  intro j hj
  match j, hj with
  | 0, _ => exact ⟨l0, up _ _ (by decide) s0⟩
  | 1, _ => exact ⟨l1, up _ _ (by decide) s1'⟩
  | 2, _ => exact ⟨l2, up _ _ (by decide) s2'⟩
  | 3, _ => exact ⟨l3, up _ _ (by decide) s3'⟩

theorem faces_le (k : Nat) (h : k < 12) : facesL.getD k 0 ≤ 120432 ∧ (facesL.map fun (i : Nat) => V.int (i : Int))[((k : Nat) : Int).toNat]? = some (.int (facesL.getD k 0 : Nat)) :=
  ⟨(by decide : ∀ k < 12, facesL.getD k 0 ≤ 120432) k h, map_get facesL k h⟩
theorem letters_get (k : Nat) (h : k < 4) : (lettersL.map fun (i : Nat) => V.int (i : Int))[((k : Nat) : Int).toNat]? = some (.int (lettersL.getD k 0 : Nat)) := map_get lettersL k h

section
variable {w : World} {G : Gl} {d : Nat} {H : List O}
theorem c_formula (T : Top w G) {nT : Nat} {told : List Nat} {Φ : V → List O → Prop} (hT : H[nT]? = some (.lst (zsN told))) (h9 : told.length = 9)
    (h : ∀ H', (∀ i, i < H.length → H'[i]? = H[i]?) → H.length ≤ H'.length → Φ (entV (formulaF told)) H') : aC P w G (d + 2) "_law_formula" [.ref nT] H Φ := by
  refine c_def T.g (T.fn 66 _ _ _ _ _ rfl) (by intro rs h pm cd doc; obtain ⟨a, rfl⟩ := len1 h; rfl) (by rfl) (fun L a cd => ?_)
  have lT := lt_of_some hT
  have tg : ∀ k, k < 9 → (zsN told)[((k : Nat) : Int).toNat]? = some (.int (told.getD k 0 : Nat)) := fun k hk => by
    rw [Int.toNat_natCast]
    simp only [zsN, zs, List.getElem?_map]
    rw [List.getD_eq_getElem?_getD, List.getElem?_eq_getElem (by (exact om488 h9 hk))]
    rfl
  refine ss_cons ?_
  refine s_assign ?_
  refine e_List ?_
  refine e_int ?_
  refine e_int ?_
  refine e_int ?_
  refine e_int ?_
  refine e_int ?_
  refine e_int ?_
  refine e_int ?_
  refine e_int ?_
  refine e_int ?_
  refine e_int ?_
  refine e_int ?_
  refine e_int ⟨Nat.le_of_ble_eq_true rfl, ?_⟩
  refine ss_cons ?_
  refine s_assign ?_
  refine e_List ?_
  refine e_int ?_
  refine e_int ?_
  refine e_int ?_
  refine e_int ⟨Nat.le_of_ble_eq_true rfl, ?_⟩
  refine ss_cons ?_
  refine s_assign ?_
  refine e_List ⟨Nat.le_of_ble_eq_true rfl, ?_⟩
  refine ss_cons ?_
  refine s_for ?_
  refine it_range1 T.g (T.typ "range" (by decide)).1 (T.typ "range" (by decide)).2 ?_
  refine e_int ⟨4, rfl, by decide, ?_⟩
  refine ⟨fun i vars H1 => vars "told" = some (.ref nT) ∧ vars "faces" = some (.ref H.length) ∧ vars "letters" = some (.ref (H.length + 1)) ∧ vars "row" = some (.ref (H.length + 2)) ∧
    H1[H.length]? = some (.lst (facesL.map fun (i : Nat) => V.int (i : Int))) ∧ H1[H.length + 1]? = some (.lst (lettersL.map fun (i : Nat) => V.int (i : Int))) ∧
    H1[H.length + 2]? = some (.lst (((List.range i).map (startF told)).map entV)) ∧ (∀ j, j < H.length → H1[j]? = H[j]?) ∧ H.length + 3 ≤ H1.length, ?_, ?_, ?_⟩
  · refine ⟨rfl, rfl, ?_, ?_, ?_, ?_, ?_, fun j hj => ?_, by simp⟩
    · exact congrArg (fun n => some (V.ref n)) len_a1
    · exact congrArg (fun n => some (V.ref n)) len_a2
    · show (H ++ [O.lst (facesL.map fun (i : Nat) => V.int (i : Int))] ++ [_] ++ [_])[H.length]? = _; exact get_a3
    · show (H ++ [_] ++ [O.lst (lettersL.map fun (i : Nat) => V.int (i : Int))] ++ [_])[H.length + 1]? = _
      exact get_b3
    · show (H ++ [_] ++ [_] ++ [O.lst []])[H.length + 2]? = _
      exact get_c3
    · show (H ++ [_] ++ [_] ++ [_])[j]? = _
      rw [List.getElem?_append_left (by simp; (exact om471 hj)), List.getElem?_append_left (by simp; (exact om16 hj)), List.getElem?_append_left hj]
  · rintro i v vars H1 hi ⟨v1, v2, v3, v4, h5, h6, h7, h8, h9'⟩
    replace hi := map_range_some hi
    obtain ⟨_, ⟨hlt, rfl⟩, rfl⟩ := hi
    simp at hlt
    have hT1 : H1[nT]? = some (.lst (zsN told)) := by rw [h8 nT lT]; exact hT
    refine ⟨trivial, .inr (fun _ _ => rfl), a_name ?_⟩
    refine ss_cons ?_
    refine s_assign ?_
    refine e_BinOp ?_
    refine e_BinOp ?_
    refine e_Subscript ?_
    refine e_var v1 ?_
    refine e_int ?_
    refine o_sub_list hT1 (by decide) (by decide) (tg 4 (by decide)) ?_
    refine e_BinOp ?_
    refine e_int ?_
    refine e_var rfl ?_
    refine o_pow_int (by (exact om300)) (by (exact om388 hlt)) (by decide) ?_
    have e4 : (4 : Int) ^ ((i : Nat) : Int).toNat = ((4 ^ i : Nat) : Int) := by rw [Int.toNat_natCast]; push_cast; rfl
    have p4 : 0 < 4 ^ i := Nat.pow_pos (by decide)
    have p4' : 4 ^ i ≤ 4 ^ 4 := Nat.pow_le_pow_right (by decide) (by (exact om45 hlt))
    rw [e4]
    refine o_div_int (by (exact om489 p4)) (by (exact om490 p4')) ?_
    refine e_int ?_
    refine o_mod_int (by decide) ?_
    have e5 : ((told.getD 4 0 : Nat) : Int) / ((4 ^ i : Nat) : Int) % 4 = ((letterF told i : Nat) : Int) := by unfold letterF; push_cast; rfl
    rw [e5]
    have ll : letterF told i < 4 := Nat.mod_lt _ (by decide)
    refine ss_cons ?_
    refine s_assign ?_
    refine e_IfExp ?_
    refine b_Compare ?_
    refine e_var rfl ?_
    refine e_BinOp ?_
    refine e_BinOp ?_
    refine e_Subscript ?_
    refine e_var v1 ?_
    refine e_int ?_
    refine o_sub_list hT1 (by decide) (by decide) (tg 5 (by decide)) ?_
    refine e_int ?_
    refine o_div_int (by decide) (by decide) ?_
    refine e_int ?_
    refine o_mod_int (by decide) ?_
    refine o_eq_int ?_
    refine t_bool ?_
    have e6 : ((i : Int) == ((told.getD 5 0 : Nat) : Int) / 28 % 4) = decide (i = told.getD 5 0 / 28 % 4) := by
      have : ((told.getD 5 0 : Nat) : Int) / 28 % 4 = ((told.getD 5 0 / 28 % 4 : Nat) : Int) := by (exact om491)
      rw [this]
      by_cases q : i = told.getD 5 0 / 28 % 4
      · rw [decide_eq_true q, ← q]; simp
      · rw [decide_eq_false q]; exact beq_eq_false_iff_ne.mpr (by (exact om492 q))
    rw [e6]
    have lo : otherF told i < 4 := by unfold otherF; split; exact Nat.mod_lt _ (by decide); exact ll
    refine if_val (v := .int (otherF told i : Nat)) ?_ (fun hc Ψ hΨ => ?_) (fun hc Ψ hΨ => ?_)
    rotate_left
    · have hc' := of_decide_eq_true hc
      refine e_BinOp ?_
      refine e_BinOp ?_
      refine e_Subscript ?_
      refine e_var v1 ?_
      refine e_int ?_
      refine o_sub_list hT1 (by decide) (by decide) (tg 5 (by decide)) ?_
      refine e_int ?_
      refine o_div_int (by decide) (by decide) ?_
      refine e_int ?_
      refine o_mod_int (by decide) ?_
      unfold otherF at hΨ
      rw [if_pos hc'] at hΨ
      have : ((told.getD 5 0 : Nat) : Int) / 112 % 4 = ((told.getD 5 0 / 112 % 4 : Nat) : Int) := by (exact om493)
      rw [this]; exact hΨ
    · have hc' := of_decide_eq_false hc
      unfold otherF at hΨ
      rw [if_neg hc'] at hΨ
      refine e_var rfl ?_
      exact hΨ
    obtain ⟨fl, fg⟩ := faces_le ((told.getD 4 0 / 256 + 5 * i) % 12) (Nat.mod_lt _ (by decide))
    refine ss_cons ?_
    refine s_assign ?_
    refine e_Subscript ?_
    refine e_var v2 ?_
    refine e_BinOp ?_
    refine e_BinOp ?_
    refine e_BinOp ?_
    refine e_Subscript ?_
    refine e_var v1 ?_
    refine e_int ?_
    refine o_sub_list hT1 (by decide) (by decide) (tg 4 (by decide)) ?_
    refine e_int ?_
    refine o_div_int (by decide) (by decide) ?_
    refine e_BinOp ?_
    refine e_int ?_
    refine e_var rfl ?_
    refine o_mul_int (.inl (by decide)) ?_
    refine o_add_int ?_
    refine e_int ?_
    refine o_mod_int (by decide) ?_
    have e7 : (((told.getD 4 0 : Nat) : Int) / 256 + 5 * (i : Int)) % 12 = (((told.getD 4 0 / 256 + 5 * i) % 12 : Nat) : Int) := by (exact om494)
    rw [e7]
    refine o_sub_list h5 (by (exact om495)) (by (exact om496)) fg ?_
    have hface : facesL.getD ((told.getD 4 0 / 256 + 5 * i) % 12) 0 = faceF told i := rfl
    rw [hface] at fl ⊢
    refine ss_cons ?_
    refine s_expr ?_
    refine e_append ?_
    refine e_var v4 ⟨_, rfl, ⟨_, h7⟩, ?_⟩
    refine e_Tuple ?_
    refine e_Call_builtin T.g (T.blt "chr" (by decide)).1 (T.blt "chr" (by decide)).2 ?_
    refine e_BinOp ?_
    refine e_var rfl ?_
    refine e_var rfl ?_
    refine o_add_int ?_
    refine o_chr (by (exact om497)) (by (exact om498 e5 fl)) ?_
    refine e_Call_builtin T.g (T.blt "chr" (by decide)).1 (T.blt "chr" (by decide)).2 ?_
    refine e_BinOp ?_
    refine e_var rfl ?_
    refine e_var rfl ?_
    refine o_add_int ?_
    refine o_chr (by (exact om497)) (by (exact om499 lo fl)) ?_
    refine e_Subscript ?_
    refine e_var v3 ?_
    refine e_var rfl ?_
    refine o_sub_list h6 (by (exact om300)) (by (exact om500 e5)) (letters_get _ ll) ?_
    refine e_Subscript ?_
    refine e_var v3 ?_
    refine e_var rfl ?_
    refine o_sub_list h6 (by (exact om300)) (by (exact om370 lo)) (letters_get _ lo) ⟨by simp, ?_⟩
    have c1 : ((faceF told i : Nat) : Int) + ((letterF told i : Nat) : Int) = ((faceF told i + letterF told i : Nat) : Int) := by push_cast; rfl
    have c2 : ((faceF told i : Nat) : Int) + ((otherF told i : Nat) : Int) = ((faceF told i + otherF told i : Nat) : Int) := by push_cast; rfl
    rw [c1, c2, Int.toNat_natCast, Int.toNat_natCast]
    refine ⟨_, h7, by simp; (exact om398 hlt), .inl rfl, ?_⟩
    refine ss_nil ?_
    refine ⟨v1, v2, v3, v4, ?_, ?_, ?_, fun j hj => ?_, by simp; (exact om501 h9')⟩
    · rw [List.getElem?_set_ne (by (exact om502))]; exact h5
    · rw [List.getElem?_set_ne (by (exact om503))]; exact h6
    · rw [List.getElem?_set_self (by (exact om504 h9')), List.range_succ]
      simp [entV, startF, s1]
    · rw [List.getElem?_set_ne (by (exact om505 hj))]; exact h8 j hj
  · rintro vars H1 ⟨v1, v2, v3, v4, h5, h6, h7, h8, h9'⟩
    refine ⟨trivial, ?_⟩
    have hT1 : H1[nT]? = some (.lst (zsN told)) := by rw [h8 nT lT]; exact hT
    simp only [List.length_map, List.length_range] at h7
    have hr0 : (List.range 4).map (startF told) = rowsJ told 0 := rfl
    rw [hr0] at h7
    have htl : (zsN told).length = 9 := by simp [zsN, zs, h9]
    refine ss_cons ?_
    refine s_for ?_
    refine it_list ?_
    refine e_slice_list ?_
    refine e_var v1 ⟨nT, rfl, ?_⟩
    refine p_some ?_
    refine e_int ?_
    refine p_none ⟨_, hT1, by (exact om506 htl), .inl ⟨6, rfl, rfl, ?_⟩⟩
    have hC1 : (H1 ++ [O.lst ((zsN told).drop 6)])[H1.length]? = some (.lst ((zsN told).drop 6)) := get_last _ _
    refine ⟨_, _, rfl, hC1, by rw [List.length_drop]; (exact om507 htl), ?_⟩
    refine ⟨fun j vars H2 => ∃ n, vars "row" = some (.ref n) ∧ H2[n]? = some (.lst ((rowsJ told j).map entV)) ∧ H2[H1.length]? = some (.lst ((zsN told).drop 6)) ∧ (∀ i, i < H.length → H2[i]? = H[i]?) ∧ H.length ≤ H2.length, ?_, ?_, ?_⟩
    · refine ⟨_, v4, ?_, hC1, fun i hi => ?_, by simp; (exact om508 h9')⟩
      · rw [List.getElem?_append_left (by (exact om504 h9'))]; exact h7
      · rw [List.getElem?_append_left (by (exact om509 h9' hi))]; exact h8 i hi
    · rintro j v vars H2 hj ⟨n, w1, w2, w3, w4, w5⟩
      have hj3 : j < 3 := by
        have := lt_of_some hj
        rw [List.length_drop] at this; (exact om510 htl this)
      have hcd : (told.drop 6)[j]? = some ((told.drop 6).getD j 0) := by
        rw [List.getD_eq_getElem?_getD, List.getElem?_eq_getElem (by simp; (exact om477 h9 hj3))]; rfl
      have hv : v = .int (((told.drop 6).getD j 0 : Nat) : Int) := by
        have h1 : (zsN told).drop 6 = zsN (told.drop 6) := by simp [zsN, zs, List.map_drop]
        rw [h1] at hj
        simp only [zsN, zs, List.getElem?_map, hcd, Option.map_some, Option.some.injEq] at hj
        exact hj.symm
      subst hv
      have hsucc := rowsJ_succ told j _ hcd
      generalize (told.drop 6).getD j 0 = code at hsucc ⊢
      obtain ⟨rl, rs⟩ := rowsJ_facts told h9 j (by (exact om511 hj3))
      generalize rowsJ told j = row at hsucc w2 rl rs
      obtain ⟨sl, sp⟩ := stepJ_len row code (by (exact om512 hj3 rl))
      refine ⟨w3, .inr (fun _ _ => rfl), a_name ?_⟩
      refine ss_cons ?_
      refine s_assign ?_
      refine e_BinOp ?_
      refine e_BinOp ?_
      refine e_var rfl ?_
      refine e_int ?_
      refine o_mod_int (by decide) ?_
      refine e_BinOp ?_
      refine e_Call_builtin T.g (T.blt "len" (by decide)).1 (T.blt "len" (by decide)).2 ?_
      refine e_var w1 ?_
      refine o_len_list w2 (by simp; (exact om513 rl)) ?_
      refine e_int ?_
      refine o_sub_int ?_
      refine o_mod_int (by simp; (exact om514 sp)) ?_
      have e1 : (code : Int) % 6 % (((row.map entV).length : Nat) - 1) = ((placeF row code : Nat) : Int) := by
        unfold placeF
        rw [List.length_map]
        have : ((row.length : Nat) : Int) - 1 = ((row.length - 1 : Nat) : Int) := by (exact om515 sp)
        rw [this, Int.natCast_emod, Int.natCast_emod]; rfl
      rw [e1]
      have hpl : placeF row code + 1 < row.length := sp
      generalize hpp : placeF row code = p at hpl
      have hsj : stepJ row code = row.take p ++ [joinedF code (row.getD p dfl) (row.getD (p + 1) dfl)] ++ row.drop (p + 2) := by
        unfold stepJ; rw [hpp]
      rw [hsj] at hsucc
      refine ss_cons ?_
      refine s_assign ?_
      refine e_BinOp ?_
      refine e_BinOp ?_
      refine e_slice_list ?_
      refine e_var w1 ⟨n, rfl, ?_⟩
      refine p_none ?_
      refine p_some ?_
      refine e_var rfl ⟨_, w2, by simp; (exact om513 rl), .inr ⟨p, rfl, rfl, ?_⟩⟩
      have hn2 := lt_of_some w2
      have hc2 := lt_of_some w3
      have gk : ∀ (H3 : List O), (∀ i, i < H2.length → H3[i]? = H2[i]?) → ∀ k, k < row.length → ∀ (x : Int), x = (k : Int) → H3[n]? = some (.lst (row.map entV)) ∧ (row.map entV)[x.toNat]? = some (entV (row.getD k dfl)) := by
        intro H3 hs k hk x hx
        refine ⟨by rw [hs n hn2]; exact w2, ?_⟩
        rw [hx, Int.toNat_natCast, List.getElem?_map, List.getD_eq_getElem?_getD, List.getElem?_eq_getElem hk]
        rfl
      have a1 : ∀ i, i < H2.length → (H2 ++ [O.lst ((row.map entV).take p)])[i]? = H2[i]? := fun i hi => List.getElem?_append_left hi
      obtain ⟨g1, g2⟩ := gk _ a1 p (by (exact om516 sp hpp)) (p : Int) rfl
      obtain ⟨g3, g4⟩ := gk _ a1 (p + 1) hpl ((p : Int) + 1) (by push_cast; rfl)
      refine e_List ?_
      refine e_Call_def T.g (T.fn 65 _ _ _ _ _ rfl) ?_
      refine e_var rfl ?_
      refine e_Subscript ?_
      refine e_var w1 ?_
      refine e_var rfl ?_
      refine o_sub_list g1 (by (exact om300)) (by (exact om517 rl sp hpp)) g2 ?_
      refine e_Subscript ?_
      refine e_var w1 ?_
      refine e_BinOp ?_
      refine e_var rfl ?_
      refine e_int ?_
      refine o_add_int ?_
      refine o_sub_list g3 (by (exact om518)) (by (exact om519 rl sp hpp)) g4 ?_
      have hmem : ∀ k, k < row.length → row.getD k dfl ∈ row := fun k hk => by
        rw [List.getD_eq_getElem?_getD, List.getElem?_eq_getElem hk]
        exact List.getElem_mem hk
      have b1 := rs _ (hmem p (by (exact om516 sp hpp)))
      have b2 := rs _ (hmem (p + 1) hpl)
      refine c_joined (d := d) T (by (exact om520 b1)) (by (exact om520 b2)) fun H3 k1 k2 => ?_
      rw [List.length_append, List.length_singleton] at k1 k2
      refine ⟨by simp, ?_⟩
      have m1 : (H3 ++ [O.lst [entV (joinedF code (row.getD p dfl) (row.getD (p + 1) dfl))]])[H2.length]? = some (.lst ((row.map entV).take p)) := by
        rw [List.getElem?_append_left (by (exact om131 k2)), k1 _ (by (exact om14))]
        simp
      refine o_add_list m1 (us := [entV (joinedF code (row.getD p dfl) (row.getD (p + 1) dfl))]) (by simp) (by simp; (exact om521 rl)) ?_
      have old : ∀ i, i < H2.length → (H3 ++ [O.lst [entV (joinedF code (row.getD p dfl) (row.getD (p + 1) dfl))]] ++ [O.lst ((row.map entV).take p ++ [entV (joinedF code (row.getD p dfl) (row.getD (p + 1) dfl))])])[i]? = H2[i]? := by
        intro i hi
        rw [List.getElem?_append_left (by simp; (exact om423 k2 hi)), List.getElem?_append_left (by (exact om401 k2 hi)), k1 i (by (exact om16 hi)), a1 i hi]
      refine e_slice_list ?_
      refine e_var w1 ⟨n, rfl, ?_⟩
      refine p_some ?_
      refine e_BinOp ?_
      refine e_var rfl ?_
      refine e_int ?_
      refine o_add_int ?_
      refine p_none ⟨row.map entV, by rw [old n hn2]; exact w2, by simp; (exact om513 rl), .inl ⟨p + 2, by push_cast; rfl, rfl, ?_⟩⟩
      generalize hH4 : H3 ++ [O.lst [entV (joinedF code (row.getD p dfl) (row.getD (p + 1) dfl))]] ++ [O.lst ((row.map entV).take p ++ [entV (joinedF code (row.getD p dfl) (row.getD (p + 1) dfl))])] = H4 at old ⊢
      have hl4 : H4.length = H3.length + 2 := by rw [← hH4]; simp
      have m2 : (H4 ++ [O.lst ((row.map entV).drop (p + 2))])[(H3 ++ [O.lst [entV (joinedF code (row.getD p dfl) (row.getD (p + 1) dfl))]]).length]? = some (.lst ((row.map entV).take p ++ [entV (joinedF code (row.getD p dfl) (row.getD (p + 1) dfl))])) := by
        rw [List.getElem?_append_left (by rw [hl4]; simp), ← hH4]
        simp
      refine o_add_list m2 (us := (row.map entV).drop (p + 2)) (by simp) (by simp; (exact om522 rl)) ?_
      refine ss_nil ?_
      refine ⟨_, rfl, ?_, ?_, fun i hi => ?_, by simp; (exact om523 h9' hc2 k2 hl4)⟩
      · rw [hsucc]
        simp
      · rw [List.getElem?_append_left (by simp; (exact om524 hc2 k2 hl4)), List.getElem?_append_left (by (exact om525 hc2 k2 hl4)), old _ hc2]; exact w3
      · rw [List.getElem?_append_left (by simp; (exact om526 h9' hc2 k2 hl4 hi)), List.getElem?_append_left (by (exact om527 h9' hc2 k2 hl4 hi)), old _ (by (exact om528 h9' hc2 hi))]; exact w4 i hi
    · rintro vars H2 ⟨n, w1, w2, w3, w4, w5⟩
      refine ⟨w3, ?_⟩
      rw [List.length_drop, htl] at w2
      obtain ⟨rl, _⟩ := rowsJ_facts told h9 3 (by (exact om226))
      refine ss_cons ?_
      refine s_return ?_
      refine e_Subscript ?_
      refine e_var w1 ?_
      refine e_int ?_
      refine o_sub_list w2 (v := entV (formulaF told)) (by decide) (by decide) ?_ ?_
      · show ((rowsJ told 3).map entV)[0]? = _
        rw [List.getElem?_map]
        unfold formulaF
        rw [List.getD_eq_getElem?_getD, List.getElem?_eq_getElem (by (exact om529 rl))]
        rfl
      · exact h H2 w4 w5
end
end Mine
end

section
open PySem PySem.W PyProof.Rows PySem.Calls
set_option maxRecDepth 100000
namespace Mine

def dfltL : List Nat := [71, 292, 131, 40, 740, 290, 132, 97, 0]
def codesF (script : List Int) : List Nat := (script.take 9).map fun x => (x % 1000000).toNat
def toldF (script : List Int) : List Nat := codesF script ++ dfltL.drop (codesF script).length
def hueF (code : Nat) : UInt64 := Float64.add (Float64.div (Float64.ofInt ((code % 64 : Nat) : Int)) 0x4050000000000000) (Float64.ofInt (((code / 64 % 5 : Nat) : Int) - 2))
def weightF (code : Nat) : Nat := (max 0 (min 32 (64 - (if 3 * ((code % 64 : Nat) : Int) - 64 < 0 then -(3 * ((code % 64 : Nat) : Int) - 64) else 3 * ((code % 64 : Nat) : Int) - 64)))).toNat

theorem toldF_len (script : List Int) : (toldF script).length = 9 := by
  unfold toldF
  have : (codesF script).length ≤ 9 := by unfold codesF; simp; (exact om530)
  simp [dfltL]; (exact om531 this)
theorem weightF_le (code : Nat) : weightF code ≤ 32 := by unfold weightF; (exact om532)

def B0 : BD := ⟨[], fun _ => none⟩
/-- what must hold of the plain functions -/
structure Facts (script : List Int) (st1 st2 : RS) (r1 r2 : Nat) : Prop where
  len1 : (formulaF (toldF script)).short.length ≤ 1000 ∧ (formulaF (toldF script)).plain.length ≤ 1000
  prep : ∀ t, t = (formulaF (toldF script)).short ∨ t = (formulaF (toldF script)).plain → ((typedL t ((toldF script).getD 5 0)).map (·.length)).sum ≤ 100000 ∧ (typedF t ((toldF script).getD 5 0)).length ≤ 100000 ∧
    (∀ c ∈ (typedF t ((toldF script).getD 5 0)).cps.toList, b1Fn (c : Nat) = false → b3Fn (c : Nat) = none → Builtin.Str.tooLong (Txt.lower (s1 c)).length = false) ∧ ((keptL (typedF t ((toldF script).getD 5 0))).map (·.length)).sum ≤ 100000 ∧
    (preparedF t ((toldF script).getD 5 0)).length ≤ 10000
  run1 : Runs (preparedF (formulaF (toldF script)).short ((toldF script).getD 5 0)).cps.toList ⟨[], [], B0⟩ st1
  root1 : st1.values.getLast? = some r1 ∧ st1.values.length ≤ 10000
  run2 : Runs (preparedF (formulaF (toldF script)).plain ((toldF script).getD 5 0)).cps.toList ⟨[], [], st1.B⟩ st2
  root2 : st2.values.getLast? = some r2 ∧ st2.values.length ≤ 10000
  same : r1 = r2 ↔ (formulaF (toldF script)).a = (formulaF (toldF script)).b
  tabs : (formulaF (toldF script)).a < 65536 ∧ (formulaF (toldF script)).b < 65536
  nodes : st2.B.nodes.length ≤ 700
  low : ∀ (i : Nat) t, st2.B.nodes[i]? = some t → t.1 < 4 ∧ t.2.1 < 256 + i ∧ t.2.2 < 256 + i
  roots : r1 < 256 + st2.B.nodes.length ∧ r2 < 256 + st2.B.nodes.length
  sizes : sizesF st2.B.nodes r1 = piecesF (formulaF (toldF script)).a ∧ sizesF st2.B.nodes r2 = piecesF (formulaF (toldF script)).b
  chance1 : ∃ sg m e, Float64.decode (endF (valF (levelsF (((toldF script).take 4).map hueF) st2.B.nodes) r1)) = .fin sg m e ∧ Float64.truncOf sg m e = rowsF (formulaF (toldF script)).a (((toldF script).take 4).map weightF)
  chance2 : ∃ sg m e, Float64.decode (endF (valF (levelsF (((toldF script).take 4).map hueF) st2.B.nodes) r2)) = .fin sg m e ∧ Float64.truncOf sg m e = rowsF (formulaF (toldF script)).b (((toldF script).take 4).map weightF)

theorem take_snoc {α : Type} {l : List α} {i : Nat} {x : α} (h : l[i]? = some x) : l.take (i + 1) = l.take i ++ [x] := by
  rw [List.take_add_one, h]; rfl
def bitsO : List O := [.lst [.int 0, .int 1, .int 1, .int 1], .lst [.int 0, .int 0, .int 0, .int 1], .lst [.int 0, .int 1, .int 0, .int 0], .lst [.int 0, .int 0, .int 1, .int 0], .lst [.int 1, .int 0, .int 0, .int 1], .lst [.int 0, .int 1, .int 1, .int 0],
  .lst [.int 1, .int 1, .int 0, .int 1], .lst [.int 1, .int 0, .int 1, .int 1], .lst [.int 0, .int 1, .int 1, .int 0]]
def bitsD (h : Nat) : List (Int × V) := [(18, .ref h), (19, .ref (h + 1)), (20, .ref (h + 2)), (21, .ref (h + 3)), (27, .ref (h + 4)), (28, .ref (h + 5)), (29, .ref (h + 6)), (30, .ref (h + 7)), (32, .ref (h + 8))]
theorem bits_all {H H' : List O} {nB nN nK : Nat} (hb : H'[nB]? = some (.dct (fun k => (bitsD H.length).lookup k) 9)) (hs : ∀ i, i < 9 → H'[H.length + i]? = bitsO[i]?) (h1 : nB = H.length + 9) (h2 : nN = H.length + 10) (h3 : nK = H.length + 11) : BitsAll H' nB nN nK := by
  intro k f hf
  have go : ∀ i, i < 9 → (bitsD H.length).lookup k = some (.ref (H.length + i)) → bitsO[i]? = some (.lst [.int ((f false false).toNat : Nat), .int ((f false true).toNat : Nat), .int ((f true false).toNat : Nat), .int ((f true true).toNat : Nat)]) → BitsAt H' nB nN nK k f := by
    intro i hi e1 e2
    exact ⟨_, _, H.length + i, hb, e1, by rw [hs i hi]; exact e2, by (exact om533 h1 h2), by (exact om534 h1 h3), by (exact om535 h2 hi), by (exact om536 h3 hi)⟩
  unfold signF at hf
  split at hf
  · cases hf; exact go 0 (by decide) rfl rfl
  · cases hf; exact go 1 (by decide) rfl rfl
  · cases hf; exact go 2 (by decide) rfl rfl
  · cases hf; exact go 3 (by decide) rfl rfl
  · cases hf; exact go 4 (by decide) rfl rfl
  · cases hf; exact go 5 (by decide) rfl rfl
  · cases hf; exact go 6 (by decide) rfl rfl
  · cases hf; exact go 7 (by decide) rfl rfl
  · cases hf; exact go 8 (by decide) rfl rfl
  · cases hf
def esOf : List (Option Expr) → List Expr → List (Expr × Expr)
  | some k :: ks, v :: vs => (k, v) :: esOf ks vs
  | _, _ => []

section
variable {prog : Program} {w : World} {G : Gl} {d : Nat} {H : List O}
theorem e_Dict' {env : Env} {vars : Vars} {keys : List (Option Expr)} {values : List Expr} {pos : Pos} {Φ : V → List O → Prop}
    (h : aPs prog w G d env (esOf keys values) vars H fun l H1 => (l.map (·.1)).Nodup ∧ Φ (.ref H1.length) (H1 ++ [.dct (fun k => l.lookup k) l.length]))
    (hlen : 0 < (esOf keys values).length ∧ (esOf keys values).length ≤ 15 := by exact ⟨Nat.le_of_ble_eq_true rfl, Nat.le_of_ble_eq_true rfl⟩)
    (hshape : (evalEachOpt keys env).zip ((evalEach values env).map fun v => do let x ← v; standAt pos; pure x) = ((esOf keys values).map fun e => (eval e.1 env, do let x ← eval e.2 env; standAt pos; pure x)).map fun p => (some p.1, p.2) := by rfl) :
    aE prog w G d env (.Dict keys values pos) vars H Φ := e_Dict h (fun q => by rw [q] at hlen; simp at hlen) hlen.2 hshape

theorem e_slice_listT {prog : Program} {env : Env} {vars : Vars} {value : Expr} {lower upper : Option Expr} {p pos : Pos} {Φ : V → List O → Prop}
    (h : aE prog w G d env value vars H fun o H1 => ∃ n, o = .ref n ∧
      aT prog w G d env (evalPart lower env) vars H1 (PV G fun l H2 => aT prog w G d env (evalPart upper env) vars H2 (PV G fun u H3 => ∃ vs, H3[n]? = some (.lst vs) ∧ vs.length ≤ 1000000 ∧
        ((∃ a : Nat, l = .int a ∧ u = .none ∧ Φ (.ref H3.length) (H3 ++ [.lst (vs.drop a)])) ∨ (∃ b : Nat, l = .none ∧ u = .int b ∧ Φ (.ref H3.length) (H3 ++ [.lst (vs.take b)]))))))
    : aE prog w G d env (.Subscript value (.Slice lower upper none p) pos) vars H Φ := by
  intro A ρ s ok hr fr
  refine Subscript_ (wpAny_mono (h A ρ s ok hr fr) (fun ro s1 p1 => wpAny_Slice ?_) fun _ _ x => x)
  obtain ⟨ρ1, H1, st1, hr1, o, vo, n, rfl, h1⟩ := p1
  refine wpAny_mono (h1 A ρ1 s1 ok hr1 (fr.step st1)) (fun rl s2 p2 => ?_) fun _ _ x => x
  obtain ⟨ρ2, H2, st2, hr2, l, vl, h2⟩ := p2
  have s12 := st1.trans0 st2
  refine wpAny_mono (h2 A ρ2 s2 ok hr2 (fr.step s12)) (fun ru s3 p3 => ?_) fun _ _ x => x
  obtain ⟨ρ3, H3, st3, hr3, u, vu, vs, hn, hlen, h3⟩ := p3
  have s13 := s12.trans0 st3
  obtain ⟨a, items, k, ha, rfl, il, vv, hsz⟩ := ref_list hr3 hn (vo.step (st2.trans0 st3))
  have fin : ∀ (items' : Array Value) (vs' : List V) (vl vu : Value), VRs G ρ3 s3.heap vs' items'.toList → Φ (.ref H3.length) (H3 ++ [.lst vs']) →
      Post G ρ s (PV G Φ) (.ref (s3.heap.objs.size + 1)) { s3 with heap := (s3.heap.push { cls := .type "slice", data := .fields #[vl, vu, .none] }).push { cls := .type "list", data := .seq items' } } := by
    intro items' vs' vl vu hv hΦ
    have g1 : Step [] ρ3 s3 ρ3 { s3 with heap := s3.heap.push { cls := .type "slice", data := .fields #[vl, vu, .none] }, toks := s3.toks } := Step.grow fun _ _ e => Heap.get?_push_of_some _ e
    have hr4 := hr3.grow (tk := s3.toks) (h' := s3.heap.push { cls := .type "slice", data := .fields #[vl, vu, .none] }) fun _ _ e => Heap.get?_push_of_some _ e
    have e : s3.heap.objs.size + 1 = (s3.heap.push { cls := .type "slice", data := .fields #[vl, vu, .none] }).objs.size := by rw [Heap.size_push]
    rw [e]
    exact ⟨ρ3 ++ [_], H3 ++ [.lst vs'], (s13.trans0 g1).trans0 (Step.newρ (tk := s3.toks)), HR.new (tk := s3.toks) hr4 rfl (OR.newList (rs := items'.toList) hr4 (hv.step g1)), _, VR.newRef hr4, hΦ⟩
  rcases h3 with ⟨b, rfl, rfl, hΦ⟩ | ⟨b, rfl, rfl, hΦ⟩
  · obtain ⟨t, rfl⟩ := vl
    cases (show ru = .none from vu)
    rw [evalPart_none]
    refine wpAny_pure (sub_of (il.isList.push _).typeIs slot_list_getitem.lookup (wpAny_getItem_list_slice (il.isList.push _) (Heap.IsSliceOf.new ..) (.int _ _) .none .none (by simp) ?_ (by rw [sizeLine_eq]; (exact om238 hlen hsz))))
    rw [slicePick_from', Heap.size_push]
    exact fin _ _ _ _ (by simpa using vv.drop b) hΦ
  · cases (show rl = .none from (vl.step st3))
    obtain ⟨t, rfl⟩ := vu
    rw [evalPart_none]
    refine wpAny_pure (sub_of (il.isList.push _).typeIs slot_list_getitem.lookup (wpAny_getItem_list_slice (il.isList.push _) (Heap.IsSliceOf.new ..) .none (.int _ _) .none (by simp) ?_ (by rw [sizeLine_eq]; (exact om238 hlen hsz))))
    rw [slicePick_upto', Heap.size_push]
    exact fin _ _ _ _ (by simpa using vv.take b) hΦ

structure Rest (script : List Int) (nT nU nW nB nN nK : Nat) (vars : Vars) (H : List O) : Prop where
  v1 : vars "told" = some (.ref nT)
  v2 : vars "hues" = some (.ref nU)
  v3 : vars "weights" = some (.ref nW)
  v4 : vars "short" = some (.str (formulaF (toldF script)).short)
  v5 : vars "plain" = some (.str (formulaF (toldF script)).plain)
  v6 : vars "table_short" = some (.int (formulaF (toldF script)).a)
  v7 : vars "table_plain" = some (.int (formulaF (toldF script)).b)
  v8 : vars "bits" = some (.ref nB)
  v9 : vars "nodes" = some (.ref nN)
  v10 : vars "known" = some (.ref nK)
  hT : H[nT]? = some (.lst (zsN (toldF script)))
  hU : H[nU]? = some (.lst (flts (((toldF script).take 4).map hueF)))
  hW : H[nW]? = some (.lst (zsN (((toldF script).take 4).map weightF)))
  lt : nT < nN ∧ nU < nN ∧ nW < nN ∧ nN < nK
  has : Has H nN nK B0
  bits : BitsAll H nB nN nK

theorem truncEq {a b : Int} (h : a = b) : a = b := h
theorem law_tail (T : Top w G) {nT nU nW nB nN nK : Nat} {script : List Int} {st1 st2 : RS} {r1 r2 : Nat} {vars : Vars} {L a : Addr} {cd : Value} {Φ : V → List O → Prop} (R : Rest script nT nU nW nB nN nK vars H) (F : Facts script st1 st2 r1 r2)
    (h : ∀ H', Φ (.bool true) H') : aSs P w G (d + 8) (envOf "law" (scopeAt 75) L a cd) ((bodyAt 75).drop 8) vars H (fun fl _ H' => Φ fl.val H') := by
  have h9 := toldF_len script
  have tg : (zsN (toldF script))[((5 : Nat) : Int).toNat]? = some (.int ((toldF script).getD 5 0 : Nat)) := by
    rw [Int.toNat_natCast]
    simp only [zsN, zs, List.getElem?_map]
    rw [List.getD_eq_getElem?_getD, List.getElem?_eq_getElem (show 5 < (toldF script).length by (exact om537 h9))]
    rfl
  obtain ⟨q1, q2, q3, q4⟩ := R.lt
  obtain ⟨p1, p2, p3, p4, p5⟩ := F.prep _ (.inl rfl)
  obtain ⟨g1, g2, g3, g4, g5⟩ := F.prep _ (.inr rfl)
  -- the first reading
  refine ss_cons ?_
  refine s_assign ?_
  refine e_Call_def T.g (T.fn 70 _ _ _ _ _ rfl) ?_
  refine e_Call_def T.g (T.fn 67 _ _ _ _ _ rfl) ?_
  refine e_var R.v4 ?_
  refine e_Subscript ?_
  refine e_var R.v1 ?_
  refine e_int ?_
  refine o_sub_list R.hT (by decide) (by decide) tg ?_
  refine c_prepared (d := d + 6) T (by have := F.len1.1; (exact om538 this)) p1 p2 p3 p4 fun H1 k1 k2 => ?_
  refine e_var R.v8 ?_
  refine e_var R.v9 ?_
  refine e_var R.v10 ?_
  have K1 : Keeps2 H H1 nN nK := ⟨k2, fun i hi _ _ => k1 i hi⟩
  have has1 : Has H1 nN nK B0 := ⟨by rw [k1 _ (lt_of_some R.has.n)]; exact R.has.n, by rw [k1 _ (lt_of_some R.has.k)]; exact R.has.k, R.has.ne⟩
  refine c_read (d := d) T p5 F.run1 F.root1.1 has1 (R.bits.keeps K1) F.root1.2 fun H2 has2 K2 => ?_
  have K02 := K1.trans K2
  have old : ∀ (Hx : List O), Keeps2 H Hx nN nK → Hx[nT]? = some (.lst (zsN (toldF script))) ∧ Hx[nU]? = some (.lst (flts (((toldF script).take 4).map hueF))) ∧ Hx[nW]? = some (.lst (zsN (((toldF script).take 4).map weightF))) := fun Hx K =>
    ⟨by rw [K.at_ _ (lt_of_some R.hT) (by (exact om539 q1)) (by (exact om540 q1 q4))]; exact R.hT, by rw [K.at_ _ (lt_of_some R.hU) (by (exact om539 q2)) (by (exact om540 q2 q4))]; exact R.hU, by rw [K.at_ _ (lt_of_some R.hW) (by (exact om539 q3)) (by (exact om540 q3 q4))]; exact R.hW⟩
  obtain ⟨t2, u2, w2⟩ := old H2 K02
  -- the second reading
  refine ss_cons ?_
  refine s_assign ?_
  refine e_Call_def T.g (T.fn 70 _ _ _ _ _ rfl) ?_
  refine e_Call_def T.g (T.fn 67 _ _ _ _ _ rfl) ?_
  refine e_var R.v5 ?_
  refine e_Subscript ?_
  refine e_var R.v1 ?_
  refine e_int ?_
  refine o_sub_list t2 (by decide) (by decide) tg ?_
  refine c_prepared (d := d + 6) T (by have := F.len1.2; (exact om538 this)) g1 g2 g3 g4 fun H3 k3 k4 => ?_
  refine e_var R.v8 ?_
  refine e_var R.v9 ?_
  refine e_var R.v10 ?_
  have K3 : Keeps2 H2 H3 nN nK := ⟨k4, fun i hi _ _ => k3 i hi⟩
  have has3 : Has H3 nN nK st1.B := ⟨by rw [k3 _ (lt_of_some has2.n)]; exact has2.n, by rw [k3 _ (lt_of_some has2.k)]; exact has2.k, has2.ne⟩
  refine c_read (d := d) T g5 F.run2 F.root2.1 has3 (R.bits.keeps (K02.trans K3)) F.root2.2 fun H4 has4 K4 => ?_
  have K04 := (K02.trans K3).trans K4
  obtain ⟨t4, u4, w4⟩ := old H4 K04
  -- one number if and only if one table
  refine ss_cons ?_
  refine s_if ?_
  refine b_Compare ?_
  refine e_Compare ?_
  refine e_var rfl ?_
  refine e_var rfl ?_
  refine o_eq_int ?_
  refine e_Compare ?_
  refine e_var R.v6 ?_
  refine e_var R.v7 ?_
  refine o_eq_int ?_
  refine o_ne_bool ?_
  refine t_bool ?_
  have hsame : (((r1 : Nat) : Int) == ((r2 : Nat) : Int)) = ((((formulaF (toldF script)).a : Nat) : Int) == (((formulaF (toldF script)).b : Nat) : Int)) := by
    rw [Bool.eq_iff_iff, beq_iff_eq, beq_iff_eq]
    have := F.same
    (exact om541 this)
  rw [hsame, bne_self_eq_false]
  refine ss_nil ?_
  -- the sizes
  obtain ⟨z1, z2⟩ := F.sizes
  have hlow : ∀ t ∈ st2.B.nodes, t.1 < 4 := fun t ht => by
    obtain ⟨i, hi⟩ := List.getElem?_of_mem ht
    exact (F.low i t hi).1
  refine ss_cons ?_
  refine s_if ?_
  refine b_Compare ?_
  refine e_Call_def T.g (T.fn 71 _ _ _ _ _ rfl) ?_
  refine e_var rfl ?_
  refine e_var R.v9 ?_
  refine c_sizes (d := d + 7) T has4.n F.nodes hlow fun H5 n5 m1 m2 m3 m4 => ?_
  refine e_Call_def T.g (T.fn 72 _ _ _ _ _ rfl) ?_
  refine e_var R.v6 ?_
  refine c_pieces (d := d + 7) T F.tabs.1 fun H6 n6 m5 m6 m7 m8 => ?_
  rw [z1] at m2
  have s6 : H6[n5]? = some (.lst (zsN (piecesF (formulaF (toldF script)).a))) := by rw [m5 _ (lt_of_some m2)]; exact m2
  refine o_ne_ints (l := (piecesF (formulaF (toldF script)).a).map fun (i : Nat) => (i : Int)) (m := (piecesF (formulaF (toldF script)).a).map fun (i : Nat) => (i : Int)) s6 m6 rfl ?_
  refine t_bool ?_
  rw [beq_self_eq_true]
  refine ss_nil ?_
  have K06 : ∀ i, i < H4.length → H6[i]? = H4[i]? := fun i hi => by rw [m5 i (by (exact om35 m3 hi)), m1 i hi]
  have n6' : H6[nN]? = some (.lst (st2.B.nodes.map nodeV)) := by rw [K06 _ (lt_of_some has4.n)]; exact has4.n
  refine ss_cons ?_
  refine s_if ?_
  refine b_Compare ?_
  refine e_Call_def T.g (T.fn 71 _ _ _ _ _ rfl) ?_
  refine e_var rfl ?_
  refine e_var R.v9 ?_
  refine c_sizes (d := d + 7) T n6' F.nodes hlow fun H7 n7 l1 l2 l3 l4 => ?_
  refine e_Call_def T.g (T.fn 72 _ _ _ _ _ rfl) ?_
  refine e_var R.v7 ?_
  refine c_pieces (d := d + 7) T F.tabs.2 fun H8 n8 l5 l6 l7 l8 => ?_
  rw [z2] at l2
  have s8 : H8[n7]? = some (.lst (zsN (piecesF (formulaF (toldF script)).b))) := by rw [l5 _ (lt_of_some l2)]; exact l2
  refine o_ne_ints (l := (piecesF (formulaF (toldF script)).b).map fun (i : Nat) => (i : Int)) (m := (piecesF (formulaF (toldF script)).b).map fun (i : Nat) => (i : Int)) s8 l6 rfl ?_
  refine t_bool ?_
  rw [beq_self_eq_true]
  refine ss_nil ?_
  have K08 : ∀ i, i < H4.length → H8[i]? = H4[i]? := fun i hi => by rw [l5 i (by (exact om542 m3 m7 l3 hi)), l1 i (by (exact om543 m3 m7 hi)), K06 i hi]
  -- what is due
  have w8 : H8[nW]? = some (.lst (zsN (((toldF script).take 4).map weightF))) := by rw [K08 _ (lt_of_some w4)]; exact w4
  have wlen : (((toldF script).take 4).map weightF).length = 4 := by simp; (exact om544 h9)
  have w32 : ∀ x ∈ ((toldF script).take 4).map weightF, x ≤ 32 := fun x hx => by
    obtain ⟨y, _, rfl⟩ := List.mem_map.mp hx
    exact weightF_le y
  refine ss_cons ?_
  refine s_assign ?_
  refine e_List ?_
  refine e_Call_def T.g (T.fn 74 _ _ _ _ _ rfl) ?_
  refine e_var R.v6 ?_
  refine e_var R.v3 ?_
  refine c_rows (d := d + 7) T w8 wlen w32 fun H9 o1 o2 => ?_
  have w9 : H9[nW]? = some (.lst (zsN (((toldF script).take 4).map weightF))) := by rw [o1 _ (lt_of_some w8)]; exact w8
  refine e_Call_def T.g (T.fn 74 _ _ _ _ _ rfl) ?_
  refine e_var R.v7 ?_
  refine e_var R.v3 ?_
  refine c_rows (d := d + 7) T w9 wlen w32 fun HA o3 o4 => ?_
  refine ⟨by simp, ?_⟩
  have K0A : ∀ i, i < H4.length → HA[i]? = H4[i]? := fun i hi => by rw [o3 i (by (exact om545 m3 m7 l3 l7 o2 hi)), o1 i (by (exact om546 m3 m7 l3 l7 hi)), K08 i hi]
  -- the chances
  refine ss_cons ?_
  refine s_return ?_
  refine e_Compare ?_
  refine e_Call_def T.g (T.fn 73 _ _ _ _ _ rfl) ?_
  refine e_List ?_
  refine e_var rfl ?_
  refine e_var rfl ⟨Nat.le_of_ble_eq_true rfl, ?_⟩
  refine e_var R.v2 ?_
  refine e_var R.v9 ?_
  obtain ⟨sg1, ms1, ex1, d1, tr1⟩ := F.chance1
  obtain ⟨sg2, ms2, ex2, d2, tr2⟩ := F.chance2
  have nA : (HA ++ [O.lst [V.int (rowsF (formulaF (toldF script)).a (((toldF script).take 4).map weightF) : Nat), V.int (rowsF (formulaF (toldF script)).b (((toldF script).take 4).map weightF) : Nat)]] ++ [O.lst [V.int (r1 : Nat), V.int (r2 : Nat)]])[nN]? = some (.lst (st2.B.nodes.map nodeV)) := by
    have := lt_of_some has4.n
    rw [List.getElem?_append_left (by simp; (exact om547 m3 m7 l3 l7 o2 o4 this)), List.getElem?_append_left (by (exact om548 m3 m7 l3 l7 o2 o4 this)), K0A _ this]; exact has4.n
  have uA : (HA ++ [O.lst [V.int (rowsF (formulaF (toldF script)).a (((toldF script).take 4).map weightF) : Nat), V.int (rowsF (formulaF (toldF script)).b (((toldF script).take 4).map weightF) : Nat)]] ++ [O.lst [V.int (r1 : Nat), V.int (r2 : Nat)]])[nU]? = some (.lst (flts (((toldF script).take 4).map hueF))) := by
    have := lt_of_some u4
    rw [List.getElem?_append_left (by simp; (exact om547 m3 m7 l3 l7 o2 o4 this)), List.getElem?_append_left (by (exact om548 m3 m7 l3 l7 o2 o4 this)), K0A _ this]; exact u4
  refine c_chances (d := d + 5) (roots := [r1, r2]) (out := [((rowsF (formulaF (toldF script)).a (((toldF script).take 4).map weightF) : Nat) : Int), ((rowsF (formulaF (toldF script)).b (((toldF script).take 4).map weightF) : Nat) : Int)]) T (by simp) uA nA (by simp; (exact om544 h9)) F.nodes (by simp) ?_ F.low rfl ?_ fun HB nB' b1 b2 b3 => ?_
  · intro r hr
    rcases mem2 hr with rfl | rfl
    · exact F.roots.1
    · exact F.roots.2
  · intro i r hr
    match i, hr with
    | 0, hr => cases (Option.some.inj (show some r1 = some r from hr)); exact ⟨sg1, ms1, ex1, d1, by rw [tr1]; rfl⟩
    | 1, hr => cases (Option.some.inj (show some r2 = some r from hr)); exact ⟨sg2, ms2, ex2, d2, by rw [tr2]; rfl⟩
    | i + 2, hr => simp at hr
  refine e_var rfl ?_
  have due : HB[HA.length]? = some (.lst (zs [((rowsF (formulaF (toldF script)).a (((toldF script).take 4).map weightF) : Nat) : Int), ((rowsF (formulaF (toldF script)).b (((toldF script).take 4).map weightF) : Nat) : Int)])) := by
    rw [b1 _ (by simp <;> omega), List.getElem?_append_left (by simp)]
    simp
  refine o_eq_ints b3 due rfl ?_
  rw [beq_self_eq_true]
  exact h HB

theorem ints_VRs {ρ : List Addr} {h : Heap} : ∀ {vs : List Value} {ns : List Int}, IntsAre vs ns → VRs G ρ h (zs ns) vs
  | _, _, .nil => by show VRs G ρ h [] []; unfold VRs; rfl
  | _, _, .cons (vs := vs) (ns := ns) n t x => by
    show VRs G ρ h (.int n :: zs ns) _
    unfold VRs
    exact ⟨_, vs, rfl, ⟨t, rfl⟩, ints_VRs x⟩

/-- the first items of a list that stands in the base -/
theorem e_slice_gd {value upper : Expr} {p pos : Pos} {k : Nat} {items : Array Value} {script : List Int} {Φ : V → List O → Prop} (hS : G.h.IsList (G.tok k) items) (hi : IntsAre items.toList script) (hsz : items.size ≤ 1000000)
    (h : aE prog w G d env value vars H fun o H1 => o = .gd k ∧ aT prog w G d env (evalPart (some upper) env) vars H1 (PV G fun u H3 => ∃ b : Nat, u = .int b ∧ Φ (.ref H3.length) (H3 ++ [.lst ((zs script).take b)])))
    (ht : ∀ o r, letTemporaryGo value o r = pure () := by intro _ _; rfl) : aE prog w G d env (.Subscript value (.Slice none (some upper) none p) pos) vars H Φ := by
  intro A ρ s ok hr fr
  refine wpAny_Subscript_list_slice (wpAny_mono (h A ρ s ok hr fr) (fun ro s1 p1 => ?_) fun _ _ x => x) ht
  obtain ⟨ρ1, H1, st1, hr1, o, vo, rfl, h1⟩ := p1
  refine wpAny_pure ?_
  refine wpAny_mono (h1 A ρ1 s1 ok hr1 (fr.step st1)) (fun ru s3 p3 => ?_) fun _ _ x => x
  obtain ⟨ρ3, H3, st3, hr3, u, vu, b, rfl, hΦ⟩ := p3
  have s13 := st1.trans0 st3
  obtain ⟨t, rfl⟩ := vu
  cases (show ro = .ref (G.tok k) from vo)
  have il : s3.heap.IsList (G.tok k) items := let ⟨o, ho, r⟩ := hS; ⟨o, hr3.base _ _ ho, r⟩
  refine ⟨G.tok k, items, none, some (b : Int), rfl, il, by rw [sizeLine_eq]; (exact om274 hsz), .none, .int _ _, ?_⟩
  rw [slicePick_upto']
  have vv : VRs G ρ3 s3.heap (zs script) items.toList := ints_VRs hi
  have g1 : Step [] ρ3 s3 ρ3 { s3 with heap := s3.heap.push { cls := .type "slice", data := .fields #[.none, .int b t, .none] }, toks := s3.toks } := Step.grow fun _ _ e => Heap.get?_push_of_some _ e
  have hr4 := hr3.grow (tk := s3.toks) (h' := s3.heap.push { cls := .type "slice", data := .fields #[.none, .int b t, .none] }) fun _ _ e => Heap.get?_push_of_some _ e
  have e : s3.heap.objs.size + 1 = (s3.heap.push { cls := .type "slice", data := .fields #[.none, .int b t, .none] }).objs.size := by rw [Heap.size_push]
  rw [e]
  exact ⟨ρ3 ++ [_], H3 ++ [.lst ((zs script).take b)], (s13.trans0 g1).trans0 (Step.newρ (tk := s3.toks)), HR.new (tk := s3.toks) hr4 rfl (OR.newList (rs := (items.toList.take b).toArray.toList) hr4 (by simpa using (vv.take b).step g1)), _, VR.newRef hr4, hΦ⟩

theorem c_law (T : Top w G) {items : Array Value} {script : List Int} {st1 st2 : RS} {r1 r2 : Nat} {Φ : V → List O → Prop} (hS : G.h.IsList (G.tok 3) items) (hi : IntsAre items.toList script) (hsz : items.size ≤ 1000) (F : Facts script st1 st2 r1 r2)
    (h : ∀ H', Φ (.bool true) H') : aC P w G (d + 9) "law" [.gd 3] H Φ := by
  have hl : script.length ≤ 1000 := by rw [← IntsAre.length hi]; simpa using hsz
  refine c_def T.g (T.fn 75 _ _ _ _ _ rfl) (by intro rs h pm cd doc; obtain ⟨a, rfl⟩ := len1 h; rfl) (by rfl) (fun L a cd => ?_)
  -- codes
  refine ss_cons ?_
  refine s_assign_ListComp (cl := []) ⟨by rfl, by decide, rfl, by decide, rfl, fun p hp => (nomatch hp), List.Pairwise.nil, fun y hy => ?_⟩ ?_
  · have := mem_of_lookup hy
    repeat
      rcases List.mem_cons.mp this with q | this
      · first
          | (cases q; done)
          | (cases q; exact ⟨rfl, rfl⟩)
    cases this
  refine it_list ?_
  refine e_slice_gd hS hi (by (exact om549 hsz)) ?_
  refine e_var rfl ⟨rfl, ?_⟩
  refine p_some ?_
  refine e_int ⟨9, rfl, ?_⟩
  have hC1 : (H ++ [O.lst ((zs script).take 9)])[H.length]? = some (.lst ((zs script).take 9)) := get_last _ _
  refine ⟨_, _, rfl, hC1, by simp [zs]; (exact om550), ?_⟩
  refine ⟨fun i acc H2 => acc = zsN ((codesF script).take i) ∧ H2 = H ++ [O.lst ((zs script).take 9)], ⟨by simp, rfl⟩, ?_, ?_⟩
  · rintro Ca i v acc H2 hi ⟨rfl, rfl⟩
    have hz : (zs script).take 9 = zs (script.take 9) := by simp [zs, List.map_take]
    rw [hz] at hi
    simp only [zs, List.getElem?_map, Option.map_eq_some_iff] at hi
    obtain ⟨x, hx, hv⟩ := hi
    obtain rfl : v = .int x := hv.symm
    refine ⟨hC1, ?_⟩
    show aE P w G (d + 8) _ _ _ _ _
    refine e_BinOp ?_
    refine e_var rfl ?_
    refine e_int ?_
    refine o_mod_int (by decide) ?_
    refine ⟨?_, rfl⟩
    have hc : (codesF script)[i]? = some (x % 1000000).toNat := by unfold codesF; rw [List.getElem?_map, hx]; rfl
    rw [List.take_add_one, hc]
    have : x % 1000000 = (((x % 1000000).toNat : Nat) : Int) := by (exact om551)
    simp only [Option.toList_some, zsN, zs, List.map_append, List.map_cons, List.map_nil]
    rw [← this]
  rintro acc H2 ⟨rfl, rfl⟩
  refine ⟨hC1, ?_⟩
  have hcl : ((zs script).take 9).length = (codesF script).length := by simp [zs, codesF]
  rw [hcl, List.take_length]
  have hcl9 : (codesF script).length ≤ 9 := by unfold codesF; simp; (exact om530)
  generalize hH2 : H ++ [O.lst ((zs script).take 9)] = H2
  -- told
  have hD : (H2 ++ [O.lst (zsN (codesF script))])[H2.length]? = some (.lst (zsN (codesF script))) := get_last _ _
  refine ss_cons ?_
  refine s_assign ?_
  refine e_BinOp ?_
  refine e_var rfl ?_
  refine e_slice_listT ?_
  refine e_List ?_
  refine e_int ?_
  refine e_int ?_
  refine e_int ?_
  refine e_int ?_
  refine e_int ?_
  refine e_int ?_
  refine e_int ?_
  refine e_int ?_
  refine e_int ⟨by simp, _, rfl, ?_⟩
  rw [show ([V.int 71, V.int 292, V.int 131, V.int 40, V.int 740, V.int 290, V.int 132, V.int 97, V.int 0] : List V) = zsN dfltL from rfl]
  have hE : (H2 ++ [O.lst (zsN (codesF script))] ++ [O.lst (zsN dfltL)])[(H2 ++ [O.lst (zsN (codesF script))]).length]? = some (.lst (zsN dfltL)) := get_last _ _
  have hD2 : (H2 ++ [O.lst (zsN (codesF script))] ++ [O.lst (zsN dfltL)])[H2.length]? = some (.lst (zsN (codesF script))) := by
    rw [List.getElem?_append_left (by simp)]; exact hD
  refine p_some ?_
  refine e_Call_builtin T.g (T.blt "len" (by decide)).1 (T.blt "len" (by decide)).2 ?_
  refine e_var rfl ?_
  refine o_len_list hD2 (by simp [zsN, zs]; (exact om552 hcl9)) ?_
  refine p_none ⟨_, hE, by decide, .inl ⟨(zsN (codesF script)).length, rfl, rfl, ?_⟩⟩
  have hzl : (zsN (codesF script)).length = (codesF script).length := by simp [zsN, zs]
  have hdrop : (zsN dfltL).drop (zsN (codesF script)).length = zsN (dfltL.drop (codesF script).length) := by rw [hzl]; simp [zsN, zs, List.map_drop]
  rw [hdrop]
  refine o_add_list (us := zsN (dfltL.drop (codesF script).length)) (by rw [List.getElem?_append_left (by simp)]; exact hD2) (by simp) (by simp [zsN, zs, dfltL]; (exact om553 hcl9)) ?_
  have htold : zsN (codesF script) ++ zsN (dfltL.drop (codesF script).length) = zsN (toldF script) := by unfold toldF; simp [zsN, zs]
  rw [htold]
  have h9 := toldF_len script
  generalize hH3 : H2 ++ [O.lst (zsN (codesF script))] ++ [O.lst (zsN dfltL)] ++ [O.lst (zsN (dfltL.drop (codesF script).length))] = H3
  generalize htoldg : toldF script = told at *
  have hT : (H3 ++ [O.lst (zsN told)])[H3.length]? = some (.lst (zsN told)) := get_last _ _
  have hl3 : H2.length + 3 = H3.length := by rw [← hH3]; simp
  -- hues
  refine ss_cons ?_
  refine s_assign_ListComp (cl := []) ⟨by rfl, by decide, rfl, by decide, rfl, fun p hp => (nomatch hp), List.Pairwise.nil, fun y hy => ?_⟩ ?_
  · have := mem_of_lookup hy
    repeat
      rcases List.mem_cons.mp this with q | this
      · first
          | (cases q; done)
          | (cases q; exact ⟨rfl, rfl⟩)
    cases this
  refine it_list ?_
  refine e_slice_listT ?_
  refine e_var rfl ⟨H3.length, rfl, ?_⟩
  refine p_none ?_
  refine p_some ?_
  refine e_int ⟨_, hT, by simp [zsN, zs]; (exact om506 h9), .inr ⟨4, rfl, rfl, ?_⟩⟩
  have htk : (zsN told).take 4 = zsN (told.take 4) := by simp [zsN, zs, List.map_take]
  rw [htk]
  have hK1 : (H3 ++ [O.lst (zsN told)] ++ [O.lst (zsN (told.take 4))])[(H3 ++ [O.lst (zsN told)]).length]? = some (.lst (zsN (told.take 4))) := get_last _ _
  refine ⟨_, _, rfl, hK1, by simp [zsN, zs]; (exact om554), ?_⟩
  refine ⟨fun i acc H4 => acc = flts (((told.take 4).take i).map hueF) ∧ H4 = H3 ++ [O.lst (zsN told)] ++ [O.lst (zsN (told.take 4))], ⟨by simp, rfl⟩, ?_, ?_⟩
  · rintro Ca i v acc H4 hi ⟨rfl, rfl⟩
    simp only [zsN, zs, List.map_map, List.getElem?_map, Option.map_eq_some_iff] at hi
    obtain ⟨x, hx, hv⟩ := hi
    obtain rfl : v = .int (x : Int) := hv.symm
    refine ⟨hK1, ?_⟩
    show aE P w G (d + 8) _ _ _ _ _
    refine e_BinOp ?_
    refine e_BinOp ?_
    refine e_BinOp ?_
    refine e_var rfl ?_
    refine e_int ?_
    refine o_mod_int (by decide) ?_
    refine e_flt ?_
    have e1 : (x : Int) % 64 = ((x % 64 : Nat) : Int) := by (exact om555)
    rw [e1]
    refine o_div_int_flt (by (exact om556)) (by decide +kernel) ?_
    refine e_BinOp ?_
    refine e_BinOp ?_
    refine e_BinOp ?_
    refine e_var rfl ?_
    refine e_int ?_
    refine o_div_int (by decide) (by decide) ?_
    refine e_int ?_
    refine o_mod_int (by decide) ?_
    refine e_int ?_
    refine o_sub_int ?_
    have e2 : (x : Int) / 64 % 5 - 2 = ((x / 64 % 5 : Nat) : Int) - 2 := by (exact om557)
    rw [e2]
    refine o_add_flt_int (by (exact om558)) ?_
    refine ⟨?_, rfl⟩
    have hcc : (told.take 4)[i]? = some x := hx
    rw [take_snoc hcc]
    simp [hueF]
  rintro acc H4 ⟨rfl, rfl⟩
  refine ⟨hK1, ?_⟩
  have hlen4 : (zsN (told.take 4)).length = (told.take 4).length := by simp [zsN, zs]
  rw [hlen4, List.take_length]
  have hU0 : (H3 ++ [O.lst (zsN told)] ++ [O.lst (zsN (told.take 4))] ++ [O.lst (flts ((told.take 4).map hueF))])[(H3 ++ [O.lst (zsN told)] ++ [O.lst (zsN (told.take 4))]).length]? = some (.lst (flts ((told.take 4).map hueF))) := get_last _ _
  have hT0 : (H3 ++ [O.lst (zsN told)] ++ [O.lst (zsN (told.take 4))] ++ [O.lst (flts ((told.take 4).map hueF))])[H3.length]? = some (.lst (zsN told)) := by
    rw [List.getElem?_append_left (by simp <;> omega), List.getElem?_append_left (by simp <;> omega)]; exact hT
  generalize hnU : (H3 ++ [O.lst (zsN told)] ++ [O.lst (zsN (told.take 4))]).length = nU at hU0 ⊢
  generalize H3 ++ [O.lst (zsN told)] ++ [O.lst (zsN (told.take 4))] ++ [O.lst (flts ((told.take 4).map hueF))] = H5 at hU0 hT0 ⊢
  generalize hnT : H3.length = nT at hT0 ⊢
  -- weights
  refine ss_cons ?_
  refine s_assign_ListComp (cl := []) ⟨by rfl, by decide, rfl, by decide, rfl, fun p hp => (nomatch hp), List.Pairwise.nil, fun y hy => ?_⟩ ?_
  · have := mem_of_lookup hy
    repeat
      rcases List.mem_cons.mp this with q | this
      · first
          | (cases q; done)
          | (cases q; exact ⟨rfl, rfl⟩)
    cases this
  refine it_list ?_
  refine e_slice_listT ?_
  refine e_var rfl ⟨nT, rfl, ?_⟩
  refine p_none ?_
  refine p_some ?_
  refine e_int ⟨_, hT0, by simp [zsN, zs]; (exact om506 h9), .inr ⟨4, rfl, rfl, ?_⟩⟩
  rw [htk]
  have hK2 : (H5 ++ [O.lst (zsN (told.take 4))])[H5.length]? = some (.lst (zsN (told.take 4))) := get_last _ _
  refine ⟨_, _, rfl, hK2, by simp [zsN, zs]; (exact om554), ?_⟩
  refine ⟨fun i acc H4 => acc = zsN (((told.take 4).take i).map weightF) ∧ H4 = H5 ++ [O.lst (zsN (told.take 4))], ⟨by simp, rfl⟩, ?_, ?_⟩
  · rintro Ca i v acc H4 hi ⟨rfl, rfl⟩
    simp only [zsN, zs, List.map_map, List.getElem?_map, Option.map_eq_some_iff] at hi
    obtain ⟨x, hx, hv⟩ := hi
    obtain rfl : v = .int (x : Int) := hv.symm
    refine ⟨hK2, ?_⟩
    show aE P w G (d + 8) _ _ _ _ _
    refine e_Call_builtin T.g (T.blt "max" (by decide)).1 (T.blt "max" (by decide)).2 ?_
    refine e_int ?_
    refine e_Call_builtin T.g (T.blt "min" (by decide)).1 (T.blt "min" (by decide)).2 ?_
    refine e_int ?_
    refine e_BinOp ?_
    refine e_int ?_
    refine e_Call_builtin T.g (T.blt "abs" (by decide)).1 (T.blt "abs" (by decide)).2 ?_
    refine e_BinOp ?_
    refine e_BinOp ?_
    refine e_int ?_
    refine e_BinOp ?_
    refine e_var rfl ?_
    refine e_int ?_
    refine o_mod_int (by decide) ?_
    refine o_mul_int (.inl (by decide)) ?_
    refine e_int ?_
    refine o_sub_int ?_
    refine o_abs ?_
    refine o_sub_int ?_
    refine o_min ?_
    refine o_max ?_
    refine ⟨?_, rfl⟩
    have hcc : (told.take 4)[i]? = some x := hx
    rw [take_snoc hcc]
    have hw : max 0 (min 32 (64 - (if 3 * ((x : Int) % 64) - 64 < 0 then -(3 * ((x : Int) % 64) - 64) else 3 * ((x : Int) % 64) - 64))) = ((weightF x : Nat) : Int) := by
      unfold weightF
      have : (x : Int) % 64 = ((x % 64 : Nat) : Int) := by (exact om555)
      rw [this]; (exact om559)
    rw [hw]
    simp [zsN, zs]
  rintro acc H4 ⟨rfl, rfl⟩
  refine ⟨hK2, ?_⟩
  rw [hlen4, List.take_length]
  have hW0 : (H5 ++ [O.lst (zsN (told.take 4))] ++ [O.lst (zsN ((told.take 4).map weightF))])[(H5 ++ [O.lst (zsN (told.take 4))]).length]? = some (.lst (zsN ((told.take 4).map weightF))) := get_last _ _
  have up5 : ∀ i, i < H5.length → (H5 ++ [O.lst (zsN (told.take 4))] ++ [O.lst (zsN ((told.take 4).map weightF))])[i]? = H5[i]? := fun i hi => by
    rw [List.getElem?_append_left (by simp; (exact om16 hi)), List.getElem?_append_left hi]
  have hU1 := (up5 nU (lt_of_some hU0)).trans hU0
  have hT1 := (up5 nT (lt_of_some hT0)).trans hT0
  generalize hnW : (H5 ++ [O.lst (zsN (told.take 4))]).length = nW at hW0 ⊢
  generalize H5 ++ [O.lst (zsN (told.take 4))] ++ [O.lst (zsN ((told.take 4).map weightF))] = H6 at hU1 hT1 hW0 ⊢
  clear up5 hU0 hT0 hK2 hK1 hT
  -- the formula
  refine ss_cons ?_
  refine s_assign_tuple ?_
  refine e_Call_def T.g (T.fn 66 _ _ _ _ _ rfl) ?_
  refine e_var rfl ?_
  refine c_formula (d := d + 6) T hT1 h9 fun H7 k1 k2 => ?_
  have hU2 := (k1 nU (lt_of_some hU1)).trans hU1
  have hT2 := (k1 nT (lt_of_some hT1)).trans hT1
  have hW2 := (k1 nW (lt_of_some hW0)).trans hW0
  refine a_tuple ?_
  -- bits
  refine ss_cons ?_
  refine s_assign ?_
  refine e_Dict' ?_
  refine e_int ⟨_, rfl, ?_⟩
  refine e_List ?_
  refine e_int ?_
  refine e_int ?_
  refine e_int ?_
  refine e_int ⟨Nat.le_of_ble_eq_true rfl, ?_⟩
  refine e_int ⟨_, rfl, ?_⟩
  refine e_List ?_
  refine e_int ?_
  refine e_int ?_
  refine e_int ?_
  refine e_int ⟨Nat.le_of_ble_eq_true rfl, ?_⟩
  refine e_int ⟨_, rfl, ?_⟩
  refine e_List ?_
  refine e_int ?_
  refine e_int ?_
  refine e_int ?_
  refine e_int ⟨Nat.le_of_ble_eq_true rfl, ?_⟩
  refine e_int ⟨_, rfl, ?_⟩
  refine e_List ?_
  refine e_int ?_
  refine e_int ?_
  refine e_int ?_
  refine e_int ⟨Nat.le_of_ble_eq_true rfl, ?_⟩
  refine e_int ⟨_, rfl, ?_⟩
  refine e_List ?_
  refine e_int ?_
  refine e_int ?_
  refine e_int ?_
  refine e_int ⟨Nat.le_of_ble_eq_true rfl, ?_⟩
  refine e_int ⟨_, rfl, ?_⟩
  refine e_List ?_
  refine e_int ?_
  refine e_int ?_
  refine e_int ?_
  refine e_int ⟨Nat.le_of_ble_eq_true rfl, ?_⟩
  refine e_int ⟨_, rfl, ?_⟩
  refine e_List ?_
  refine e_int ?_
  refine e_int ?_
  refine e_int ?_
  refine e_int ⟨Nat.le_of_ble_eq_true rfl, ?_⟩
  refine e_int ⟨_, rfl, ?_⟩
  refine e_List ?_
  refine e_int ?_
  refine e_int ?_
  refine e_int ?_
  refine e_int ⟨Nat.le_of_ble_eq_true rfl, ?_⟩
  refine e_int ⟨_, rfl, ?_⟩
  refine e_List ?_
  refine e_int ?_
  refine e_int ?_
  refine e_int ?_
  refine e_int ⟨Nat.le_of_ble_eq_true rfl, ?_⟩
  simp only [List.length_append, List.length_singleton, List.append_assoc, List.cons_append, List.nil_append, List.length_cons, List.length_nil, Nat.add_assoc, Nat.reduceAdd]
  refine ⟨by show ([18, 19, 20, 21, 27, 28, 29, 30, 32] : List Int).Nodup; decide, ?_⟩
  refine ss_cons ?_
  refine s_assign ?_
  refine e_List ⟨Nat.le_of_ble_eq_true rfl, ?_⟩
  refine ss_cons ?_
  refine s_assign ?_
  refine e_Dict_empty ?_
  subst htoldg
  have lH := lt_of_some hT2
  have lU := lt_of_some hU2
  have lW := lt_of_some hW2
  have b9 : bitsO.length = 9 := rfl
  have up7 : ∀ i, i < H7.length → (H7 ++ bitsO ++ [O.dct (fun k => (bitsD H7.length).lookup k) 9] ++ [O.lst []] ++ [O.dct (fun _ => none) 0])[i]? = H7[i]? := fun i hi => by
    rw [List.getElem?_append_left (by simp; (exact om560 hi)), List.getElem?_append_left (by simp; (exact om561 hi)), List.getElem?_append_left (by simp; (exact om562 hi)), List.getElem?_append_left hi]
  have at9 : (H7 ++ bitsO ++ [O.dct (fun k => (bitsD H7.length).lookup k) 9] ++ [O.lst []] ++ [O.dct (fun _ => none) 0])[H7.length + 9]? = some (O.dct (fun k => (bitsD H7.length).lookup k) 9) := by
    rw [List.getElem?_append_left (by simp; (exact om563 b9)), List.getElem?_append_left (by simp; (exact om564 b9)), List.getElem?_append_right (by simp; (exact om565 b9))]
    simp [b9]
  have at10 : (H7 ++ bitsO ++ [O.dct (fun k => (bitsD H7.length).lookup k) 9] ++ [O.lst []] ++ [O.dct (fun _ => none) 0])[H7.length + 10]? = some (O.lst []) := by
    rw [List.getElem?_append_left (by simp; (exact om566 b9)), List.getElem?_append_right (by simp; (exact om565 b9))]
    simp [b9]
  have at11 : (H7 ++ bitsO ++ [O.dct (fun k => (bitsD H7.length).lookup k) 9] ++ [O.lst []] ++ [O.dct (fun _ => none) 0])[H7.length + 11]? = some (O.dct (fun _ => none) 0) := by
    rw [List.getElem?_append_right (by simp; (exact om565 b9))]
    simp [b9]
  have kv : knownV B0 = fun _ => none := by
    funext k
    unfold knownV B0
    split <;> rfl
  refine law_tail (H := H7 ++ bitsO ++ [O.dct (fun k => (bitsD H7.length).lookup k) 9] ++ [O.lst []] ++ [O.dct (fun _ => none) 0]) T (nT := nT) (nU := nU) (nW := nW) (nB := H7.length + 9) (nN := H7.length + 10) (nK := H7.length + 11)
    ⟨rfl, rfl, rfl, rfl, rfl, rfl, rfl, ?_, ?_, ?_, (up7 _ lH).trans hT2, (up7 _ lU).trans hU2, (up7 _ lW).trans hW2, by (exact om567 lH lU lW), ⟨at10, by rw [at11, kv]; rfl, by (exact om568)⟩, bits_all (H := H7) at9 (fun i hi => ?_) rfl rfl rfl⟩ F h
  · show some (V.ref (List.length (H7 ++ bitsO))) = _
    simp [b9]
  · show some (V.ref (List.length (H7 ++ bitsO ++ [_]))) = _
    simp [b9]
  · show some (V.ref (List.length (H7 ++ bitsO ++ [_] ++ [_]))) = _
    simp [b9]
  · rw [List.getElem?_append_left (by simp; (exact om569 b9 hi)), List.getElem?_append_left (by simp; (exact om570 b9 hi)), List.getElem?_append_left (by simp; (exact om488 b9 hi)), List.getElem?_append_right (by (exact om571))]
    simp
end
end Mine
end

section
open PySem PySem.W
set_option maxRecDepth 100000
namespace Mine
/-- the signs that a formula may hold, and what they are read as -/
def allowedL : List (Nat × Nat) := ([97, 65, 119808, 119860, 119912, 120016, 120172, 120224, 120276, 120328, 120380, 120432].flatMap fun f => [(f, 97), (f + 1, 98), (f + 2, 99), (f + 3, 100)]) ++
  [(40, 40), (41, 41), (126, 126), (124, 124), (38, 38), (94, 94), (60, 60), (62, 62), (61, 61), (33, 33)]
def okOne (p : Nat × Nat) : Bool := !b1Fn (p.1 : Nat) && (match b3Fn (p.1 : Nat) with
  | some y => y == ⟨#[p.2]⟩
  | none => (Txt.lower ⟨#[p.1]⟩) == ⟨#[p.2]⟩)
theorem allowed_ok : allowedL.all okOne = true := by decide +kernel
end Mine
end

section
open PySem PySem.W
set_option maxRecDepth 100000
namespace Mine

theorem foldl_cat : ∀ (ys : List Str) (acc : Array Nat), (ys.foldl (fun acc p => acc ++ ("" : Str).cps ++ p.cps) acc).toList = acc.toList ++ ys.flatMap (·.cps.toList)
  | [], acc => by simp
  | y :: ys, acc => by
    rw [List.foldl_cons, foldl_cat ys]
    have : ("" : Str).cps = #[] := rfl
    rw [this]
    simp
theorem join_cat (ys : List Str) : (Txt.join ("" : Str) ys).cps.toList = ys.flatMap (·.cps.toList) := by
  show (Builtin.Str.glued ("" : Str) ys).cps.toList = _
  unfold Builtin.Str.glued
  cases ys with
  | nil => rfl
  | cons y ys =>
    rw [List.drop_one, List.tail_cons, foldl_cat]
    rfl

def Allowed (c : Nat) : Prop := ∃ n, allowedL.lookup c = some n
def norm (c : Nat) : Nat := (allowedL.lookup c).getD 0
theorem lookup_mem {l : List (Nat × Nat)} {c n : Nat} (h : l.lookup c = some n) : (c, n) ∈ l := by
  induction l with
  | nil => simp at h
  | cons p r ih =>
    obtain ⟨a, b⟩ := p
    rw [List.lookup_cons] at h
    split at h
    · rename_i hb; cases h; rw [beq_iff_eq.mp hb]; exact List.mem_cons_self
    · exact List.mem_cons_of_mem _ (ih h)
theorem allowed_facts {c : Nat} (h : Allowed c) : b1Fn (c : Nat) = false ∧ mapB3 (s1 c) = s1 (norm c) ∧ (b3Fn (c : Nat) = none → Builtin.Str.tooLong (Txt.lower (s1 c)).length = false) := by
  obtain ⟨n, hn⟩ := h
  have h1 := List.all_eq_true.mp allowed_ok _ (lookup_mem hn)
  unfold okOne at h1
  rw [Bool.and_eq_true] at h1
  obtain ⟨h1, h2⟩ := h1
  have hg : ((s1 c).cps.getD 0 0 : Nat) = c := rfl
  have hnorm : norm c = n := by unfold norm; rw [hn]; rfl
  refine ⟨by simpa using h1, ?_, fun h3 => ?_⟩
  · unfold mapB3
    rw [hg, hnorm]
    simp only at h2
    cases hb : b3Fn (c : Nat) with
    | none => rw [hb] at h2; exact beq_iff_eq.mp h2
    | some y => rw [hb] at h2; exact beq_iff_eq.mp h2
  · simp only at h2
    rw [h3] at h2
    have : Txt.lower (s1 c) = ⟨#[n]⟩ := beq_iff_eq.mp h2
    rw [this]
    exact (rfl : Builtin.Str.tooLong 1 = false)

theorem unseen_b1 (code : Nat) : b1Fn (unseenF code : Nat) = true := by
  have h : code % 7 < 7 := Nat.mod_lt _ (by decide)
  unfold unseenF
  generalize code % 7 = k at h
  match k, h with
  | 0, _ | 1, _ | 2, _ | 3, _ | 4, _ | 5, _ | 6, _ => decide

def tyC (u st : Nat) (cs : List Nat) (i : Nat) : List Nat := if i % st = 0 then [cs.getD i 0, u] else [cs.getD i 0]
theorem typed_cat (t : Str) (code : Nat) : (typedF t code).cps.toList = (List.range t.cps.toList.length).flatMap (tyC (unseenF code) (code / 7 % 4 + 2) t.cps.toList) := by
  unfold typedF
  rw [join_cat]
  unfold typedL
  rw [List.flatMap_map]
  have : t.length = t.cps.toList.length := by simp [Str.length]
  rw [this]
  congr 1
  funext i
  have hg : t.cps.getD i 0 = t.cps.toList.getD i 0 := by
    rw [List.getD_eq_getElem?_getD, Array.getElem?_toList]
    simp [Array.getD_eq_getD_getElem?]
  unfold tyC
  split <;> rename_i hh
  · simp only [if_pos hh, hg]; rfl
  · simp only [if_neg hh, hg]; rfl

def kept1 (c : Nat) : List Nat := if b1Fn (c : Nat) then [] else (mapB3 (s1 c)).cps.toList
theorem kept_cat (l : List Nat) : (keptAt l).flatMap (·.cps.toList) = l.flatMap kept1 := by
  induction l with
  | nil => rfl
  | cons c r ih =>
    have hg : ((s1 c).cps.getD 0 0 : Nat) = c := rfl
    unfold keptAt at ih ⊢
    rw [List.map_cons, List.filter_cons, List.flatMap_cons]
    simp only [hg]
    cases hb : b1Fn (c : Nat) with
    | true =>
      have : kept1 c = [] := by unfold kept1; rw [hb]; rfl
      rw [this]; simpa using ih
    | false =>
      have : kept1 c = (mapB3 (s1 c)).cps.toList := by unfold kept1; rw [hb]; rfl
      rw [this]; simpa using ih
theorem range_flatMap_get {β : Type} (cs : List Nat) (f : Nat → List β) : (List.range cs.length).flatMap (fun i => f (cs.getD i 0)) = cs.flatMap f := by
  induction cs with
  | nil => rfl
  | cons c r ih =>
    rw [List.length_cons, List.range_succ_eq_map, List.flatMap_cons, List.flatMap_map, List.flatMap_cons]
    congr 1
theorem prepared_norm {t : Str} {code : Nat} (h : ∀ c ∈ t.cps.toList, Allowed c) : (preparedF t code).cps.toList = t.cps.toList.map norm := by
  unfold preparedF
  rw [join_cat]
  unfold keptL
  rw [kept_cat, typed_cat, List.flatMap_assoc]
  have hu : kept1 (unseenF code) = [] := by unfold kept1; rw [unseen_b1]; rfl
  have e : ∀ i, (tyC (unseenF code) (code / 7 % 4 + 2) t.cps.toList i).flatMap kept1 = kept1 (t.cps.toList.getD i 0) := by
    intro i
    unfold tyC
    split <;> simp [hu]
  simp only [e]
  rw [range_flatMap_get]
  have : ∀ c ∈ t.cps.toList, kept1 c = [norm c] := fun c hc => by
    obtain ⟨h1, h2, _⟩ := allowed_facts (h c hc)
    unfold kept1
    rw [h1, h2]; rfl
  generalize t.cps.toList = l at this
  induction l with
  | nil => rfl
  | cons c r ih =>
    rw [List.flatMap_cons, List.map_cons, this c List.mem_cons_self, ih (fun d hd => this d (List.mem_cons_of_mem _ hd))]
    rfl
end Mine
end

section
open PySem PySem.W
set_option maxRecDepth 100000
namespace Mine

/-- the signs of a prepared text -/
def charsN : List Nat := [97, 98, 99, 100, 40, 41, 126, 124, 38, 94, 60, 62, 61, 33]
def opStart : List Nat := [97, 98, 99, 100, 40, 126]
theorem pair1 : (([97, 98, 99, 100, 40, 41, 126] : List Nat).all fun c => charsN.all fun d => (tokFn ⟨#[c, d]⟩).isNone) = true := by decide +kernel
theorem pair2 : (([124, 38, 94, 60, 62] : List Nat).all fun c => opStart.all fun d => (tokFn ⟨#[c, d]⟩).isNone) = true := by decide +kernel

theorem piece_none {c d : Nat} {rest : List Nat} (h : (tokFn ⟨#[c, d]⟩).isNone = true) : pieceOf (c :: d :: rest) = s1 c := by
  unfold pieceOf
  have : (tokFn ⟨((c :: d :: rest).take 2).toArray⟩).isSome = false := by
    have e : (⟨((c :: d :: rest).take 2).toArray⟩ : Str) = ⟨#[c, d]⟩ := rfl
    rw [e]
    cases q : tokFn ⟨#[c, d]⟩ with
    | none => rfl
    | some x => rw [q] at h; cases h
  rw [this]; rfl
theorem piece_end (c : Nat) : pieceOf [c] = s1 c := by
  unfold pieceOf
  split <;> rfl
theorem piece_one {c : Nat} {rest : List Nat} (hc : c ∈ ([97, 98, 99, 100, 40, 41, 126] : List Nat)) (hr : ∀ d ∈ rest, d ∈ charsN) : pieceOf (c :: rest) = s1 c := by
  cases rest with
  | nil => exact piece_end c
  | cons d r =>
    refine piece_none ?_
    exact List.all_eq_true.mp (List.all_eq_true.mp pair1 c hc) d (hr d (by simp))

/-- k signs of negation -/
def negs : Nat → Bool → Bool
  | 0, b => b
  | k + 1, b => negs k (!b)

theorem valid_one (ns : List (Nat × Nat × Nat)) : Valid ns 0 1 := .inl (by decide)
theorem doApply_spec {B : BD} (f : Bool → Bool → Bool) {x y : Nat} (I : Inv B) (hx : Valid B.nodes 0 x) (hy : Valid B.nodes 0 y) (hs : B.nodes.length + 16 ≤ 700) :
    Inv (doApply f x y B).2 ∧ (∃ more, (doApply f x y B).2.nodes = B.nodes ++ more ∧ more.length ≤ 15) ∧ Valid (doApply f x y B).2.nodes 0 (doApply f x y B).1 ∧
    ∀ e, ev (doApply f x y B).2.nodes e (doApply f x y B).1 = f (ev B.nodes e x) (ev B.nodes e y) := by
  obtain ⟨h1, ⟨more, h2, h3⟩, h4, h5⟩ := applyF_spec f 5 0 x y B I hx hy (by decide) (by decide) (by simpa using hs)
  exact ⟨h1, ⟨more, h2, by simp at h3; (exact om188 h3)⟩, h4, h5⟩

theorem tildes_run : ∀ (k : Nat) (ws : List Int) (v : Nat) (B : BD), ws.head? ≠ some 31 → Inv B → Valid B.nodes 0 v → B.nodes.length + 15 * k + 1 ≤ 700 →
    ∃ v' B', Tildes (List.replicate k 31 ++ ws) v B ws v' B' ∧ Inv B' ∧ (∃ more, B'.nodes = B.nodes ++ more ∧ more.length ≤ 15 * k) ∧ Valid B'.nodes 0 v' ∧ ∀ e, ev B'.nodes e v' = negs k (ev B.nodes e v)
  | 0, ws, v, B, hw, I, hv, hs => ⟨v, B, .stop hw, I, ⟨[], by simp, by simp⟩, hv, fun e => rfl⟩
  | k + 1, ws, v, B, hw, I, hv, hs => by
    obtain ⟨I1, ⟨m1, e1, l1⟩, v1, s1⟩ := doApply_spec (fun a b => a != b) I hv (valid_one _) (by (exact om189 hs))
    have hlen : (doApply (fun a b => a != b) v 1 B).2.nodes.length = B.nodes.length + m1.length := by rw [e1, List.length_append]
    obtain ⟨v', B', ht, I', ⟨m2, e2, l2⟩, hv', s2⟩ := tildes_run k ws _ _ hw I1 v1 (by (exact om190 hs l1 hlen))
    refine ⟨v', B', ?_, I', ⟨m1 ++ m2, by rw [e2, e1]; simp, by rw [List.length_append]; (exact om191 l1 l2)⟩, hv', fun e => ?_⟩
    · rw [List.replicate_succ]
      exact .neg I hv (by (exact om189 hs)) ht
    · rw [s2 e, s1 e, ev_small (by decide : 1 < 256)]
      show negs k (ev B.nodes e v != (1 != 0)) = negs k (!ev B.nodes e v)
      congr 1
      cases ev B.nodes e v <;> rfl

/-- a text that is read as one number -/
structure Operand (cs : List Nat) (g : (Nat → Bool) → Bool) (cost : Nat) : Prop where
  start : ∃ d tl, cs = d :: tl ∧ d ∈ opStart
  chars : ∀ c ∈ cs, c ∈ charsN
  run : ∀ (k : Nat) (ws : List Int) (B : BD), ws.head? ≠ some 31 → Inv B → B.nodes.length + cost + 15 * k + 1 ≤ 700 →
    ∃ v B', Inv B' ∧ (∃ more, B'.nodes = B.nodes ++ more ∧ more.length ≤ cost + 15 * k) ∧ Valid B'.nodes 0 v ∧ (∀ e, ev B'.nodes e v = negs k (g e)) ∧
      ∀ rest values fin, (∀ c ∈ rest, c ∈ charsN) → Runs rest ⟨v :: values, ws, B'⟩ fin → Runs (cs ++ rest) ⟨values, List.replicate k 31 ++ ws, B⟩ fin

theorem op_letter (i : Nat) (hi : i < 4) : Operand [97 + i] (fun e => e i) 1 where
  start := ⟨97 + i, [], rfl, by match i, hi with | 0, _ | 1, _ | 2, _ | 3, _ => decide⟩
  chars := fun c hc => by rw [List.mem_singleton.mp hc]; match i, hi with | 0, _ | 1, _ | 2, _ | 3, _ => decide
  run := fun k ws B hw I hs => by
    have hc : 97 + i ∈ ([97, 98, 99, 100, 40, 41, 126] : List Nat) := by match i, hi with | 0, _ | 1, _ | 2, _ | 3, _ => decide
    have htok : tokFn (s1 (97 + i)) = none := by match i, hi with | 0, _ | 1, _ | 2, _ | 3, _ => decide +kernel
    have v0 : Valid B.nodes (i + 1) 0 := .inl (by decide)
    have v1 : Valid B.nodes (i + 1) 1 := .inl (by decide)
    obtain ⟨I1, ⟨m1, e1, l1⟩, vv, _, _⟩ := nodeF_spec (l := i) I hi v0 v1 (by (exact om192 hs))
    have s1' := fun e => nodeF_ev (l := i) I hi v0 v1 (by (exact om192 hs)) e
    have hlen : (nodeF i 0 1 B).2.nodes.length = B.nodes.length + m1.length := by rw [e1, List.length_append]
    obtain ⟨v', B', ht, I', ⟨m2, e2, l2⟩, hv', s2⟩ := tildes_run k ws _ _ hw I1 (vv.mono (Nat.zero_le _)) (by (exact om193 hs l1 hlen))
    refine ⟨v', B', I', ⟨m1 ++ m2, by rw [e2, e1]; simp, by rw [List.length_append]; (exact om194 l1 l2)⟩, hv', fun e => ?_, fun rest values fin hr hrun => ?_⟩
    · rw [s2 e, s1' e]
      congr 1
      cases he : e i with
      | true => simp only [if_true]; rw [ev_small (by decide)]; rfl
      | false => simp only [Bool.false_eq_true, if_false]; rw [ev_small (by decide)]; rfl
    · have hsub : 97 + i - 97 = i := by (exact om195)
      refine .letter (piece_one hc hr) htok (by (exact om196)) (by (exact om197 hi)) I (by (exact om192 hs)) (ws := ws) (v := v') (B' := B') ?_ hrun
      rw [hsub]; exact ht

theorem op_tilde {cs : List Nat} {g : (Nat → Bool) → Bool} {cost : Nat} (h : Operand cs g cost) : Operand (126 :: cs) (fun e => !g e) (cost + 15) where
  start := ⟨126, cs, rfl, by decide⟩
  chars := fun c hc => by
    rcases List.mem_cons.mp hc with rfl | hc
    · decide
    · exact h.chars c hc
  run := fun k ws B hw I hs => by
    obtain ⟨v, B', I', ⟨more, e1, l1⟩, hv, hs', hrun⟩ := h.run (k + 1) ws B hw I (by (exact om198 hs))
    refine ⟨v, B', I', ⟨more, e1, by (exact om199 l1)⟩, hv, fun e => hs' e, fun rest values fin hr hrest => ?_⟩
    rw [List.cons_append]
    refine .push1 (piece_one (by decide) fun d hd => ?_) (by decide +kernel) (k := 31) (by decide) (by decide) ?_
    · rcases List.mem_append.mp hd with q | q
      · exact h.chars d q
      · exact hr d q
    · have := hrun rest values fin hr hrest
      rw [List.replicate_succ] at this
      exact this

/-- a sign and what it asks -/
structure Sign (sg : List Nat) (k : Int) (f : Bool → Bool → Bool) : Prop where
  chars : ∀ c ∈ sg, c ∈ charsN
  f : signF k = some f
  k31 : k ≠ 31
  one : (∃ c, sg = [c] ∧ c ∈ ([124, 38, 94, 60, 62] : List Nat) ∧ tokFn (s1 c) = some k) ∨ (∃ c c', sg = [c, c'] ∧ tokFn ⟨#[c, c']⟩ = some k)
theorem Sign.ne {sg : List Nat} {k : Int} {f : Bool → Bool → Bool} (h : Sign sg k f) : k ≠ 0 ∧ k ≠ 8 := by
  have := h.f
  constructor <;> (rintro rfl; simp [signF] at this)
theorem Sign.run {sg : List Nat} {k : Int} {f : Bool → Bool → Bool} (h : Sign sg k f) {d : Nat} {tl : List Nat} {st fin : RS} (hd : d ∈ opStart) (hr : Runs (d :: tl) ⟨st.values, k :: st.waiting, st.B⟩ fin) : Runs (sg ++ d :: tl) st fin := by
  obtain ⟨n0, n8⟩ := h.ne
  rcases h.one with ⟨c, rfl, hc, ht⟩ | ⟨c, c', rfl, ht⟩
  · exact .push1 (piece_none (List.all_eq_true.mp (List.all_eq_true.mp pair2 c hc) d hd)) ht n0 n8 hr
  · exact .push2 ht n0 n8 hr

theorem op_join {l r sg : List Nat} {gl gr : (Nat → Bool) → Bool} {cl cr : Nat} {kd : Int} {f : Bool → Bool → Bool} (hl : Operand l gl cl) (hr : Operand r gr cr) (hs : Sign sg kd f) :
    Operand (40 :: (l ++ (sg ++ (r ++ [41])))) (fun e => f (gl e) (gr e)) (cl + cr + 15) where
  start := ⟨40, _, rfl, by decide⟩
  chars := fun c hc => by
    simp only [List.mem_cons, List.mem_append, List.not_mem_nil, or_false] at hc
    rcases hc with rfl | hc | hc | hc | rfl
    · decide
    · exact hl.chars c hc
    · exact hs.chars c hc
    · exact hr.chars c hc
    · decide
  run := fun k ws B hw I hsz => by
    have hk31 := hs.k31
    obtain ⟨v1, B1, I1, ⟨m1, e1, l1⟩, hv1, s1', run1⟩ := hl.run 0 (7 :: (List.replicate k 31 ++ ws)) B (by simp) I (by (exact om200 hsz))
    have len1 : B1.nodes.length = B.nodes.length + m1.length := by rw [e1, List.length_append]
    obtain ⟨v2, B2, I2, ⟨m2, e2, l2⟩, hv2, s2', run2⟩ := hr.run 0 (kd :: 7 :: (List.replicate k 31 ++ ws)) B1 (by simpa using hk31) I1 (by (exact om201 hsz l1 len1))
    have len2 : B2.nodes.length = B1.nodes.length + m2.length := by rw [e2, List.length_append]
    have hv1' : Valid B2.nodes 0 v1 := by rw [e2]; exact hv1.grow
    obtain ⟨I3, ⟨m3, e3, l3⟩, hv3, s3'⟩ := doApply_spec f I2 hv1' hv2 (by (exact om202 hsz l1 len1 l2 len2))
    have len3 : (doApply f v1 v2 B2).2.nodes.length = B2.nodes.length + m3.length := by rw [e3, List.length_append]
    obtain ⟨v', B', ht, I', ⟨m4, e4, l4⟩, hv', s4⟩ := tildes_run k ws _ _ hw I3 hv3 (by (exact om203 hsz l1 len1 l2 len2 l3 len3))
    refine ⟨v', B', I', ⟨m1 ++ m2 ++ m3 ++ m4, by rw [e4, e3, e2, e1]; simp, by simp only [List.length_append]; (exact om204 l1 l2 l3 l4)⟩, hv', fun e => ?_, fun rest values fin hrest hrun => ?_⟩
    · rw [s4 e, s3' e, s2' e]
      congr 1
      rw [e2, ev_grow I1.lows hv1, s1' e]
      rfl
    · obtain ⟨d, tl, hd, hds⟩ := hr.start
      have c41 : ∀ c ∈ (41 :: rest), c ∈ charsN := fun c hc => by
        rcases List.mem_cons.mp hc with rfl | hc
        · decide
        · exact hrest c hc
      have cr : ∀ c ∈ (r ++ 41 :: rest), c ∈ charsN := fun c hc => by
        rcases List.mem_append.mp hc with q | q
        · exact hr.chars c q
        · exact c41 c q
      have cs : ∀ c ∈ (sg ++ (r ++ 41 :: rest)), c ∈ charsN := fun c hc => by
        rcases List.mem_append.mp hc with q | q
        · exact hs.chars c q
        · exact cr c q
      have cl' : ∀ c ∈ (l ++ (sg ++ (r ++ 41 :: rest))), c ∈ charsN := fun c hc => by
        rcases List.mem_append.mp hc with q | q
        · exact hl.chars c q
        · exact cs c q
      have e0 : 40 :: (l ++ (sg ++ (r ++ [41]))) ++ rest = 40 :: (l ++ (sg ++ (r ++ 41 :: rest))) := by simp
      rw [e0]
      refine .push1 (k := 7) (piece_one (by decide) cl') (by decide +kernel) (by decide) (by decide) ?_
      refine run1 _ values fin cs ?_
      have e5 : r ++ 41 :: rest = d :: (tl ++ 41 :: rest) := by rw [hd]; rfl
      have h2 := run2 (41 :: rest) (v1 :: values) fin c41 (.close (piece_one (by decide) hrest) (by decide +kernel) hs.f I2 hv1' hv2 (by (exact om202 hsz l1 len1 l2 len2)) ht hrun)
      rw [e5] at h2 ⊢
      exact hs.run (st := ⟨v1 :: values, 7 :: (List.replicate k 31 ++ ws), B1⟩) hds h2
end Mine
end

section
open PySem PySem.W
set_option maxRecDepth 100000
namespace Mine

theorem Operand.weaken {cs : List Nat} {g : (Nat → Bool) → Bool} {c c' : Nat} (h : Operand cs g c) (hc : c ≤ c') : Operand cs g c' where
  start := h.start
  chars := h.chars
  run := fun k ws B hw I hs => by
    obtain ⟨v, B', I', ⟨more, e1, l1⟩, r⟩ := h.run k ws B hw I (by (exact om205 hc hs))
    exact ⟨v, B', I', ⟨more, e1, by (exact om206 hc l1)⟩, r⟩
def pre (b : Bool) : List Nat := if b then [126] else []
theorem op_pre (b : Bool) {cs : List Nat} {g : (Nat → Bool) → Bool} {c : Nat} (h : Operand cs g c) : Operand (pre b ++ cs) (fun e => b != g e) (c + 15) := by
  cases b with
  | false =>
    have : (fun e => false != g e) = g := by funext e; simp
    rw [this]
    exact h.weaken (by (exact om207))
  | true =>
    have : (fun e => true != g e) = fun e => !g e := by funext e; cases g e <;> rfl
    rw [this]
    exact op_tilde h

def textOf (x : Str) : List Nat := x.cps.toList.map norm
theorem text_append (x y : Str) : textOf (x ++ y) = textOf x ++ textOf y := by
  unfold textOf
  show ((x.cps ++ y.cps).toList).map norm = _
  simp
def AllA (x : Str) : Prop := ∀ c ∈ x.cps.toList, Allowed c
theorem allA_append {x y : Str} (hx : AllA x) (hy : AllA y) : AllA (x ++ y) := by
  intro c hc
  have : c ∈ (x.cps ++ y.cps).toList := hc
  simp only [Array.toList_append, List.mem_append] at this
  exact this.elim (hx c) (hy c)

def asg (r i : Nat) : Bool := r.testBit (3 - i)
def Tab (t : Nat) (g : (Nat → Bool) → Bool) : Prop := t < 65536 ∧ ∀ r, r < 16 → t.testBit r = g (asg r)

/-- one of the row, of n letters -/
structure EntOk (e : Ent) (n : Nat) : Prop where
  pos : 1 ≤ n
  sA : AllA e.short
  pA : AllA e.plain
  ops : ∃ gs gp, Operand (textOf e.short) gs (n + 45 * (n - 1)) ∧ Operand (textOf e.plain) gp (n + 90 * (n - 1)) ∧ Tab e.a gs ∧ Tab e.b gp

theorem mask_bit (b : Bool) (r : Nat) (h : r < 16) : (65535 * b.toNat).testBit r = b := by
  cases b with
  | false => simp
  | true =>
    have : ∀ r, r < 16 → (65535 * 1).testBit r = true := by decide
    exact this r h
theorem tab_xor {x y : Nat} {g h : (Nat → Bool) → Bool} (hx : Tab x g) (hy : Tab y h) : Tab (x ^^^ y) (fun e => g e != h e) := by
  refine ⟨Nat.xor_lt_two_pow (n := 16) hx.1 hy.1, fun r hr => ?_⟩
  rw [Nat.testBit_xor, hx.2 r hr, hy.2 r hr]
theorem tab_and {x y : Nat} {g h : (Nat → Bool) → Bool} (hx : Tab x g) (hy : Tab y h) : Tab (x &&& y) (fun e => g e && h e) := by
  refine ⟨Nat.and_lt_two_pow (n := 16) _ hy.1, fun r hr => ?_⟩
  rw [Nat.testBit_and, hx.2 r hr, hy.2 r hr]
theorem tab_not {x : Nat} {g : (Nat → Bool) → Bool} (b : Bool) (hx : Tab x g) : Tab (x ^^^ 65535 * b.toNat) (fun e => b != g e) := by
  refine ⟨Nat.xor_lt_two_pow (n := 16) hx.1 (by cases b <;> decide), fun r hr => ?_⟩
  rw [Nat.testBit_xor, hx.2 r hr, mask_bit b r hr]
  show (g (asg r) ^^ b) = (b != g (asg r))
  cases g (asg r) <;> cases b <;> rfl

/-- a mark of negation, as a str -/
def tl (b : Bool) : Str := if b then "~" else ""
theorem tilde_tl (n : Nat) (h : n < 2) : tilde n = tl (n == 1) := by
  match n, h with
  | 0, _ | 1, _ => rfl
theorem tl_text (b : Bool) : textOf (tl b) = pre b := by cases b <;> rfl
theorem tl_len (b : Bool) : (tl b).length = b.toNat := by cases b <;> rfl
theorem tl_all (b : Bool) : AllA (tl b) := by
  cases b with
  | false => intro c hc; cases hc
  | true =>
    intro c hc
    have : c ∈ [126] := hc
    rw [List.mem_singleton.mp this]
    exact ⟨126, by decide +kernel⟩

/-- one kind of join -/
structure Kind (sgn outer first inner second : Str) : Prop where
  ex : ∃ bo b1 b2 k f ki fi, outer = tl bo ∧ first = tl b1 ∧ second = tl b2 ∧ Sign (textOf sgn) k f ∧ Sign (textOf inner) ki fi ∧ AllA sgn ∧ AllA inner ∧
    (((inner == ("&" : Str)) = true ∧ fi = fun a b => a && b) ∨ ((inner == ("&" : Str)) = false ∧ fi = fun a b => a != b)) ∧ ∀ x y, f x y = (bo != fi (b1 != x) (b2 != y))

theorem allA_of {x : Str} (h : x.cps.toList.all (fun c => (allowedL.lookup c).isSome) = true) : AllA x := by
  intro c hc
  have := List.all_eq_true.mp h c hc
  exact Option.isSome_iff_exists.mp this
theorem kind_ok (i : Nat) (h : i < 9) : ∃ sgn outer first inner second : Str, kindsS[i]? = some [sgn, outer, first, inner, second] ∧ Kind sgn outer first inner second := by
  have and' : ∀ {x : Str}, x = "&" → Sign (textOf x) 19 (fun a b => a && b) ∧ AllA x := by
    rintro x rfl
    exact ⟨⟨by decide +kernel, rfl, by decide, .inl ⟨38, by decide +kernel, by decide, by decide +kernel⟩⟩, allA_of (by decide +kernel)⟩
  have xor' : ∀ {x : Str}, x = "^" → Sign (textOf x) 32 (fun a b => a != b) ∧ AllA x := by
    rintro x rfl
    exact ⟨⟨by decide +kernel, rfl, by decide, .inl ⟨94, by decide +kernel, by decide, by decide +kernel⟩⟩, allA_of (by decide +kernel)⟩
  have mk : ∀ (sgn inner : Str) (bo b1 b2 : Bool) (k ki : Int) (f fi : Bool → Bool → Bool), Sign (textOf sgn) k f → AllA sgn → Sign (textOf inner) ki fi → AllA inner →
      (((inner == ("&" : Str)) = true ∧ fi = fun a b => a && b) ∨ ((inner == ("&" : Str)) = false ∧ fi = fun a b => a != b)) → (∀ x y, f x y = (bo != fi (b1 != x) (b2 != y))) → Kind sgn (tl bo) (tl b1) inner (tl b2) :=
    fun sgn inner bo b1 b2 k ki f fi h1 h2 h3 h4 h5 h6 => ⟨⟨bo, b1, b2, k, f, ki, fi, rfl, rfl, rfl, h1, h3, h2, h4, h5, h6⟩⟩
  have one : ∀ {x : Str} {c : Nat} {k : Int} {f : Bool → Bool → Bool}, textOf x = [c] → c ∈ ([124, 38, 94, 60, 62] : List Nat) → tokFn (s1 c) = some k → signF k = some f → k ≠ 31 → c ∈ charsN → Sign (textOf x) k f := by
    intro x c k f h1 h2 h3 h4 h5 h6
    rw [h1]
    exact ⟨fun d hd => by rw [List.mem_singleton.mp hd]; exact h6, h4, h5, .inl ⟨c, rfl, h2, h3⟩⟩
  have two : ∀ {x : Str} {c c' : Nat} {k : Int} {f : Bool → Bool → Bool}, textOf x = [c, c'] → tokFn ⟨#[c, c']⟩ = some k → signF k = some f → k ≠ 31 → c ∈ charsN → c' ∈ charsN → Sign (textOf x) k f := by
    intro x c c' k f h1 h3 h4 h5 h6 h7
    rw [h1]
    refine ⟨fun d hd => ?_, h4, h5, .inr ⟨c, c', rfl, h3⟩⟩
    rcases mem2 hd with rfl | rfl
    · exact h6
    · exact h7
  obtain ⟨sa, aa⟩ := and' (x := "&") rfl
  obtain ⟨sx, ax⟩ := xor' (x := "^") rfl
  have ia : ((("&" : Str) == ("&" : Str)) = true ∧ (fun a b => a && b) = fun a b : Bool => a && b) ∨ ((("&" : Str) == ("&" : Str)) = false ∧ (fun a b => a && b) = fun a b : Bool => a != b) := .inl ⟨by decide, rfl⟩
  have ix : ((("^" : Str) == ("&" : Str)) = true ∧ (fun a b => a != b) = fun a b : Bool => a && b) ∨ ((("^" : Str) == ("&" : Str)) = false ∧ (fun a b => a != b) = fun a b : Bool => a != b) := .inr ⟨by decide, rfl⟩
  match i, h with
  | 0, _ => exact ⟨"|", tl true, tl true, "&", tl true, rfl, mk _ _ true true true 18 19 _ _ (one (c := 124) (by decide +kernel) (by decide) (by decide +kernel) rfl (by decide) (by decide)) (allA_of (by decide +kernel)) sa aa ia (by decide)⟩
  | 1, _ => exact ⟨"&", tl false, tl false, "&", tl false, rfl, mk _ _ false false false 19 19 _ _ sa aa sa aa ia (by decide)⟩
  | 2, _ => exact ⟨"^", tl false, tl false, "^", tl false, rfl, mk _ _ false false false 32 32 _ _ sx ax sx ax ix (by decide)⟩
  | 3, _ => exact ⟨"<", tl false, tl true, "&", tl false, rfl, mk _ _ false true false 20 19 _ _ (one (c := 60) (by decide +kernel) (by decide) (by decide +kernel) rfl (by decide) (by decide)) (allA_of (by decide +kernel)) sa aa ia (by decide)⟩
  | 4, _ => exact ⟨">", tl false, tl false, "&", tl true, rfl, mk _ _ false false true 21 19 _ _ (one (c := 62) (by decide +kernel) (by decide) (by decide +kernel) rfl (by decide) (by decide)) (allA_of (by decide +kernel)) sa aa ia (by decide)⟩
  | 5, _ => exact ⟨"<=", tl true, tl false, "&", tl true, rfl, mk _ _ true false true 29 19 _ _ (two (c := 60) (c' := 61) (by decide +kernel) (by decide +kernel) rfl (by decide) (by decide) (by decide)) (allA_of (by decide +kernel)) sa aa ia (by decide)⟩
  | 6, _ => exact ⟨">=", tl true, tl true, "&", tl false, rfl, mk _ _ true true false 30 19 _ _ (two (c := 62) (c' := 61) (by decide +kernel) (by decide +kernel) rfl (by decide) (by decide) (by decide)) (allA_of (by decide +kernel)) sa aa ia (by decide)⟩
  | 7, _ => exact ⟨"==", tl true, tl false, "^", tl false, rfl, mk _ _ true false false 27 32 _ _ (two (c := 61) (c' := 61) (by decide +kernel) (by decide +kernel) rfl (by decide) (by decide) (by decide)) (allA_of (by decide +kernel)) sx ax ix (by decide)⟩
  | 8, _ => exact ⟨"!=", tl false, tl false, "^", tl false, rfl, mk _ _ false false false 28 32 _ _ (two (c := 33) (c' := 61) (by decide +kernel) (by decide +kernel) rfl (by decide) (by decide) (by decide)) (allA_of (by decide +kernel)) sx ax ix (by decide)⟩
end Mine
end

section
open PySem PySem.W
set_option maxRecDepth 100000
namespace Mine

theorem text_paren1 : textOf "(" = [40] := by decide +kernel
theorem text_paren2 : textOf ")" = [41] := by decide +kernel
theorem all_paren1 : AllA "(" := allA_of (by decide +kernel)
theorem all_paren2 : AllA ")" := allA_of (by decide +kernel)
theorem len_mod (b c : Bool) : ((tl b ++ tl c).length % 2) = (b != c).toNat := by
  rw [strLen, tl_len, tl_len]
  cases b <;> cases c <;> rfl

theorem joined_ok {code : Nat} {l r : Ent} {n m : Nat} (hl : EntOk l n) (hr : EntOk r m) : EntOk (joinedF code l r) (n + m) := by
  obtain ⟨sgn, outer, first, inner, second, hk, ⟨bo, b1, b2, k, f, ki, fi, rfl, rfl, rfl, sg, si, as, ai, hin, hf⟩⟩ := kind_ok (code / 6 % 9) (Nat.mod_lt _ (by decide))
  have hj : joinedF code l r = joinWith sgn (tl bo) (tl b1) inner (tl b2) (tl (code / 54 % 2 == 1)) (tl (code / 108 % 2 == 1)) l r := by
    unfold joinedF
    rw [List.getD_eq_getElem?_getD, hk, ← tilde_tl _ (Nat.mod_lt _ (by decide)), ← tilde_tl _ (Nat.mod_lt _ (by decide))]
    rfl
  rw [hj]
  generalize (code / 54 % 2 == 1) = a1
  generalize (code / 108 % 2 == 1) = a2
  obtain ⟨gsl, gpl, o1, o2, t1, t2⟩ := hl.ops
  obtain ⟨gsr, gpr, o3, o4, t3, t4⟩ := hr.ops
  have p1 := hl.pos
  have p2 := hr.pos
  refine ⟨by (exact om208 p1), ?_, ?_, fun e => f (a1 != gsl e) (a2 != gsr e), fun e => bo != fi (b1 != (a1 != gpl e)) (b2 != (a2 != gpr e)), ?_, ?_, ?_, ?_⟩
  · unfold joinWith
    exact allA_append (allA_append (allA_append (allA_append (allA_append (allA_append all_paren1 (tl_all _)) hl.sA) as) (tl_all _)) hr.sA) all_paren2
  · unfold joinWith
    exact allA_append (allA_append (allA_append (allA_append (allA_append (allA_append (allA_append (allA_append (allA_append (tl_all _) all_paren1) (tl_all _)) (tl_all _)) hl.pA) ai) (tl_all _)) (tl_all _)) hr.pA) all_paren2
  · have e1 : textOf (joinWith sgn (tl bo) (tl b1) inner (tl b2) (tl a1) (tl a2) l r).short = 40 :: ((pre a1 ++ textOf l.short) ++ (textOf sgn ++ ((pre a2 ++ textOf r.short) ++ [41]))) := by
      unfold joinWith
      simp only [text_append, tl_text, text_paren1, text_paren2]
      simp
    rw [e1]
    exact (op_join (op_pre a1 o1) (op_pre a2 o3) sg).weaken (by (exact om209 p1 p2))
  · have e1 : textOf (joinWith sgn (tl bo) (tl b1) inner (tl b2) (tl a1) (tl a2) l r).plain = pre bo ++ (40 :: ((pre b1 ++ (pre a1 ++ textOf l.plain)) ++ (textOf inner ++ ((pre b2 ++ (pre a2 ++ textOf r.plain)) ++ [41])))) := by
      unfold joinWith
      simp only [text_append, tl_text, text_paren1, text_paren2]
      simp
    rw [e1]
    exact (op_pre bo (op_join (op_pre b1 (op_pre a1 o2)) (op_pre b2 (op_pre a2 o4)) si)).weaken (by (exact om210 p1 p2))
  all_goals
    unfold joinWith tabF
    simp only [len_mod, tl_len]
  · have q1 := tab_not (b1 != a1) t1
    have q2 := tab_not (b2 != a2) t3
    have fin : ∀ {x : Nat}, Tab x (fun e => fi ((b1 != a1) != gsl e) ((b2 != a2) != gsr e)) → Tab (x ^^^ 65535 * bo.toNat) (fun e => f (a1 != gsl e) (a2 != gsr e)) := fun hx => by
      have := tab_not bo hx
      have e : (fun e => f (a1 != gsl e) (a2 != gsr e)) = fun e => bo != fi ((b1 != a1) != gsl e) ((b2 != a2) != gsr e) := by
        funext e
        rw [hf]
        congr 2 <;> (cases b1 <;> cases b2 <;> cases a1 <;> cases a2 <;> cases gsl e <;> cases gsr e <;> rfl)
      rw [e]; exact this
    rcases hin with ⟨h1, h2⟩ | ⟨h1, h2⟩
    · rw [h1, if_pos rfl]; refine fin ?_; rw [h2]; exact tab_and q1 q2
    · rw [h1, if_neg (by decide)]; refine fin ?_; rw [h2]; exact tab_xor q1 q2
  · have q1 := tab_not (b1 != a1) t2
    have q2 := tab_not (b2 != a2) t4
    have fin : ∀ {x : Nat}, Tab x (fun e => fi ((b1 != a1) != gpl e) ((b2 != a2) != gpr e)) → Tab (x ^^^ 65535 * bo.toNat) (fun e => bo != fi (b1 != (a1 != gpl e)) (b2 != (a2 != gpr e))) := fun hx => by
      have := tab_not bo hx
      have e : (fun e => bo != fi (b1 != (a1 != gpl e)) (b2 != (a2 != gpr e))) = fun e => bo != fi ((b1 != a1) != gpl e) ((b2 != a2) != gpr e) := by
        funext e
        congr 2 <;> (cases b1 <;> cases b2 <;> cases a1 <;> cases a2 <;> cases gpl e <;> cases gpr e <;> rfl)
      rw [e]; exact this
    rcases hin with ⟨h1, h2⟩ | ⟨h1, h2⟩
    · rw [h1, if_pos rfl]; refine fin ?_; rw [h2]; exact tab_and q1 q2
    · rw [h1, if_neg (by decide)]; refine fin ?_; rw [h2]; exact tab_xor q1 q2

/-- a row, of n letters in all -/
inductive RowOk : List Ent → Nat → Prop
  | nil : RowOk [] 0
  | cons {e r n m} : EntOk e n → RowOk r m → RowOk (e :: r) (n + m)
theorem RowOk.append {a b : List Ent} {n m : Nat} (ha : RowOk a n) (hb : RowOk b m) : RowOk (a ++ b) (n + m) := by
  induction ha with
  | nil => rw [Nat.zero_add]; exact hb
  | cons h _ ih => rw [Nat.add_assoc]; exact .cons h ih
theorem RowOk.split : ∀ {a b : List Ent} {n : Nat}, RowOk (a ++ b) n → ∃ p q, n = p + q ∧ RowOk a p ∧ RowOk b q
  | [], b, n, h => ⟨0, n, by (exact om211), .nil, h⟩
  | e :: a, b, n, h => by
    cases h with
    | cons h1 h2 =>
      obtain ⟨p, q, rfl, h3, h4⟩ := RowOk.split h2
      exact ⟨_, q, by rw [Nat.add_assoc], .cons h1 h3, h4⟩
theorem row_split (row : List Ent) (p : Nat) (h : p + 1 < row.length) : row = row.take p ++ (row.getD p dfl :: row.getD (p + 1) dfl :: row.drop (p + 2)) := by
  have e1 : row.getD p dfl = row[p] := by rw [List.getD_eq_getElem?_getD, List.getElem?_eq_getElem (by (exact om212 h))]; rfl
  have e2 : row.getD (p + 1) dfl = row[p + 1] := by rw [List.getD_eq_getElem?_getD, List.getElem?_eq_getElem h]; rfl
  rw [e1, e2, List.getElem_cons_drop, List.getElem_cons_drop, List.take_append_drop]
theorem stepJ_ok {row : List Ent} {n : Nat} (code : Nat) (h2 : 2 ≤ row.length) (h : RowOk row n) : RowOk (stepJ row code) n := by
  obtain ⟨_, hp⟩ := stepJ_len row code h2
  unfold stepJ
  generalize placeF row code = p at hp ⊢
  rw [row_split row p hp] at h
  obtain ⟨a, b, rfl, ha, hb⟩ := h.split
  cases hb with
  | cons h1 h3 =>
    cases h3 with
    | cons h4 h5 =>
      have := (ha.append (.cons (joined_ok (code := code) h1 h4) .nil)).append h5
      rw [Nat.add_zero, Nat.add_assoc] at this
      rw [← Nat.add_assoc (n := _) ] 
      simpa [Nat.add_assoc] using this
end Mine
end

section
open PySem PySem.W
set_option maxRecDepth 100000
namespace Mine

theorem faces_ok : (facesL.all fun f => (List.range 4).all fun k => allowedL.lookup (f + k) == some (97 + k)) = true := by decide +kernel
theorem face_norm {j k : Nat} (hj : j < 12) (hk : k < 4) : allowedL.lookup (facesL.getD j 0 + k) = some (97 + k) := by
  have hm : facesL.getD j 0 ∈ facesL := by
    rw [List.getD_eq_getElem?_getD, List.getElem?_eq_getElem (show j < facesL.length from hj)]
    exact List.getElem_mem _
  have := List.all_eq_true.mp (List.all_eq_true.mp faces_ok _ hm) k (List.mem_range.mpr hk)
  exact beq_iff_eq.mp this
theorem letter_tab {k : Nat} (hk : k < 4) : Tab (lettersL.getD k 0) (fun e => e k) := by
  have h1 : ∀ k, k < 4 → lettersL.getD k 0 < 65536 ∧ ∀ r, r < 16 → (lettersL.getD k 0).testBit r = r.testBit (3 - k) := by decide +kernel
  obtain ⟨a, b⟩ := h1 k hk
  exact ⟨a, fun r hr => b r hr⟩
theorem letterF_lt (told : List Nat) (i : Nat) : letterF told i < 4 := Nat.mod_lt _ (by decide)
theorem otherF_lt (told : List Nat) (i : Nat) : otherF told i < 4 := by
  unfold otherF
  split
  · exact Nat.mod_lt _ (by decide)
  · exact letterF_lt told i
theorem start_ok (told : List Nat) (i : Nat) : EntOk (startF told i) 1 := by
  have hj : (told.getD 4 0 / 256 + 5 * i) % 12 < 12 := Nat.mod_lt _ (by decide)
  have n1 := face_norm hj (letterF_lt told i)
  have n2 := face_norm hj (otherF_lt told i)
  have one : ∀ {c k : Nat}, allowedL.lookup c = some (97 + k) → AllA (s1 c) ∧ textOf (s1 c) = [97 + k] := fun {c k} h => by
    refine ⟨fun d hd => ?_, ?_⟩
    · have : d ∈ [c] := hd
      rw [List.mem_singleton.mp this]; exact ⟨_, h⟩
    · show [norm c] = _
      unfold norm; rw [h]; rfl
  obtain ⟨a1, t1⟩ := one n1
  obtain ⟨a2, t2⟩ := one n2
  refine ⟨Nat.le_refl _, a1, a2, fun e => e (letterF told i), fun e => e (otherF told i), ?_, ?_, letter_tab (letterF_lt told i), letter_tab (otherF_lt told i)⟩
  · show Operand (textOf (s1 (faceF told i + letterF told i))) _ _
    have : textOf (s1 (faceF told i + letterF told i)) = [97 + letterF told i] := t1
    rw [this]; exact (op_letter _ (letterF_lt told i)).weaken (by (exact om221))
  · have : textOf (startF told i).plain = [97 + otherF told i] := t2
    rw [this]; exact (op_letter _ (otherF_lt told i)).weaken (by (exact om222))

theorem rows_ok (told : List Nat) (h9 : told.length = 9) : ∀ j, j ≤ 3 → RowOk (rowsJ told j) 4
  | 0, _ => by
    show RowOk [startF told 0, startF told 1, startF told 2, startF told 3] 4
    exact .cons (n := 1) (start_ok told 0) (.cons (n := 1) (start_ok told 1) (.cons (n := 1) (start_ok told 2) (.cons (n := 1) (start_ok told 3) .nil)))
  | j + 1, hj => by
    have ih := rows_ok told h9 j (by (exact om223 hj))
    have hl := (rowsJ_facts told h9 j (by (exact om223 hj))).1
    have hc : (told.drop 6)[j]? = some ((told.drop 6).getD j 0) := by
      rw [List.getD_eq_getElem?_getD, List.getElem?_eq_getElem (by simp; (exact om224 h9 hj))]; rfl
    rw [rowsJ_succ told j _ hc]
    exact stepJ_ok _ (by (exact om225 hj hl)) ih
theorem formula_ok (told : List Nat) (h9 : told.length = 9) : EntOk (formulaF told) 4 ∧ (formulaF told).short.length ≤ 100 ∧ (formulaF told).plain.length ≤ 100 := by
  have h := rows_ok told h9 3 (by (exact om226))
  obtain ⟨hl, hs⟩ := rowsJ_facts told h9 3 (by (exact om226))
  unfold formulaF
  cases hr : rowsJ told 3 with
  | nil => rw [hr] at hl; simp at hl
  | cons e r =>
    rw [hr] at hl h
    have hr0 : r = [] := by
      cases r with
      | nil => rfl
      | cons a b => simp at hl
    subst hr0
    generalize hq : 4 = q at h
    cases h with
    | cons h1 h2 =>
      cases h2
      rw [Nat.add_zero] at hq
      subst hq
      exact ⟨h1, hs e (by rw [hr]; simp)⟩

/-- the two functions agree where the rows do -/
theorem rows_env (e : Nat → Bool) : ∃ r, r < 16 ∧ ∀ i, i < 4 → asg r i = e i := by
  have : ∀ a b c d : Bool, ∃ r, r < 16 ∧ r.testBit 3 = a ∧ r.testBit 2 = b ∧ r.testBit 1 = c ∧ r.testBit 0 = d := by
    intro a b c d
    refine ⟨8 * a.toNat + 4 * b.toNat + 2 * c.toNat + d.toNat, ?_, ?_, ?_, ?_, ?_⟩ <;> cases a <;> cases b <;> cases c <;> cases d <;> decide
  obtain ⟨r, h0, h1, h2, h3, h4⟩ := this (e 0) (e 1) (e 2) (e 3)
  refine ⟨r, h0, fun i hi => ?_⟩
  match i, hi with
  | 0, _ => exact h1
  | 1, _ => exact h2
  | 2, _ => exact h3
  | 3, _ => exact h4
theorem tab_eq {t u : Nat} (ht : t < 65536) (hu : u < 65536) (h : ∀ r, r < 16 → t.testBit r = u.testBit r) : t = u := by
  refine Nat.eq_of_testBit_eq fun i => ?_
  by_cases hi : i < 16
  · exact h i hi
  · rw [Nat.testBit_lt_two_pow (Nat.lt_of_lt_of_le ht (Nat.pow_le_pow_right (show 0 < 2 by decide) (show 16 ≤ i by (exact om227 hi)))), Nat.testBit_lt_two_pow (Nat.lt_of_lt_of_le hu (Nat.pow_le_pow_right (show 0 < 2 by decide) (show 16 ≤ i by (exact om227 hi))))]

/-- all but sizes and chances -/
structure Facts0 (script : List Int) (st1 st2 : RS) (r1 r2 : Nat) : Prop where
  len1 : (formulaF (toldF script)).short.length ≤ 1000 ∧ (formulaF (toldF script)).plain.length ≤ 1000
  prep : ∀ t, t = (formulaF (toldF script)).short ∨ t = (formulaF (toldF script)).plain → ((typedL t ((toldF script).getD 5 0)).map (·.length)).sum ≤ 100000 ∧ (typedF t ((toldF script).getD 5 0)).length ≤ 100000 ∧
    (∀ c ∈ (typedF t ((toldF script).getD 5 0)).cps.toList, b1Fn (c : Nat) = false → b3Fn (c : Nat) = none → Builtin.Str.tooLong (Txt.lower (s1 c)).length = false) ∧ ((keptL (typedF t ((toldF script).getD 5 0))).map (·.length)).sum ≤ 100000 ∧
    (preparedF t ((toldF script).getD 5 0)).length ≤ 10000
  run1 : Runs (preparedF (formulaF (toldF script)).short ((toldF script).getD 5 0)).cps.toList ⟨[], [], B0⟩ st1
  root1 : st1.values.getLast? = some r1 ∧ st1.values.length ≤ 10000
  run2 : Runs (preparedF (formulaF (toldF script)).plain ((toldF script).getD 5 0)).cps.toList ⟨[], [], st1.B⟩ st2
  root2 : st2.values.getLast? = some r2 ∧ st2.values.length ≤ 10000
  same : r1 = r2 ↔ (formulaF (toldF script)).a = (formulaF (toldF script)).b
  inv : Inv st2.B
  val : Valid st2.B.nodes 0 r1 ∧ Valid st2.B.nodes 0 r2
  tab1 : Tab (formulaF (toldF script)).a (fun e => ev st2.B.nodes e r1)
  tab2 : Tab (formulaF (toldF script)).b (fun e => ev st2.B.nodes e r2)

theorem sum_le {l : List Nat} {b : Nat} (h : ∀ x ∈ l, x ≤ b) : l.sum ≤ l.length * b := by
  induction l with
  | nil => simp
  | cons x r ih =>
    have := ih fun y hy => h y (List.mem_cons_of_mem _ hy)
    have := h x List.mem_cons_self
    rw [List.sum_cons, List.length_cons, Nat.succ_mul]; (exact om228 (by assumption) this)
theorem prep_ok {t : Str} {code : Nat} (hA : AllA t) (hl : t.length ≤ 100) : ((typedL t code).map (·.length)).sum ≤ 100000 ∧ (typedF t code).length ≤ 100000 ∧
    (∀ c ∈ (typedF t code).cps.toList, b1Fn (c : Nat) = false → b3Fn (c : Nat) = none → Builtin.Str.tooLong (Txt.lower (s1 c)).length = false) ∧ ((keptL (typedF t code)).map (·.length)).sum ≤ 100000 ∧
    (preparedF t code).length ≤ 10000 := by
  have hlen : t.cps.toList.length = t.length := by simp [Str.length]
  have tot : ∀ ys : List Str, (Txt.join ("" : Str) ys).length = (ys.map (·.length)).sum := fun ys => by
    have := congrArg List.length (join_cat ys)
    rw [List.length_flatMap] at this
    simpa [Str.length] using this
  have s1 : ((typedL t code).map (·.length)).sum ≤ 200 := by
    refine Nat.le_trans (sum_le (b := 2) fun x hx => ?_) ?_
    · obtain ⟨y, hy, rfl⟩ := List.mem_map.mp hx
      unfold typedL at hy
      obtain ⟨i, _, rfl⟩ := List.mem_map.mp hy
      split
      · exact Nat.le_of_ble_eq_true rfl
      · exact Nat.le_of_ble_eq_true rfl
    · simp [typedL]; (exact om229 hl)
  have s2 : (preparedF t code).length = t.length := by
    have := congrArg List.length (prepared_norm (code := code) hA)
    simpa [Str.length] using this
  refine ⟨by (exact om230 s1), ?_, fun c hc h1 h2 => ?_, ?_, by (exact om231 hl s2)⟩
  · unfold typedF; rw [tot]; (exact om230 s1)
  · rw [typed_cat] at hc
    obtain ⟨i, hi, hc⟩ := List.mem_flatMap.mp hc
    have hi' := List.mem_range.mp hi
    have hin : t.cps.toList.getD i 0 ∈ t.cps.toList := by
      rw [List.getD_eq_getElem?_getD, List.getElem?_eq_getElem hi']
      exact List.getElem_mem _
    have hcc : c = t.cps.toList.getD i 0 ∨ c = unseenF code := by
      unfold tyC at hc
      split at hc
      · simpa using hc
      · left; simpa using hc
    rcases hcc with rfl | rfl
    · exact (allowed_facts (hA _ hin)).2.2 h2
    · rw [unseen_b1] at h1; cases h1
  · have := tot (keptL (typedF t code))
    unfold preparedF at s2
    (exact om232 hl s2 this)
theorem facts0 (script : List Int) : ∃ st1 st2 r1 r2, Facts0 script st1 st2 r1 r2 := by
  have h9 := toldF_len script
  obtain ⟨ok, hls, hlp⟩ := formula_ok (toldF script) h9
  obtain ⟨gs, gp, os, op, ts, tp⟩ := ok.ops
  obtain ⟨v1, B1, I1, ⟨m1, e1, l1⟩, hv1, s1', run1⟩ := os.run 0 [] B0 (by simp) Inv.empty (by simp [B0])
  have len1 : B1.nodes.length ≤ 139 := by rw [e1]; simp [B0]; (exact om233 l1)
  obtain ⟨v2, B2, I2, ⟨m2, e2, l2⟩, hv2, s2', run2⟩ := op.run 0 [] B1 (by simp) I1 (by (exact om234 len1))
  have hv1' : Valid B2.nodes 0 v1 := by rw [e2]; exact hv1.grow
  have ev1 : ∀ e, ev B2.nodes e v1 = gs e := fun e => by rw [e2, ev_grow I1.lows hv1, s1' e]; rfl
  have ev2 : ∀ e, ev B2.nodes e v2 = gp e := fun e => by rw [s2' e]; rfl
  have r1 := run1 [] [] ⟨[v1], [], B1⟩ (by simp) .done
  have r2 := run2 [] [] ⟨[v2], [], B2⟩ (by simp) .done
  rw [List.append_nil] at r1 r2
  have t1 : Tab (formulaF (toldF script)).a (fun e => ev B2.nodes e v1) := by
    have : (fun e => ev B2.nodes e v1) = gs := funext ev1
    rw [this]; exact ts
  have t2 : Tab (formulaF (toldF script)).b (fun e => ev B2.nodes e v2) := by
    have : (fun e => ev B2.nodes e v2) = gp := funext ev2
    rw [this]; exact tp
  refine ⟨⟨[v1], [], B1⟩, ⟨[v2], [], B2⟩, v1, v2, ⟨by (exact om235 hls), by (exact om235 hlp)⟩, ?_, ?_, ⟨rfl, by simp⟩, ?_, ⟨rfl, by simp⟩, ⟨?_, ?_⟩, I2, ⟨hv1', hv2⟩, t1, t2⟩
  · rintro t (rfl | rfl)
    · exact prep_ok ok.sA hls
    · exact prep_ok ok.pA hlp
  · rw [prepared_norm ok.sA]; exact r1
  · rw [prepared_norm ok.pA]; exact r2
  · intro h
    refine tab_eq t1.1 t2.1 fun r hr => ?_
    rw [t1.2 r hr, t2.2 r hr, h]
  · intro h
    refine canon I2 _ v1 v2 (Nat.le_refl _) hv1' hv2 fun e => ?_
    obtain ⟨r, hr, hre⟩ := rows_env e
    have h1 := t1.2 r hr
    have h2 := t2.2 r hr
    rw [h] at h1
    have h3 : ev B2.nodes (asg r) v1 = ev B2.nodes (asg r) v2 := h1.symm.trans h2
    rw [← ev_indep I2.lows hv1' (fun i _ hi => hre i hi), ← ev_indep I2.lows hv2 (fun i _ hi => hre i hi)]
    exact h3
end Mine
end

section
namespace Mine
open Classical

/-- as many x as y, where each x has its own y -/
theorem len_le {α β : Type} [DecidableEq β] (Q : α → β → Prop) : ∀ (A : List α) (S : List β), A.Nodup → (∀ x ∈ A, ∃ y ∈ S, Q x y) → (∀ x ∈ A, ∀ x' ∈ A, ∀ y, Q x y → Q x' y → x = x') → A.length ≤ S.length
  | [], _, _, _, _ => Nat.zero_le _
  | x :: A, S, nd, h, inj => by
    obtain ⟨y, hy, q⟩ := h x List.mem_cons_self
    have nd' := List.nodup_cons.mp nd
    have := len_le Q A (S.erase y) nd'.2 (fun x' hx' => by
      obtain ⟨y', hy', q'⟩ := h x' (List.mem_cons_of_mem _ hx')
      refine ⟨y', (List.mem_erase_of_ne ?_).mpr hy', q'⟩
      rintro rfl
      have := inj x List.mem_cons_self x' (List.mem_cons_of_mem _ hx') _ q q'
      subst this
      exact nd'.1 hx') (fun a ha b hb y q1 q2 => inj a (List.mem_cons_of_mem _ ha) b (List.mem_cons_of_mem _ hb) y q1 q2)
    rw [List.length_erase_of_mem hy] at this
    have : 0 < S.length := List.length_pos_of_mem hy
    simp only [List.length_cons]
    (exact om11 (by assumption) this)

inductive Reach (ns : List (Nat × Nat × Nat)) (root : Nat) : Nat → Prop
  | root : Reach ns root root
  | lo {x v lo hi : Nat} : Reach ns root x → 256 ≤ x → ns[x - 256]? = some (v, lo, hi) → Reach ns root lo
  | hi {x v lo hi : Nat} : Reach ns root x → 256 ≤ x → ns[x - 256]? = some (v, lo, hi) → Reach ns root hi

theorem Reach.path {B : BD} (I : Inv B) {root x : Nat} (hv : Valid B.nodes 0 root) (h : Reach B.nodes root x) : ∃ (e0 : Nat → Bool) (l : Nat), Valid B.nodes l x ∧ ∀ e, (∀ j, j < l → e j = e0 j) → ev B.nodes e root = ev B.nodes e x := by
  have L := I.lows
  induction h with
  | root => exact ⟨fun _ => false, 0, hv, fun e _ => rfl⟩
  | @lo x v lo hi _ hx ex ih =>
    obtain ⟨e0, l, vx, h⟩ := ih
    obtain ⟨_, _, _, _, v1, _⟩ := I.low _ _ _ _ ex
    have hl : l ≤ v := by
      rcases vx with q | ⟨_, v', lo', hi', e', q⟩
      · (exact om12 hx q)
      · rw [ex] at e'; cases e'; exact q
    refine ⟨setB e0 v false, v + 1, v1, fun e he => ?_⟩
    rw [h e fun j hj => by rw [he j (by (exact om13 hl hj))]; simp [setB]; omega, ev_node L hx ex, he v (by (exact om14))]
    simp [setB]
  | @hi x v lo hi _ hx ex ih =>
    obtain ⟨e0, l, vx, h⟩ := ih
    obtain ⟨_, _, _, _, _, v2⟩ := I.low _ _ _ _ ex
    have hl : l ≤ v := by
      rcases vx with q | ⟨_, v', lo', hi', e', q⟩
      · (exact om12 hx q)
      · rw [ex] at e'; cases e'; exact q
    refine ⟨setB e0 v true, v + 1, v2, fun e he => ?_⟩
    rw [h e fun j hj => by rw [he j (by (exact om13 hl hj))]; simp [setB]; omega, ev_node L hx ex, he v (by (exact om14))]
    simp [setB]

theorem follow {B : BD} (I : Inv B) {root : Nat} (hv : Valid B.nodes 0 root) (e0 : Nat → Bool) : ∀ l, l ≤ 4 → ∃ x, Reach B.nodes root x ∧ Valid B.nodes l x ∧ ∀ e, (∀ j, j < l → e j = e0 j) → ev B.nodes e root = ev B.nodes e x
  | 0, _ => ⟨root, .root, hv, fun _ _ => rfl⟩
  | l + 1, hl => by
    have L := I.lows
    obtain ⟨x, rx, vx, h⟩ := follow I hv e0 l (by (exact om15 hl))
    rcases vx with q | ⟨hx, v, lo, hi, ex, q⟩
    · exact ⟨x, rx, .inl q, fun e he => h e fun j hj => he j (by (exact om16 hj))⟩
    · by_cases c : v = l
      · subst c
        obtain ⟨_, _, _, _, v1, v2⟩ := I.low _ _ _ _ ex
        cases c : e0 v with
        | false =>
          refine ⟨lo, rx.lo hx ex, v1, fun e he => ?_⟩
          rw [h e fun j hj => he j (by (exact om16 hj)), ev_node L hx ex, he v (by (exact om14)), c]; rfl
        | true =>
          refine ⟨hi, rx.hi hx ex, v2, fun e he => ?_⟩
          rw [h e fun j hj => he j (by (exact om16 hj)), ev_node L hx ex, he v (by (exact om14)), c]; rfl
      · exact ⟨x, rx, .inr ⟨hx, v, lo, hi, ex, by (exact om17 q c)⟩, fun e he => h e fun j hj => he j (by (exact om16 hj))⟩

/-! the places that count -/
noncomputable def cnt (ns : List (Nat × Nat × Nat)) (root v : Nat) (ps : List Nat) : List Nat := ps.filter fun p => decide (Reach ns root (256 + p) ∧ (ns.getD p (0, 0, 0)).1 = v)
def down (n i : Nat) : List Nat := (List.range i).map fun j => n - 1 - j
theorem mem_down {n i p : Nat} (h : i ≤ n) : p ∈ down n i ↔ n - i ≤ p ∧ p < n := by
  unfold down
  simp only [List.mem_map, List.mem_range]
  exact ⟨fun ⟨j, a, b⟩ => by (exact om18 h a b), fun ⟨a, b⟩ => ⟨n - 1 - p, by (exact om19 (by assumption)), by (exact om20 (by assumption))⟩⟩
theorem down_succ (n i : Nat) : down n (i + 1) = down n i ++ [n - 1 - i] := by simp [down, List.range_succ]
theorem down_nodup {n i : Nat} (h : i ≤ n) : (down n i).Nodup := by
  induction i with
  | zero => exact List.nodup_nil
  | succ i ih =>
    rw [down_succ]
    refine List.nodup_append.mpr ⟨ih (by (exact om21 h)), by simp, fun a ha b hb => ?_⟩
    rw [List.mem_singleton] at hb
    have := (mem_down (by (exact om21 h) : i ≤ n)).mp ha
    (exact om22 h hb this)

theorem sizes_run {B : BD} (I : Inv B) (root : Nat) (hr : root < 256 + B.nodes.length) : ∀ i, i ≤ B.nodes.length →
    (∀ x, x ∈ (sizesAt B.nodes root i).1 ↔ x = root ∨ ∃ q v lo hi, q ∈ down B.nodes.length i ∧ Reach B.nodes root (256 + q) ∧ B.nodes[q]? = some (v, lo, hi) ∧ (x = lo ∨ x = hi)) ∧
    (sizesAt B.nodes root i).2 = [0, 1, 2, 3].map fun v => (cnt B.nodes root v (down B.nodes.length i)).length
  | 0, _ => by
    refine ⟨fun x => ⟨fun h => ?_, fun h => ?_⟩, rfl⟩
    · simp [sizesAt] at h; exact .inl h
    · rcases h with rfl | ⟨q, _, _, _, h, _⟩
      · simp [sizesAt]
      · simp [down] at h
  | i + 1, hi => by
    obtain ⟨h1, h2⟩ := sizes_run I root hr i (by (exact om21 hi))
    rw [sizesAt_succ]
    have hp : B.nodes.length - 1 - i < B.nodes.length := by (exact om23 hi)
    generalize hP : B.nodes.length - 1 - i = p at hp ⊢
    obtain ⟨v, lo, hi', ep⟩ : ∃ v lo hi, B.nodes[p]? = some (v, lo, hi) := by
      rw [List.getElem?_eq_getElem hp]; exact ⟨_, _, _, rfl⟩
    have eg := getD_some ep
    obtain ⟨h4, _⟩ := I.low _ _ _ _ ep
    have mark : (256 + p) ∈ (sizesAt B.nodes root i).1 ↔ Reach B.nodes root (256 + p) := by
      rw [h1]
      constructor
      · rintro (h | ⟨q, v, lo, hi, _, rq, eq, h⟩)
        · rw [h]; exact .root
        · have e' : B.nodes[256 + q - 256]? = some (v, lo, hi) := by rw [show 256 + q - 256 = q by (exact om24)]; exact eq
          rcases h with h | h
          · rw [h]; exact rq.lo (by (exact om5)) e'
          · rw [h]; exact rq.hi (by (exact om5)) e'
      · intro h
        generalize hx : 256 + p = x at h
        cases h with
        | root => exact .inl rfl
        | @lo y v lo hi ry hy ey =>
          obtain ⟨_, _, b1, _, _, _⟩ := I.low _ _ _ _ ey
          have hlt := (List.getElem?_eq_some_iff.mp ey).1
          exact .inr ⟨y - 256, v, _, _, (mem_down (by omega)).mpr (by omega), by rw [show 256 + (y - 256) = y by (exact om25 hy)]; exact ry, ey, .inl rfl⟩
        | @hi y v lo hi ry hy ey =>
          obtain ⟨_, _, _, b1, _, _⟩ := I.low _ _ _ _ ey
          have hlt := (List.getElem?_eq_some_iff.mp ey).1
          exact .inr ⟨y - 256, v, _, _, (mem_down (by (exact om21 hi))).mpr (by (exact om26 hP hx b1 hlt)), by rw [show 256 + (y - 256) = y by (exact om25 hy)]; exact ry, ey, .inr rfl⟩
    rw [down_succ, hP]
    unfold sizesStep
    rw [eg]
    by_cases c : Reach B.nodes root (256 + p)
    · rw [if_pos (List.contains_iff_mem.mpr (mark.mpr c))]
      refine ⟨fun x => ?_, ?_⟩
      · simp only [List.mem_append, List.mem_cons, List.not_mem_nil, or_false, h1]
        constructor
        · rintro ((h | ⟨q, v', lo', hi2, hq, rq, eq, h⟩) | h)
          · exact .inl h
          · exact .inr ⟨q, v', lo', hi2, .inl hq, rq, eq, h⟩
          · exact .inr ⟨p, v, lo, hi', .inr rfl, c, ep, h⟩
        · rintro (h | ⟨q, v', lo', hi2, hq | hq, rq, eq, h⟩)
          · exact .inl (.inl h)
          · exact .inl (.inr ⟨q, v', lo', hi2, hq, rq, eq, h⟩)
          · subst hq
            rw [ep] at eq; cases eq
            exact .inr h
      · rw [h2]
        have step : ∀ u, (cnt B.nodes root u (down B.nodes.length i ++ [p])).length = (cnt B.nodes root u (down B.nodes.length i)).length + if v = u then 1 else 0 := fun u => by
          unfold cnt
          rw [List.filter_append, List.length_append]
          congr 1
          rw [List.filter_cons, eg]
          by_cases k : v = u
          · simp [k, c]
          · simp [k]
        simp only [List.map_cons, List.map_nil, step]
        match v, h4 with
        | 0, _ => simp
        | 1, _ => simp
        | 2, _ => simp
        | 3, _ => simp
    · rw [if_neg fun h => c (mark.mp (List.contains_iff_mem.mp h))]
      refine ⟨fun x => ?_, ?_⟩
      · rw [h1]
        simp only [List.mem_append, List.mem_cons, List.not_mem_nil, or_false]
        constructor
        · rintro (h | ⟨q, v', lo', hi2, hq, rq, eq, h⟩)
          · exact .inl h
          · exact .inr ⟨q, v', lo', hi2, .inl hq, rq, eq, h⟩
        · rintro (h | ⟨q, v', lo', hi2, hq | hq, rq, eq, h⟩)
          · exact .inl h
          · exact .inr ⟨q, v', lo', hi2, hq, rq, eq, h⟩
          · subst hq; exact (c rq).elim
      · rw [h2]
        have step : ∀ u, cnt B.nodes root u (down B.nodes.length i ++ [p]) = cnt B.nodes root u (down B.nodes.length i) := fun u => by
          unfold cnt
          rw [List.filter_append, List.filter_cons]
          simp [c]
        simp only [List.map_cons, List.map_nil, step]
end Mine
end

section
namespace Mine
open Classical

theorem asg_mul {i : Nat} (hi : i < 4) (k : Nat) {s : Nat} (hs : s < 2 ^ (4 - i)) (j : Nat) : asg (2 ^ (4 - i) * k + s) j = if j < i then k.testBit (i - 1 - j) else asg s j := by
  unfold asg
  rw [Nat.testBit_two_pow_mul_add k hs]
  by_cases c : j < i
  · rw [if_neg (by (exact om27 c)), if_pos c, show 3 - j - (4 - i) = i - 1 - j by (exact om28 hi)]
  · rw [if_pos (by (exact om29 hi c)), if_neg c]

theorem two_h {i : Nat} (hi : i < 4) : 2 * (8 / 2 ^ i) = 2 ^ (4 - i) := by
  match i, hi with
  | 0, _ => rfl
  | 1, _ => rfl
  | 2, _ => rfl
  | 3, _ => rfl
theorem one_h {i : Nat} (hi : i < 4) : 8 / 2 ^ i = 2 ^ (3 - i) := by
  match i, hi with
  | 0, _ => rfl
  | 1, _ => rfl
  | 2, _ => rfl
  | 3, _ => rfl

theorem piece_bit (t h k : Nat) {s : Nat} (hs : s < 2 * h) : (pieceN t h k).testBit s = t.testBit (2 * h * k + s) := by
  unfold pieceN
  rw [Nat.testBit_mod_two_pow, Nat.testBit_div_two_pow]
  simp [hs, Nat.add_comm]
theorem piece_lt (t h k : Nat) : pieceN t h k < 2 ^ (2 * h) := Nat.mod_lt _ (Nat.two_pow_pos _)

theorem halves {p h : Nat} (hp : p < 2 ^ (2 * h)) : p / 2 ^ h = p % 2 ^ h ↔ ∀ s, s < h → p.testBit (h + s) = p.testBit s := by
  constructor
  · intro e s hs
    have := congrArg (fun n => n.testBit s) e
    simp only [Nat.testBit_mod_two_pow, Nat.testBit_div_two_pow, hs, decide_true, Bool.true_and] at this
    rw [Nat.add_comm]; exact this
  · intro e
    refine Nat.eq_of_testBit_eq fun s => ?_
    rw [Nat.testBit_mod_two_pow, Nat.testBit_div_two_pow]
    by_cases c : s < h
    · rw [Nat.add_comm, e s c]; simp [c]
    · simp only [c, decide_false, Bool.false_and]
      exact Nat.testBit_lt_two_pow (Nat.lt_of_lt_of_le hp (Nat.pow_le_pow_right (by decide) (by (exact om30 c))))

theorem mem_seen (t h p : Nat) : ∀ m, p ∈ seenF t h m ↔ ∃ k, k < m ∧ p = pieceN t h k ∧ p / 2 ^ h ≠ p % 2 ^ h
  | 0 => by simp [seenF]
  | m + 1 => by
    rw [seenF_succ]
    unfold pieceStep
    have ih := mem_seen t h p m
    split
    · next c =>
      rw [List.mem_append, List.mem_singleton, ih]
      constructor
      · rintro (⟨k, a, b⟩ | rfl)
        · exact ⟨k, by (exact om16 a), b⟩
        · exact ⟨m, by (exact om14), rfl, c.1⟩
      · rintro ⟨k, a, b, b'⟩
        by_cases q : k = m
        · subst q; exact .inr b
        · exact .inl ⟨k, by (exact om31 a q), b, b'⟩
    · next c =>
      rw [ih]
      constructor
      · rintro ⟨k, a, b⟩; exact ⟨k, by (exact om16 a), b⟩
      · rintro ⟨k, a, b, b'⟩
        by_cases q : k = m
        · subst q
          have : (seenF t h k).contains (pieceN t h k) = true := by
            refine Decidable.byContradiction fun n => c ⟨?_, n⟩
            rw [← b]; exact b'
          have := List.contains_iff_mem.mp this
          rw [← b] at this
          exact ih.mp this
        · exact ⟨k, by (exact om31 a q), b, b'⟩
theorem seen_nodup (t h : Nat) : ∀ m, (seenF t h m).Nodup
  | 0 => List.nodup_nil
  | m + 1 => by
    rw [seenF_succ]
    unfold pieceStep
    split
    · next c =>
      refine List.nodup_append.mpr ⟨seen_nodup t h m, by simp, fun a ha b hb => ?_⟩
      rw [List.mem_singleton] at hb
      subst hb
      rintro rfl
      exact c.2 (List.contains_iff_mem.mpr ha)
    · exact seen_nodup t h m

/-- p holds the rows of x -/
def Rows (ns : List (Nat × Nat × Nat)) (h x p : Nat) : Prop := p < 2 ^ (2 * h) ∧ ∀ s, s < 2 * h → p.testBit s = ev ns (asg s) x

theorem Rows.inj_p {ns : List (Nat × Nat × Nat)} {h x p p' : Nat} (a : Rows ns h x p) (b : Rows ns h x p') : p = p' := by
  refine Nat.eq_of_testBit_eq fun s => ?_
  by_cases c : s < 2 * h
  · rw [a.2 s c, b.2 s c]
  · rw [Nat.testBit_lt_two_pow (Nat.lt_of_lt_of_le a.1 (Nat.pow_le_pow_right (by decide) (by (exact om32 c)))), Nat.testBit_lt_two_pow (Nat.lt_of_lt_of_le b.1 (Nat.pow_le_pow_right (by decide) (by (exact om32 c))))]

/-- each e has a row s of the last letters that agrees with it from i on -/
theorem row_of {i : Nat} (hi : i < 4) (e : Nat → Bool) : ∃ k s, k < 2 ^ i ∧ s < 2 ^ (4 - i) ∧ (∀ j, j < 4 → asg (2 ^ (4 - i) * k + s) j = e j) := by
  obtain ⟨r, hr, h⟩ := rows_env e
  refine ⟨r / 2 ^ (4 - i), r % 2 ^ (4 - i), ?_, Nat.mod_lt _ (Nat.two_pow_pos _), fun j hj => ?_⟩
  · refine Nat.div_lt_of_lt_mul ?_
    rw [← Nat.pow_add, show 4 - i + i = 4 by (exact om33 hi)]; exact hr
  · rw [Nat.div_add_mod]; exact h j hj

theorem Rows.inj_x {B : BD} (I : Inv B) {i x x' p : Nat} (hi : i < 4) (vx : Valid B.nodes i x) (vx' : Valid B.nodes i x') (a : Rows B.nodes (8 / 2 ^ i) x p) (b : Rows B.nodes (8 / 2 ^ i) x' p) : x = x' := by
  refine canon I _ _ _ (Nat.le_refl _) (vx.mono (Nat.zero_le _)) (vx'.mono (Nat.zero_le _)) fun e => ?_
  obtain ⟨k, s, _, hs, h⟩ := row_of hi e
  have agree : ∀ j, i ≤ j → j < 4 → e j = asg s j := fun j h1 h2 => by
    rw [← h j h2, asg_mul hi k hs, if_neg (by (exact om34 h1))]
  rw [ev_indep I.lows vx agree, ev_indep I.lows vx' agree, ← a.2 s (by rw [two_h hi]; exact hs), ← b.2 s (by rw [two_h hi]; exact hs)]

/-- a piece holds the rows of a number that agrees with the root on it -/
theorem piece_rows {B : BD} (I : Inv B) {t root i k x : Nat} (hi : i < 4) (hk : k < 2 ^ i) (T : Tab t fun e => ev B.nodes e root) (vx : Valid B.nodes i x) (e0 : Nat → Bool) (l : Nat) (hl : l ≤ i)
    (h0 : ∀ j, j < i → k.testBit (i - 1 - j) = e0 j) (h : ∀ e, (∀ j, j < l → e j = e0 j) → ev B.nodes e root = ev B.nodes e x) : Rows B.nodes (8 / 2 ^ i) x (pieceN t (8 / 2 ^ i) k) := by
  refine ⟨piece_lt _ _ _, fun s hs => ?_⟩
  rw [piece_bit _ _ _ hs, two_h hi]
  rw [two_h hi] at hs
  have lt : 2 ^ (4 - i) * k + s < 16 := by
    have : 2 ^ (4 - i) * k + s < 2 ^ (4 - i) * 2 ^ i := Nat.lt_of_lt_of_le (Nat.add_lt_add_left hs _) (by rw [← Nat.mul_succ]; exact Nat.mul_le_mul_left _ hk)
    rw [← Nat.pow_add, show 4 - i + i = 4 by (exact om33 hi)] at this; exact this
  rw [T.2 _ lt]
  show ev B.nodes _ root = _
  rw [h _ fun j hj => by rw [asg_mul hi k hs, if_pos (by (exact om35 hl hj))]; exact h0 j (by (exact om35 hl hj))]
  exact ev_indep I.lows vx fun j h1 _ => by rw [asg_mul hi k hs, if_neg (by (exact om34 h1))]

/-- the two halves, of a number's rows -/
theorem rows_halves {ns : List (Nat × Nat × Nat)} {i x p : Nat} (hi : i < 4) (a : Rows ns (8 / 2 ^ i) x p) : p / 2 ^ (8 / 2 ^ i) = p % 2 ^ (8 / 2 ^ i) ↔ ∀ s, s < 2 ^ (3 - i) → ev ns (asg (2 ^ (3 - i) + s)) x = ev ns (asg s) x := by
  rw [halves a.1, ← one_h hi]
  constructor
  · intro h s hs
    rw [← a.2 _ (by (exact om36 hs)), ← a.2 _ (by (exact om37 hs))]; exact h s hs
  · intro h s hs
    rw [a.2 _ (by (exact om36 hs)), a.2 _ (by (exact om37 hs))]; exact h s hs

theorem asg_half {i : Nat} (hi : i < 4) {s : Nat} (hs : s < 2 ^ (3 - i)) (b : Bool) (j : Nat) (h1 : i ≤ j) (h2 : j < 4) : asg ((if b then 2 ^ (3 - i) else 0) + s) j = setB (asg s) i b j := by
  unfold setB
  have key := Nat.testBit_two_pow_mul_add b.toNat hs (3 - j)
  have e : 2 ^ (3 - i) * b.toNat = if b then 2 ^ (3 - i) else 0 := by cases b <;> simp
  rw [e] at key
  show Nat.testBit _ (3 - j) = _
  rw [key]
  by_cases c : j = i
  · subst c
    rw [if_neg (by (exact om38)), if_pos rfl, Nat.sub_self]
    cases b <;> decide
  · rw [if_pos (by (exact om39 h1 h2 c)), if_neg c]; rfl

theorem level_eq {B : BD} (I : Inv B) {t root i : Nat} (hi : i < 4) (hv : Valid B.nodes 0 root) (T : Tab t fun e => ev B.nodes e root) :
    (cnt B.nodes root i (down B.nodes.length B.nodes.length)).length = (seenF t (8 / 2 ^ i) (2 ^ i)).length := by
  have L := I.lows
  have memA : ∀ p, p ∈ cnt B.nodes root i (down B.nodes.length B.nodes.length) ↔ Reach B.nodes root (256 + p) ∧ ∃ lo hi, B.nodes[p]? = some (i, lo, hi) := by
    intro p
    unfold cnt
    rw [List.mem_filter, mem_down (Nat.le_refl _)]
    simp only [Nat.sub_self, Nat.zero_le, true_and, decide_eq_true_eq]
    constructor
    · rintro ⟨hp, r, h⟩
      obtain ⟨v, lo, hi', ep⟩ : ∃ v lo hi, B.nodes[p]? = some (v, lo, hi) := by
        rw [List.getElem?_eq_getElem hp]; exact ⟨_, _, _, rfl⟩
      rw [getD_some ep] at h
      have h : v = i := h
      subst h
      exact ⟨r, lo, hi', ep⟩
    · rintro ⟨r, lo, hi', ep⟩
      exact ⟨(List.getElem?_eq_some_iff.mp ep).1, r, by rw [getD_some ep]⟩
  have valA : ∀ p, p ∈ cnt B.nodes root i (down B.nodes.length B.nodes.length) → Valid B.nodes i (256 + p) := fun p hp => by
    obtain ⟨_, lo, hi', ep⟩ := (memA p).mp hp
    exact .inr ⟨by (exact om5), i, lo, hi', by rw [show 256 + p - 256 = p by (exact om24)]; exact ep, Nat.le_refl _⟩
  refine Nat.le_antisymm ?_ ?_
  · refine len_le (fun p q => Rows B.nodes (8 / 2 ^ i) (256 + p) q) _ _ (List.Pairwise.filter _ (down_nodup (Nat.le_refl _))) (fun p hp => ?_) (fun p hp p' hp' q a b => ?_)
    · obtain ⟨r, lo, hi', ep⟩ := (memA p).mp hp
      have vx := valA p hp
      have ep' : B.nodes[256 + p - 256]? = some (i, lo, hi') := by rw [show 256 + p - 256 = p by (exact om24)]; exact ep
      obtain ⟨e0, l, vl, h⟩ := r.path I hv
      have hl : l ≤ i := by
        rcases vl with q | ⟨_, v', lo', hi2, e', q⟩
        · (exact om40 q)
        · rw [ep'] at e'; cases e'; exact q
      obtain ⟨k, s, hk, hs, hks⟩ := row_of hi e0
      have R := piece_rows I hi hk T vx e0 l hl (fun j hj => by rw [← hks j (by (exact om41 hi hj)), asg_mul hi k hs, if_pos hj]) h
      refine ⟨_, (mem_seen _ _ _ _).mpr ⟨k, hk, rfl, fun eq => ?_⟩, R⟩
      have eq' := (rows_halves hi R).mp eq
      obtain ⟨_, ne, _, _, v1, v2⟩ := I.low _ _ _ _ ep
      refine ne (canon I _ _ _ (Nat.le_refl _) (v1.mono (Nat.zero_le _)) (v2.mono (Nat.zero_le _)) fun e => ?_)
      obtain ⟨k', s', hk', hs', hks'⟩ := row_of hi e
      -- the row of the later letters
      have key : ∀ s'', s'' < 2 ^ (3 - i) → ev B.nodes (asg s'') lo = ev B.nodes (asg s'') hi' := fun s'' h'' => by
        have q := eq' s'' h''
        have t1 : ev B.nodes (asg (2 ^ (3 - i) + s'')) (256 + p) = ev B.nodes (setB (asg s'') i true) (256 + p) := ev_indep L vx fun j a b => asg_half hi h'' true j a b
        have t2 : ev B.nodes (asg s'') (256 + p) = ev B.nodes (setB (asg s'') i false) (256 + p) := ev_indep L vx fun j a b => by
          have := asg_half hi h'' false j a b
          simpa using this
        rw [t1, t2, ev_hi L (by (exact om5)) ep', ev_lo L (by (exact om5)) ep'] at q
        exact q.symm
      have hm : s' % 2 ^ (3 - i) < 2 ^ (3 - i) := Nat.mod_lt _ (Nat.two_pow_pos _)
      have agree : ∀ j, i + 1 ≤ j → j < 4 → e j = asg (s' % 2 ^ (3 - i)) j := fun j a b => by
        rw [← hks' j b, asg_mul hi k' hs', if_neg (by (exact om42 a))]
        unfold asg
        rw [Nat.testBit_mod_two_pow]
        simp [show 3 - j < 3 - i by (exact om43 a b)]
      rw [ev_indep L v1 agree, ev_indep L v2 agree]
      exact key _ hm
    · have := Rows.inj_x I hi (valA p hp) (valA p' hp') a b
      (exact om44 this)
  · refine len_le (fun q p => Rows B.nodes (8 / 2 ^ i) (256 + p) q) _ _ (seen_nodup _ _ _) (fun q hq => ?_) (fun q _ q' _ p a b => a.inj_p b)
    obtain ⟨k, hk, rfl, ne⟩ := (mem_seen _ _ _ _).mp hq
    obtain ⟨x, rx, vx, h⟩ := follow I hv (fun j => k.testBit (i - 1 - j)) i (by (exact om45 hi))
    have R := piece_rows I hi hk T vx _ i (Nat.le_refl _) (fun j hj => rfl) h
    have no : ¬ Valid B.nodes (i + 1) x := fun v => ne ((rows_halves hi R).mpr fun s hs => by
      refine ev_indep L v fun j a b => ?_
      have := asg_half hi hs true j (by (exact om21 a)) b
      simp only [if_true, setB] at this
      rw [this, if_neg (by (exact om46 a))])
    rcases vx with q | ⟨hx, v, lo, hi', ex, q⟩
    · exact (no (.inl q)).elim
    · have : v = i := Decidable.byContradiction fun c => no (.inr ⟨hx, v, lo, hi', ex, by (exact om17 q c)⟩)
      subst this
      refine ⟨x - 256, (memA _).mpr ⟨by rw [show 256 + (x - 256) = x by (exact om25 hx)]; exact rx, lo, hi', ex⟩, ?_⟩
      rw [show 256 + (x - 256) = x by (exact om25 hx)]; exact R

theorem sizes_pieces {B : BD} (I : Inv B) {t root : Nat} (hv : Valid B.nodes 0 root) (T : Tab t fun e => ev B.nodes e root) : sizesF B.nodes root = piecesF t := by
  unfold sizesF
  rw [(sizes_run I root hv.lt _ (Nat.le_refl _)).2]
  have l := fun i hi => level_eq I (i := i) (t := t) hi hv T
  unfold piecesF piecesAt
  refine List.map_congr_left (g := fun j => (seenF t (8 / 2 ^ j) (2 ^ j)).length) fun i hi => ?_
  refine l i ?_
  simp only [List.mem_cons, List.not_mem_nil, or_false] at hi
  (exact om47 hi)
end Mine
end

section
namespace Mine
/-- the chances, as `facts` needs them -/
def Chances : Prop := ∀ (told : List Nat) (B : BD) (t r : Nat), told.length = 9 → Inv B → Valid B.nodes 0 r → (Tab t fun e => ev B.nodes e r) →
  ∃ sg m e, PySem.Float64.decode (endF (valF (levelsF ((told.take 4).map hueF) B.nodes) r)) = .fin sg m e ∧ PySem.Float64.truncOf sg m e = rowsF t ((told.take 4).map weightF)

theorem facts_of (C : Chances) (script : List Int) (h9 : (toldF script).length = 9) : ∃ st1 st2 r1 r2, Facts script st1 st2 r1 r2 := by
  obtain ⟨st1, st2, r1, r2, F⟩ := facts0 script
  exact ⟨st1, st2, r1, r2, {
    len1 := F.len1, prep := F.prep, run1 := F.run1, root1 := F.root1, run2 := F.run2, root2 := F.root2, same := F.same
    tabs := ⟨F.tab1.1, F.tab2.1⟩
    nodes := F.inv.size
    low := fun i t h => by
      obtain ⟨l, lo, hi⟩ := t
      obtain ⟨a, _, b, c, _, _⟩ := F.inv.low _ _ _ _ h
      exact ⟨a, b, c⟩
    roots := ⟨F.val.1.lt, F.val.2.lt⟩
    sizes := ⟨sizes_pieces F.inv F.val.1 F.tab1, sizes_pieces F.inv F.val.2 F.tab2⟩
    chance1 := C _ _ _ _ h9 F.inv F.val.1 F.tab1
    chance2 := C _ _ _ _ h9 F.inv F.val.2 F.tab2 }⟩
end Mine
end

section
namespace Mine
open PySem PySem.Float64

theorem rep (q : Nat) (hq : q ≤ 2 ^ 53) : ∀ k, ∃ t, Float64.V t = q * 2 ^ k
  | 0 => ⟨0 * 2 ^ 52 + q, V_at (k := 0) hq (.inr rfl)⟩
  | k + 1 => by
    by_cases c : 2 ^ 52 ≤ q
    · exact ⟨_, V_at hq (.inl c)⟩
    · obtain ⟨t, ht⟩ := rep (2 * q) (by (exact om48 c)) k
      exact ⟨t, by rw [ht, Nat.pow_succ]; ac_rfl⟩

theorem big_lt {k : Nat} (hk : k ≤ 1100) : 2 * 2 ^ (k + 53) < (2 ^ 54 - 1) * 2 ^ 2045 := by
  have : 2 ^ (k + 53) ≤ 2 ^ 1153 := Nat.pow_le_pow_right (by decide) (by (exact om49 hk))
  have : 2 * 2 ^ 1153 < (2 ^ 54 - 1) * 2 ^ 2045 := by decide +kernel
  omega

theorem no_over {D W Y X : Nat} (hY : 2 * Y < X) (hD : 0 < D) (hW : W ≤ D * Y) (h : D * X ≤ 2 * W) : False := by
  have h2 := Nat.mul_lt_mul_of_pos_left hY hD
  have h3 : D * (2 * Y) = 2 * (D * Y) := Nat.mul_left_comm _ _ _
  (exact om51 hW h h2 h3)
/-- what a rounded result is near -/
theorem round_core {r : UInt64} {sg : Bool} {W D k : Nat} (hD : 0 < D) (h : Right r sg W D) (hW : W ≤ D * 2 ^ (k + 53)) (hk : k ≤ 1100) :
    (∃ m e, decode r = .fin sg m e) ∧ ∃ v, val r = sgn sg v ∧ W ≤ D * v + D * 2 ^ k ∧ D * v ≤ W + D * 2 ^ k := by
  obtain ⟨t, rfl, le, ov, nr⟩ := h
  have hlt : t < infMag := by
    rcases Nat.lt_or_eq_of_le le with q | q
    · exact q
    · exact (no_over (big_lt hk) hD hW (ov.mp q)).elim
  obtain ⟨m, e, hd, _⟩ := decode_pack sg hlt
  refine ⟨⟨m, e, hd⟩, Float64.V t, val_pack sg hlt, ?_⟩
  have hG : 0 < D * 2 ^ k := Nat.mul_pos hD (Nat.two_pow_pos _)
  have hq : W / (D * 2 ^ k) ≤ 2 ^ 53 := by
    refine Nat.div_le_of_le_mul ?_
    rw [Nat.mul_assoc, ← Nat.pow_add]; exact hW
  obtain ⟨t', ht'⟩ := rep (W / (D * 2 ^ k)) hq k
  have h1 := (nr hlt t').1
  rw [ht'] at h1
  have h2 : D * (W / (D * 2 ^ k) * 2 ^ k) = D * 2 ^ k * (W / (D * 2 ^ k)) := by ac_rfl
  rw [h2] at h1
  have h3 := Nat.div_add_mod W (D * 2 ^ k)
  have h4 := Nat.mod_lt W hG
  generalize D * 2 ^ k * (W / (D * 2 ^ k)) = X at *
  generalize D * 2 ^ k = G at *
  generalize D * Float64.V t = Y at *
  unfold dist at h1
  (exact om52 h4 h3 h1)

/-- a unit of 2^-60 -/
def U : Int := 2 ^ 1014
theorem U_pos : 0 < U := by unfold U; decide +kernel
structure Near (x : UInt64) (c E : Int) : Prop where
  fin : ∃ a m e, decode x = .fin a m e
  lo : (c - E) * U ≤ val x
  hi : val x ≤ (c + E) * U

theorem near_zero (b : Bool) : Near (zero b) 0 0 := by
  have : ∃ m e, decode (zero b) = .fin b m e ∧ val (zero b) = 0 := by
    obtain ⟨m, e, hd, hv⟩ := decode_pack b (t := 0) (by decide)
    refine ⟨m, e, hd, ?_⟩
    have := val_pack b (t := 0) (by decide)
    rw [V_zero] at this
    rw [show zero b = pack b 0 from rfl, this]
    cases b <;> rfl
  obtain ⟨m, e, hd, hv⟩ := this
  exact ⟨⟨b, m, e, hd⟩, by rw [hv]; simp, by rw [hv]; simp⟩

theorem sgn_abs (z : Int) (v : Nat) (g W : Nat) (h1 : z.natAbs ≤ v + g) (h2 : v ≤ z.natAbs + g) : z - g ≤ sgn (decide (z < 0)) v ∧ sgn (decide (z < 0)) v ≤ z + g := by
  unfold sgn
  by_cases c : z < 0
  · simp only [c, decide_true, if_true]; (exact om53 h1 h2 c)
  · simp only [c, decide_false]; simp; (exact om54 h1 h2 c)

theorem U_cast : ((2 ^ 1024 : Nat) : Int) = 1024 * U := by unfold U; decide +kernel
theorem U_top : ((2 ^ (1024 + 53) : Nat) : Int) = 2 ^ 63 * U := by unfold U; decide +kernel

theorem Near.add {x y : UInt64} {c E d F : Int} (hx : Near x c E) (hy : Near y d F) (h1 : -(2 ^ 63) ≤ c + d - (E + F)) (h2 : c + d + (E + F) ≤ 2 ^ 63) : Near (Float64.add x y) (c + d) (E + F + 1024) := by
  obtain ⟨a, m, e, dx⟩ := hx.fin
  obtain ⟨b, k, f, dy⟩ := hy.fin
  obtain ⟨z0, z1⟩ := add_right dx dy
  have l := hx.lo
  have r := hx.hi
  have l' := hy.lo
  have r' := hy.hi
  have up := U_pos
  have lo : (c + d - (E + F)) * U ≤ val x + val y := by
    have : (c + d - (E + F)) * U = (c - E) * U + (d - F) * U := by rw [← Int.add_mul]; congr 1; (exact om55)
    (exact om56 l l' this)
  have hi : val x + val y ≤ (c + d + (E + F)) * U := by
    have : (c + d + (E + F)) * U = (c + E) * U + (d + F) * U := by rw [← Int.add_mul]; congr 1; (exact om57)
    (exact om58 r r' this)
  have e1 : (c + d - (E + F + 1024)) * U = (c + d - (E + F)) * U - 1024 * U := by rw [← Int.sub_mul]; congr 1; (exact om59)
  have e2 : (c + d + (E + F + 1024)) * U = (c + d + (E + F)) * U + 1024 * U := by rw [← Int.add_mul]; congr 1; (exact om60)
  by_cases hz : val x + val y = 0
  · rw [z0 hz]
    obtain ⟨fz, lz, hz'⟩ := near_zero (a && b)
    simp at lz hz'
    refine ⟨fz, ?_, ?_⟩
    · rw [e1]; (exact om61 up lo hz lz)
    · rw [e2]; (exact om62 up hi hz hz')
  · have bnd : (val x + val y).natAbs ≤ 1 * 2 ^ (1024 + 53) := by
      have a1 := Int.mul_le_mul_of_nonneg_right h1 (Int.le_of_lt up)
      have a2 := Int.mul_le_mul_of_nonneg_right h2 (Int.le_of_lt up)
      have t := U_top
      have : -(2 ^ 63) * U = -(2 ^ 63 * U) := Int.neg_mul _ _
      rw [this] at a1
      generalize (2 : Nat) ^ (1024 + 53) = T at *
      generalize (2 : Int) ^ 63 * U = T' at *
      (exact om63 lo hi a1 a2 t)
    obtain ⟨⟨m', e', d'⟩, v, hv, g1, g2⟩ := round_core (by decide) (z1 hz) bnd (by decide)
    simp only [Nat.one_mul] at g1 g2
    have := sgn_abs (val x + val y) v (2 ^ 1024) 0 g1 g2
    rw [U_cast] at this
    refine ⟨⟨_, m', e', d'⟩, ?_, ?_⟩
    · rw [hv, e1]; (exact om64 lo this)
    · rw [hv, e2]; (exact om65 hi this)

theorem Near.neg {y : UInt64} {d F : Int} (hy : Near y d F) : Near (Float64.neg y) (-d) F := by
  obtain ⟨b, k, f, dy⟩ := hy.fin
  have l' := hy.lo
  have r' := hy.hi
  have e1 : (-d - F) * U = -((d + F) * U) := by rw [← Int.neg_mul]; congr 1; (exact om66)
  have e2 : (-d + F) * U = -((d - F) * U) := by rw [← Int.neg_mul]; congr 1; (exact om67)
  refine ⟨⟨_, _, _, neg_decode dy⟩, ?_, ?_⟩
  · rw [neg_val dy, e1]; (exact om68 r')
  · rw [neg_val dy, e2]; (exact om68 l')
theorem Near.sub {x y : UInt64} {c E d F : Int} (hx : Near x c E) (hy : Near y d F) (h1 : -(2 ^ 63) ≤ c - d - (E + F)) (h2 : c - d + (E + F) ≤ 2 ^ 63) : Near (Float64.sub x y) (c - d) (E + F + 1024) := by
  have := Near.add hx hy.neg (by (exact om69 h1)) (by (exact om70 h2))
  rw [← Int.sub_eq_add_neg] at this
  unfold Float64.sub
  exact this
end Mine
end

section
namespace Mine
open PySem PySem.Float64

theorem abs_mul_le {a b A B : Int} (h1 : -A ≤ a) (h2 : a ≤ A) (h3 : -B ≤ b) (h4 : b ≤ B) : -(A * B) ≤ a * b ∧ a * b ≤ A * B := by
  have hA : a.natAbs ≤ A.toNat := by (exact om71 h1 h2)
  have hB : b.natAbs ≤ B.toNat := by (exact om71 h3 h4)
  have h := Nat.mul_le_mul hA hB
  rw [← Int.natAbs_mul] at h
  have e : ((A.toNat * B.toNat : Nat) : Int) = A * B := by
    rw [Int.natCast_mul, Int.toNat_of_nonneg (by (exact om72 h1 h2)), Int.toNat_of_nonneg (by (exact om72 h3 h4))]
  (exact om73 h e)

/-- a product of two that are near -/
theorem mul_near {X Y c d E F g C D G K u : Int} (hu : 0 ≤ u) (x1 : (c - E) * u ≤ X) (x2 : X ≤ (c + E) * u) (y1 : (d - F) * u ≤ Y) (y2 : Y ≤ (d + F) * u)
    (c1 : -C ≤ c - E) (c2 : c + E ≤ C) (d1 : -D ≤ d) (d2 : d ≤ D) (g1 : -G ≤ c * d - g * 2 ^ 60) (g2 : c * d - g * 2 ^ 60 ≤ G) (hK : C * F + E * D + G ≤ K * 2 ^ 60) :
    (g - K) * 2 ^ 60 * (u * u) ≤ X * Y ∧ X * Y ≤ (g + K) * 2 ^ 60 * (u * u) := by
  have a1 : -(C * u) ≤ X := by
    have := Int.mul_le_mul_of_nonneg_right c1 hu
    rw [Int.neg_mul] at this; (exact om74 x1 this)
  have a2 : X ≤ C * u := Int.le_trans x2 (Int.mul_le_mul_of_nonneg_right c2 hu)
  have q1 : -(F * u) ≤ Y - d * u := by rw [Int.sub_mul] at y1; (exact om75 y1)
  have q2 : Y - d * u ≤ F * u := by rw [Int.add_mul] at y2; (exact om76 y2)
  have p1 : -(E * u) ≤ X - c * u := by rw [Int.sub_mul] at x1; (exact om75 x1)
  have p2 : X - c * u ≤ E * u := by rw [Int.add_mul] at x2; (exact om76 x2)
  have b1 : -(D * u) ≤ d * u := by
    have := Int.mul_le_mul_of_nonneg_right d1 hu
    rw [Int.neg_mul] at this; exact this
  have b2 : d * u ≤ D * u := Int.mul_le_mul_of_nonneg_right d2 hu
  have m1 := abs_mul_le a1 a2 q1 q2
  have m2 := abs_mul_le p1 p2 b1 b2
  have uu : 0 ≤ u * u := Int.mul_nonneg hu hu
  have k := Int.mul_le_mul_of_nonneg_right hK uu
  have k1 := Int.mul_le_mul_of_nonneg_right g1 uu
  have k2 := Int.mul_le_mul_of_nonneg_right g2 uu
  have e : X * Y = X * (Y - d * u) + (X - c * u) * (d * u) + c * d * (u * u) := by
    rw [Int.mul_sub, Int.sub_mul]
    have : c * u * (d * u) = c * d * (u * u) := by ac_rfl
    (exact om77 this)
  have e1 : C * u * (F * u) = C * F * (u * u) := by ac_rfl
  have e2 : E * u * (D * u) = E * D * (u * u) := by ac_rfl
  rw [e1] at m1
  rw [e2] at m2
  rw [Int.add_mul, Int.add_mul] at k
  rw [Int.neg_mul, Int.sub_mul] at k1
  rw [Int.sub_mul] at k2
  have f1 : (g - K) * 2 ^ 60 * (u * u) = g * 2 ^ 60 * (u * u) - K * 2 ^ 60 * (u * u) := by rw [Int.sub_mul, Int.sub_mul]
  have f2 : (g + K) * 2 ^ 60 * (u * u) = g * 2 ^ 60 * (u * u) + K * 2 ^ 60 * (u * u) := by rw [Int.add_mul, Int.add_mul]
  rw [f1, f2]
  (exact om78 m1 m2 k k1 k2 e)

theorem sgn_prod (a b : Bool) (M N : Nat) : sgn (a != b) (M * N) = sgn a M * sgn b N := by
  unfold sgn
  cases a <;> cases b <;> simp [Int.mul_neg, Int.neg_mul]

/-- S v within G of W, with a sign -/
theorem sgn_near {s : Bool} {W v : Nat} {S G : Nat} (h1 : W ≤ S * v + G) (h2 : S * v ≤ W + G) : (sgn s W : Int) - G ≤ S * sgn s v ∧ S * sgn s v ≤ sgn s W + G := by
  unfold sgn
  cases s
  · simp only [Bool.false_eq_true, if_false]
    rw [← Int.natCast_mul]; (exact om79 h1 h2)
  · simp only [if_true]
    rw [Int.mul_neg, ← Int.natCast_mul]; (exact om80 h1 h2)

theorem aux_mul (z p u : Int) : z * p * (u * u) = p * u * (z * u) := by ac_rfl
theorem S_U : ((2 ^ 1074 : Nat) : Int) = 2 ^ 60 * U := by unfold U; decide +kernel
theorem S_pos : (0 : Int) < ((2 ^ 1074 : Nat) : Int) := by decide +kernel

theorem Near.mul {x y : UInt64} {c E d F g C D G K : Int} (hx : Near x c E) (hy : Near y d F) (c1 : -C ≤ c - E) (c2 : c + E ≤ C) (d1 : -D ≤ d) (d2 : d ≤ D) (g1 : -G ≤ c * d - g * 2 ^ 60) (g2 : c * d - g * 2 ^ 60 ≤ G)
    (hK : C * F + E * D + G ≤ K * 2 ^ 60) (h1 : -(2 ^ 63) ≤ g - K) (h2 : g + K ≤ 2 ^ 63) : Near (Float64.mul x y) g (K + 1024) := by
  obtain ⟨a, m, e, dx⟩ := hx.fin
  obtain ⟨b, k, f, dy⟩ := hy.fin
  have R := mul_right dx dy
  have up := U_pos
  have N := mul_near (Int.le_of_lt up) hx.lo hx.hi hy.lo hy.hi c1 c2 d1 d2 g1 g2 hK
  have sg : sgn (a != b) ((val x).natAbs * (val y).natAbs) = val x * val y := by
    rw [sgn_prod, val_natAbs dx, val_natAbs dy, ← val_eq dx, ← val_eq dy]
  have uu : 0 ≤ U * U := Int.mul_nonneg (Int.le_of_lt up) (Int.le_of_lt up)
  have s := S_U
  have e1 : ∀ z : Int, z * 2 ^ 60 * (U * U) = ((2 ^ 1074 : Nat) : Int) * (z * U) := fun z => by rw [s]; exact aux_mul _ _ _
  rw [e1, e1] at N
  have t1 : (val x * val y).natAbs ≤ 2 ^ 1074 * 2 ^ (1024 + 53) := by
    have a1 := Int.mul_le_mul_of_nonneg_left (Int.mul_le_mul_of_nonneg_right h1 (Int.le_of_lt up)) (Int.le_of_lt S_pos)
    have a2 := Int.mul_le_mul_of_nonneg_left (Int.mul_le_mul_of_nonneg_right h2 (Int.le_of_lt up)) (Int.le_of_lt S_pos)
    have t : ((2 ^ 1074 * 2 ^ (1024 + 53) : Nat) : Int) = ((2 ^ 1074 : Nat) : Int) * (2 ^ 63 * U) := by rw [Int.natCast_mul, U_top]
    rw [Int.neg_mul, Int.mul_neg] at a1
    rw [← t] at a1 a2
    generalize (2 : Nat) ^ 1074 * 2 ^ (1024 + 53) = T at *
    (exact om81 N a1 a2)
  rw [Int.natAbs_mul] at t1
  obtain ⟨⟨m', e', d'⟩, v, hv, r1, r2⟩ := round_core (Nat.two_pow_pos _) R t1 (by decide)
  have z := sgn_near (s := (a != b)) r1 r2
  rw [sg] at z
  have gg : ((2 ^ 1074 * 2 ^ 1024 : Nat) : Int) = ((2 ^ 1074 : Nat) : Int) * (1024 * U) := by rw [Int.natCast_mul, U_cast]
  rw [gg, ← hv] at z
  refine ⟨⟨_, m', e', d'⟩, ?_, ?_⟩
  · refine Int.le_of_mul_le_mul_left ?_ S_pos
    have : ((2 ^ 1074 : Nat) : Int) * ((g - (K + 1024)) * U) = ((2 ^ 1074 : Nat) : Int) * ((g - K) * U) - ((2 ^ 1074 : Nat) : Int) * (1024 * U) := by
      rw [← Int.mul_sub, ← Int.sub_mul]; congr 2; (exact om82)
    rw [this]; (exact om83 N z)
  · refine Int.le_of_mul_le_mul_left ?_ S_pos
    have : ((2 ^ 1074 : Nat) : Int) * ((g + (K + 1024)) * U) = ((2 ^ 1074 : Nat) : Int) * ((g + K) * U) + ((2 ^ 1074 : Nat) : Int) * (1024 * U) := by
      rw [← Int.mul_add, ← Int.add_mul]; congr 2; (exact om84)
    rw [this]; (exact om85 N z)
end Mine
end

section
namespace Mine
open PySem PySem.Float64

def nearOk (f : UInt64) (w : Nat) : Bool := (match decode f with | .fin .. => true | _ => false) && decide ((((w * 2 ^ 60 / 192 : Nat) : Int) - 2048) * U ≤ val f) && decide (val f ≤ (((w * 2 ^ 60 / 192 : Nat) : Int) + 2048) * U)
def clsOk (code : Nat) : Bool :=
  let h := (Float64.divmod (hueF code) 0x3ff0000000000000).2
  let w := weightF code
  if Float64.cmp h oneSixth == some .lt then nearOk h w
  else if Float64.cmp h 0x3fe0000000000000 == some .lt then w == 32
  else if Float64.cmp h twoThird == some .lt then nearOk (Float64.sub twoThird h) w
  else w == 0
theorem cls_all : (List.range 320).all clsOk = true := by decide +kernel
theorem hue_mod (code : Nat) : hueF (code % 320) = hueF code := by
  unfold hueF
  rw [show code % 320 % 64 = code % 64 by (exact om86), show code % 320 / 64 % 5 = code / 64 % 5 by (exact om87)]
theorem weight_mod (code : Nat) : weightF (code % 320) = weightF code := by
  unfold weightF
  rw [show code % 320 % 64 = code % 64 by (exact om86)]
theorem cls_ok (code : Nat) : clsOk code = true := by
  have := List.all_eq_true.mp cls_all (code % 320) (List.mem_range.mpr (by (exact om88)))
  unfold clsOk at this
  rw [hue_mod, weight_mod] at this
  exact this
theorem near_of {f : UInt64} {w : Nat} (h : nearOk f w = true) : Near f ((w * 2 ^ 60 / 192 : Nat) : Int) 2048 := by
  unfold nearOk at h
  simp only [Bool.and_eq_true] at h
  obtain ⟨⟨h1, h2⟩, h3⟩ := h
  refine ⟨?_, of_decide_eq_true h2, of_decide_eq_true h3⟩
  cases hd : decode f with
  | fin a m e => exact ⟨a, m, e, rfl⟩
  | inf _ => rw [hd] at h1; cases h1
  | nan => rw [hd] at h1; cases h1

theorem Near.wide {x : UInt64} {c c' E E' : Int} (h : Near x c E) (h1 : c' - E' ≤ c - E) (h2 : c + E ≤ c' + E') : Near x c' E' :=
  ⟨h.fin, Int.le_trans (Int.mul_le_mul_of_nonneg_right h1 (Int.le_of_lt U_pos)) h.lo, Int.le_trans h.hi (Int.mul_le_mul_of_nonneg_right h2 (Int.le_of_lt U_pos))⟩

theorem near_lit {f : UInt64} {c E : Int} (h1 : (match decode f with | .fin .. => true | _ => false) = true) (h2 : (c - E) * U ≤ val f) (h3 : val f ≤ (c + E) * U) : Near f c E := by
  refine ⟨?_, h2, h3⟩
  cases hd : decode f with
  | fin a m e => exact ⟨a, m, e, rfl⟩
  | inf _ => rw [hd] at h1; cases h1
  | nan => rw [hd] at h1; cases h1
theorem six : Near 0x4018000000000000 (6 * 2 ^ 60) 0 := by
  exact near_lit (by decide +kernel) (by decide +kernel) (by decide +kernel)

theorem mix_near {m1 m2 f : UInt64} {a b T e : Int} {w : Nat} (h1 : Near m1 a e) (h2 : Near m2 b e) (hf : Near f ((w * 2 ^ 60 / 192 : Nat) : Int) 2048) (hw : w ≤ 32)
    (e0 : 0 ≤ e) (e1 : e ≤ 2 ^ 30) (a0 : 0 ≤ a) (a1 : a ≤ 2 ^ 60) (b0 : 0 ≤ b) (b1 : b ≤ 2 ^ 60) (hT : 32 * T = (32 - w) * a + w * b) :
    Near (Float64.add m1 (Float64.mul (Float64.mul (Float64.sub m2 m1) f) 0x4018000000000000)) T (13 * e + 50000) := by
  generalize hc : w * 2 ^ 60 / 192 = c at hf
  have c1 : 192 * c ≤ w * 2 ^ 60 := by (exact om89 hc)
  have c2 : w * 2 ^ 60 < 192 * c + 192 := by (exact om90 hc)
  have c3 : (c : Int) ≤ 2 ^ 58 := by (exact om91 hw hc)
  have n1 := Near.sub h2 h1 (by (exact om92 e1 a1 b0)) (by (exact om93 e1 a0 b1))
  have k1 := Int.emod_add_mul_ediv ((b - a) * c) (2 ^ 60)
  have k2 := Int.emod_nonneg ((b - a) * c) (show (2 : Int) ^ 60 ≠ 0 by decide)
  have k3 := Int.emod_lt_of_pos ((b - a) * c) (show (0 : Int) < 2 ^ 60 by decide)
  generalize (b - a) * c % 2 ^ 60 = r at k1 k2 k3
  generalize hg : (b - a) * c / 2 ^ 60 = g at k1
  have m := abs_mul_le (a := b - a) (b := (c : Int)) (A := 2 ^ 60) (B := 2 ^ 58) (by (exact om94 a1 b0)) (by (exact om95 a0 b1)) (by (exact om96)) (by (exact om97 c3))
  have gb : -(2 ^ 58) - 1 ≤ g ∧ g ≤ 2 ^ 58 := by (exact om98 k2 k3 k1 m)
  have n2 := Near.mul (g := g) (C := 2 ^ 61) (D := 2 ^ 58) (G := 2 ^ 60) (K := 2 * e + 6000) n1 hf (by (exact om99 e1 a1 b0)) (by (exact om100 e1 a0 b1)) (by (exact om96)) (by (exact om97 c3)) (by (exact om101 k2 k1)) (by (exact om102 k3 k1)) (by (exact om103 e0)) (by (exact om104 e1 gb)) (by (exact om105 e1 gb))
  have n3 := Near.mul (g := 6 * g) (C := 2 ^ 61) (D := 6 * 2 ^ 60) (G := 0) (K := 6 * (2 * e + 6000 + 1024)) n2 six (by (exact om106 e1 gb)) (by (exact om107 e1 gb)) (by (exact om108)) (by (exact om109)) (by (exact om110)) (by (exact om111)) (by (exact om112)) (by (exact om113 e1 gb)) (by (exact om114 e1 gb))
  have n4 := Near.add h1 n3 (by (exact om115 e1 a0 gb)) (by (exact om116 e1 a1 gb))
  -- the sum is near T
  have t1 := abs_mul_le (a := b - a) (b := 192 * (c : Int) - w * 2 ^ 60) (A := 2 ^ 60) (B := 192) (by (exact om94 a1 b0)) (by (exact om95 a0 b1)) (by (exact om117 hc)) (by (exact om118 hc))
  have t2 : (b - a) * (192 * (c : Int) - w * 2 ^ 60) = 192 * ((b - a) * c) - 2 ^ 60 * (w * (b - a)) := by
    rw [Int.mul_sub]
    have u1 : (b - a) * (192 * (c : Int)) = 192 * ((b - a) * c) := by ac_rfl
    have u2 : (b - a) * ((w : Int) * 2 ^ 60) = 2 ^ 60 * (w * (b - a)) := by ac_rfl
    rw [u1, u2]
  have t3 : 32 * T = 32 * a + w * (b - a) := by
    rw [hT, Int.sub_mul, Int.mul_sub]; (exact om119)
  rw [t2] at t1
  generalize (b - a) * c = P at *
  generalize (w : Int) * (b - a) = Q at *
  refine n4.wide ?_ ?_ <;> (first | exact om120 hg t3 t1 | exact om121 hg t3 t1)

theorem vF_near {m1 m2 : UInt64} {a b T e : Int} (code : Nat) (h1 : Near m1 a e) (h2 : Near m2 b e)
    (e0 : 0 ≤ e) (e1 : e ≤ 2 ^ 30) (a0 : 0 ≤ a) (a1 : a ≤ 2 ^ 60) (b0 : 0 ≤ b) (b1 : b ≤ 2 ^ 60) (hT : 32 * T = (32 - weightF code) * a + weightF code * b) :
    Near (vF m1 m2 (hueF code)) T (13 * e + 50000) := by
  have k := cls_ok code
  have hw := weightF_le code
  unfold clsOk at k
  simp only at k
  unfold vF
  simp only
  split at k
  · next q =>
    rw [if_pos q]
    exact mix_near h1 h2 (near_of k) hw e0 e1 a0 a1 b0 b1 hT
  · next q =>
    rw [if_neg q]
    split at k
    · next q =>
      rw [if_pos q]
      have : weightF code = 32 := of_decide_eq_true k
      rw [this] at hT
      refine h2.wide ?_ ?_ <;> omega
    · next q =>
      rw [if_neg q]
      split at k
      · next q =>
        rw [if_pos q]
        exact mix_near h1 h2 (near_of k) hw e0 e1 a0 a1 b0 b1 hT
      · next q =>
        rw [if_neg q]
        have : weightF code = 0 := of_decide_eq_true k
        rw [this] at hT
        refine h1.wide ?_ ?_ <;> omega
end Mine
end

section
namespace Mine
open PySem PySem.Float64

def errR : Nat → Int
  | 0 => 0
  | n + 1 => 13 * errR n + 50000
def Er (l : Nat) : Int := errR (4 - l)
theorem er_bounds : ∀ n, n ≤ 4 → 0 ≤ errR n ∧ errR n ≤ 2 ^ 30
  | 0, _ => by decide
  | 1, _ => by decide
  | 2, _ => by decide
  | 3, _ => by decide
  | 4, _ => by decide
theorem er_succ {v : Nat} (h : v < 4) : Er v = 13 * Er (v + 1) + 50000 := by
  unfold Er
  rw [show 4 - v = (4 - (v + 1)) + 1 by (exact om122 h)]; rfl
theorem er_mono {l v : Nat} (h : l ≤ v) (hv : v ≤ 4) : Er v ≤ Er l := by
  have : ∀ a, a < 5 → ∀ b, b < 5 → a ≤ b → Er b ≤ Er a := by decide
  exact this l (by (exact om123 h hv)) v (by (exact om124 hv)) h

theorem near_term {x : Nat} (h : x < 2) : Near (Float64.ofInt (x : Int)) ((x : Int) * 2 ^ 60) 0 := by
  match x, h with
  | 0, _ => exact near_lit (by decide +kernel) (by decide +kernel) (by decide +kernel)
  | 1, _ => exact near_lit (by decide +kernel) (by decide +kernel) (by decide +kernel)

/-- the exact values, and the floats near them -/
structure Exact (B : BD) (codes : List Nat) (A : Nat → Int) : Prop where
  term : ∀ x, x < 2 → A x = (x : Int) * 2 ^ 60
  node : ∀ (i v lo hi : Nat), B.nodes[i]? = some (v, lo, hi) → 32 * A (256 + i) = (32 - weightF (codes.getD v 0)) * A lo + weightF (codes.getD v 0) * A hi
  range : ∀ x, Valid B.nodes 0 x → 0 ≤ A x ∧ A x ≤ 2 ^ 60

theorem levels_near {B : BD} (I : Inv B) {codes : List Nat} (h4 : codes.length = 4) {A : Nat → Int} (X : Exact B codes A) : ∀ i, i ≤ B.nodes.length → ∀ l x, l ≤ 4 → Valid B.nodes l x → x < 256 + i →
    Near (valF (levelsF (codes.map hueF) (B.nodes.take i)) x) (A x) (Er l) := by
  intro i
  induction i with
  | zero =>
    intro hi l x hl vx hlt
    rcases vx with q | ⟨hx, v, lo, hi', ex, q⟩
    · unfold valF
      rw [if_pos (by (exact om125 hlt)), X.term x q]
      have := er_bounds (4 - l) (by (exact om126))
      refine (near_term q).wide ?_ ?_ <;> unfold Er <;> (first | exact om127 this | exact om128 this)
    · (exact (om129 hlt hx).elim)
  | succ i IH =>
    intro hi l x hl vx hlt
    rcases vx with q | ⟨hx, v, lo, hi', ex, q⟩
    · unfold valF
      rw [if_pos (by (exact om130 q)), X.term x q]
      have := er_bounds (4 - l) (by (exact om126))
      refine (near_term q).wide ?_ ?_ <;> unfold Er <;> (first | exact om127 this | exact om128 this)
    · by_cases c : x < 256 + i
      · have ih := IH (by (exact om21 hi)) l x hl (.inr ⟨hx, v, lo, hi', ex, q⟩) c
        obtain ⟨t, ht⟩ : ∃ t, B.nodes[i]? = some t := ⟨_, List.getElem?_eq_getElem (by (exact om131 hi))⟩
        rw [levelsF_take _ _ _ _ ht]
        unfold valF at ih ⊢
        rw [if_neg (by (exact om132 hx))] at ih ⊢
        unfold levelsStep
        rw [List.getD_eq_getElem?_getD, List.getElem?_append_left (by rw [levelsF_len, List.length_take]; (exact om133 hi hx c)), ← List.getD_eq_getElem?_getD]
        exact ih
      · obtain rfl : x = 256 + i := by (exact om134 hlt c)
        rw [show 256 + i - 256 = i by (exact om24)] at ex
        obtain ⟨v4, _, b1, b2, v1, v2⟩ := I.low _ _ _ _ ex
        have n1 := IH (by (exact om21 hi)) (v + 1) lo (by (exact om135 v4)) v1 (by (exact om136 b1))
        have n2 := IH (by (exact om21 hi)) (v + 1) hi' (by (exact om135 v4)) v2 (by (exact om136 b2))
        have r1 := X.range lo (v1.mono (Nat.zero_le _))
        have r2 := X.range hi' (v2.mono (Nat.zero_le _))
        have eb := er_bounds (4 - (v + 1)) (by (exact om137))
        have n := vF_near (codes.getD v 0) n1 n2 eb.1 eb.2 r1.1 r1.2 r2.1 r2.2 (X.node _ _ _ _ ex)
        rw [levelsF_take _ _ _ _ ex]
        have e : valF (levelsStep (codes.map hueF) (levelsF (codes.map hueF) (B.nodes.take i)) (v, lo, hi')) (256 + i) = vF (valF (levelsF (codes.map hueF) (B.nodes.take i)) lo) (valF (levelsF (codes.map hueF) (B.nodes.take i)) hi') (hueF (codes.getD v 0)) := by
          conv => lhs; unfold valF
          rw [if_neg (by (exact om138))]
          unfold levelsStep
          have len : (levelsF (codes.map hueF) (B.nodes.take i)).length = i := by rw [levelsF_len, List.length_take]; (exact om139 hi)
          rw [List.getD_eq_getElem?_getD, List.getElem?_append_right (by (exact om140 len)), len, show 256 + i - 256 - i = 0 by (exact om141)]
          show vF _ _ ((codes.map hueF).getD v 0) = _
          congr 1
          rw [List.getD_eq_getElem?_getD, List.getElem?_map, List.getD_eq_getElem?_getD, List.getElem?_eq_getElem (by (exact om142 h4 v4))]
          rfl
        rw [e]
        have s := er_succ v4
        have m := er_mono q (by (exact om45 v4))
        refine n.wide ?_ ?_ <;> unfold Er at * <;> (first | exact om143 s m | exact om144 s m)
end Mine
end

section
namespace Mine
open PySem PySem.Float64

theorem floor_is {m : Nat} {e : Int} {n : Nat} (he : -1074 ≤ e) (h1 : n * 2 ^ 1074 ≤ m * 2 ^ (e + 1074).toNat) (h2 : m * 2 ^ (e + 1074).toNat < (n + 1) * 2 ^ 1074) : truncOf false m e = n := by
  unfold truncOf floorOf sgn
  simp only [Bool.false_eq_true, if_false]
  split
  · next h =>
    have e1 : (e + 1074).toNat = e.toNat + 1074 := by (exact om145 h)
    rw [e1, Nat.pow_add, ← Nat.mul_assoc] at h1 h2
    have a := Nat.le_of_mul_le_mul_right h1 (Nat.two_pow_pos _)
    have b := Nat.lt_of_mul_lt_mul_right h2
    have : m * 2 ^ e.toNat = n := by (exact om146 h1 h2)
    rw [← this, Int.natCast_mul, Int.natCast_pow]
    rfl
  · next h =>
    have e1 : (1074 : Nat) = (-e).toNat + (e + 1074).toNat := by (exact om147 he h)
    have e2 : (2 : Nat) ^ 1074 = 2 ^ (-e).toNat * 2 ^ (e + 1074).toNat := by rw [← Nat.pow_add, ← e1]
    rw [e2, ← Nat.mul_assoc] at h1 h2
    have a := Nat.le_of_mul_le_mul_right h1 (Nat.two_pow_pos _)
    have b := Nat.lt_of_mul_lt_mul_right h2
    have d : m / 2 ^ (-e).toNat = n := by
      refine Nat.le_antisymm (Nat.lt_succ_iff.mp ?_) ?_
      · exact (Nat.div_lt_iff_lt_mul (Nat.two_pow_pos _)).mpr b
      · exact (Nat.le_div_iff_mul_le (Nat.two_pow_pos _)).mpr a
    have p : (2 : Int) ^ (-e).toNat = ((2 ^ (-e).toNat : Nat) : Int) := by rw [Int.natCast_pow]; rfl
    rw [p, Int.fdiv_eq_ediv_of_nonneg _ (Int.natCast_nonneg _), ← Int.natCast_ediv, d]

theorem lit_fin {f : UInt64} (h : (match decode f with | .fin false _ _ => true | _ => false) = true) : ∃ m e, decode f = .fin false m e := by
  cases hd : decode f with
  | fin a m e =>
    cases a with
    | false => exact ⟨m, e, rfl⟩
    | true => rw [hd] at h; cases h
  | inf _ => rw [hd] at h; cases h
  | nan => rw [hd] at h; cases h

def u2 : Int := 2 ^ 1034
theorem u2_U : 2 ^ 20 * U = u2 := by unfold U u2; decide +kernel
theorem u2_S : ((2 ^ 1074 : Nat) : Int) = 2 ^ 40 * u2 := by unfold u2; decide +kernel
theorem u2_g : ((2 ^ 1044 : Nat) : Int) = 1024 * u2 := by unfold u2; decide +kernel
theorem u2_t : ((2 ^ (1044 + 53) : Nat) : Int) = 2 ^ 63 * u2 := by unfold u2; decide +kernel
theorem u2_pos : 0 < u2 := by unfold u2; decide +kernel

theorem end_near {x : UInt64} {n : Nat} {E : Int} (h : Near x (n * 2 ^ 40) E) (e0 : 0 ≤ E) (e1 : E ≤ 2 ^ 30) (hn : n ≤ 2 ^ 20) : ∃ sg m e, decode (endF x) = .fin sg m e ∧ truncOf sg m e = n := by
  obtain ⟨a, m, e, dx⟩ := h.fin
  obtain ⟨m2, k2, d2⟩ := lit_fin (f := 0x4130000000000000) (by decide +kernel)
  obtain ⟨m3, k3, d3⟩ := lit_fin (f := 0x3fe0000000000000) (by decide +kernel)
  have v2 : (val 0x4130000000000000).natAbs = 2 ^ 20 * 2 ^ 1074 := by decide +kernel
  have v3 : val 0x3fe0000000000000 = 2 ^ 39 * u2 := by unfold u2; decide +kernel
  have R := mul_right dx d2
  rw [v2] at R
  have up := u2_pos
  have lo : (n * 2 ^ 40 - E) * u2 ≤ 2 ^ 20 * val x := by
    have := Int.mul_le_mul_of_nonneg_left h.lo (show (0 : Int) ≤ 2 ^ 20 by decide)
    rwa [Int.mul_left_comm, u2_U] at this
  have hi : 2 ^ 20 * val x ≤ (n * 2 ^ 40 + E) * u2 := by
    have := Int.mul_le_mul_of_nonneg_left h.hi (show (0 : Int) ≤ 2 ^ 20 by decide)
    rwa [Int.mul_left_comm (2 ^ 20) _ U, u2_U] at this
  have b1 := Int.mul_le_mul_of_nonneg_right (show -(2 ^ 62) ≤ (n : Int) * 2 ^ 40 - E by (exact om148 e1)) (Int.le_of_lt up)
  have b2 := Int.mul_le_mul_of_nonneg_right (show (n : Int) * 2 ^ 40 + E ≤ 2 ^ 62 by (exact om149 e1 hn)) (Int.le_of_lt up)
  have t := u2_t
  have W : (val x).natAbs * (2 ^ 20 * 2 ^ 1074) ≤ 2 ^ 1074 * 2 ^ (1044 + 53) := by
    have : (val x).natAbs * (2 ^ 20 * 2 ^ 1074) = 2 ^ 1074 * (2 ^ 20 * (val x).natAbs) := by
      generalize (2 : Nat) ^ 1074 = S
      ac_rfl
    rw [this]
    refine Nat.mul_le_mul_left _ ?_
    generalize (2 : Nat) ^ (1044 + 53) = T at *
    (exact om150 lo hi b1 b2 t)
  obtain ⟨⟨my, ey, dy⟩, v, hv, r1, r2⟩ := round_core (Nat.two_pow_pos _) R W (by decide)
  have q : (val x).natAbs * (2 ^ 20 * 2 ^ 1074) = 2 ^ 1074 * (2 ^ 20 * (val x).natAbs) := by
    generalize (2 : Nat) ^ 1074 = S
    ac_rfl
  rw [q, ← Nat.mul_add] at r1 r2
  have r1 := Nat.le_of_mul_le_mul_left r1 (Nat.two_pow_pos _)
  have r2 := Nat.le_of_mul_le_mul_left r2 (Nat.two_pow_pos _)
  have sx : sgn a (val x).natAbs = val x := by rw [val_natAbs dx, ← val_eq dx]
  have hv' : val (Float64.mul x 0x4130000000000000) = sgn a v := by rw [hv]; cases a <;> rfl
  have near : 2 ^ 20 * val x - ((2 ^ 1044 : Nat) : Int) ≤ sgn a v ∧ sgn a v ≤ 2 ^ 20 * val x + ((2 ^ 1044 : Nat) : Int) := by
    rw [← sx]
    unfold sgn
    generalize (2 : Nat) ^ 1044 = G at *
    generalize (val x).natAbs = X at *
    cases a <;> simp <;> omega
  rw [u2_g, ← hv'] at near
  obtain ⟨_, z1⟩ := add_right dy d3
  rw [v3] at z1
  generalize val (Float64.mul x 0x4130000000000000) = Y at *
  have c1 : (n * 2 ^ 40 - E) * u2 = n * (2 ^ 40 * u2) - E * u2 := by rw [Int.sub_mul, Int.mul_assoc]
  have c2 : (n * 2 ^ 40 + E) * u2 = n * (2 ^ 40 * u2) + E * u2 := by rw [Int.add_mul, Int.mul_assoc]
  have c3 := Int.mul_le_mul_of_nonneg_right e1 (Int.le_of_lt up)
  have c4 : 0 ≤ (n : Int) * (2 ^ 40 * u2) := Int.mul_nonneg (Int.natCast_nonneg _) (by (exact om153 t))
  have c5 : (n : Int) * (2 ^ 40 * u2) ≤ 2 ^ 20 * (2 ^ 40 * u2) := Int.mul_le_mul_of_nonneg_right (by (exact om154 hn)) (by (exact om153 t))
  rw [c1] at lo
  rw [c2] at hi
  have zpos : 0 < Y + 2 ^ 39 * u2 := by omega
  have R2 := z1 (by (exact om155 zpos))
  rw [show decide (Y + 2 ^ 39 * u2 < 0) = false from decide_eq_false (by (exact om156 zpos))] at R2
  have W2 : (Y + 2 ^ 39 * u2).natAbs ≤ 1 * 2 ^ (1044 + 53) := by
    generalize (2 : Nat) ^ (1044 + 53) = T at *
    (exact om157 hi b2 near c2 zpos t)
  obtain ⟨⟨mr, er, dr⟩, v', hv2, g1, g2⟩ := round_core (by decide) R2 W2 (by decide)
  have g := u2_g
  have s := u2_S
  have vv := val_eq dr
  rw [hv2] at vv
  have vv : v' = mr * 2 ^ (er + 1074).toNat := by
    unfold sgn at vv
    simp only [Bool.false_eq_true, if_false] at vv
    exact Int.ofNat_inj.mp vv
  refine ⟨false, mr, er, dr, floor_is (decode_ge dr) ?_ ?_⟩
  · rw [← vv]
    have : ((n * 2 ^ 1074 : Nat) : Int) = n * (2 ^ 40 * u2) := by rw [Int.natCast_mul, s]
    generalize n * (2 : Nat) ^ 1074 = T at *
    generalize (2 : Nat) ^ 1044 = G at *
    (exact om158 lo near c3 this g1 g)
  · rw [← vv]
    have : (((n + 1) * 2 ^ 1074 : Nat) : Int) = n * (2 ^ 40 * u2) + 2 ^ 40 * u2 := by rw [Int.natCast_mul, s, Int.natCast_add, Int.add_mul]; simp
    generalize (n + 1) * (2 : Nat) ^ 1074 = T at *
    generalize (2 : Nat) ^ 1044 = G at *
    omega
end Mine
end

section
namespace Mine
open PySem PySem.Float64

def mix (w p q : Int) : Int := (32 - w) * p + w * q
theorem mix_same (w p : Int) : mix w p p = 32 * p := by unfold mix; rw [Int.sub_mul]; (exact om159)
theorem mix_scale (w s p q : Int) : mix w (s * p) (s * q) = s * mix w p q := by unfold mix; rw [Int.mul_add]; congr 1 <;> ac_rfl
theorem mix_swap (u w a b c d : Int) : mix u (mix w a b) (mix w c d) = mix w (mix u a c) (mix u b d) := by unfold mix; grind
theorem mix_range {w p q B : Int} (w0 : 0 ≤ w) (w1 : w ≤ 32) (p0 : 0 ≤ p) (p1 : p ≤ B) (q0 : 0 ≤ q) (q1 : q ≤ B) : 0 ≤ mix w p q ∧ mix w p q ≤ 32 * B := by
  unfold mix
  have a := Int.mul_nonneg (show 0 ≤ 32 - w by (exact om160 w1)) p0
  have b := Int.mul_nonneg w0 q0
  have c := Int.mul_le_mul_of_nonneg_left p1 (show 0 ≤ 32 - w by (exact om160 w1))
  have d := Int.mul_le_mul_of_nonneg_left q1 w0
  have e : (32 - w) * B = 32 * B - w * B := Int.sub_mul _ _ _
  (exact om161 a b c d e)

def env4 (a b c d : Bool) : Nat → Bool := fun i => if i = 0 then a else if i = 1 then b else if i = 2 then c else d
def bI (b : Bool) : Int := if b then 1 else 0
def P3 (w3 : Int) (g : (Nat → Bool) → Bool) (a b c : Bool) : Int := mix w3 (bI (g (env4 a b c false))) (bI (g (env4 a b c true)))
def P2 (w2 w3 : Int) (g : (Nat → Bool) → Bool) (a b : Bool) : Int := mix w2 (P3 w3 g a b false) (P3 w3 g a b true)
def P1 (w1 w2 w3 : Int) (g : (Nat → Bool) → Bool) (a : Bool) : Int := mix w1 (P2 w2 w3 g a false) (P2 w2 w3 g a true)
def P0 (w0 w1 w2 w3 : Int) (g : (Nat → Bool) → Bool) : Int := mix w0 (P1 w1 w2 w3 g false) (P1 w1 w2 w3 g true)

theorem bI_range (b : Bool) : 0 ≤ bI b ∧ bI b ≤ 1 := by cases b <;> decide
theorem P0_range {w0 w1 w2 w3 : Int} (h0 : 0 ≤ w0 ∧ w0 ≤ 32) (h1 : 0 ≤ w1 ∧ w1 ≤ 32) (h2 : 0 ≤ w2 ∧ w2 ≤ 32) (h3 : 0 ≤ w3 ∧ w3 ≤ 32) (g : (Nat → Bool) → Bool) : 0 ≤ P0 w0 w1 w2 w3 g ∧ P0 w0 w1 w2 w3 g ≤ 2 ^ 20 := by
  have r3 : ∀ a b c, 0 ≤ P3 w3 g a b c ∧ P3 w3 g a b c ≤ 32 * 1 := fun a b c => mix_range h3.1 h3.2 (bI_range _).1 (bI_range _).2 (bI_range _).1 (bI_range _).2
  have r2 : ∀ a b, 0 ≤ P2 w2 w3 g a b ∧ P2 w2 w3 g a b ≤ 32 * (32 * 1) := fun a b => mix_range h2.1 h2.2 (r3 _ _ _).1 (r3 _ _ _).2 (r3 _ _ _).1 (r3 _ _ _).2
  have r1 : ∀ a, 0 ≤ P1 w1 w2 w3 g a ∧ P1 w1 w2 w3 g a ≤ 32 * (32 * (32 * 1)) := fun a => mix_range h1.1 h1.2 (r2 _ _).1 (r2 _ _).2 (r2 _ _).1 (r2 _ _).2
  exact mix_range h0.1 h0.2 (r1 _).1 (r1 _).2 (r1 _).1 (r1 _).2

/-- a function that asks letter v first -/
structure Asks (v : Nat) (g h0 h1 : (Nat → Bool) → Bool) : Prop where
  no : ∀ e, e v = false → g e = h0 e
  yes : ∀ e, e v = true → g e = h1 e
  in0 : ∀ e b, h0 (setB e v b) = h0 e
  in1 : ∀ e b, h1 (setB e v b) = h1 e
  only0 : ∀ e e', (∀ i, i < 4 → e i = e' i) → h0 e = h0 e'
  only1 : ∀ e e', (∀ i, i < 4 → e i = e' i) → h1 e = h1 e'

theorem asks0 {w0 w1 w2 w3 : Int} {g h0 h1 : (Nat → Bool) → Bool} (A : Asks 0 g h0 h1) : 32 * P0 w0 w1 w2 w3 g = mix w0 (P0 w0 w1 w2 w3 h0) (P0 w0 w1 w2 w3 h1) := by
  have s0 : ∀ b c d, h0 (env4 true b c d) = h0 (env4 false b c d) := fun b c d => by
    rw [← A.in0 (env4 false b c d) true]; exact A.only0 _ _ fun i hi => by match i, hi with | 0, _ | 1, _ | 2, _ | 3, _ => rfl
  have s1 : ∀ b c d, h1 (env4 true b c d) = h1 (env4 false b c d) := fun b c d => by
    rw [← A.in1 (env4 false b c d) true]; exact A.only1 _ _ fun i hi => by match i, hi with | 0, _ | 1, _ | 2, _ | 3, _ => rfl
  simp only [P0, P1, P2, P3, s0, s1, mix_same, A.no (env4 false _ _ _) rfl, A.yes (env4 true _ _ _) rfl, mix_scale]
theorem asks1 {w0 w1 w2 w3 : Int} {g h0 h1 : (Nat → Bool) → Bool} (A : Asks 1 g h0 h1) : 32 * P0 w0 w1 w2 w3 g = mix w1 (P0 w0 w1 w2 w3 h0) (P0 w0 w1 w2 w3 h1) := by
  have s0 : ∀ b c d, h0 (env4 b true c d) = h0 (env4 b false c d) := fun b c d => by
    rw [← A.in0 (env4 b false c d) true]; exact A.only0 _ _ fun i hi => by match i, hi with | 0, _ | 1, _ | 2, _ | 3, _ => rfl
  have s1 : ∀ b c d, h1 (env4 b true c d) = h1 (env4 b false c d) := fun b c d => by
    rw [← A.in1 (env4 b false c d) true]; exact A.only1 _ _ fun i hi => by match i, hi with | 0, _ | 1, _ | 2, _ | 3, _ => rfl
  simp only [P0, P1, P2, P3, s0, s1, mix_same, A.no (env4 _ false _ _) rfl, A.yes (env4 _ true _ _) rfl, mix_scale]
  rw [mix_swap]
theorem asks2 {w0 w1 w2 w3 : Int} {g h0 h1 : (Nat → Bool) → Bool} (A : Asks 2 g h0 h1) : 32 * P0 w0 w1 w2 w3 g = mix w2 (P0 w0 w1 w2 w3 h0) (P0 w0 w1 w2 w3 h1) := by
  have s0 : ∀ b c d, h0 (env4 b c true d) = h0 (env4 b c false d) := fun b c d => by
    rw [← A.in0 (env4 b c false d) true]; exact A.only0 _ _ fun i hi => by match i, hi with | 0, _ | 1, _ | 2, _ | 3, _ => rfl
  have s1 : ∀ b c d, h1 (env4 b c true d) = h1 (env4 b c false d) := fun b c d => by
    rw [← A.in1 (env4 b c false d) true]; exact A.only1 _ _ fun i hi => by match i, hi with | 0, _ | 1, _ | 2, _ | 3, _ => rfl
  simp only [P0, P1, P2, P3, s0, s1, mix_same, A.no (env4 _ _ false _) rfl, A.yes (env4 _ _ true _) rfl, mix_scale]
  rw [mix_swap w1 w2, mix_swap w1 w2, mix_swap w0 w2]
theorem asks3 {w0 w1 w2 w3 : Int} {g h0 h1 : (Nat → Bool) → Bool} (A : Asks 3 g h0 h1) : 32 * P0 w0 w1 w2 w3 g = mix w3 (P0 w0 w1 w2 w3 h0) (P0 w0 w1 w2 w3 h1) := by
  have s0 : ∀ b c d, h0 (env4 b c d true) = h0 (env4 b c d false) := fun b c d => by
    rw [← A.in0 (env4 b c d false) true]; exact A.only0 _ _ fun i hi => by match i, hi with | 0, _ | 1, _ | 2, _ | 3, _ => rfl
  have s1 : ∀ b c d, h1 (env4 b c d true) = h1 (env4 b c d false) := fun b c d => by
    rw [← A.in1 (env4 b c d false) true]; exact A.only1 _ _ fun i hi => by match i, hi with | 0, _ | 1, _ | 2, _ | 3, _ => rfl
  simp only [P0, P1, P2, P3, s0, s1, mix_same, A.no (env4 _ _ _ false) rfl, A.yes (env4 _ _ _ true) rfl, mix_scale]
  rw [mix_swap w2 w3, mix_swap w2 w3, mix_swap w2 w3, mix_swap w2 w3, mix_swap w1 w3, mix_swap w1 w3, mix_swap w0 w3]
end Mine
end

section
namespace Mine
open PySem PySem.Float64

def A0 (ns : List (Nat × Nat × Nat)) (codes : List Nat) (x : Nat) : Int := 2 ^ 40 * P0 (weightF (codes.getD 0 0)) (weightF (codes.getD 1 0)) (weightF (codes.getD 2 0)) (weightF (codes.getD 3 0)) (fun e => ev ns e x)

theorem exact_ok {B : BD} (I : Inv B) (codes : List Nat) : Exact B codes (A0 B.nodes codes) where
  term := fun x hx => by
    unfold A0
    match x, hx with
    | 0, _ => simp only [ev_small (show 0 < 256 by decide), P0, P1, P2, P3, mix_same]; decide
    | 1, _ => simp only [ev_small (show 1 < 256 by decide), P0, P1, P2, P3, mix_same]; decide
  node := fun i v lo hi h => by
    have L := I.lows
    obtain ⟨v4, _, _, _, v1, v2⟩ := I.low _ _ _ _ h
    have h' : B.nodes[256 + i - 256]? = some (v, lo, hi) := by rw [show 256 + i - 256 = i by (exact om24)]; exact h
    have A : Asks v (fun e => ev B.nodes e (256 + i)) (fun e => ev B.nodes e lo) (fun e => ev B.nodes e hi) :=
      { no := fun e he => by show ev _ _ _ = _; rw [ev_node L (by (exact om5)) h', he]; rfl
        yes := fun e he => by show ev _ _ _ = _; rw [ev_node L (by (exact om5)) h', he]; rfl
        in0 := fun e b => ev_set L v1
        in1 := fun e b => ev_set L v2
        only0 := fun e e' hh => ev_indep L v1 fun j _ a => hh j a
        only1 := fun e e' hh => ev_indep L v2 fun j _ a => hh j a }
    unfold A0
    have key : ∀ (w p q r : Int), 32 * p = mix w q r → 32 * (2 ^ 40 * p) = (32 - w) * (2 ^ 40 * q) + w * (2 ^ 40 * r) := fun w p q r e => by
      have := mix_scale w (2 ^ 40) q r
      rw [← e] at this
      unfold mix at this
      (exact om162 this)
    match v, v4, A with
    | 0, _, A => exact key _ _ _ _ (asks0 A)
    | 1, _, A => exact key _ _ _ _ (asks1 A)
    | 2, _, A => exact key _ _ _ _ (asks2 A)
    | 3, _, A => exact key _ _ _ _ (asks3 A)
  range := fun x _ => by
    have w : ∀ c, (0 : Int) ≤ weightF c ∧ (weightF c : Int) ≤ 32 := fun c => ⟨Int.natCast_nonneg _, by have := weightF_le c; (exact om163 this)⟩
    have := P0_range (w (codes.getD 0 0)) (w (codes.getD 1 0)) (w (codes.getD 2 0)) (w (codes.getD 3 0)) (fun e => ev B.nodes e x)
    unfold A0
    (exact om164 this)
end Mine
end

section
namespace Mine
open PySem PySem.Float64

theorem rows_int (t : Nat) (ws : List Nat) (n : Nat) : ((rowsAt t ws (n + 1) : Nat) : Int) = (rowsAt t ws n : Nat) + bI (t.testBit n) * (partAt ws n 4 : Nat) := by
  rw [rowsAt_succ, Nat.testBit_eq_decide_div_mod_eq]
  by_cases c : t / 2 ^ n % 2 = 1
  · rw [if_pos c]; simp [c, bI]
  · rw [if_neg c]; simp [c, bI]
theorem sum_id (a b c d : Int) (x0 x1 x2 x3 x4 x5 x6 x7 x8 x9 xa xb xc xd xe xf : Int) :
    mix a (mix b (mix c (mix d x0 x1) (mix d x2 x3)) (mix c (mix d x4 x5) (mix d x6 x7))) (mix b (mix c (mix d x8 x9) (mix d xa xb)) (mix c (mix d xc xd) (mix d xe xf))) =
    0 + x0 * ((32 - a) * (32 - b) * (32 - c) * (32 - d)) + x1 * ((32 - a) * (32 - b) * (32 - c) * d) + x2 * ((32 - a) * (32 - b) * c * (32 - d)) + x3 * ((32 - a) * (32 - b) * c * d)
     + x4 * ((32 - a) * b * (32 - c) * (32 - d)) + x5 * ((32 - a) * b * (32 - c) * d) + x6 * ((32 - a) * b * c * (32 - d)) + x7 * ((32 - a) * b * c * d)
     + x8 * (a * (32 - b) * (32 - c) * (32 - d)) + x9 * (a * (32 - b) * (32 - c) * d) + xa * (a * (32 - b) * c * (32 - d)) + xb * (a * (32 - b) * c * d)
     + xc * (a * b * (32 - c) * (32 - d)) + xd * (a * b * (32 - c) * d) + xe * (a * b * c * (32 - d)) + xf * (a * b * c * d) := by
  unfold mix
  generalize 32 - a = a'
  generalize 32 - b = b'
  generalize 32 - c = c'
  generalize 32 - d = d'
  simp only [Int.mul_add, Int.zero_add]
  ac_rfl
theorem part_int (a b c d n : Nat) (ha : a ≤ 32) (hb : b ≤ 32) (hc : c ≤ 32) (hd : d ≤ 32) : ((partAt [a, b, c, d] n 4 : Nat) : Int) =
    (if n / 8 % 2 = 1 then (a : Int) else 32 - a) * (if n / 4 % 2 = 1 then (b : Int) else 32 - b) * (if n / 2 % 2 = 1 then (c : Int) else 32 - c) * (if n % 2 = 1 then (d : Int) else 32 - d) := by
  rw [partAt_succ, partAt_succ, partAt_succ, partAt_succ, Int.natCast_mul, Int.natCast_mul, Int.natCast_mul, Int.natCast_mul]
  have z : ((partAt [a, b, c, d] n 0 : Nat) : Int) = 1 := rfl
  have f : ∀ (w k : Nat), w ≤ 32 → (((if k = 1 then w else 32 - w) : Nat) : Int) = if k = 1 then (w : Int) else 32 - w := fun w k h => by split <;> (first | exact om185 | exact om186 h)
  rw [z, Int.one_mul]
  have e0 : ((factor [a, b, c, d] n 0 : Nat) : Int) = if n / 8 % 2 = 1 then (a : Int) else 32 - a := f a _ ha
  have e1 : ((factor [a, b, c, d] n 1 : Nat) : Int) = if n / 4 % 2 = 1 then (b : Int) else 32 - b := f b _ hb
  have e2 : ((factor [a, b, c, d] n 2 : Nat) : Int) = if n / 2 % 2 = 1 then (c : Int) else 32 - c := f c _ hc
  have e3 : ((factor [a, b, c, d] n 3 : Nat) : Int) = if n % 2 = 1 then (d : Int) else 32 - d := by
    have := f d (n / 1 % 2) hd
    rw [Nat.div_one] at this
    rw [← this]
    unfold factor
    rw [show 2 ^ (3 - 3) = 1 from rfl, Nat.div_one]
    rfl
  rw [e0, e1, e2, e3]

theorem rows_sum {ns : List (Nat × Nat × Nat)} (L : Low ns) {t x a b c d : Nat} (hv : Valid ns 0 x) (T : Tab t fun e => ev ns e x) (ha : a ≤ 32) (hb : b ≤ 32) (hc : c ≤ 32) (hd : d ≤ 32) :
    ((rowsF t [a, b, c, d] : Nat) : Int) = P0 a b c d (fun e => ev ns e x) := by
  have k : ∀ p q r s : Bool, ev ns (env4 p q r s) x = t.testBit (8 * p.toNat + 4 * q.toNat + 2 * r.toNat + s.toNat) := fun p q r s => by
    have lt : 8 * p.toNat + 4 * q.toNat + 2 * r.toNat + s.toNat < 16 := by cases p <;> cases q <;> cases r <;> cases s <;> decide
    rw [T.2 _ lt]
    refine ev_indep L hv fun i _ hi => ?_
    match i, hi with
    | 0, _ | 1, _ | 2, _ | 3, _ => cases p <;> cases q <;> cases r <;> cases s <;> decide
  simp only [P0, P1, P2, P3, k]
  rw [sum_id]
  unfold rowsF
  simp only [rows_int, part_int a b c d _ ha hb hc hd]
  rfl

theorem chances : Chances := fun told B t r h9 I hv T => by
  obtain ⟨c0, c1, c2, c3, h4⟩ : ∃ a b c d, told.take 4 = [a, b, c, d] := by
    match told, h9 with
    | a :: b :: c :: d :: _, _ => exact ⟨a, b, c, d, rfl⟩
  rw [h4]
  have X := exact_ok I [c0, c1, c2, c3]
  have n := levels_near I (codes := [c0, c1, c2, c3]) rfl X B.nodes.length (Nat.le_refl _) 0 r (by decide) hv hv.lt
  rw [List.take_length] at n
  have R := rows_sum I.lows hv T (weightF_le c0) (weightF_le c1) (weightF_le c2) (weightF_le c3)
  have w : ∀ c, (0 : Int) ≤ weightF c ∧ (weightF c : Int) ≤ 32 := fun c => ⟨Int.natCast_nonneg _, by have := weightF_le c; (exact om163 this)⟩
  have b := P0_range (w c0) (w c1) (w c2) (w c3) (fun e => ev B.nodes e r)
  rw [← R] at b
  have e : A0 B.nodes [c0, c1, c2, c3] r = ((rowsF t [weightF c0, weightF c1, weightF c2, weightF c3] : Nat) : Int) * 2 ^ 40 := by
    rw [R, Int.mul_comm]; rfl
  rw [e] at n
  have hn : rowsF t [weightF c0, weightF c1, weightF c2, weightF c3] ≤ 2 ^ 20 := by (exact om187 b)
  exact end_near n (er_bounds 4 (by decide)).1 (er_bounds 4 (by decide)).2 hn

theorem facts (script : List Int) : ∃ st1 st2 r1 r2, Facts script st1 st2 r1 r2 := facts_of chances script (toldF_len script)
end Mine
end

section
open PySem PySem.W PyProof.Rows PySem.Calls
set_option maxRecDepth 100000
set_option linter.unusedSectionVars false
namespace Mine

/-! the script -/
theorem ints_shape : ∀ (xs : List WData), WShape.hasItems [] xs .int = true → ∃ ns : List Int, xs = ns.map WData.int
  | [], _ => ⟨[], rfl⟩
  | x :: xs, h => by
    have h' : (WShape.has [] x .int && WShape.hasItems [] xs .int) = true := h
    obtain ⟨h1, h2⟩ := Bool.and_eq_true_iff.mp h'
    obtain ⟨ns, rfl⟩ := ints_shape xs h2
    cases x with
    | int i => exact ⟨i :: ns, rfl⟩
    | _ => exact Bool.noConfusion (show false = true from h1)
theorem list_shape {d : WData} (h : WShape.has [] d (.list .int) = true) : ∃ ns : List Int, d = .list (ns.map WData.int) := by
  cases d with
  | list xs =>
    have h2 : (WShape.hasItems [] xs .int || false) = true := h
    have : WShape.hasItems [] xs .int = true := by rw [Bool.or_false] at h2; exact h2
    obtain ⟨ns, rfl⟩ := ints_shape xs this
    exact ⟨ns, rfl⟩
  | _ => exact Bool.noConfusion (show false = true from h)
theorem ints_read {R : WRecords} {cl : Str → Option Addr} {h : Heap} (ns : List Int) : ∀ (vs : List Value) (as : List Addr), ReadsAllW R cl h vs (ns.map WData.int) as → IntsAre vs ns := by
  induction ns with
  | nil => intro vs as r; rw [(readsAllW_nil_inv r).1]; exact .nil
  | cons n ns ih =>
    intro vs as r
    obtain ⟨v, vs', _, _, e, _, hv, hr⟩ := readsAllW_cons_inv r
    obtain ⟨t, ev, _⟩ := readsW_int_inv hv
    rw [e, ev]
    exact .cons _ _ (ih _ _ hr)
theorem one_read {R : WRecords} {cl : Str → Option Addr} {h : Heap} {ns : List Int} {vs : List Value} {as : List Addr} (r : ReadsAllW R cl h vs [.list (ns.map WData.int)] as) :
    ∃ a items, vs = [.ref a] ∧ h.IsList a items ∧ IntsAre items.toList ns ∧ a ∈ as := by
  obtain ⟨v, vs', _, _, e, ea, hv, hr⟩ := readsAllW_cons_inv r
  obtain ⟨a, items, as', ev, hl, hi, e2⟩ := readsW_list_inv hv
  exact ⟨a, items, by rw [e, ev, (readsAllW_nil_inv hr).1], hl, ints_read ns _ _ hi, by rw [ea, e2]; exact List.mem_append_left _ (List.mem_cons_self ..)⟩

def rw0 : OpenLaw := PySem.Challenge.rw_re0151_01
theorem most63 {ns : List Int} (h : rw0.row.pre.holds rw0.row.records { args := [WData.list (ns.map WData.int)] } = true) : ns.length ≤ 63 := by
  have e : rw0.row.pre.holds rw0.row.records { args := [WData.list (ns.map WData.int)] } = decide (¬ (((63 : Nat) : Int) < ((ns.map WData.int).length : Int))) := by
    have lt2 : ∀ x y : Int, PySem.W.less? (.int x) (.int y) = some (decide (x < y)) := fun x y => by simp [PySem.W.less?, Num.less?]
    simp only [rw0, OpenLaw.row, OpenLaw.pre, PySem.Challenge.rw_re0151_01, WTm.holds, WTm.value, List.getElem?_cons_zero, lt2, Option.map_some]
    by_cases q : ((63 : Nat) : Int) < ((ns.map WData.int).length : Int)
    · rw [decide_eq_true q]; simp only [Bool.not_true, decide_eq_false (not_not_intro q)]
    · rw [decide_eq_false q]; simp only [Bool.not_false, decide_eq_true q]
  rw [e] at h
  have := of_decide_eq_true h
  rw [List.length_map] at this
  (exact om584 this)

theorem st75 : ∃ p b s pos, P.main.body[75]? = some (.FunctionDef "law" p b [] none [] s none "law" pos) ∧ P.theDef "law" = some (p, b, s) ∧ p.defaults = [] ∧ kwWritten? p.kwonlyargs p.kw_defaults = some [] := ⟨_, _, _, _, rfl, rfl, rfl, rfl⟩

theorem law_pinned {w : World} {mg mb : Str → Option Value} {s1 : Shared} (T : TopEnd w mg mb s1) : isTheDefsW P s1.heap "law" := by
  obtain ⟨p, b, s, pos, h75, hd, hdef, hkw⟩ := st75
  obtain ⟨s', mg0, c, Pl, L, X, _⟩ := T.ex
  obtain ⟨l, m, _⟩ := X.ms
  obtain ⟨v, hv, hr⟩ := X.facts _ (in_top (w := w) 0 rfl)
  obtain ⟨a, c', pm, doc, rfl, _, _, _, ho, _⟩ := hr _ p b s pos h75
  exact ⟨a, _, _, p, b, s, (Claim2Try.globalOf_of_ns m.main.g _).trans hv, ho, rfl, hd, rfl, rfl, rfl, rfl, rfl, rfl, rfl, rfl, .inl ⟨hdef, rfl⟩, [], hkw, .inl ⟨rfl, rfl⟩⟩

theorem law_bare : P.bare := ⟨rfl, rfl, rfl, rfl, rfl, by decide +kernel⟩
theorem law_opens : opensWell P = true := by decide +kernel
theorem law_frees : frees rw0.row.toRowW = true := rfl
theorem law_promised : rw0.row.toRowW.promised := ⟨[.list [.int 3, .int 1]], by decide +kernel, by decide +kernel⟩

theorem law_post (as bs : List WData) : rw0.row.toRowW.claim.post as (.bool true) bs = true := by
  exact Bool.and_eq_true_iff.mpr ⟨(rfl : WShape.has [] (.bool true) .bool = true), (by kernel_rfl : WTm.holds [] (.eq .res (.lit (.bool true))) { args := as, res := some (.bool true), after := bs } = true)⟩

theorem callFrom (w : World) {mg mb : Str → Option Value} {s : Shared} (T : TopEnd w mg mb s) (hz : s.asleep) (s0 : Shared) :
    rw0.row.toRowW.claim.CallFrom (callStub rw0.row.name) w (fun b => rw0.row.writes = true ∧ madeByTheTop s0 s b) (rw0.row.writes = false)
      (fun h' => rw0.row.writes = true → namesKept P rw0.row.keeps s.heap h' ∧ ∀ x ∈ rw0.row.toRowW.claim.records, ∀ a, classAt s.heap x.1 = some a → recordClass h' a x.1 (x.2.map (·.1)) = true) s := by
  obtain ⟨hsame, hu, ha, hap, hm⟩ := frees_parts law_frees
  have hi := ident_freeW hu ha hap
  refine ClaimW.callFrom_of_specG (c := rw0.row.toRowW.claim) (tree := fun vs => do match ← nsGet mainNs rw0.row.name with
      | some f => do ret (← PySem.call f vs)
      | none => unsupported "claim.caller:no-such-global") hz T.gens fun args hpre hlay ord hord => ?_
  obtain ⟨hsh, hpr⟩ := pre_splitW (r := rw0.row.toRowW) hpre
  obtain ⟨⟨vs, s1⟩, hlaid⟩ := Option.isSome_iff_exists.mp (layAllW_isSome (R := rw0.row.toRowW.claim.records) (cl := classAt s.heap) (P := w.params) (ord := ord) (fun c hc => nomatch hc) args rw0.row.args s hsh)
  have keeps := layAllW_keeps _ _ _ hlaid
  have hal := layAllW_rest _ _ _ hlaid
  obtain ⟨as, hrd, hin, hold⟩ := reads_layAllW hord _ _ _ hlaid hlay s1.heap (fun _ _ e => e)
  have L : Laid rw0.row.toRowW.claim.records w s s1 args vs as := ⟨⟨ord, hord, hlaid⟩, hrd, hin, hold, keeps, hal.1.trans T.gens, hal.2.2.1⟩
  obtain ⟨d, r, rfl, hd, hr⟩ := hasAllW_cons hsh
  obtain rfl := hasAllW_nil hr
  obtain ⟨ns, rfl⟩ := list_shape hd
  have hlen := most63 hpr
  obtain ⟨a, items, rfl, hil, hints, hmem⟩ := one_read hrd
  have hsys : sysModules < s.heap.objs.size := live_lt T.sys
  have ha3 : a ≠ sysModules := Nat.ne_of_gt (Nat.lt_of_lt_of_le hsys (hin.2.2 a hmem).1)
  obtain ⟨tok, ht3, Tp⟩ := top_facts T keeps ha3
  refine ⟨[.ref a], s1, hlaid, ?_⟩
  obtain ⟨p, b, sc, pos, h75, _⟩ := st75
  obtain ⟨aL, pm, cd, doc, hmL, _, _⟩ := (Tp.fn 75 _ p b sc pos h75).at_
  obtain ⟨st1, st2, r1, r2, F⟩ := facts ns
  have hsz : items.size ≤ 1000 := by
    have := IntsAre.length hints
    rw [Array.length_toList] at this
    (exact om585 hlen this)
  have hil' : (Gl.mk s1.heap tok mg mb).h.IsList ((Gl.mk s1.heap tok mg mb).tok 3) items := by
    show s1.heap.IsList (tok 3) items
    rw [ht3]; exact hil
  have call := c_law (H := []) (d := 0) (Φ := fun v _ => v = .bool true) Tp hil' hints hsz F (fun _ => rfl) aL hmL callerA [] s1 [.ref a] ⟨rfl, by decide +kernel, by decide +kernel⟩
    ⟨fun _ _ e => e, (fun _ h => nomatch h), List.nodup_nil, rfl, fun n a o h => by simp at h⟩ (by
      unfold VRs
      refine ⟨.ref a, [], rfl, ?_, by unfold VRs; rfl⟩
      show (Value.ref a) = .ref (tok 3)
      rw [ht3])
  refine wpAny_bind (wpAny_nsGet Tp.g.g ?_)
  rw [show rw0.row.name = ("law" : Str) from rfl, hmL]
  refine wpAny_bind (wpAny_mono call (fun v s' q => wpAny_pure ⟨_, rfl, ?_⟩) fun _ _ x => x.elim)
  obtain ⟨ρ', H', st, hr', v', hv', rfl⟩ := q
  cases (show v = .bool true from hv')
  obtain ⟨h', tk, rfl⟩ := st.same
  have g : GoodWG rw0.row.toRowW.claim (classAt s.heap) (ExcName.means s.heap) [.list (ns.map WData.int)] s1 (.ok (.ret (.bool true))) { s1 with heap := h', toks := tk } :=
    ⟨.inl ⟨.bool true, .bool true, [], rfl, fun _ => rfl, .bool true, law_post _ _, fun _ => ⟨List.nodup_nil, fun a ha => nomatch ha⟩⟩, .of_keep fun b o e => st.keep b o (fun h => nomatch h) (fun h => nomatch h) e, rfl, .of_eq L.gens⟩
  obtain ⟨z1, z2, z3⟩ := g.laid (c := rw0.row.toRowW.claim) hsame rfl hi L
  exact ⟨z1, z2, z3, fun q => nomatch q⟩
end Mine
end

open PySem PySem.W PyProof.Rows PySem.Calls
set_option maxRecDepth 100000
set_option linter.unusedSectionVars false
namespace Mine
theorem law_open : rw0.row.toRowW.claim.HoldsOpenBy (callStub rw0.row.name) (if rw0.row.pinned then [rw0.row.name] else []) rw0.row.keeps rw0.row.writes := by
  refine ⟨⟨law_bare, law_opens, rfl⟩, law_promised.witness, fun w => ⟨(boot_run w).1, fun s hs => ?_⟩⟩
  have hs' : AfterImport (opening P) w s := hs
  have B := (boot_run w).2 s hs'
  obtain ⟨s1, hT, hz, mg, mb, T⟩ := top_ran w hs'.life B
  refine ⟨s, fence_id s, B.1, s1, hT, fun n hn => ?_, (fun x hx => nomatch hx), (fun x hx => nomatch hx), callFrom w T hz s⟩
  have : n = ("law" : Str) := by
    have : n ∈ [("law" : Str)] := hn
    simpa using this
  subst this
  exact law_pinned T
theorem row_ok : rw0.row.wellSaid = true := by
  unfold OpenRow.wellSaid OpenRow.partSaid looksOpen
  repeat' (with_reducible refine look_both ?_ ?_)
  all_goals decide +kernel
theorem law_ok : PySem.Challenge.rw_re0151_01.wellSaid = true := by
  unfold OpenLaw.wellSaid
  repeat' (with_reducible refine look_both ?_ ?_)
  exact row_ok
  all_goals decide +kernel
end Mine

set_option maxRecDepth 100000 in
set_option maxHeartbeats 8000000 in
theorem PySem.Challenge.cw_re0151_01_holds : PySem.Challenge.rw_re0151_01.Holds := by
  exact holds_law Mine.law_ok fun k1 => ⟨k1, Mine.law_promised, Mine.law_open⟩
