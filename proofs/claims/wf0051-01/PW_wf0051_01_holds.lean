import PyProof.Rows.All
import Wide.All
import OpenK.AllK
import Wide.FinOn
import Lean
import PySem.Challenge.RW_wf0051_01
open PySem PySem.W PyProof.Rows
set_option Elab.async false
set_option maxRecDepth 100000
set_option maxHeartbeats 4000000
set_option linter.unusedVariables false
set_option linter.unusedSimpArgs false

namespace Mine
theorem om0 : ∀ {x x_1 x_2 x_3 : Nat}, x + x_1 < x_2 → x_3 ≤ x_1 → x + x_3 < x_2 := by intro x a b c h1 h2; exact Nat.lt_of_le_of_lt (Nat.add_le_add_left h2 x) h1
theorem om1 : ∀ {x x_1 x_2 x_3 : Nat}, x + (8 : Nat) * x_1 + (8 : Nat) < x_2 → x_3 ≤ x_1 → x + (8 : Nat) * x_3 + (8 : Nat) < x_2 := by intro x a b c h1 h2; exact Nat.lt_of_le_of_lt (Nat.add_le_add_right (Nat.add_le_add_left (Nat.mul_le_mul_left 8 h2) x) 8) h1
theorem om2 : ∀ {x x_1 x_2 : Nat}, x + (x_1 + (1 : Nat)) < x_2 → x + (1 : Nat) + x_1 < x_2 := by intro x a b h; rw [Nat.add_right_comm]; exact h
theorem om3 : ∀ {x x_1 x_2 : Nat}, x + (8 : Nat) * (x_1 + (1 : Nat)) + (8 : Nat) < x_2 → x + (3 : Nat) + (8 : Nat) * x_1 + (8 : Nat) < x_2 := by intro x a b h; exact Nat.lt_of_le_of_lt (Nat.add_le_add_right (by rw [Nat.add_assoc, Nat.add_comm 3]; exact Nat.add_le_add_left (Nat.add_le_add_left (by decide : 3 ≤ 8) _) _) 8) h
theorem om4 : ∀ {x x_1 : Nat}, ¬x < x_1 → x_1 ≤ x := by intros; simp_all
theorem om5 : ∀ {x x_1 x_2 : Nat}, x < x_1 → x_1 = x_2 → x < x_2 := by intros; simp_all
theorem om6 : ∀ {x x_1 : Nat}, x = x_1 → x ≤ (1000 : Nat) → x_1 ≤ (16777216 : Nat) := by intros; (subst_vars; first | exact Nat.le_trans (by assumption) (by decide) | exact Int.lt_of_le_of_lt (Int.ofNat_le.mpr (by assumption)) (by decide) | exact Nat.lt_of_lt_of_le (by assumption) (by assumption) | exact Nat.lt_of_le_of_lt (by assumption) (by assumption))
theorem om7 : ∀ {x x_1 x_2 : Nat}, x + (x_1 + (1 : Nat)) < x_2 → x < x_2 := by intro x a b h; exact Nat.lt_of_le_of_lt (Nat.le_add_right _ _) h
theorem om8 : ∀ {x : Int} {x_1 : Nat}, ¬x.toNat < x_1 → x_1 ≤ x.toNat := by intros; simp_all
theorem om9 : ∀ {x : Int}, (0 : Int) ≤ x → -(2 : Int) ^ (63 : Nat) ≤ x := by intros; lia
theorem om10 : ∀ {x : Int}, (0 : Int) ≤ x → ¬x < (0 : Int) := by intros; simp_all
theorem om11 : ∀ {x : Int} {x_1 : Nat}, ¬x < (0 : Int) → x.toNat < x_1 → (0 : Int) ≤ x ∧ x < (↑x_1 : Int) := by intros; simp_all
theorem om12 : ∀ {x x_1 : Nat}, x = x_1 → x_1 ≤ (1000 : Nat) → x ≤ (16777216 : Nat) := by intros; (subst_vars; first | exact Nat.le_trans (by assumption) (by decide) | exact Int.lt_of_le_of_lt (Int.ofNat_le.mpr (by assumption)) (by decide) | exact Nat.lt_of_lt_of_le (by assumption) (by assumption) | exact Nat.lt_of_le_of_lt (by assumption) (by assumption))
theorem om13 : ∀ {x x_1 : Nat}, x = x_1 → x_1 ≤ (1000 : Nat) → (↑x : Int) < (2 : Int) ^ (63 : Nat) := by intro x a h1 h2; subst h1; exact Int.lt_of_le_of_lt (Int.ofNat_le.mpr h2) (by decide)
theorem om14 : ∀ {x x_1 x_2 x_3 : Nat}, x = x_1 → x_2 = x_3 → x_3 + x_1 ≤ (1000 : Nat) → x_2 + x ≤ (16777216 : Nat) := by intro x a b c h1 h2 h3; subst h1; subst h2; exact Nat.le_trans h3 (by decide)
theorem om15 : ∀ {x : Nat}, (2 : Nat) = x → x = (2 : Nat) := by intros; (subst_vars; rfl)
theorem om16 : ∀ {x : Nat}, (3 : Nat) = x → x = (3 : Nat) := by intros; (subst_vars; rfl)
theorem om17 : ∀ {x x_1 x_2 : Nat}, x < x_1 → x_2 = x_1 → x < x_2 := by intros; (subst_vars; assumption)
theorem om18 : ∀ {x x_1 : Nat}, x = x_1 → x_1 = x := by intros; (subst_vars; rfl)
theorem om19 : ∀ {x x_1 x_2 x_3 : Nat}, x = x_1 → x_2 < x → x_1 = x_3 → x_2 < x_3 := by intros; simp_all
theorem om20 : -(2 : Int) ^ (62 : Nat) ≤ (0 : Int) := by intros; exact Int.natCast_nonneg _
theorem om21 : (0 : Int) < (2 : Int) ^ (62 : Nat) := by intros; exact Int.natCast_nonneg _
theorem om22 : ∀ {x : Nat}, -(2 : Int) ^ (62 : Nat) ≤ (↑x : Int) := by intros; exact Int.natCast_nonneg _
theorem om23 : ∀ {x : Nat}, x ≤ (1000 : Nat) → (↑x : Int) < (2 : Int) ^ (62 : Nat) := by intros; exact Int.lt_of_le_of_lt (Int.ofNat_le.mpr (by assumption)) (by decide)
theorem om24 : ∀ {x x_1 : Nat}, x < x_1 → x_1 + (1 : Nat) - (x + (1 : Nat)) < x_1 + (1 : Nat) - x := by intro a b h; rw [Nat.add_sub_add_right]; exact Nat.lt_of_lt_of_eq (Nat.lt_succ_self _) (Nat.succ_sub (Nat.le_of_lt h)).symm
theorem om25 : ∀ {x x_1 : Nat}, ¬x < x_1 → x ≤ x_1 → x = x_1 := by intros; lia
theorem om26 : (0 : Nat) ≤ (16777216 : Nat) := by intros; exact Nat.zero_le _
theorem om27 : ∀ {x : Nat}, ¬x + (1 : Nat) < x := by intros; simp_all
theorem om28 : ∀ {x x_1 : Nat}, x + (1 : Nat) < x_1 → x ≤ x_1 := by intros; lia
theorem om29 : ∀ {x x_1 : Nat}, x < x_1 → x < x_1 + (1 : Nat) := by intros; exact Nat.le_trans (by assumption) (Nat.le_add_right _ _)
theorem om30 : ∀ {x : Nat}, x < x + (1 : Nat) := by intros; exact Nat.lt_succ_self _
theorem om31 : ∀ {x x_1 : Nat}, x + (1 : Nat) ≤ x_1 → x ≤ x_1 := by intros; exact Nat.le_of_lt (by assumption)
theorem om32 : ∀ {x x_1 : Nat}, x ≤ x_1 → x ≤ x_1 + (1 : Nat) := by intros; exact Nat.le_trans (by assumption) (Nat.le_add_right _ _)
theorem om33 : ∀ {x x_1 x_2 : Nat}, x ≤ x_1 → x_1 < x_2 → x_2 ≤ (1000 : Nat) → x ≤ (1000 : Nat) := by intros; lia
theorem om34 : ∀ {x x_1 x_2 x_3 x_4 : Nat}, x ≤ x_1 + x_2 → x_2 < x_3 → x_1 ≤ x_4 → x_4 + x_3 ≤ (1000 : Nat) → x ≤ (1000 : Nat) := by intro x a b c d h1 h2 h3 h4; exact Nat.le_trans h1 (Nat.le_trans (Nat.add_le_add h3 (Nat.le_of_lt h2)) h4)
theorem om35 : ∀ {x x_1 x_2 : Nat}, x ≤ x_1 + x_2 → x + (1 : Nat) ≤ x_1 + (x_2 + (1 : Nat)) := by intro x a b h; exact Nat.succ_le_succ h
theorem om36 : ∀ {x x_1 x_2 : Nat}, x ≤ x_1 + x_2 → x ≤ x_1 + (1 : Nat) * x_2 := by intros; simp_all
theorem om37 : ∀ {x x_1 x_2 : Nat}, x + (8 : Nat) * x_1 + (8 : Nat) < x_2 → x < x_2 := by intro x a b h; exact Nat.lt_of_le_of_lt (Nat.le_trans (Nat.le_add_right x _) (Nat.le_add_right _ 8)) h
theorem om38 : ∀ {x x_1 x_2 : Nat}, x = x_1 → x_2 < x_1 → x_2 < x := by intros; (subst_vars; assumption)
theorem om39 : ∀ {x x_1 x_2 x_3 : Nat}, x = x_1 → x_2 = x_1 → x_3 = x → x_3 = x_2 := by intros; simp_all
theorem om40 : ∀ {x x_1 x_2 x_3 : Nat}, ¬x = x_1 → x_2 = x_1 → x_3 = x → ¬x_3 = x_2 := by intros; (subst_vars; assumption)
theorem om41 : ∀ {x : Nat}, (0 : Nat) = x → (0 : Nat) < x → False := by intros; simp_all
theorem om42 : ∀ {x : Int}, -(2 : Int) ^ (62 : Nat) < x → x < (2 : Int) ^ (62 : Nat) → (-9223372036854775808 : Int) ≤ x ∧ x < (9223372036854775808 : Int) := by intro x h1 h2; exact ⟨Int.le_trans (by decide) (Int.le_of_lt h1), Int.lt_trans h2 (by decide)⟩
theorem om43 : ∀ {x : Nat}, x ≤ (1000 : Nat) → ¬x > ((2 : Nat) ^ (63 : Nat) - (1 : Nat)) / (8 : Nat) := by intros; lia
theorem om44 : ∀ {x : Nat}, x ≤ (1000 : Nat) → x ≤ (16777216 : Nat) := by intros; exact Nat.le_trans (by assumption) (by decide)
theorem om45 : ∀ {x x_1 x_2 : Nat}, x < x_1 → x_1 = x_2 → x_1 - (1 : Nat) - x < x_2 := by intro a b c h1 h2; rw [← h2]; exact Nat.lt_of_le_of_lt (Nat.sub_le _ _) (Nat.sub_lt (Nat.lt_of_le_of_lt (Nat.zero_le a) h1) Nat.one_pos)
theorem om46 : ∀ {x : Int}, (0 : Int) ≤ x ∧ x < (2 : Int) ^ (40 : Nat) → -(2 : Int) ^ (63 : Nat) ≤ x := by intro x h; exact Int.le_trans (by decide) h.1
theorem om47 : ∀ {x : Int}, (0 : Int) ≤ x ∧ x < (2 : Int) ^ (40 : Nat) → x < (2 : Int) ^ (63 : Nat) := by intro x h; exact Int.lt_trans h.2 (by decide)
theorem om48 : ∀ {x x_1 : Nat}, x < x_1 → x + (1 : Nat) ≤ x_1 := by intros; assumption
theorem om49 : ∀ {x : Int} {x_1 : Nat} {x_2 : Int}, (0 : Int) ≤ x ∧ x ≤ (2 : Int) ^ (40 : Nat) * (↑x_1 : Int) → (0 : Int) ≤ x_2 ∧ x_2 < (2 : Int) ^ (40 : Nat) → (0 : Int) ≤ x_2 + x ∧ x_2 + x ≤ (1099511627776 : Int) * ((↑x_1 : Int) + (1 : Int)) := by intro x a b h1 h2; exact ⟨Int.add_nonneg h2.1 h1.1, by rw [Int.mul_add, Int.add_comm b]; exact Int.add_le_add h1.2 (Int.le_of_lt h2.2)⟩
theorem om50 : ∀ {x x_1 : Nat}, min (x + (1 : Nat)) x_1 ≤ x_1 := by intro x a; exact Nat.min_le_right _ _
theorem om51 : ∀ {x x_1 : Nat}, x ≤ x_1 → x_1 ≤ (1000 : Nat) → (↑x : Int) ≤ (1000 : Int) := by intros; lia
theorem om52 : ∀ {x : Int} {x_1 : Nat}, (0 : Int) ≤ x ∧ x ≤ (2 : Int) ^ (40 : Nat) * (↑x_1 : Int) → -(2 : Int) ^ (63 : Nat) ≤ x := by intro x a h; exact Int.le_trans (by decide) h.1
theorem om53 : ∀ {x : Nat} {x_1 : Int}, (↑x : Int) ≤ (1000 : Int) → (0 : Int) ≤ x_1 ∧ x_1 ≤ (2 : Int) ^ (40 : Nat) * (↑x : Int) → x_1 < (2 : Int) ^ (63 : Nat) := by intro x a h1 h2; exact Int.lt_of_le_of_lt h2.2 (Int.lt_of_le_of_lt (Int.mul_le_mul_of_nonneg_left h1 (by decide)) (by decide))
theorem om54 : ∀ {x : Nat}, x ≤ (0 : Nat) → x = (0 : Nat) := by intros; simp_all
theorem om55 : ∀ {x x_1 : Nat}, x + (1 : Nat) < x_1 → x < x_1 := by intros; exact Nat.le_of_lt (by assumption)
theorem om56 : ∀ {x x_1 : Nat}, ¬x = x_1 + (1 : Nat) → x ≤ x_1 + (1 : Nat) → x ≤ x_1 := by intros; lia
theorem om57 : ∀ {x x_1 x_2 : Int}, x ≤ x_1 → x_1 < x_2 → x ≤ x_2 := by intro x a b h1 h2; exact Int.le_trans h1 (Int.le_of_lt h2)
theorem om58 : ∀ {x x_1 : Int}, ¬x < x_1 → x_1 ≤ x := by intros; simp_all
theorem om59 : ∀ {x x_1 : Nat}, (0 : Nat) < x → x_1 = x → (0 : Nat) < x_1 := by intros; (subst_vars; assumption)
theorem om60 : ∀ {x x_1 : Nat}, (0 : Nat) < x → x_1 = x → x_1 - (1 : Nat) < x := by intro a b h1 h2; rw [h2]; exact Nat.sub_lt h1 Nat.one_pos
theorem om61 : ∀ {x x_1 x_2 : Nat}, x ≤ x_1 - (1 : Nat) → (0 : Nat) < x_2 → x_1 = x_2 → x < x_2 := by intro a b c h1 h2 h3; rw [← h3]; exact Nat.lt_of_le_of_lt h1 (Nat.sub_lt (h3 ▸ h2) Nat.one_pos)
theorem om62 : ∀ {x x_1 x_2 : Nat}, x < x_1 → x_2 = x_1 → x ≤ x_2 - (1 : Nat) := by intro a b c h1 h2; rw [h2]; exact Nat.le_sub_one_of_lt h1
theorem om63 : ∀ {x x_1 x_2 x_3 x_4 : Int}, x = x_1 → x ≤ x_2 → x_1 = x_3 → x_4 ≤ x_3 → x_2 = x_4 → x_2 = x_3 := by intro x a b c d h1 h2 h3 h4 h5; subst h1; subst h3; subst h5; exact Int.le_antisymm h4 h2
theorem om64 : ∀ {x x_1 : Nat}, x + (x_1 + (1 : Nat)) = x + (1 : Nat) + x_1 := by intros; lia
theorem om65 : ∀ {x : Int}, ¬x = (5 : Int) → ¬x = (4 : Int) → ¬x = (3 : Int) → ¬x = (2 : Int) → ¬x = (1 : Int) → ¬x = (0 : Int) → (0 : Int) ≤ x ∧ x < (6 : Int) → False := by intros; lia
theorem om66 : ∀ {x : Nat}, x < (100 : Nat) → (↑x : Int).natAbs < (2 : Nat) ^ (1023 : Nat) := by intro x h; exact Nat.lt_trans h (by decide)
theorem om67 : ∀ {x : Nat}, x < (4 : Nat) → x = (0 : Nat) ∨ x = (1 : Nat) ∨ x = (2 : Nat) ∨ x = (3 : Nat) := by intros; lia
theorem om68 : ∀ {x : Nat}, x < (32 : Nat) → x < (100 : Nat) := by intros; exact Nat.le_trans (by assumption) (by decide)
theorem om69 : ∀ {x : Nat}, ¬x < (4 : Nat) → (4 : Nat) ≤ x := by intros; simp_all
theorem om70 : ∀ {x x_1 x_2 : Nat}, (2 : Nat) ^ (4 : Nat) ≤ x → x ≤ x_1 → x_1 < (16 : Nat) → x_2 < (4 : Nat) := by intro x a b h1 h2 h3; exact absurd (Nat.lt_of_le_of_lt (Nat.le_trans h1 h2) h3) (by decide)
theorem om71 : ∀ {x : Nat}, x < (4 : Nat) → x < (32 : Nat) := by intros; exact Nat.le_trans (by assumption) (by decide)
theorem om72 : ∀ {x : Nat}, x < (4 : Nat) → (↑(1 : Nat) : Int) + (↑x : Int) ≤ (2 : Int) ^ (27 : Nat) := by intros; lia
theorem om73 : ∀ {x : Nat}, (0 : Int) ≤ (↑x : Int) := by intros; exact Int.natCast_nonneg _
theorem om74 : ∀ {x x_1 : Nat}, x ≤ x_1 → x_1 < (4 : Nat) → x ≤ (1000 : Nat) := by intros; lia
theorem om75 : ∀ {x : Nat}, (2 : Nat) ^ (32 : Nat) ≤ x → x < (16 : Nat) → False := by intros; lia
theorem om76 : ∀ {x x_1 : Int}, (0 : Int) ≤ x ∧ x < x_1 → x ≤ x_1 - (1 : Int) := by intros; exact Int.le_sub_one_of_lt (And.right (by assumption))
theorem om77 : ∀ {x x_1 x_2 x_3 x_4 : Int}, x = x_1 - x_2 → (0 : Int) ≤ x_3 → x_3 ≤ x → (0 : Int) ≤ x_4 ∧ x_4 < x_2 → (0 : Int) ≤ x_4 + x_3 ∧ x_4 + x_3 < x_1 := by intro x a b c d h h1 h2 h3; subst h; exact ⟨Int.add_nonneg h3.1 h1, Int.lt_of_lt_of_le (Int.add_lt_add_of_lt_of_le h3.2 h2) (Int.le_of_eq (by rw [Int.add_comm, Int.sub_add_cancel]))⟩
theorem om78 : ∀ {x x_1 x_2 : Nat}, x ≤ x_1 → x_2 ≤ x → x_1 - x_2 = x - x_2 + (x_1 - x) := by intro a b c h1 h2; rw [Nat.add_comm]; exact (Nat.sub_add_sub_cancel h1 h2).symm
theorem om79 : ∀ {x x_1 : Nat}, x ≤ x_1 → x + (x_1 - x) = x_1 := by intros; exact Nat.add_sub_of_le (by assumption)
theorem om80 : ∀ {x x_1 x_2 : Nat}, x ≤ x_1 → min (x - x_2) (x_1 - x_2) = x - x_2 := by intro a b c h; exact Nat.min_eq_left (Nat.sub_le_sub_right h c)
theorem om81 : ∀ {x : Nat}, x + (1 : Nat) - x = (1 : Nat) := by intros; simp_all
theorem om82 : ∀ {x : Nat}, (0 : Nat) ≤ x := by intros; exact Nat.zero_le _
theorem om83 : ∀ {x : Int}, x ≠ (0 : Int) → x.natAbs ≠ (0 : Nat) := by intros; simp_all
theorem om84 : ∀ {x x_1 : Int}, x < x_1 → (0 : Int) ≤ x → (↑x.natAbs : Int) < x_1 := by intro x a h1 h2; rw [Int.natAbs_of_nonneg h2]; exact h1
theorem om85 : ∀ {x x_1 x_2 : Nat}, x < x_1 → x_1 - x = x_2 → x_2 = x_2 - (1 : Nat) + (1 : Nat) := by intro a b c h1 h2; exact (Nat.sub_add_cancel (h2 ▸ Nat.sub_pos_of_lt h1)).symm
theorem om86 : ∀ {x x_1 x_2 : Nat}, x - x_1 ≤ x_2 → x - x_1 < x_2 + (1 : Nat) := by intros; exact Nat.succ_le_succ (by assumption)
theorem om87 : ∀ {x x_1 : Nat}, (↑x : Int) + (1 : Int) = (↑x_1 : Int) → x + (1 : Nat) = x_1 := by intro x a h; exact Int.ofNat_inj.mp h
theorem om88 : ∀ {x x_1 : Nat}, x + (1 : Nat) ≤ x_1 → x < x_1 := by intros; assumption
theorem om89 : ∀ {x x_1 : Nat}, x < x_1 → x_1 ≤ (1000 : Nat) → (↑x : Int) < (2 : Int) ^ (63 : Nat) := by intro x a h1 h2; exact Int.lt_of_lt_of_le (Int.ofNat_lt.mpr (Nat.lt_of_lt_of_le h1 h2)) (by decide)
theorem om90 : ∀ {x x_1 x_2 : Nat}, (↑x : Int) + (1 : Int) ≠ (↑x_1 : Int) → x_1 - x = x_2 + (1 : Nat) → x + (1 : Nat) < x_1 := by intro x a b h1 h2; exact Nat.lt_of_le_of_ne (Nat.lt_of_sub_eq_succ h2) fun q => h1 (by rw [← q]; rfl)
theorem om91 : ∀ {x x_1 : Nat}, x + (1 : Nat) < x_1 → x < (x + x_1) / (2 : Nat) := by intro x a h; exact (Nat.le_div_iff_mul_le (by decide)).mpr (by rw [Nat.mul_two, Nat.succ_add_eq_add_succ]; exact Nat.add_le_add_left h x)
theorem om92 : ∀ {x x_1 : Nat}, x < (x + x_1) / (2 : Nat) → (x + x_1) / (2 : Nat) < x_1 := by intro x a h; have q : x < a := Nat.lt_of_not_le fun q => absurd h (Nat.not_lt.mpr (Nat.le_trans (Nat.div_le_div_right (Nat.add_le_add_left q x)) (Nat.le_of_eq (by rw [← Nat.two_mul]; exact Nat.mul_div_cancel_left x (by decide))))); exact Nat.div_lt_of_lt_mul (by rw [Nat.two_mul]; exact Nat.add_lt_add_right q a)
theorem om93 : ∀ {x x_1 x_2 : Nat}, (x + x_1) / (2 : Nat) = x_2 → ((↑x : Int) + (↑x_1 : Int)) / (2 : Int) = (↑x_2 : Int) := by intros; (subst_vars; rfl)
theorem om94 : ∀ {x x_1 : Nat}, x < x_1 → x ≤ x_1 := by intros; exact Nat.le_of_lt (by assumption)
theorem om95 : ∀ {x x_1 x_2 x_3 : Nat}, x < x_1 → x_1 ≤ x_2 → x_2 ≤ (1000 : Nat) → x - x_3 ≤ (1000 : Nat) := by intro a b c d h1 h2 h3; exact Nat.le_trans (Nat.sub_le _ _) (Nat.le_trans (Nat.le_of_lt h1) (Nat.le_trans h2 h3))
theorem om96 : ∀ {x x_1 : Nat}, x < x_1 → (0 : Int) ≤ (↑x_1 : Int) - (↑x : Int) := by intros; lia
theorem om97 : ∀ {x x_1 x_2 x_3 : Nat}, x < x_1 → x_1 ≤ x_2 → x_2 ≤ (1000 : Nat) → (↑x : Int) - (↑x_3 : Int) < (2 : Int) ^ (64 : Nat) := by intro x a b c h1 h2 h3; exact Int.lt_of_le_of_lt (Int.sub_le_self _ (Int.natCast_nonneg _)) (Int.lt_of_lt_of_le (Int.ofNat_lt.mpr (Nat.lt_of_lt_of_le h1 (Nat.le_trans h2 h3))) (by decide))
theorem om98 : ∀ {x x_1 x_2 : Nat}, x ≤ x_1 → x_1 ≤ (1000 : Nat) → x - x_2 ≤ (1000 : Nat) := by intro a b c h1 h2; exact Nat.le_trans (Nat.sub_le _ _) (Nat.le_trans h1 h2)
theorem om99 : ∀ {x x_1 x_2 : Nat}, x < x_1 → x_1 ≤ x_2 → x ≤ x_2 := by intros; lia
theorem om100 : ∀ {x x_1 x_2 x_3 : Nat}, x < x_1 → x_2 - x = x_3 + (1 : Nat) → x_2 - x_1 ≤ x_3 := by intro a b c d h1 h2; have h := Nat.sub_lt_sub_left (Nat.lt_of_not_le fun q => absurd ((Nat.sub_eq_zero_of_le q).symm.trans h2).symm (Nat.succ_ne_zero d)) h1; rw [h2] at h; exact Nat.le_of_lt_succ h
theorem om101 : ∀ {x x_1 x_2 : Nat}, x ≤ (2000 : Nat) * (1000 : Nat) → x_1 ≤ x → x_2 ≤ (2000 : Nat) * (1000 : Nat) → (↑x_1 : Int) + (↑x_2 : Int) ≤ (2 : Int) ^ (27 : Nat) := by intro x a b h1 h2 h3; exact Int.le_trans (Int.add_le_add (Int.ofNat_le.mpr (Nat.le_trans h2 h1)) (Int.ofNat_le.mpr h3)) (by decide)
theorem om102 : ∀ {x x_1 x_2 x_3 : Nat}, x < x_1 → x_1 - x_2 = x_3 + (1 : Nat) → x - x_2 ≤ x_3 := by intro a b c d h1 h2; exact Nat.le_of_lt_succ (Nat.lt_of_le_of_lt (Nat.sub_le_sub_right (Nat.le_sub_one_of_lt h1) c) (by rw [Nat.sub_right_comm, h2]; exact Nat.lt_succ_self d))
theorem om103 : ∀ {x : Nat}, x ≤ (900 : Nat) → x ≤ (1000 : Nat) := by intros; exact Nat.le_trans (by assumption) (by decide)
theorem om104 : ∀ {x : Nat}, x - (0 : Nat) ≤ x + (1 : Nat) := by intros; exact Nat.le_succ _
theorem om105 : ∀ {x x_1 : Nat}, x + (1 : Nat) + x_1 = x + x_1 + (1 : Nat) := by intros; exact Nat.add_right_comm _ _ _
theorem om106 : ∀ {x : Int}, (0 : Int) < x → x ≠ (0 : Int) := by intros; exact Int.ne_of_gt (by assumption)
theorem om107 : ∀ {x x_1 : Int}, x - x_1 = x + -x_1 := by intros; (subst_vars; rfl)
theorem om108 : ∀ {x : Int}, x < (1 : Int) → (0 : Int) ≤ x → (0 : Int) = x := by intros; lia
theorem om109 : ∀ {x x_1 x_2 x_3 : Nat}, x + x_1 + x_2 ≤ x_3 → x ≤ min x x_3 := by intro x a b c h; exact Nat.le_min.mpr ⟨Nat.le_refl _, Nat.le_trans (Nat.le_trans (Nat.le_add_right _ _) (Nat.le_add_right _ _)) h⟩
theorem om110 : ∀ {x x_1 : Nat}, min x x_1 ≤ x := by intro x a; exact Nat.min_le_left _ _
theorem om111 : ∀ {x x_1 x_2 x_3 : Nat}, x + x_1 + x_2 ≤ x_3 → min x x_3 = x := by intro x a b c h; exact Nat.min_eq_left (Nat.le_trans (Nat.le_trans (Nat.le_add_right _ _) (Nat.le_add_right _ _)) h)
theorem om112 : ∀ {x x_1 x_2 x_3 : Nat}, x = x_1 + x_2 → x ≤ x_1 + x_2 + x_3 := by intros; simp_all
theorem om113 : ∀ {x x_1 x_2 : Nat}, x + x_1 + (x + x_1 + x_2 - (x + x_1)) = x + x_1 + x_2 := by intros; simp_all
theorem om114 : ∀ {x x_1 x_2 : Nat}, x + x_1 ≤ x_2 → min x x_2 + (x_1 + (x_2 - (x + x_1))) = x_2 := by intro a b c h; rw [Nat.min_eq_left (Nat.le_trans (Nat.le_add_right a b) h), ← Nat.add_assoc]; exact Nat.add_sub_of_le h
theorem om115 : ∀ {x x_1 : Nat}, x ≤ x_1 → x_1 - x + x = x_1 := by intros; exact Nat.sub_add_cancel (by assumption)
theorem om116 : ∀ {x x_1 x_2 x_3 : Nat}, x = x_1 → x_1 + x_2 = x_3 → (↑x_3 : Int) + (↑x : Int) - (2 : Int) * (↑x : Int) = (↑x_2 : Int) := by intro x a b c h1 h2; subst h1; subst h2; rw [Int.natCast_add, Int.two_mul, ← Int.sub_sub, Int.add_sub_cancel, Int.add_comm, Int.add_sub_cancel]
theorem om117 : ∀ {x x_1 : Nat}, (↑x : Int) < (↑x_1 : Int) → x < x_1 := by intros; simp_all
theorem om118 : ∀ {x x_1 x_2 x_3 : Nat}, x = x_1 → x_2 + (1 : Nat) ≤ x_3 → x_1 = x_3 → (↑x_2 : Int) < (↑x : Int) := by intro x a b c h1 h2 h3; subst h1; subst h3; exact Int.ofNat_lt.mpr h2
theorem om119 : ∀ {x x_1 : Nat}, x + (1 : Nat) ≤ x_1 → x_1 ≤ (900 : Nat) → (↑x : Int) < (2 : Int) ^ (63 : Nat) := by intro x a h1 h2; exact Int.lt_of_lt_of_le (Int.ofNat_lt.mpr (Nat.lt_of_lt_of_le h1 h2)) (by decide)
theorem om120 : ∀ {x x_1 x_2 : Nat}, x + (1 : Nat) ≤ x_1 → x_2 = x_1 → x < x_2 := by intros; (subst_vars; assumption)
theorem om121 : ∀ {x x_1 : Nat}, x < x_1 → (↑(x_1 - x) : Int) = (↑x_1 : Int) - (↑x : Int) := by intro a b h; exact Int.ofNat_sub (Nat.le_of_lt h)
theorem om122 : ∀ {x x_1 x_2 x_3 : Nat}, x < x_1 → x_1 ≤ x_2 → x_2 ≤ (900 : Nat) → x - x_3 ≤ (900 : Nat) := by intro a b c d h1 h2 h3; exact Nat.le_trans (Nat.sub_le _ _) (Nat.le_trans (Nat.le_of_lt h1) (Nat.le_trans h2 h3))
theorem om123 : ∀ {x x_1 x_2 : Nat}, (↑(x - x_1) : Int) = (↑x : Int) - (↑x_1 : Int) → x < x_2 → x_2 - x + (x - x_1) = x_2 - x_1 := by intro a b c h1 h2; exact Nat.sub_add_sub_cancel (Nat.le_of_lt h2) (Nat.le_of_not_lt fun q => by rw [Nat.sub_eq_zero_of_le (Nat.le_of_lt q)] at h1; exact absurd (Int.ofNat_lt.mpr q) (Int.not_lt.mpr (Int.sub_nonneg.mp (h1 ▸ Int.le_refl 0))))
theorem om124 : ∀ {x x_1 x_2 : Nat}, x ≤ x_1 → x_1 ≤ (900 : Nat) → x - x_2 ≤ (900 : Nat) := by intro a b c h1 h2; exact Nat.le_trans (Nat.sub_le _ _) (Nat.le_trans h1 h2)
theorem om125 : ∀ {x x_1 : Nat}, (↑(x - x_1) : Int) = (↑x : Int) - (↑x_1 : Int) → (0 : Int) ≤ (↑x : Int) - (↑x_1 : Int) := by intro x a h; rw [← h]; exact Int.natCast_nonneg _
theorem om126 : ∀ {x x_1 x_2 x_3 : Nat}, x < x_1 → x_1 ≤ x_2 → x_2 ≤ (900 : Nat) → (↑x : Int) - (↑x_3 : Int) < (2 : Int) ^ (64 : Nat) := by intro x a b c h1 h2 h3; exact Int.lt_of_le_of_lt (Int.sub_le_self _ (Int.natCast_nonneg _)) (Int.lt_of_lt_of_le (Int.ofNat_lt.mpr (Nat.lt_of_lt_of_le h1 (Nat.le_trans h2 h3))) (by decide))
theorem om127 : ∀ {x x_1 x_2 : Nat}, x ≤ x_1 → x_1 ≤ (2000 : Nat) * (900 : Nat) → x_2 ≤ (2000 : Nat) * (900 : Nat) → (↑x : Int) + (↑x_2 : Int) ≤ (2 : Int) ^ (27 : Nat) := by intro x a b h1 h2 h3; exact Int.le_trans (Int.add_le_add (Int.ofNat_le.mpr (Nat.le_trans h1 h2)) (Int.ofNat_le.mpr h3)) (by decide)
theorem om128 : ∀ {x x_1 x_2 x_3 : Nat}, x < x_1 → x_1 - x_2 = x_3 + (1 : Nat) → x - x_2 < x_3 + (1 : Nat) := by intro a b c d h1 h2; exact if q : c ≤ a then h2 ▸ Nat.sub_lt_sub_right q h1 else (Nat.sub_eq_zero_of_le (Nat.le_of_not_le q)).symm ▸ Nat.succ_pos d
theorem om129 : ∀ {x x_1 x_2 x_3 x_4 : Nat}, (↑(x - x_1) : Int) = (↑x : Int) - (↑x_1 : Int) → x < x_2 → x_3 = x_4 → x_2 ≤ x_4 → x_1 + (x - x_1) ≤ x_3 := by intro x a b c d h h1 h2 h3; subst h2; rw [Nat.add_comm, Nat.sub_add_cancel (Int.ofNat_le.mp (Int.sub_nonneg.mp (h ▸ Int.natCast_nonneg _)))]; exact Nat.le_trans (Nat.le_of_lt h1) h3
theorem om130 : ∀ {x x_1 x_2 x_3 : Nat}, x < x_1 → x_2 - x = x_3 + (1 : Nat) → x_2 - x_1 < x_3 + (1 : Nat) := by intro a b c d h1 h2; rw [← h2]; exact Nat.sub_lt_sub_left (Nat.lt_of_not_le fun q => absurd ((Nat.sub_eq_zero_of_le q).symm.trans h2).symm (Nat.succ_ne_zero d)) h1
theorem om131 : ∀ {x x_1 x_2 : Nat}, (↑(x - x_1) : Int) = (↑x : Int) - (↑x_1 : Int) → x < x_2 → x - x_1 + (x_2 - x) = x_2 - x_1 := by intro a b c h1 h2; rw [Nat.add_comm]; exact Nat.sub_add_sub_cancel (Nat.le_of_lt h2) (Nat.le_of_not_lt fun q => by rw [Nat.sub_eq_zero_of_le (Nat.le_of_lt q)] at h1; exact absurd (Int.ofNat_lt.mpr q) (Int.not_lt.mpr (Int.sub_nonneg.mp (h1 ▸ Int.le_refl 0))))
theorem om132 : ∀ {x x_1 x_2 x_3 x_4 : Nat}, (↑(x - x_1) : Int) = (↑x : Int) - (↑x_1 : Int) → x < x_2 → x_3 = x_4 → x_2 ≤ x_4 → x_1 + (x - x_1) + (x_2 - x) ≤ x_3 := by intro a b c d e h1 h2 h3 h4; exact Nat.le_trans (Nat.le_of_eq (by lia : _ = c)) (h3 ▸ h4)
theorem om133 : ∀ {x x_1 : Nat}, (↑(x - x_1) : Int) = (↑x : Int) - (↑x_1 : Int) → x_1 + (x - x_1) = x := by intro x a h; exact Int.ofNat_inj.mp (by rw [Int.natCast_add, h, Int.add_comm, Int.sub_add_cancel])
theorem om134 : ∀ {x : Nat}, (1 : Nat) ≤ x → x > (0 : Nat) := by intros; assumption
theorem om135 : ∀ {x x_1 x_2 : Nat}, x = x_1 + (1 : Nat) → x ≤ x_2 → x_1 + (1 : Nat) ≤ x_2 := by intros; simp_all
theorem om136 : ∀ {x : Nat}, (1 : Nat) ≤ x → (0 : Nat) + x - (1 : Nat) < x := by intro a h; rw [Nat.zero_add]; exact Nat.sub_lt h Nat.one_pos
theorem om137 : ∀ {x : Nat}, (1 : Nat) ≤ x + (1 : Nat) := by intros; exact Nat.le_add_left _ _
theorem om138 : ∀ {x x_1 : Nat}, (1 : Nat) ≤ x → x_1 ≤ x + x_1 - (1 : Nat) := by intro a b h; exact Nat.le_sub_one_of_lt (Nat.lt_add_of_pos_left h)
theorem om139 : ∀ {x : Nat}, (1 : Nat) ≤ x → (0 : Nat) < x := by intros; assumption
theorem om140 : ∀ {x x_1 : Nat}, (1 : Nat) ≤ x → (↑(x_1 + x - (1 : Nat)) : Int) = (↑x_1 : Int) + (↑x : Int) - (1 : Int) := by intro a b h; rw [Int.ofNat_sub (Nat.le_trans h (Nat.le_add_left a b)), Int.natCast_add]; rfl
theorem om141 : ∀ {x : Nat}, (1 : Nat) ≤ x → x ≠ (0 : Nat) := by intros; exact Nat.ne_of_gt (by assumption)
theorem om142 : ∀ {x : Nat}, x ≤ (2000 : Nat) → x < (2 : Nat) ^ (11 : Nat) := by intros; exact Nat.lt_of_le_of_lt (by assumption) (by decide)
theorem om143 : ∀ {x : Nat}, x < (11 : Nat) → x < (9000 : Nat) := by intros; exact Nat.le_trans (by assumption) (by decide)
theorem om144 : ∀ {x : Nat}, (1 : Nat) ≤ x → (↑x : Int) ≠ (0 : Int) := by intros; lia
theorem om145 : ∀ {x : Nat}, x ≤ (900 : Nat) → (↑x : Int) < (2 : Int) ^ (62 : Nat) := by intros; exact Int.lt_of_le_of_lt (Int.ofNat_le.mpr (by assumption)) (by decide)
theorem om146 : ∀ {x : Nat}, -(2 : Int) ^ (62 : Nat) < (↑x : Int) := by intros; exact Int.natCast_nonneg _
theorem om147 : ∀ {x x_1 : Nat}, x = x_1 → x_1 ≤ (900 : Nat) → (↑x : Int) < (2 : Int) ^ (63 : Nat) := by intro x a h1 h2; subst h1; exact Int.lt_of_le_of_lt (Int.ofNat_le.mpr h2) (by decide)
theorem om148 : ∀ {x x_1 x_2 : Int}, (0 : Int) ≤ x → (0 : Int) ≤ x_1 ∧ x_1 < x_2 → (0 : Int) ≤ x + x_1 := by intro x a b h1 h2; exact Int.add_nonneg h1 h2.1
theorem om149 : ∀ {x x_1 : Int}, x < x_1 → (0 : Int) ≤ x → (0 : Int) ≤ x_1 := by intros; lia
theorem om150 : ∀ {x x_1 : Int}, x < x_1 → x ≤ x_1 - (1 : Int) := by intros; exact Int.le_sub_one_of_lt (by assumption)
theorem om151 : ∀ {x x_1 x_2 x_3 x_4 : Int}, x = x_1 - x_2 → x_3 ≤ x → (0 : Int) ≤ x_4 ∧ x_4 < x_2 → x_3 + x_4 < x_1 := by intro x a b c d h h1 h3; subst h; exact Int.lt_of_lt_of_le (Int.add_lt_add_of_le_of_lt h1 h3.2) (Int.le_of_eq (by rw [Int.sub_add_cancel]))
theorem om152 : ∀ {x : Nat}, (0 : Nat) < x → (0 : Int) < (↑x : Int) := by intros; simp_all
theorem om153 : ∀ {x : Nat}, (0 : Int) < (↑x : Int) → x ≠ (0 : Nat) := by intros; lia
theorem om154 : ∀ {x x_1 : Nat}, x < x_1 → x_1 ≤ (2000 : Nat) → x < (9000 : Nat) := by intros; exact Nat.lt_of_lt_of_le (by assumption) (Nat.le_trans (by assumption) (by decide))
theorem om155 : ∀ {x x_1 : Nat}, x < x_1 → x_1 - x - (1 : Nat) < x_1 := by intro a b h; exact Nat.lt_of_lt_of_le (Nat.sub_lt (Nat.sub_pos_of_lt h) Nat.one_pos) (Nat.sub_le _ _)
theorem om156 : ∀ {x x_1 : Nat}, x - (1 : Nat) - x_1 = x - x_1 - (1 : Nat) := by intros; lia
theorem om157 : ∀ {x x_1 : Nat}, x - (x_1 + (1 : Nat)) = x - x_1 - (1 : Nat) := by intros; (subst_vars; rfl)
theorem om158 : ∀ {x x_1 : Nat}, x < x_1 → x_1 - x - (1 : Nat) + (1 : Nat) = x_1 - x := by intro a b h; exact Nat.sub_add_cancel (Nat.sub_pos_of_lt h)
theorem om159 : ∀ {x x_1 : Nat}, x ≤ (20 : Nat) → x ≤ (20 : Nat) + (x - x_1) := by intros; exact Nat.le_trans (by assumption) (Nat.le_add_right _ _)
theorem om160 : ∀ {x : Int} {x_1 : Nat} {x_2 : Int}, x < (↑x_1 : Int) → (↑x_1 : Int) < x_2 → x < x_2 := by intro x a b h1 h2; exact Int.lt_trans h1 h2
theorem om161 : ∀ {x : Int} {x_1 : Nat} {x_2 : Int}, x < (↑x_1 : Int) → (↑x_1 : Int) < x_2 → x ≤ x_2 - (1 : Int) := by intro x a b h1 h2; exact Int.le_sub_one_of_lt (Int.lt_trans h1 h2)
theorem om162 : ∀ {x x_1 : Nat}, x ≤ x_1 + x_1 → x_1 ≤ (2000 : Nat) → (↑x : Int) - (↑x_1 : Int) ≤ (4000 : Int) := by intro x a h1 h2; exact Int.le_trans (Int.sub_le_self _ (Int.natCast_nonneg _)) (Int.ofNat_le.mpr (Nat.le_trans h1 (Nat.add_le_add h2 h2)))
theorem om163 : ∀ {x : Int} {x_1 : Nat}, x < (↑x_1 : Int) → (0 : Int) ≤ x → (↑x_1 : Int) ≠ (0 : Int) := by intros; lia
theorem om164 : ∀ {x x_1 : Nat}, x ≤ x_1 → x_1 ≤ (2000 : Nat) → (↑x : Int) + (↑x_1 : Int) ≤ (2 : Int) ^ (27 : Nat) := by intro x a h1 h2; exact Int.le_trans (Int.add_le_add (Int.ofNat_le.mpr (Nat.le_trans h1 h2)) (Int.ofNat_le.mpr h2)) (by decide)
theorem om165 : ∀ {x : Nat}, x ≤ (20 : Nat) → x ≤ (1000 : Nat) := by intros; exact Nat.le_trans (by assumption) (by decide)
theorem om166 : ∀ {x : Nat}, x ≤ (20 : Nat) → x ≤ (900 : Nat) := by intros; exact Nat.le_trans (by assumption) (by decide)
theorem om167 : ∀ {x : Nat}, x ≤ (20 : Nat) → x + (2 : Nat) ≤ (25 : Nat) := by intros; lia
theorem om168 : ∀ {x : Nat}, (0 : Nat) < x → ¬x = (0 : Nat) := by intros; exact Nat.ne_of_gt (by assumption)
theorem om169 : ∀ {x : Nat}, x < (4 : Nat) → x ≤ (3 : Nat) := by intros; lia
theorem om170 : ∀ {x : Nat}, x ≤ (8 : Nat) → x + x ≤ (1000 : Nat) := by intros; exact Nat.le_trans (Nat.add_le_add (by assumption) (by assumption)) (by decide)
theorem om171 : ∀ {x : Nat}, x ≤ (8 : Nat) → x ≤ (1000 : Nat) := by intros; exact Nat.le_trans (by assumption) (by decide)
theorem om172 : ∀ {x x_1 : Nat}, x ≤ x_1 → x + x ≤ x_1 * (2 : Nat) := by intros; lia
theorem om173 : ∀ {x x_1 : Nat}, x ≤ x_1 → x ≤ x_1 * (2 : Nat) := by intros; exact Nat.le_trans (by assumption) (Nat.le_add_left _ _)
theorem om174 : ∀ {x : Nat}, x < (16 : Nat) → (0 : Int) ≤ (↑x : Int) ∧ (↑x : Int) < (16 : Int) := by intro x h; exact ⟨Int.natCast_nonneg x, Int.ofNat_lt.mpr h⟩
theorem om175 : ∀ {x : Int}, x < (16 : Int) → x.toNat < (16 : Nat) := by intros; simp_all
theorem om176 : ∀ {x : Int}, (0 : Int) ≤ x → (↑x.toNat : Int) = x := by intro x h; exact Int.toNat_of_nonneg h
theorem om177 : ∀ {x x_1 x_2 : Nat}, min (x - x_1) (x_2 - x_1) ≤ x_2 := by intro a b c; exact Nat.le_trans (Nat.min_le_right _ _) (Nat.sub_le _ _)
theorem om178 : ∀ {x : Int}, (0 : Int) ≤ x ∧ x < (3 : Int) → x = (0 : Int) ∨ x = (1 : Int) ∨ x = (2 : Int) := by intros; lia
theorem om179 : ∀ {x : Nat}, x ≤ (16 : Nat) → x ≤ (1000 : Nat) := by intros; exact Nat.le_trans (by assumption) (by decide)
theorem om180 : ∀ {x : Int} {x_1 : Nat}, (0 : Int) ≤ x ∧ x < (↑x_1 : Int) → (↑x_1 : Int) ≠ (0 : Int) := by intros; lia
theorem om181 : ∀ {x : Int} {x_1 : Nat}, (0 : Int) ≤ x ∧ x < (↑x_1 : Int) → x.toNat < x_1 := by intros; simp_all
theorem om182 : ∀ {x : Int} {x_1 : Nat}, (0 : Int) ≤ x ∧ x < (↑x_1 : Int) → x_1 ≤ (16 : Nat) → x < (2 : Int) ^ (63 : Nat) := by intro x a h1 h2; exact Int.lt_of_lt_of_le h1.2 (Int.le_trans (Int.ofNat_le.mpr h2) (by decide))
theorem om183 : ∀ {x x_1 x_2 : Nat}, x ≤ x_1 → x_2 ≤ x_1 → x_1 ≤ (16 : Nat) → x_2 + x ≤ (1000 : Nat) := by intro x a b h1 h2 h3; exact Nat.le_trans (Nat.add_le_add (Nat.le_trans h2 h3) (Nat.le_trans h1 h3)) (by decide)
theorem om184 : ∀ {x : Int}, (2 : Int) ≤ x → (0 : Int) ≤ (0 : Int) ∧ (0 : Int) < x := by intros; lia
theorem om185 : ∀ {x : Int}, (2 : Int) ≤ x → (0 : Int) ≤ (1 : Int) ∧ (1 : Int) < x := by intro x h; exact ⟨by decide, Int.lt_of_lt_of_le (by decide) h⟩
theorem om186 : ∀ {x : Nat}, (0 : Nat) < x + (1 : Nat) := by intros; exact Nat.le_add_left _ _
theorem om187 : ∀ {x : Nat}, (0 : Int) ≤ (↑(x + (1 : Nat)) : Int) := by intros; exact Int.natCast_nonneg _
theorem om188 : ∀ {x : Nat}, (2 : Nat) ≤ x → x + (1 : Nat) < x * (2 : Nat) := by intros; lia
theorem om189 : ∀ {x x_1 : Nat}, x + (1 : Nat) < x_1 → x_1 ≤ x → False := by intros; lia
theorem om190 : ∀ {x x_1 : Nat}, ¬x ≤ x_1 → x ≤ x_1 + (1 : Nat) → x = x_1 + (1 : Nat) := by intros; lia
theorem om191 : ∀ {x : Nat}, (5 : Nat) ≤ x → (0 : Nat) < x := by intros; exact Nat.lt_of_le_of_lt (Nat.le_add_left _ _) (by assumption)
theorem om192 : ∀ {x x_1 x_2 : Nat}, x ≤ x_1 → x_2 ≤ x * (16 : Nat) → x_2 + (x_1 + (1 : Nat)) - (1 : Nat) < (21 : Nat) * (x_1 + (1 : Nat)) := by intro x a b h1 h2; exact Nat.lt_of_le_of_lt (Nat.add_le_add_right (Nat.le_trans h2 (Nat.mul_le_mul_right 16 h1)) a) (by rw [Nat.mul_comm a, ← Nat.succ_mul]; exact Nat.lt_of_le_of_lt (Nat.mul_le_mul_right a (by decide)) (Nat.mul_lt_mul_of_pos_left (Nat.lt_succ_self a) (by decide)))
theorem om193 : ∀ {x : Nat}, x < (21 : Nat) → x ≤ (20 : Nat) := by intros; lia
theorem om194 : ∀ {x : Nat}, x ≤ (8 : Nat) * (44 : Nat) → x + (1 : Nat) ≤ (2000 : Nat) := by intros; exact Nat.lt_of_le_of_lt (by assumption) (by decide)
theorem om195 : ∀ {x : Nat}, x = (0 : Nat) ↔ (↑x : Int) = (0 : Int) := by intros; simp_all
theorem om196 : ∀ {x : Nat}, x ≤ (8 : Nat) → (↑x : Int) < (2 : Int) ^ (64 : Nat) := by intros; exact Int.lt_of_le_of_lt (Int.ofNat_le.mpr (by assumption)) (by decide)
theorem om197 : ∀ {x : Nat}, x ≤ (8 : Nat) * (44 : Nat) → (↑(2 : Nat) : Int) * (↑x : Int) ≤ (2 : Int) ^ (27 : Nat) := by intros; exact Int.le_trans (Int.mul_le_mul_of_nonneg_left (Int.ofNat_le.mpr (by assumption)) (by decide)) (by decide)
theorem om198 : ∀ {x x_1 : Nat}, x < x_1 → x < x_1 * (2 : Nat) := by intro x a h; exact Nat.lt_of_lt_of_le h (Nat.le_mul_of_pos_right a (by decide))
theorem om199 : ∀ {x x_1 x_2 : Nat}, x < x_1 → x_2 < x_1 → x_2 + x < x_1 * (2 : Nat) := by intro x a b h1 h2; rw [Nat.mul_two]; exact Nat.add_lt_add h2 h1
theorem om200 : ∀ {x : Nat}, ¬x < (16 : Nat) → (16 : Nat) ≤ x := by intros; simp_all
theorem om201 : ∀ {x x_1 : Nat}, x < (16 : Nat) → ¬x_1 < (16 : Nat) → x < x_1 := by intro x a h1 h2; exact Nat.lt_of_lt_of_le h1 (Nat.le_of_not_lt h2)
theorem om202 : ∀ {x : Nat}, x < (16 : Nat) → x + (1 : Nat) ≤ (16 : Nat) := by intros; assumption
theorem om203 : ∀ {x x_1 : Nat}, ¬x < x_1 → x < x_1 + (1 : Nat) → x = x_1 := by intros; exact Nat.le_antisymm (Nat.le_of_lt_succ (by assumption)) (Nat.le_of_not_lt (by assumption))
theorem om204 : ∀ {x x_1 : Nat}, (16 : Nat) - x = x_1 + (1 : Nat) → (16 : Nat) - (x + (1 : Nat)) = x_1 := by intro a b h; rw [Nat.sub_add_eq, h]; rfl
theorem om205 : ∀ {x : Nat}, x < (2 : Nat) → x = (0 : Nat) ∨ x = (1 : Nat) := by intros; lia
theorem om206 : ∀ {x : Nat}, (↑x : Int) = (65535 : Int) ↔ x = (65535 : Nat) := by intros; exact Int.ofNat_inj
theorem om207 : ∀ {x : Nat}, x < (16 : Nat) → x < (9000 : Nat) := by intros; exact Nat.le_trans (by assumption) (by decide)
theorem om208 : ∀ {x : Nat}, x < (16 : Nat) → x ≤ (16 : Nat) := by intros; exact Nat.le_of_lt (by assumption)
theorem om209 : ∀ {x : Nat}, x < (16 : Nat) → (↑(2 : Nat) : Int) * (↑x : Int) ≤ (2 : Int) ^ (27 : Nat) := by intros; exact Int.le_trans (Int.mul_le_mul_of_nonneg_left (Int.ofNat_le.mpr (Nat.le_of_lt (by assumption))) (by decide)) (by decide)
theorem om210 : ∀ {x : Nat}, x < (16 : Nat) → (16 : Nat) - (x + (1 : Nat)) < (16 : Nat) - x := by intro a h; exact Nat.sub_lt_sub_left h (Nat.lt_succ_self a)
theorem om211 : ∀ {x : Nat}, x < (16 : Nat) → (16 : Nat) - x = (16 : Nat) - (x + (1 : Nat)) + (1 : Nat) := by intro a h; rw [Nat.sub_add_eq]; exact (Nat.sub_add_cancel (Nat.sub_pos_of_lt h)).symm
theorem om212 : ∀ {x x_1 : Nat}, (0 : Int) ≤ (↑((x + (16 : Nat) - x_1) % (16 : Nat)) : Int) := by intro a b; exact Int.natCast_nonneg _
theorem om213 : ∀ {x x_1 : Nat}, (↑((x + (16 : Nat) - x_1) % (16 : Nat)) : Int) < (2 : Int) ^ (63 : Nat) := by intro x a; exact Int.lt_trans (Int.ofNat_lt.mpr (Nat.mod_lt (x + 16 - a) (by decide : 16 > 0))) (by decide)
theorem om214 : ∀ {x : Nat}, (↑x : Int) = (0 : Int) ↔ x = (0 : Nat) := by intros; exact Int.ofNat_inj
theorem om215 : ∀ {x x_1 x_2 : Nat}, x ≤ x_1 → (17 : Nat) ≤ x + (x_2 + (1 : Nat)) → (17 : Nat) ≤ x_1 + (1 : Nat) + x_2 := by intro x a b h1 h2; exact Nat.le_trans h2 (by rw [Nat.add_right_comm]; exact Nat.add_le_add_right h1 (b + 1))
theorem om216 : ∀ {x x_1 x_2 x_3 : Nat}, x ≤ x_1 → x_2 ≤ x_3 → x + x_2 ≤ x_3 + (1 : Nat) * x_1 := by intro x a b c h1 h2; rw [Nat.one_mul, Nat.add_comm c]; exact Nat.add_le_add h1 h2
theorem om217 : ∀ {x x_1 : Nat}, x < (16 : Nat) → x - x_1 < (16 : Nat) := by intro a b h; exact Nat.lt_of_le_of_lt (Nat.sub_le a b) h
theorem om218 : ∀ {x x_1 : Nat}, x < x_1 → x_1 - x ≠ (0 : Nat) := by intro a b h; exact Nat.sub_ne_zero_of_lt h
theorem om219 : ∀ {x x_1 : Nat}, x ≤ (16 : Nat) → min x_1 x ≤ (16 : Nat) := by intro a b h; exact Nat.le_trans (Nat.min_le_right _ _) h
theorem om220 : ∀ {x x_1 x_2 : Nat}, x - x_1 = x_2 → x_1 < x → x_2 ≠ (0 : Nat) := by intro a b c h1 h2 h3; exact Nat.sub_ne_zero_of_lt h2 (h1.trans h3)
theorem om221 : ∀ {x x_1 x_2 : Nat}, x - x_1 = x_2 → x < (16 : Nat) → x_2 < (16 : Nat) := by intro a b c h1 h2; rw [← h1]; exact Nat.lt_of_le_of_lt (Nat.sub_le a b) h2
theorem om222 : ∀ {x x_1 x_2 : Nat}, x ≠ (0 : Nat) → x_1 - x_2 = x → (↑x_1 : Int) - (↑x_2 : Int) = (↑x : Int) := by intro a b c h1 h2; rw [← h2]; exact (Int.ofNat_sub (Nat.le_of_lt (Nat.lt_of_sub_ne_zero (h2 ▸ h1)))).symm
theorem om223 : ∀ {x x_1 x_2 : Nat}, (↑x : Int) - (↑x_1 : Int) = (↑x_2 : Int) → (16 : Int) + (↑x : Int) - (↑x_1 : Int) = (↑((16 : Nat) + x_2) : Int) := by intro x a b h; rw [Int.add_sub_assoc, h]; rfl
theorem om224 : ∀ {x : Nat}, x < (16 : Nat) → (16 : Nat) + x < (32 : Nat) := by intros; lia
theorem om225 : ∀ {x : Nat}, x < (16 : Nat) → ((16 : Nat) + x) % (16 : Nat) = x := by intros; simp_all
theorem om226 : ∀ {x : Nat}, x ≠ (0 : Nat) → (1 : Nat) ≤ x := by intros; exact Nat.pos_of_ne_zero (by assumption)
theorem om227 : ∀ {x : Nat}, x < (4 : Nat) → x < (9000 : Nat) := by intros; exact Nat.le_trans (by assumption) (by decide)
theorem om228 : ∀ {x : Nat}, x < (4 : Nat) → x ≤ (16 : Nat) := by intros; lia
theorem om229 : ∀ {x : Nat}, x < (4 : Nat) → (↑(2 : Nat) : Int) * (↑x : Int) ≤ (2 : Int) ^ (27 : Nat) := by intros; exact Int.le_trans (Int.mul_le_mul_of_nonneg_left (Int.ofNat_le.mpr (Nat.le_of_lt (by assumption))) (by decide)) (by decide)
theorem om230 : ∀ {x x_1 : Nat}, x ≤ (16 : Nat) → x_1 ≤ (256 : Nat) → x_1 + x ≤ (1000 : Nat) := by intros; exact Nat.le_trans (Nat.add_le_add (by assumption) (by assumption)) (by decide)
theorem om231 : ∀ {x x_1 : Nat}, ¬(↑x : Int) < (↑x_1 : Int) → ¬x < x_1 := by intros; simp_all
theorem om232 : ∀ {x : Nat}, min (max (0 : Int) (min (5 : Int) (↑x : Int))).toNat x ≤ (5 : Nat) := by intro x; exact Nat.le_trans (Nat.min_le_left _ _) (Int.toNat_le.mpr (Int.max_le.mpr ⟨by decide, Int.min_le_left _ _⟩))
theorem om233 : ∀ {x : Int}, x < (4 : Int) → x.toNat < (4 : Nat) := by intros; simp_all
theorem om234 : ∀ {x : Int}, (0 : Int) ≤ x → x = (↑x.toNat : Int) := by intro x h; exact (Int.toNat_of_nonneg h).symm
theorem om235 : ∀ {x : Nat}, x ≤ (63 : Nat) → x ≤ (1000 : Nat) := by intros; exact Nat.le_trans (by assumption) (by decide)
theorem om236 : ∀ {x : Nat}, x ≤ (5 : Nat) → x ≤ (1000 : Nat) := by intros; exact Nat.le_trans (by assumption) (by decide)
theorem om237 : ∀ {x x_1 x_2 : Nat}, x = (5 : Nat) → x_1 ≤ x → x_2 ≤ (5 : Nat) → x_2 + x_1 ≤ (1000 : Nat) := by intro x a b h1 h2 h3; subst h1; exact Nat.le_trans (Nat.add_le_add h3 h2) (by decide)
theorem om238 : ∀ {x : Int}, (0 : Int) ≤ x → (5 : Int) + x = (↑((5 : Int) + x).toNat : Int) := by intro a h; exact (Int.toNat_of_nonneg (Int.add_nonneg (by decide) h)).symm
theorem om239 : ∀ {x : Int}, (0 : Int) ≤ x → (5 : Nat) ≤ ((5 : Int) + x).toNat := by intro x h; exact (Int.le_toNat (Int.add_nonneg (by decide) h)).mpr (Int.le_add_of_nonneg_right h)
theorem om240 : ∀ {x : Int}, x < (40 : Int) → ((5 : Int) + x).toNat ≤ (44 : Nat) := by intro x h; exact Int.toNat_le.mpr (show 5 + x ≤ 5 + 39 from Int.add_le_add_left (Int.le_of_lt_add_one h) 5)
theorem om241 : ∀ {x : Nat}, x < (4 : Nat) → ((1 : Int) + (↑x : Int)).natAbs < (2 : Nat) ^ (1023 : Nat) := by intros; omega
theorem om242 : ∀ {x x_1 : Nat}, x ≤ (16 : Nat) * (16 : Nat) → x_1 ≤ (16 : Nat) → x + x_1 ≤ (1000 : Nat) := by intros; exact Nat.le_trans (Nat.add_le_add (by assumption) (by assumption)) (by decide)
theorem om243 : ∀ {x x_1 : Nat}, x < (16 : Nat) → x_1 < (16 : Nat) → x_1 + x < (32 : Nat) := by intro x a h1 h2; exact (Nat.add_lt_add h2 h1 : a + x < 16 + 16)
theorem om244 : ∀ {x : Nat}, (↑x : Int) < (16 : Int) → x < (16 : Nat) := by intros; exact Int.ofNat_lt.mp (by assumption)
theorem om245 : ∀ {x x_1 : Nat}, (↑x : Int) = (↑x_1 : Int) → x = x_1 := by intros; exact Int.ofNat_inj.mp (by assumption)
theorem om246 : ∀ {x : Nat}, x ≤ (1 : Nat) → (0 : Int) ≤ (↑x : Int) ∧ (↑x : Int) < (2 : Int) ^ (40 : Nat) := by intro x h; exact ⟨Int.natCast_nonneg x, Int.lt_of_le_of_lt (Int.ofNat_le.mpr h) (by decide)⟩
theorem om247 : ∀ {x : Nat}, x = (16 : Nat) → x ≤ (1000 : Nat) := by intros; simp_all
theorem om248 : ∀ {x : Nat}, x ≤ (16 : Nat) → (16 : Int) - (↑x : Int) = (↑((16 : Nat) - x) : Int) := by intro a h; exact (Int.ofNat_sub h).symm
theorem om249 : ∀ {x : Nat}, (16 : Int) - (↑x : Int) = (↑((16 : Nat) - x) : Int) → x ≤ (1000 : Nat) := by intro x h; have q : (x : Int) ≤ ((16 : Nat) : Int) := Int.sub_nonneg.mp (Int.le_trans (Int.natCast_nonneg _) (Int.le_of_eq h.symm)); exact Nat.le_trans (Int.ofNat_le.mp q) (by decide)
theorem om250 : ∀ {x : Nat}, (16 : Nat) - x ≤ (1000 : Nat) := by intro a; exact Nat.le_trans (Nat.sub_le _ _) (by decide)
theorem om251 : ∀ {x : Nat}, (16 : Int) - (↑x : Int) = (↑((16 : Nat) - x) : Int) → x + ((16 : Nat) - x) ≤ (1000 : Nat) := by intro x h; have q : (x : Int) ≤ ((16 : Nat) : Int) := Int.sub_nonneg.mp (Int.le_trans (Int.natCast_nonneg _) (Int.le_of_eq h.symm)); rw [Nat.add_sub_of_le (Int.ofNat_le.mp q)]; decide
theorem om252 : ∀ {x : Nat}, (5 : Nat) ≤ x → (1 : Nat) ≤ x := by intros; exact Nat.lt_of_le_of_lt (Nat.le_add_left _ _) (by assumption)
theorem om253 : ∀ {x : Nat}, x ≤ (44 : Nat) → x ≤ (2000 : Nat) := by intros; exact Nat.le_trans (by assumption) (by decide)
theorem om254 : ∀ {x : Nat}, (0 : Nat) < x → (↑x : Int) ≠ (0 : Int) := by intros; lia
theorem om255 : ∀ {x : Nat}, x ≤ (4 : Nat) → x ≤ (1000 : Nat) := by intros; exact Nat.le_trans (by assumption) (by decide)
theorem om256 : ∀ {x : Nat}, x ≤ (4 : Nat) → (↑(2 : Nat) : Int) * (↑x : Int) ≤ (2 : Int) ^ (27 : Nat) := by intros; exact Int.le_trans (Int.mul_le_mul_of_nonneg_left (Int.ofNat_le.mpr (by assumption)) (by decide)) (by decide)
theorem om257 : ∀ {x x_1 : Nat}, (x + x_1) % (16 : Nat) < (40 : Nat) := by intro a b; exact Nat.lt_of_lt_of_le (Nat.mod_lt _ (by decide)) (by decide)
theorem om258 : ∀ {x : Int}, x < (16 : Int) → (↑(2 : Nat) : Int) * x ≤ (2 : Int) ^ (27 : Nat) := by intros; lia
theorem om259 : ∀ {x x_1 : Nat}, ((↑x : Int) + (↑x_1 : Int)) % (16 : Int) = (↑((x + x_1) % (16 : Nat)) : Int) := by intros; (subst_vars; rfl)
theorem om260 : ∀ {x : Nat}, (↑x : Int) = (16 : Int) → x = (16 : Nat) := by intros; exact Int.ofNat_inj.mp (by assumption)
theorem om261 : ∀ {x : Nat}, x = (16 : Nat) → (↑x : Int) = (16 : Int) := by intros; (subst_vars; rfl)
theorem om262 : ∀ {x : Nat}, (2 : Nat) ≤ x → (0 : Nat) < x - (1 : Nat) := by intro a h; exact Nat.sub_pos_of_lt h
theorem om263 : ∀ {x : Nat}, (0 : Int) ≤ (↑(x - (1 : Nat)) : Int) := by intros; exact Int.natCast_nonneg _
theorem om264 : ∀ {x : Nat}, (2 : Nat) ≤ x → x - (1 : Nat) < x := by intro a h; exact Nat.sub_lt (Nat.lt_of_lt_of_le Nat.two_pos h) Nat.one_pos
theorem om265 : ∀ {x x_1 x_2 : Nat} {x_3 : Int}, x ≤ x_1 - (1 : Nat) → (1 : Nat) ≤ x ∧ (↑(x_2 - (1 : Nat)) : Int) < x_3 → x_1 = (x_1 - (1 : Nat)).succ := by intros; lia
theorem om266 : ∀ {x x_1 x_2 : Nat}, x = (2 : Nat) * x_1 → x - (1 : Nat) < x_2 → x_2 ≤ x_1 → False := by intro x a b h1 h2 h3; subst h1; rcases a with _ | a; exact absurd (Nat.lt_of_lt_of_le h2 h3) (Nat.not_lt_zero _); exact absurd (Nat.lt_of_lt_of_le h2 h3) (Nat.not_lt.mpr (by rw [Nat.two_mul]; exact Nat.le_add_right (a + 1) a))
theorem om267 : ∀ {x x_1 : Nat}, ¬x ≤ x_1 - (1 : Nat) → x ≤ x_1 → x = x_1 := by intro x a h1 h2; exact Nat.le_antisymm h2 (Nat.le_of_pred_lt (Nat.lt_of_not_le h1))
theorem om268 : ∀ {x : Nat}, x ≤ (1 : Nat) → (↑x : Int) ≤ (1 : Int) := by intros; lia
theorem om269 : ∀ {x : Nat}, x ≤ (16 : Nat) * (16 : Nat) → x ≤ (1000 : Nat) := by intros; exact Nat.le_trans (by assumption) (by decide)
theorem om270 : ∀ {x : Nat}, x ≤ (44 : Nat) → x * (16 : Nat) + x * (16 : Nat) ≤ (134217728 : Nat) := by intros; lia
theorem om271 : ∀ {x : Nat}, (5 : Nat) ≤ x → (1 : Nat) ≤ x * (16 : Nat) := by intros; lia
theorem om272 : ∀ {x : Nat}, (2 : Nat) ^ (1 : Nat) ≤ x → (0 : Nat) < x - (1 : Nat) := by intro a h; exact Nat.sub_pos_of_lt h
theorem om273 : ∀ {x : Nat}, (1 : Nat) ≤ x * (16 : Nat) → (0 : Nat) < x * (16 : Nat) := by intro x h; exact h
theorem om274 : ∀ {x x_1 : Nat}, x ≤ x_1 * (16 : Nat) + x_1 * (16 : Nat) → (1 : Nat) ≤ x_1 * (16 : Nat) → x + x_1 * (16 : Nat) - (1 : Nat) < (21 : Nat) * (x_1 * (16 : Nat)) := by intro x a h1 h2; exact Nat.lt_of_lt_of_le (Nat.sub_lt (Nat.lt_of_lt_of_le h2 (Nat.le_add_left _ _)) Nat.one_pos) (Nat.le_trans (Nat.add_le_add_right h1 _) (by rw [← Nat.two_mul, ← Nat.succ_mul]; exact Nat.mul_le_mul_right _ (by decide)))
theorem om275 : ∀ {x : Nat}, x ≤ (44 : Nat) → x * (16 : Nat) ≤ (2000 : Nat) := by intros; lia
theorem om276 : ∀ {x : Nat}, (1 : Nat) ≤ x * (16 : Nat) → (1 : Nat) ≤ x := by intros; lia
theorem om277 : ∀ {x : Nat}, ((16 : Int) * (↑x : Int)).toNat = x * (16 : Nat) := by intro x; rw [Int.mul_comm]; rfl
theorem om278 : ∀ {x : Nat}, x ≤ (16 : Nat) → x + (2 : Nat) ≤ (30 : Nat) := by intros; lia
theorem om279 : ∀ {x : Nat}, (0 : Int) ≤ (16 : Int) * (↑x : Int) := by intros; exact Int.natCast_nonneg _
theorem om280 : ∀ {x : Nat}, x ≤ (44 : Nat) → (↑(2 : Nat) : Int) * ((16 : Int) * (↑x : Int)) ≤ (2 : Int) ^ (27 : Nat) := by intros; lia
theorem om281 : ∀ {x : Nat}, ¬(↑(63 : Nat) : Int) < (↑x : Int) → x ≤ (63 : Nat) := by intros; lia
theorem om282 : ∀ {x x_1 : Nat}, x < x_1 → ¬x = x_1 := by intros; exact Nat.ne_of_lt (by assumption)
theorem om283 : ∀ {x x_1 x_2 : Int}, x + (x_1 + x_2) = x + x_1 + x_2 := by intros; exact (Int.add_assoc _ _ _).symm
theorem om284 : ∀ {x x_1 : Nat}, ¬x = x_1 → ¬x_1 = x := by intros; lia
theorem om285 : ∀ {x x_1 : Nat}, ¬x = x_1 → x < x_1 + (1 : Nat) → x < x_1 := by intros; exact Nat.lt_of_le_of_ne (Nat.le_of_lt_succ (by assumption)) (by assumption)
theorem om286 : ∀ {x x_1 x_2 : Int}, x + x_1 + x_2 = x + x_2 + x_1 := by intros; exact Int.add_right_comm _ _ _
theorem om287 : ∀ {x x_1 : Int}, x ≤ x_1 - (1 : Int) → -(x_1 - (1 : Int)) ≤ x → (0 : Int) ≤ x_1 := by intros; lia
theorem om288 : ∀ {x x_1 : Int}, x - (1 : Int) * x_1 = x - x_1 := by intros; simp_all
theorem om289 : ∀ {x x_1 x_2 x_3 x_4 x_5 : Int}, x = -(x_1 - x_2) → x_3 = x_1 - x_2 → x ≤ x_4 → x_4 ≤ x_3 → x_5 ≤ x_2 - (1 : Int) → -(x_2 - (1 : Int)) ≤ x_5 → -(x_1 - (1 : Int)) ≤ x_5 + x_4 ∧ x_5 + x_4 ≤ x_1 - (1 : Int) := by intro x a b c d e h h' h1 h2 h3 h4; subst h; subst h'; exact ⟨Int.le_trans (Int.le_of_eq (by rw [← Int.neg_add, Int.add_comm (b - 1), ← Int.add_sub_assoc, Int.sub_add_cancel])) (Int.add_le_add h4 h1), Int.le_trans (Int.add_le_add h3 h2) (Int.le_of_eq (by rw [Int.add_comm, ← Int.add_sub_assoc, Int.sub_add_cancel]))⟩
theorem om290 : ∀ {x : Nat}, ¬x < (0 : Nat) := by intros; simp_all
theorem om291 : ∀ {x : Int}, (1 : Int) ≤ x → (0 : Int) < x := by intros; assumption
theorem om292 : ∀ {x : Int}, ¬x = (0 : Int) → (1 : Int) ≤ x ∨ x ≤ (-1 : Int) := by intros; lia
theorem om293 : ∀ {x : Int}, (0 : Int) < x → (0 : Int) ≤ x := by intros; exact Int.le_of_lt (by assumption)
theorem om294 : ∀ {x x_1 x_2 : Int}, (1 : Int) * x ≤ x_1 → -(x - (1 : Int)) ≤ x_2 → x_2 + x_1 = (0 : Int) → False := by intros; lia
theorem om295 : ∀ {x x_1 x_2 : Int}, x ≤ (-1 : Int) * x_1 → x_2 ≤ x_1 - (1 : Int) → x_2 + x = (0 : Int) → False := by intros; lia
theorem om296 : ∀ {x : Int}, (0 : Int) < x → (0 : Int) ≤ x + (1 : Int) := by intros; lia
theorem om297 : ∀ {x x_1 x_2 : Int}, (x + (1 : Int)) * (1 : Int) ≤ x_1 → x_2 = x_1 → x_2 ≤ x - (1 : Int) → False := by intros; lia
theorem om298 : ∀ {x x_1 x_2 : Int}, x ≤ (x_1 + (1 : Int)) * (-1 : Int) → x_2 = x → -(x_1 - (1 : Int)) ≤ x_2 → False := by intros; lia
theorem om299 : ∀ {x x_1 : Int}, x + x_1 = x_1 + (1 : Int) * x := by intros; lia
theorem om300 : ∀ {x x_1 x_2 : Nat}, x < x_1 → ¬x + x_1 * (0 : Nat) = x_2 + x_1 := by intros; lia
theorem om301 : ∀ {x x_1 : Nat}, x + x_1 + (1 : Nat) = x + (1 : Nat) + (x_1 + (0 : Nat)) := by intros; exact Nat.add_right_comm _ _ _
theorem om302 : ∀ {x x_1 : Nat}, x + x_1 + (0 : Nat) = x + (0 : Nat) + (x_1 + (0 : Nat)) := by intros; exact Nat.add_assoc _ _ _
theorem om303 : ∀ {x x_1 x_2 : Nat}, x = x_1 → x < x_2 → ¬x + x_2 * (1 : Nat) = x_1 := by intros; lia
theorem om304 : ∀ {x x_1 x_2 : Nat}, x = x_1 → x + x_2 * (1 : Nat) = x_1 + x_2 := by intros; simp_all
theorem om305 : ∀ {x x_1 : Nat}, x + x_1 + (1 : Nat) = x + (0 : Nat) + (x_1 + (1 : Nat)) := by intros; exact Nat.add_assoc _ _ _
theorem om306 : ∀ {x x_1 x_2 : Nat}, x < x_1 → ¬x_2 + x_1 * (1 : Nat) = x := by intros; lia
theorem om307 : ∀ {x x_1 x_2 : Nat}, ¬x = x_1 → ¬x + x_2 * (1 : Nat) = x_1 + x_2 := by intros; simp_all
theorem om308 : ∀ {x : Nat}, x % (2 : Nat) = (0 : Nat) ∨ x % (2 : Nat) = (1 : Nat) := by intros; lia
theorem om309 : ∀ {x : Nat}, x % (2 : Nat) = (0 : Nat) → ¬(x + (1 : Nat)) % (2 : Nat) = (0 : Nat) := by intro x h; rw [Nat.add_mod, h]; decide
theorem om310 : ∀ {x : Nat}, x % (2 : Nat) = (1 : Nat) → ¬x % (2 : Nat) = (0 : Nat) := by intros; simp_all
theorem om311 : ∀ {x : Nat}, x % (2 : Nat) = (1 : Nat) → (x + (1 : Nat)) % (2 : Nat) = (0 : Nat) := by intro x h; rw [Nat.add_mod, h]
theorem om312 : ∀ {x x_1 : Nat}, x + x_1 * (0 : Nat) = x := by intros; simp_all
theorem om313 : ∀ {x x_1 : Nat}, x < x_1 → ¬x + x_1 * (0 : Nat) = x + x_1 := by intros; lia
theorem om314 : ∀ {x x_1 : Nat}, (↑x : Int) + (1 : Int) - (↑x_1 : Int) = (↑x : Int) - (↑x_1 : Int) + (1 : Int) := by intros; exact Int.add_right_comm _ _ _
theorem om315 : ∀ {x x_1 x_2 : Nat}, ¬x = x_1 → ¬x_1 + x_2 * (0 : Nat) = x := by intros; lia
theorem om316 : ∀ {x x_1 : Nat}, x < x_1 → ¬x + x_1 * (1 : Nat) = x := by intros; lia
theorem om317 : ∀ {x x_1 : Nat}, x + x_1 * (1 : Nat) = x + x_1 := by intros; exact (Nat.add_assoc _ _ _).symm
theorem om318 : ∀ {x x_1 : Nat}, (↑x : Int) - ((↑x_1 : Int) + (1 : Int)) = (↑x : Int) - (↑x_1 : Int) + (-1 : Int) := by intros; lia
theorem om319 : ∀ {x x_1 x_2 : Nat}, ¬x = x_1 → ¬x_1 + x_2 * (1 : Nat) = x + x_2 := by intros; lia
theorem om320 : ∀ {x x_1 x_2 : Int}, x = x_1 + x_2 → x_1 = x - x_2 := by intros; simp_all
theorem om321 : ∀ {x : Nat} {x_1 : Int} {x_2 : Nat}, (↑x : Int) ≤ x_1 - (1 : Int) → (↑x_2 : Int) ≤ x_1 - (1 : Int) → -(x_1 - (1 : Int)) ≤ (↑x_2 : Int) - (↑x : Int) ∧ (↑x_2 : Int) - (↑x : Int) ≤ x_1 - (1 : Int) := by intro x a b h1 h2; exact ⟨Int.le_trans (Int.neg_le_neg h1) (by rw [Int.sub_eq_add_neg, Int.add_comm]; exact Int.le_add_of_nonneg_right (Int.natCast_nonneg _)), Int.le_trans (Int.sub_le_self _ (Int.natCast_nonneg _)) h2⟩
theorem om322 : ∀ {x x_1 : Nat}, (↑x : Int) - (↑x_1 : Int) = (0 : Int) → x = x_1 := by intros; lia
theorem om323 : ∀ {x x_1 : Nat}, x = x_1 → (↑x : Int) - (↑x_1 : Int) = (0 : Int) := by intros; simp_all
theorem om324 : ∀ {x x_1 : Nat}, x + (x_1 + (1 : Nat)) = (4 : Nat) → x + (1 : Nat) + x_1 = (4 : Nat) := by intros; lia
theorem om325 : ∀ {x x_1 : Nat}, x < x_1 → x + x_1 < x_1 * (2 : Nat) := by intros; lia
theorem om326 : ∀ {x x_1 : Nat}, x + (x_1 + (1 : Nat)) = (4 : Nat) → x < (4 : Nat) := by intro x a h; exact Nat.lt_of_lt_of_eq (Nat.lt_add_of_pos_right (Nat.succ_pos a)) h
theorem om327 : ∀ {x : Nat}, x + x = x * (2 : Nat) := by intros; lia
theorem om328 : ∀ {x : Nat}, x < (16 : Nat) → x % (2 : Nat) ^ (4 : Nat) = x := by intros; simp_all
theorem om329 : ∀ {x x_1 x_2 : Nat}, x ≤ x_1 → x_2 ≤ x_1 → x_2 + x ≤ x_1 * (2 : Nat) := by intro x a b h1 h2; rw [Nat.mul_two]; exact Nat.add_le_add h2 h1
theorem om330 : ∀ {x x_1 x_2 : Nat}, x = (0 : Nat) → x_1 ≤ x_2 → x + x_1 ≤ x_2 := by intros; simp_all
theorem om331 : ∀ {x x_1 x_2 : Nat}, x = (0 : Nat) → x_1 ≤ x_2 → x_1 + x ≤ x_2 := by intros; (subst_vars; assumption)
theorem om332 : ∀ {x : Nat}, ¬x = (0 : Nat) → (0 : Nat) < x := by intros; exact Nat.pos_of_ne_zero (by assumption)
theorem om333 : ∀ {x : Nat}, x + (1 : Nat) ≤ (4 : Nat) → x ≤ (4 : Nat) := by intros; exact Nat.le_of_lt (by assumption)
theorem om334 : ∀ {x x_1 : Nat}, x < x_1 * (2 : Nat) → x - x_1 < x_1 := by intro x a h; exact if q : a ≤ x then Nat.sub_lt_left_of_lt_add q (by rw [← Nat.mul_two]; exact h) else Nat.lt_of_le_of_lt (Nat.sub_le x a) (Nat.lt_of_not_le q)
theorem om335 : ∀ {x x_1 : Nat}, ¬x < x_1 → x = x - x_1 + x_1 := by intros; simp_all
theorem om336 : ∀ {x : Nat}, x + (1 : Nat) ≤ (4 : Nat) → x < (4 : Nat) := by intros; assumption
theorem om337 : ∀ {x : Nat}, x + (1 : Nat) ≤ (4 : Nat) → x + (1 : Nat) + ((3 : Nat) - x) = (4 : Nat) := by intro a h; rw [Nat.add_right_comm, Nat.add_sub_cancel' (Nat.le_of_succ_le_succ h)]
theorem om338 : ∀ {x x_1 x_2 : Nat}, x + x_1 = (0 : Nat) ∨ x + x_1 = x_2 * (2 : Nat) → x = x_1 → x = (0 : Nat) ∨ x = x_2 := by intros; lia
theorem om339 : ∀ {x x_1 x_2 : Nat}, x + x_1 = (0 : Nat) ∨ x + x_1 = x_2 * (2 : Nat) → x = x_1 → x_1 = (0 : Nat) ∨ x_1 = x_2 := by intros; lia
theorem om340 : ∀ {x x_1 x_2 : Nat}, x = (0 : Nat) ∨ x_1 ≤ x → x_2 + x = (0 : Nat) ∨ x_2 + x = x_1 → x_2 = (0 : Nat) ∨ x_2 = x_1 := by intros; lia
theorem om341 : ∀ {x x_1 x_2 : Nat}, x = (0 : Nat) ∨ x_1 ≤ x → x_2 + x = (0 : Nat) ∨ x_2 + x = x_1 → x = (0 : Nat) ∨ x = x_1 := by intros; lia
theorem om342 : ∀ {x x_1 : Nat}, ¬(0 : Nat) < x → (0 : Nat) < x + x_1 → (0 : Nat) < x_1 := by intros; simp_all
theorem om343 : ∀ {x x_1 : Nat}, x = x_1 → (0 : Nat) < x + x_1 → (0 : Nat) < x := by intro x a h1 h2; subst h1; exact Nat.pos_of_ne_zero fun q => absurd h2 (by rw [q]; decide)
theorem om344 : ∀ {x x_1 : Nat}, x = x_1 → (0 : Nat) < x + x_1 → (0 : Nat) < x_1 := by intro x a h1 h2; subst h1; exact Nat.pos_of_ne_zero fun q => absurd h2 (by rw [q]; decide)
theorem om345 : ∀ {x : Nat}, x < (4 : Nat) → x ≤ (4 : Nat) := by intros; exact Nat.le_of_lt (by assumption)
theorem om346 : ∀ {x : Nat}, x < (4 : Nat) → x + (1 : Nat) + ((3 : Nat) - x) = (4 : Nat) := by intro a h; rw [Nat.add_right_comm, Nat.add_sub_cancel' (Nat.le_of_lt_succ h)]
theorem om347 : ∀ {x x_1 x_2 x_3 : Nat}, x ≤ x_1 → x_1 + x_2 = (0 : Nat) ∨ x_1 + x_2 = x → (0 : Nat) < x_2 → x_3 + (1 : Nat) + ((3 : Nat) - x_3) = (4 : Nat) := by intros; lia
theorem om348 : ∀ {x x_1 x_2 x_3 x_4 : Nat}, x ≤ x_1 → x_1 + x_2 = (0 : Nat) ∨ x_1 + x_2 = x → (0 : Nat) < x_2 → x_3 + x_4 < x_4 * (2 : Nat) := by intros; lia
theorem om349 : ∀ {x x_1 x_2 : Nat}, (0 : Nat) < x → x ≤ x_1 → x ≤ x_2 → x_2 + x_1 = (0 : Nat) ∨ x_2 + x_1 = x → False := by intros; lia
theorem om350 : ∀ {x x_1 x_2 : Nat}, x + (x_1 + x_2) = x + x_1 + x_2 := by intros; exact (Nat.add_assoc _ _ _).symm
theorem om351 : ∀ {x x_1 : Nat}, x + x_1 = x_1 + x := by intros; exact Nat.add_comm _ _
theorem om352 : ∀ {x x_1 x_2 x_3 : Nat}, x + x_1 + (x_2 + x_3) = x_2 + x + (x_1 + x_3) := by intros; lia
theorem om353 : ∀ {x x_1 : Nat}, x + x_1 = x_1 + (1 : Nat) * x := by intros; lia
theorem om354 : ∀ {x : Nat}, (1 : Int) + (↑x : Int) = (↑(x + (1 : Nat)) : Int) := by intros; exact Int.add_comm _ _
theorem om355 : ∀ {x : Nat}, (65537 : Nat) = x * (1 : Nat) → x = (1 : Nat) ∨ x = (65537 : Nat) := by intros; simp_all
theorem om356 : ∀ {x : Nat}, ¬x < (257 : Nat) → (257 : Nat) ≤ x := by intros; simp_all
theorem om357 : ∀ {x : Nat}, (257 : Nat) * (257 : Nat) ≤ x → (65537 : Nat) = x → False := by intros; lia
theorem om358 : ∀ {x x_1 x_2 : Nat}, x < x_1 → x_1 ≤ x_2 → ¬x = x_2 := by intros; lia
theorem om359 : ∀ {x : Nat} {x_1 : Int}, (↑x : Int) ≤ x_1 - (1 : Int) → (1 : Int) ≤ x_1 := by intros; lia
theorem om360 : ∀ {x x_1 : Nat} {x_2 : Int}, (↑x : Int) ≤ (↑x_1 : Int) → (↑x_1 : Int) ≤ x_2 - (1 : Int) → (↑x : Int) ≤ x_2 - (1 : Int) := by intro x a b h1 h2; exact Int.le_trans h1 h2
theorem om361 : ∀ {x x_1 : Nat}, x * (0 : Nat) = (16 : Nat) → (0 : Nat) < x_1 := by intros; simp_all
theorem om362 : ∀ {x x_1 : Nat}, ¬x = x_1 → x ≤ x_1 → x ≤ x_1 - (1 : Nat) := by intro a b h1 h2; exact Nat.le_sub_one_of_lt (Nat.lt_of_le_of_ne h2 h1)
theorem om363 : ∀ {x x_1 x_2 x_3 : Nat}, x = x_1 - x_2 → x_3 ≤ x → (16 : Nat) ≤ x_3 → (0 : Nat) < x_2 → x_1 = (16 : Nat) → False := by intro x a b c h h2 h3 h4 h5; subst h; subst h5; exact absurd (Nat.le_trans h3 h2) (Nat.not_le.mpr (Nat.sub_lt (by decide) h4))
theorem om364 : ∀ {x x_1 : Nat}, (↑x : Int) = (↑x_1 : Int) ↔ x = x_1 := by intros; exact Int.ofNat_inj
theorem om365 : ∀ {x x_1 x_2 x_3 : Nat}, x < (16 : Nat) → x_1 < x_2 → (x_1 + x) % (16 : Nat) = (x_2 + x_3) % (16 : Nat) → x = (x_2 - x_1 + x_3) % (16 : Nat) := by intros; lia
theorem om366 : ∀ {x x_1 : Nat}, ¬x < x_1 → ¬x_1 < x → x_1 = x := by intros; exact Nat.le_antisymm (Nat.le_of_not_lt (by assumption)) (Nat.le_of_not_lt (by assumption))
theorem om367 : ∀ {x x_1 x_2 : Nat}, x < (16 : Nat) → x_1 < (16 : Nat) → (x_2 + x_1) % (16 : Nat) = (x_2 + x) % (16 : Nat) → x_1 = x := by intro x a b h1 h2 h; have q := om365 h2 (Nat.lt_add_of_pos_right (by decide) : b < b + 16) (h.trans (by rw [Nat.add_right_comm, Nat.add_mod_right])); rw [Nat.add_sub_cancel_left, Nat.add_mod_left, Nat.mod_eq_of_lt h1] at q; exact q
theorem om368 : ∀ {x : Nat}, (0 : Nat) < x → x ≤ (1 : Nat) → x = (1 : Nat) := by intros; lia
theorem om369 : ∀ {x x_1 : Nat}, x < (0 : Nat) → x_1 = (1 : Nat) := by intros; simp_all
theorem om370 : ∀ {x x_1 x_2 : Nat}, x + x_1 = x_2 + (1 : Nat) → x_1 ≤ (1 : Nat) → x ≤ x_2 → x_1 = (1 : Nat) := by intros; lia
theorem om371 : ∀ {x x_1 x_2 : Nat}, x + x_1 = x_2 + (1 : Nat) → x_1 ≤ (1 : Nat) → x ≤ x_2 → x = x_2 := by intro x a b h1 h2 h3; exact Nat.le_antisymm h3 (Nat.le_of_succ_le_succ (Nat.le_trans (Nat.le_of_eq h1.symm) (Nat.add_le_add_left h2 x)))
theorem om372 : ∀ {x x_1 x_2 : Nat}, x < (16 : Nat) → x_1 < (16 : Nat) → (x_1 + x_2) % (16 : Nat) = (x + x_2) % (16 : Nat) → x_1 ≠ x → False := by intro x a b h1 h2 h hn; exact hn (om367 h1 h2 (by rw [Nat.add_comm b, Nat.add_comm b]; exact h))
theorem om373 : ∀ {x : Nat}, ¬(0 : Nat) < x → x = (0 : Nat) := by intros; simp_all
theorem om374 : ∀ {x x_1 : Nat}, x ≤ x + x_1 := by intros; exact Nat.le_add_right _ _
theorem om375 : ∀ {x x_1 x_2 : Nat}, x ≤ x_1 → x ≤ x_2 + x_1 := by intros; exact Nat.le_trans (by assumption) (Nat.le_add_left _ _)
theorem om376 : ∀ {x x_1 x_2 : Nat}, x ≤ x_1 → x_2 + x + x_1 = (1 : Nat) → (0 : Nat) < x → False := by intros; lia
theorem om377 : ∀ {x x_1 x_2 : Nat}, x + x_1 + x_2 = (1 : Nat) → x + (x_1 + x_2) = (1 : Nat) := by intros; lia
theorem om378 : ∀ {x x_1 x_2 : Nat}, x = x_1 + (1 : Nat) + x_2 → x = x_1 + (x_2 + (1 : Nat)) := by intros; lia
theorem om379 : ∀ {x x_1 : Nat}, x = (0 : Nat) → x + x_1 = (1 : Nat) → (0 : Nat) < x_1 := by intros; simp_all
theorem om380 : ∀ {x x_1 x_2 : Nat}, x + (x_1 + x_2) = x + x_2 + x_1 := by intros; lia
theorem om381 : ∀ {x : Nat}, (1 : Nat) + (x + (1 : Nat)) = (1 : Nat) → False := by intros; simp_all
theorem om382 : ∀ {x x_1 x_2 : Nat}, x + (x_1 + x_2) = (1 : Nat) → x + x_2 + x_1 = (1 : Nat) := by intros; lia
theorem om383 : ∀ {x x_1 : Nat}, x ≤ x_1 → (0 : Nat) < x → x + x_1 = (1 : Nat) → False := by intros; lia
theorem om384 : (17 : Nat) ≤ (0 : Nat) + (17 : Nat) := by intros; exact Nat.lt_succ_self _
theorem om385 : ∀ {x x_1 x_2 : Nat}, x ≤ x_1 → x_2 ≤ x → x_2 = x_1 → x_1 = x := by intros; lia
theorem om386 : ∀ {x : Nat}, (0 : Nat) < x → x ≤ (1 : Nat) → (1 : Int) = (↑x : Int) := by intros; lia
theorem om387 : ∀ {x : Int}, (32 : Int) ≤ x → (1 : Int) ≤ x := by intros; lia
theorem om388 : ∀ {x x_1 : Nat} {x_2 : Int}, x ≤ (16 : Nat) → x_1 ≤ x → (32 : Int) ≤ x_2 → (↑x_1 : Int) ≤ x_2 - (1 : Int) := by intro x a b h1 h2 h3; exact Int.le_trans (Int.ofNat_le.mpr (Nat.le_trans h2 h1)) (Int.le_sub_one_of_lt (Int.lt_of_lt_of_le (by decide) h3))
theorem om389 : ∀ {x : Int}, (4 : Int) ≤ x → (0 : Int) ≤ x := by intros; lia
theorem om390 : ∀ {x x_1 x_2 x_3 x_4 x_5 : Int}, x = x_1 → x_2 = (2 : Int) * x_3 + x_4 → x_2 ≤ x → (4 : Int) ≤ x_4 → (0 : Int) ≤ x_5 ∧ x_5 ≤ (1 : Int) → (2 : Int) * (x_5 + x_3) + (1 : Int) ≤ x_1 := by intros; lia
theorem om391 : ∀ {x : Nat}, x ≤ (1 : Nat) → (0 : Int) ≤ (↑x : Int) ∧ (↑x : Int) ≤ (1 : Int) := by intros; exact ⟨Int.natCast_nonneg _, Int.ofNat_le.mpr (by assumption)⟩
theorem om392 : ∀ {x : Nat}, (5 : Nat) ≤ x → (2 : Nat) ≤ x := by intros; exact Nat.lt_of_le_of_lt (Nat.le_add_left _ _) (by assumption)
theorem om393 : ∀ {x x_1 : Int}, (2 : Int) ≤ x → (2 : Int) * x_1 + (1 : Int) ≤ x → x_1 < x - (1 : Int) := by intros; lia
theorem om394 : ∀ {x x_1 x_2 : Nat}, x ≤ x_1 → (1 : Nat) ≤ x_2 → x + x_2 - (1 : Nat) < x_1 + x_2 := by intro a b c h1 h2; exact Nat.lt_of_lt_of_le (Nat.sub_lt (Nat.lt_of_lt_of_le h2 (Nat.le_add_left c a)) Nat.one_pos) (Nat.add_le_add_right h1 c)
theorem om395 : ∀ {x x_1 : Nat}, x < x_1 + (1 : Nat) → x ≤ x_1 := by intros; lia
theorem om396 : ∀ {x : Nat}, (2 : Nat) ≤ x → x - (1 : Nat) > (0 : Nat) := by intro a h; exact Nat.sub_pos_of_lt h
theorem om397 : ∀ {x x_1 : Nat}, x < x_1 - (1 : Nat) → x < x_1 := by intro a b h; exact Nat.lt_of_lt_of_le h (Nat.sub_le b 1)
end Mine

namespace Mine
set_option maxRecDepth 100000 in
set_option maxHeartbeats 8000000 in
open_top hd for PySem.Challenge.rw_wf0051_01
end Mine

namespace Mine

/-! values -/
inductive Sc where
  | none
  | bool (b : Bool)
  | int (i : Int)
  | flt (u : UInt64)
  | str (s : Str)
inductive It where
  | sc (s : Sc)
  | list (xs : List Sc)
inductive Vl where
  | sc (s : Sc)
  | list (xs : List Sc)
  | own (a : Addr) (xs : List Sc)
  | arg (xs : List Sc)
  | tup (ws : List It)

noncomputable abbrev iV (i : Int) : Vl := .sc (.int i)
noncomputable abbrev bV (b : Bool) : Vl := .sc (.bool b)
noncomputable abbrev fV (u : UInt64) : Vl := .sc (.flt u)
noncomputable abbrev sV (s : Str) : Vl := .sc (.str s)
noncomputable abbrev isV (xs : List Int) : Vl := .list (xs.map .int)

noncomputable def SR : Sc → Value → Prop
  | .none, v => v = .none
  | .bool b, v => v = .bool b
  | .int i, v => ∃ t, v = .int i t
  | .flt u, v => ∃ t, v = .float u t
  | .str s, v => ∃ t, v = .str s t

noncomputable def LR (av : Addr → Prop) (h : Heap) (xs : List Sc) (v : Value) : Prop :=
  ∃ a items, v = .ref a ∧ h.PlainList a items ∧ ¬ av a ∧ Paired SR xs items.toList

noncomputable def ItR (av : Addr → Prop) (h : Heap) : It → Value → Prop
  | .sc s, v => SR s v
  | .list xs, v => LR av h xs v

noncomputable def Rep (av : Addr → Prop) (h : Heap) : Vl → Value → Prop
  | .sc s, v => SR s v
  | .list xs, v => LR av h xs v
  | .own b xs, v => v = .ref b ∧ ∃ items, h.PlainList b items ∧ Paired SR xs items.toList
  | .arg xs, v => ∃ a items, v = .ref a ∧ h.IsList a items ∧ ¬ av a ∧ Paired SR xs items.toList
  | .tup ws, v => ∃ a items, v = .ref a ∧ h.IsTuple a items ∧ ¬ av a ∧ Paired (ItR av h) ws items.toList

noncomputable def Vl.pure : Vl → Bool
  | .own .. => false
  | _ => true
noncomputable def Vl.okMu (mu : Addr → Prop) : Vl → Prop
  | .own b _ => mu b
  | _ => True
theorem Vl.okPure {mu} {v : Vl} (h : v.pure = true) : v.okMu mu := by cases v <;> first | trivial | cases h

theorem pairedMono {α β : Type} {F G : α → β → Prop} {l : List α} {r : List β} (h : Paired F l r) (k : ∀ a b, F a b → G a b) : Paired G l r := by
  induction h with
  | nil => exact .nil
  | cons h1 _ ih => exact .cons (k _ _ h1) ih

section
variable {av av' : Addr → Prop} {h h' : Heap}

theorem isList_live {a : Addr} {items} (x : h.IsList a items) : ∃ o, h.get? a = some o := by obtain ⟨o, e, _⟩ := x; exact ⟨o, e⟩
theorem isTuple_live {a : Addr} {items} (x : h.IsTuple a items) : ∃ o, h.get? a = some o := by obtain ⟨o, e, _⟩ := x; exact ⟨o, e⟩

theorem LR.move (k : ∀ a o, h.get? a = some o → ¬ av a → ¬ av' a ∧ h'.get? a = some o) {xs v} (x : LR av h xs v) : LR av' h' xs v := by
  obtain ⟨a, items, rfl, ⟨o, ho⟩, hn, hp⟩ := x
  obtain ⟨h1, h2⟩ := k a _ ho hn
  exact ⟨a, items, rfl, ⟨o, h2⟩, h1, hp⟩

theorem ItR.move (k : ∀ a o, h.get? a = some o → ¬ av a → ¬ av' a ∧ h'.get? a = some o) {i v} (x : ItR av h i v) : ItR av' h' i v := by
  cases i with
  | sc s => exact x
  | list xs => exact LR.move k x

theorem Rep.move (k : ∀ a o, h.get? a = some o → ¬ av a → ¬ av' a ∧ h'.get? a = some o) {v : Vl} {val} (hp : v.pure = true) (x : Rep av h v val) : Rep av' h' v val := by
  cases v with
  | sc s => exact x
  | list xs => exact LR.move k x
  | own b xs => cases hp
  | arg xs =>
    obtain ⟨a, items, rfl, ⟨o, ho, r⟩, hn, hq⟩ := x
    obtain ⟨h1, h2⟩ := k a o ho hn
    exact ⟨a, items, rfl, ⟨o, h2, r⟩, h1, hq⟩
  | tup ws =>
    obtain ⟨a, items, rfl, ⟨o, ho, r⟩, hn, hq⟩ := x
    obtain ⟨h1, h2⟩ := k a o ho hn
    exact ⟨a, items, rfl, ⟨o, h2, r⟩, h1, pairedMono hq fun _ _ y => ItR.move k y⟩

theorem Rep.keeps (k : ∀ b o, h.get? b = some o → h'.get? b = some o) {v : Vl} {val} (x : Rep av h v val) : Rep av h' v val := by
  by_cases hp : v.pure = true
  · exact Rep.move (fun a o e n => ⟨n, k a o e⟩) hp x
  · cases v with
    | own b xs =>
      obtain ⟨h1, items, ⟨o, ho⟩, hq⟩ := x
      exact ⟨h1, items, ⟨o, k _ _ ho⟩, hq⟩
    | _ => exact absurd rfl hp
end

theorem Rep.weaken {av av' : Addr → Prop} {h : Heap} (k : ∀ a, av' a → av a) {v val} (x : Rep av h v val) : Rep av' h v val := by
  by_cases hp : v.pure = true
  · exact Rep.move (fun a o e n => ⟨fun q => n (k a q), e⟩) hp x
  · cases v with
    | own b xs => exact x
    | _ => exact absurd rfl hp
theorem Rep.more {av X : Addr → Prop} {h : Heap} (k : ∀ a o, h.get? a = some o → ¬ X a) {v val} (x : Rep av h v val) : Rep (fun a => av a ∨ X a) h v val := by
  by_cases hp : v.pure = true
  · exact Rep.move (fun a o e n => ⟨fun q => q.elim n (k a o e), e⟩) hp x
  · cases v with
    | own b xs => exact x
    | _ => exact absurd rfl hp

/-! the room left -/
noncomputable def Room (d : Nat) (A : Around) : Prop := A.handled = none ∧ A.depth + d < recursionLimit ∧ A.units + 8 * d + 8 < cLine

theorem Room.le {d d' : Nat} {A : Around} (h : Room d A) (k : d' ≤ d) : Room d' A := ⟨h.1, by have := h.2.1; (first | exact om0 this k | omega), by have := h.2.2; (first | exact om1 this k | omega)⟩
theorem Room.deeper {d : Nat} {A : Around} {env : Env} (h : Room (d + 1) A) : Room d (A.deeper env) :=
  ⟨h.1, by have := h.2.1; show A.depth + 1 + d < _; (first | exact om2 this | omega), by have := h.2.2; show A.units + 3 + 8 * d + 8 < _; (first | exact om3 this | omega)⟩

/-! the ground -/
noncomputable abbrev PW : Program := PySem.Challenge.pw_wf0051_01
noncomputable abbrev MD (w : World) : Model := model PW w
noncomputable abbrev KK (w : World) : Frag := Mine.hd.heap_39 w.params

structure Gd (w : World) (h₀ : Heap) : Prop where
  K : (KK w).In h₀
  T : ∃ p loose mg mb, TopRead p loose mg mb h₀

/-! a frame -/
inductive VK where
  | loc
  | cel
  | fre

structure Fm where
  env : Env
  A : Around
  d : Nat
  av : Addr → Prop
  mu : Addr → Prop
  rv : Addr → Prop
  nm : List (Str × VK)

noncomputable def KOK (Φ : Fm) (x : Str) : VK → Prop
  | .loc => Φ.env.kindOf x = some .local
  | .cel => Φ.env.kindOf x = some .cell ∧ ∃ c, Φ.env.cells.lookup x = some c ∧ Φ.mu c ∧ c ≠ Φ.env.locals
  | .fre => (Φ.env.kindOf x = some .cell ∨ Φ.env.kindOf x = some .free) ∧ ∃ c, Φ.env.cells.lookup x = some c ∧ Φ.av c

noncomputable def Plain (x : Str) : Prop := (x == ("__debug__" : Str)) = false ∧ (x == ("__classdict__" : Str)) = false

structure WF (w : World) (h₀ : Heap) (Φ : Fm) : Prop where
  gd : Gd w h₀
  fn : Φ.env.scope.kind = .function
  gl : Φ.env.globals = mainGlobals
  bu : Φ.env.builtins = builtinsNs
  room : Room Φ.d Φ.A
  mufresh : ∀ a, Φ.mu a → h₀.get? a = none
  muav : ∀ a, Φ.mu a → Φ.av a
  rvav : ∀ a, Φ.rv a → Φ.av a
  loc : Φ.mu Φ.env.locals
  kinds : ∀ p, p ∈ Φ.nm → KOK Φ p.1 p.2 ∧ Plain p.1
  nodup : (Φ.nm.map (·.1)).Nodup
  apart : ∀ x y c, Φ.env.cells.lookup x = some c → Φ.env.cells.lookup y = some c → x = y

noncomputable def At (Φ : Fm) (mc : Str → Option Value) (h : Heap) (p : Str × VK) (val : Value) : Prop :=
  match p.2 with
  | .loc => mc p.1 = some val
  | _ => ∃ c, Φ.env.cells.lookup p.1 = some c ∧ h.IsCell c (some val)

noncomputable def VOK (Φ : Fm) (mc : Str → Option Value) (h : Heap) (p : Str × VK) : Option Vl → Prop
  | none => p.2 = .cel → ∃ c v₀, Φ.env.cells.lookup p.1 = some c ∧ h.IsCell c v₀
  | some v => ∃ val, Rep Φ.av h v val ∧ At Φ mc h p val ∧ v.okMu Φ.mu

structure St (h₀ : Heap) (Φ : Fm) (vs : List (Option Vl)) (s : Shared) : Prop where
  base : ∀ b o, h₀.get? b = some o → s.heap.get? b = some o
  live : ∀ a, Φ.av a → ∃ o, s.heap.get? a = some o
  ns : ∃ mc, s.heap.Ns Φ.env.locals mc ∧ Paired (VOK Φ mc s.heap) Φ.nm vs

theorem VOK.keeps {Φ : Fm} {mc} {h h' : Heap} (k : ∀ b o, h.get? b = some o → h'.get? b = some o) {p ov} (x : VOK Φ mc h p ov) : VOK Φ mc h' p ov := by
  cases ov with
  | none => intro e; obtain ⟨c, v₀, h1, h2⟩ := x e; exact ⟨c, v₀, h1, h2.keeps k⟩
  | some v =>
    obtain ⟨val, h1, h2, h5⟩ := x
    refine ⟨val, h1.keeps k, ?_, h5⟩
    unfold At at h2 ⊢
    split
    · rename_i e; simpa [e] using h2
    · rename_i e
      have h2' : ∃ c, Φ.env.cells.lookup p.1 = some c ∧ h.IsCell c (some val) := by
        revert h2
        cases hp : p.2 with
        | loc => exact absurd hp e
        | cel => exact id
        | fre => exact id
      obtain ⟨c, h3, h4⟩ := h2'
      exact ⟨c, h3, h4.keeps k⟩

theorem St.keeps {h₀ : Heap} {Φ : Fm} {vs} {s s' : Shared} (x : St h₀ Φ vs s) (k : ∀ b o, s.heap.get? b = some o → s'.heap.get? b = some o) : St h₀ Φ vs s' where
  base := fun b o e => k b o (x.base b o e)
  live := fun a ha => by obtain ⟨o, e⟩ := x.live a ha; exact ⟨o, k a o e⟩
  ns := by
    obtain ⟨mc, h1, h2⟩ := x.ns
    exact ⟨mc, h1.keeps k, pairedMono h2 fun _ _ y => y.keeps k⟩

noncomputable def Kp (s s' : Shared) : Prop := PySem.Keeps s s'
theorem Kp.refl (s : Shared) : Kp s s := ⟨s.heap, s.toks, rfl, fun _ _ e => e⟩
theorem Kp.tok (s : Shared) (t : Nat) : Kp s { s with toks := t } := ⟨s.heap, t, rfl, fun _ _ e => e⟩
theorem Kp.heap {s s' : Shared} (x : Kp s s') : ∀ b o, s.heap.get? b = some o → s'.heap.get? b = some o := by
  obtain ⟨h', tk, rfl, k⟩ := x; exact k
theorem Kp.trans {s s' s'' : Shared} (x : Kp s s') (y : Kp s' s'') : Kp s s'' := by
  obtain ⟨h', tk, rfl, k⟩ := x
  obtain ⟨h'', tk', rfl, k'⟩ := y
  exact ⟨h'', tk', rfl, fun b o e => k' b o (k b o e)⟩
theorem St.kept {h₀ : Heap} {Φ : Fm} {vs} {s s' : Shared} (x : St h₀ Φ vs s) (k : Kp s s') : St h₀ Φ vs s' := x.keeps k.heap

/-! judgements -/
noncomputable abbrev NoE : Value → Shared → Prop := fun _ _ => False

noncomputable def Post (Φ : Fm) (v : Vl) (s : Shared) (val : Value) (s' : Shared) : Prop := Kp s s' ∧ Rep Φ.av s'.heap v val

noncomputable def EvP (w : World) (h₀ : Heap) (Φ : Fm) (vs : List (Option Vl)) (e : Expr) (v : Vl) : Prop :=
  ∀ s, St h₀ Φ vs s → wpAny (MD w) Φ.A (eval e Φ.env) (Post Φ v s) NoE s

noncomputable def TrP (w : World) (h₀ : Heap) (Φ : Fm) (vs : List (Option Vl)) (e : Expr) (b : Bool) : Prop :=
  ∀ s, St h₀ Φ vs s → wpAny (MD w) Φ.A (isTrue e Φ.env (eval e Φ.env)) (fun b' s' => Kp s s' ∧ b' = b) NoE s

noncomputable def BinP (w : World) (h₀ : Heap) (Φ : Fm) (vs : List (Option Vl)) (op : Operator) (a b v : Vl) : Prop :=
  ∀ s va vb, St h₀ Φ vs s → Rep Φ.av s.heap a va → Rep Φ.av s.heap b vb → wpAny (MD w) Φ.A (binaryOp op va vb) (Post Φ v s) NoE s

noncomputable def CmpP (w : World) (h₀ : Heap) (Φ : Fm) (vs : List (Option Vl)) (op : CmpOp) (a b : Vl) (r : Bool) : Prop :=
  ∀ s va vb, St h₀ Φ vs s → Rep Φ.av s.heap a va → Rep Φ.av s.heap b vb → wpAny (MD w) Φ.A (compareOp op va vb) (Post Φ (bV r) s) NoE s

section
variable {w : World} {h₀ : Heap} {Φ : Fm} {vs : List (Option Vl)}

theorem EvP.int {i : Int} {k pos} : EvP w h₀ Φ vs (.Constant (.int i) k pos) (iV i) := fun s _ =>
  (show wpAny _ _ (mkInt i) _ _ s from fun _ _ _ => ⟨Kp.tok s _, ⟨_, rfl⟩⟩)
theorem EvP.flt {u : UInt64} {k pos} : EvP w h₀ Φ vs (.Constant (.float u) k pos) (fV u) := fun s _ =>
  (show wpAny _ _ (mkFloat u) _ _ s from fun _ _ _ => ⟨Kp.tok s _, ⟨_, rfl⟩⟩)
theorem EvP.str {u : Str} {k pos} : EvP w h₀ Φ vs (.Constant (.str u) k pos) (sV u) := fun s _ =>
  (show wpAny _ _ (mkText u) _ _ s from fun _ _ _ => ⟨Kp.tok s _, ⟨_, rfl⟩⟩)
theorem EvP.bool {b : Bool} {k pos} : EvP w h₀ Φ vs (.Constant (.bool b) k pos) (bV b) := fun s _ =>
  (show wpAny _ _ (pure _) _ _ s from fun _ _ _ => ⟨Kp.refl s, rfl⟩)

theorem pairedGet {α β : Type} {F : α → β → Prop} {l : List α} {r : List β} (h : Paired F l r) : ∀ {i : Nat} {a : α} {b : β}, l[i]? = some a → r[i]? = some b → F a b := by
  induction h with
  | nil => intro i a b h1 _; simp at h1
  | cons h t ih =>
    intro i a b h1 h2
    cases i with
    | zero => simp at h1 h2; subst h1; subst h2; exact h
    | succ i => exact ih (by simpa using h1) (by simpa using h2)

theorem EvP.name (hw : WF w h₀ Φ) (i : Nat) {x : Str} {k : VK} {v : Vl} {pos} (hx : Φ.nm[i]? = some (x, k)) (hv : vs[i]? = some (some v)) : EvP w h₀ Φ vs (.Name x pos) v := by
  intro s hs
  obtain ⟨mc, hn, hp⟩ := hs.ns
  obtain ⟨val, hr, ha, _⟩ := pairedGet hp hx hv
  obtain ⟨hk, hpl⟩ := hw.kinds _ (List.mem_of_getElem? hx)
  refine wpAny_Name ?_ hpl.1
  cases k with
  | loc => exact wpAny_loadName_local hw.fn hk hn ha ⟨Kp.refl s, hr⟩
  | cel =>
    obtain ⟨c, hc, hcell⟩ := ha
    exact wpAny_loadName_cell hw.fn hk.1 hc hcell ⟨Kp.refl s, hr⟩
  | fre =>
    obtain ⟨c, hc, hcell⟩ := ha
    rcases hk.1 with h | h
    · exact wpAny_loadName_cell hw.fn h hc hcell ⟨Kp.refl s, hr⟩
    · exact wpAny_loadName_free hw.fn h hc hcell ⟨Kp.refl s, hr⟩ hpl.2

theorem EvP.bin {l op r pos a b v} (hl : EvP w h₀ Φ vs l a) (hr : EvP w h₀ Φ vs r b) (ho : BinP w h₀ Φ vs op a b v) : EvP w h₀ Φ vs (.BinOp l op r pos) v := by
  intro s hs
  refine wpAny_BinOp (wpAny_mono (hl s hs) (fun va s₁ h1 => ?_) fun _ _ x => x)
  have hs₁ := hs.kept h1.1
  refine wpAny_mono (hr s₁ hs₁) (fun vb s₂ h2 => ?_) fun _ _ x => x
  have hs₂ := hs₁.kept h2.1
  refine wpAny_mono (ho s₂ va vb hs₂ (h1.2.keeps h2.1.heap) h2.2) (fun vc s₃ h3 => ?_) fun _ _ x => x
  exact ⟨(h1.1.trans h2.1).trans h3.1, h3.2⟩

theorem EvP.cmp {l op r pos a b c} (hl : EvP w h₀ Φ vs l a) (hr : EvP w h₀ Φ vs r b) (ho : CmpP w h₀ Φ vs op a b c) (hm : behindInMarks op r = false := by with_unfolding_all rfl) : EvP w h₀ Φ vs (.Compare l [op] [r] pos) (bV c) := by
  intro s hs
  refine wpAny_Compare1 (wpAny_mono (hl s hs) (fun va s₁ h1 => ?_) fun _ _ x => x) hm
  have hs₁ := hs.kept h1.1
  refine wpAny_mono (hr s₁ hs₁) (fun vb s₂ h2 => ?_) fun _ _ x => x
  have hs₂ := hs₁.kept h2.1
  refine wpAny_mono (ho s₂ va vb hs₂ (h1.2.keeps h2.1.heap) h2.2) (fun vc s₃ h3 => ?_) fun _ _ x => x
  exact ⟨(h1.1.trans h2.1).trans h3.1, h3.2⟩

theorem TrP.cmp {l op r pos a b c} (hl : EvP w h₀ Φ vs l a) (hr : EvP w h₀ Φ vs r b) (ho : CmpP w h₀ Φ vs op a b c) (hm : behindInMarks op r = false := by with_unfolding_all rfl) : TrP w h₀ Φ vs (.Compare l [op] [r] pos) c := by
  intro s hs
  refine wpAny_isTrue_Compare1 (wpAny_mono (hl s hs) (fun va s₁ h1 => ?_) fun _ _ x => x) hm
  have hs₁ := hs.kept h1.1
  refine wpAny_mono (hr s₁ hs₁) (fun vb s₂ h2 => ?_) fun _ _ x => x
  have hs₂ := hs₁.kept h2.1
  refine wpAny_mono (ho s₂ va vb hs₂ (h1.2.keeps h2.1.heap) h2.2) (fun vc s₃ h3 => ?_) fun _ _ x => x
  have hv : vc = .bool c := h3.2
  subst hv
  exact wpAny_truthy_bool ⟨(h1.1.trans h2.1).trans h3.1, rfl⟩

/-! ints -/
theorem BinP.add {a b : Int} : BinP w h₀ Φ vs .Add (iV a) (iV b) (iV (a + b)) := fun s va vb _ ⟨_, e⟩ ⟨_, e'⟩ => by
  subst e; subst e'; exact PyProof.Rows.add_int ⟨Kp.tok s _, ⟨_, rfl⟩⟩
theorem BinP.sub {a b : Int} : BinP w h₀ Φ vs .Sub (iV a) (iV b) (iV (a - b)) := fun s va vb _ ⟨_, e⟩ ⟨_, e'⟩ => by
  subst e; subst e'; exact PyProof.Rows.sub_int ⟨Kp.tok s _, ⟨_, rfl⟩⟩
theorem CmpP.eqI {a b : Int} : CmpP w h₀ Φ vs .Eq (iV a) (iV b) (a == b) := fun s va vb _ ⟨_, e⟩ ⟨_, e'⟩ => by
  subst e; subst e'; exact PyProof.Rows.eq_int ⟨Kp.refl s, rfl⟩
end
end Mine

namespace Mine

noncomputable def KB (mu : Addr → Prop) (s s' : Shared) : Prop := ∃ h' tk, s' = { s with heap := h', toks := tk } ∧ ∀ b o, ¬ mu b → s.heap.get? b = some o → h'.get? b = some o
theorem KB.refl (mu) (s : Shared) : KB mu s s := ⟨s.heap, s.toks, rfl, fun _ _ _ e => e⟩
theorem KB.heap {mu} {s s' : Shared} (x : KB mu s s') : ∀ b o, ¬ mu b → s.heap.get? b = some o → s'.heap.get? b = some o := by
  obtain ⟨h', tk, rfl, k⟩ := x; exact k
theorem KB.trans {mu} {s s' s'' : Shared} (x : KB mu s s') (y : KB mu s' s'') : KB mu s s'' := by
  obtain ⟨h', tk, rfl, k⟩ := x
  obtain ⟨h'', tk', rfl, k'⟩ := y
  exact ⟨h'', tk', rfl, fun b o n e => k' b o n (k b o n e)⟩
theorem Kp.kb {mu} {s s' : Shared} (x : Kp s s') : KB mu s s' := by
  obtain ⟨h', tk, rfl, k⟩ := x; exact ⟨h', tk, rfl, fun b o _ e => k b o e⟩
theorem KB.mono {mu mu' : Addr → Prop} {s s' : Shared} (x : KB mu s s') (k : ∀ a o, s.heap.get? a = some o → mu a → mu' a) : KB mu' s s' := by
  obtain ⟨h', tk, rfl, k'⟩ := x
  exact ⟨h', tk, rfl, fun b o n e => k' b o (fun q => n (k b o e q)) e⟩

theorem pairedImp {α β : Type} {F G : α → β → Prop} {l : List α} {r : List β} (h : Paired F l r) : (∀ (j : Nat) a b, l[j]? = some a → r[j]? = some b → F a b → G a b) → Paired G l r := by
  induction h with
  | nil => intro _; exact .nil
  | cons f _ ih => exact fun k => .cons (k 0 _ _ rfl rfl f) (ih fun j a b e1 e2 => k (j + 1) a b e1 e2)
theorem pairedSet {α β : Type} {F G : α → β → Prop} {l : List α} {r : List β} (h : Paired F l r) : ∀ {i : Nat} {a : α} {b' : β}, l[i]? = some a → G a b' →
    (∀ j a' b'', j ≠ i → l[j]? = some a' → r[j]? = some b'' → F a' b'' → G a' b'') → Paired G l (r.set i b') := by
  induction h with
  | nil => intro i a b' h1 _ _; simp at h1
  | cons h t ih =>
    intro i a b' h1 h2 h3
    cases i with
    | zero =>
      have e := Option.some.inj h1
      subst e
      exact .cons h2 (pairedImp t fun j a b e1 e2 => h3 (j + 1) a b (Nat.succ_ne_zero j) e1 e2)
    | succ i => exact .cons (h3 0 _ _ (Nat.succ_ne_zero i).symm rfl rfl h) (ih h1 h2 fun j a' b'' n e1 e2 => h3 (j + 1) a' b'' (fun q => n (Nat.succ.inj q)) e1 e2)

theorem nodupGet {l : List (Str × VK)} (h : (l.map (·.1)).Nodup) {i j : Nat} {x y k k'} (hi : l[i]? = some (x, k)) (hj : l[j]? = some (y, k')) (n : j ≠ i) : y ≠ x := by
  intro e
  subst e
  apply n
  have h1 : (l.map (·.1))[i]? = some y := by rw [List.getElem?_map, hi]; rfl
  have h2 : (l.map (·.1))[j]? = some y := by rw [List.getElem?_map, hj]; rfl
  have hj' : j < (l.map (·.1)).length := by
    by_cases q : j < (l.map (·.1)).length
    · exact q
    · rw [List.getElem?_eq_none (by (first | exact om4 q | omega))] at h2; cases h2
  exact (List.getElem?_inj hj' h).mp (h2.trans h1.symm)

noncomputable def NoSeq (o : Obj) : Prop := ∀ items n, o.data ≠ .seq items n

section
variable {av : Addr → Prop} {h h' : Heap} {a : Addr} {oa : Obj}

theorem LR.but (ha : h.get? a = some oa) (hn : NoSeq oa) (k : ∀ b o, b ≠ a → h.get? b = some o → h'.get? b = some o) {xs v} (x : LR av h xs v) : LR av h' xs v := by
  obtain ⟨b, items, rfl, ⟨n, ho⟩, hv, hp⟩ := x
  have hb : b ≠ a := by
    rintro rfl
    rw [ha] at ho; cases ho
    exact hn _ _ rfl
  exact ⟨b, items, rfl, ⟨n, k b _ hb ho⟩, hv, hp⟩
theorem Rep.but (ha : h.get? a = some oa) (hn : NoSeq oa) (k : ∀ b o, b ≠ a → h.get? b = some o → h'.get? b = some o) {v val} (x : Rep av h v val) : Rep av h' v val := by
  cases v with
  | sc s => exact x
  | list xs => exact LR.but ha hn k x
  | own b xs =>
    obtain ⟨h1, items, ⟨n, ho⟩, hq⟩ := x
    have hb : b ≠ a := by
      rintro rfl
      rw [ha] at ho; cases ho
      exact hn _ _ rfl
    exact ⟨h1, items, ⟨n, k b _ hb ho⟩, hq⟩
  | arg xs =>
    obtain ⟨b, items, rfl, ⟨o, ho, hc, n, hd⟩, hv, hp⟩ := x
    have hb : b ≠ a := by
      rintro rfl
      rw [ha] at ho; cases ho
      exact hn _ _ hd
    exact ⟨b, items, rfl, ⟨o, k b o hb ho, hc, n, hd⟩, hv, hp⟩
  | tup ws =>
    obtain ⟨b, items, rfl, ⟨o, ho, hc, n, hd⟩, hv, hp⟩ := x
    have hb : b ≠ a := by
      rintro rfl
      rw [ha] at ho; cases ho
      exact hn _ _ hd
    refine ⟨b, items, rfl, ⟨o, k b o hb ho, hc, n, hd⟩, hv, pairedMono hp fun i y z => ?_⟩
    cases i with
    | sc s => exact z
    | list xs => exact LR.but ha hn k z
end

theorem fnKind {w h₀ Φ} (hw : WF w h₀ Φ) : (Φ.env.scope.kind == .class || (Φ.env.scope.kind == .module && Φ.env.locals != Φ.env.globals)) = false := by
  rw [hw.fn]; rfl

theorem cellNoSeq {o : Obj} {v} (e : o.data = .cell v) : NoSeq o := fun items n q => by rw [e] at q; cases q
theorem dictNoSeq {o : Obj} {es ep} (e : o.data = .dict es ep) : NoSeq o := fun items n q => by rw [e] at q; cases q

section
variable {w : World} {h₀ : Heap} {Φ : Fm} {vs : List (Option Vl)}

theorem At.of {Φ : Fm} {mc h p val} (hp : p.2 ≠ .loc) (x : At Φ mc h p val) : ∃ c, Φ.env.cells.lookup p.1 = some c ∧ h.IsCell c (some val) := by
  unfold At at x
  cases q : p.2 with
  | loc => exact absurd q hp
  | cel => simpa [q] using x
  | fre => simpa [q] using x
theorem At.mk' {Φ : Fm} {mc h p val} (hp : p.2 ≠ .loc) (x : ∃ c, Φ.env.cells.lookup p.1 = some c ∧ h.IsCell c (some val)) : At Φ mc h p val := by
  unfold At
  cases q : p.2 with
  | loc => exact absurd q hp
  | cel => simpa [q] using x
  | fre => simpa [q] using x

theorem storeP (hw : WF w h₀ Φ) {i : Nat} {x : Str} {k : VK} {v : Vl} {val : Value} (hx : Φ.nm[i]? = some (x, k)) (hk : k ≠ .fre) {s : Shared} (hs : St h₀ Φ vs s) (hr : Rep Φ.av s.heap v val) (hok : v.okMu Φ.mu)
    {Q : Unit → Shared → Prop} {E} (hQ : ∀ s', KB Φ.mu s s' → St h₀ Φ (vs.set i (some v)) s' → Q () s') : wpAny (MD w) Φ.A (storeName Φ.env x val) Q E s := by
  obtain ⟨mc, hn, hp⟩ := hs.ns
  obtain ⟨hkk, hpl⟩ := hw.kinds _ (List.mem_of_getElem? hx)
  cases k with
  | fre => exact absurd rfl hk
  | loc =>
    refine wpAny_storeName_local hkk hn (fun h' hn' hsb => hQ _ ⟨_, _, rfl, fun b o nb e => ?_⟩ ⟨fun b o e => ?_, fun a ha => ?_, ⟨_, hn', ?_⟩⟩) (fnKind hw)
    · exact hsb.extBut b o (fun q => nb (q ▸ hw.loc)) e
    · exact hsb.extBut b o (fun q => by have := hw.mufresh _ hw.loc; rw [← q, e] at this; cases this) (hs.base b o e)
    · by_cases q : a = Φ.env.locals
      · subst q; obtain ⟨o, _, _, e, _⟩ := hn'; exact ⟨o, e⟩
      · obtain ⟨o, e⟩ := hs.live a ha; exact ⟨o, hsb.extBut a o q e⟩
    · obtain ⟨oL, es, ep, hL, hLd, _⟩ := hn
      have hns := dictNoSeq hLd
      refine pairedSet hp hx ⟨val, hr.but hL hns hsb.extBut, ?_, hok⟩ ?_
      · show (if x = x then some val else mc x) = some val
        simp
      · intro j p' ov hj h1 h2 hv
        have hne := nodupGet hw.nodup hx (y := p'.1) (k' := p'.2) h1 hj
        cases ov with
        | none =>
          intro e
          obtain ⟨c, v₀, h3, h4⟩ := hv e
          refine ⟨c, v₀, h3, ?_⟩
          obtain ⟨⟨_, c', hc', _, hcl⟩, _⟩ : KOK Φ p'.1 .cel ∧ _ := e ▸ hw.kinds _ (List.mem_of_getElem? h1)
          rw [h3] at hc'; cases hc'
          exact h4.sameBut hsb hcl
        | some v' =>
          obtain ⟨val', h3, h4, h9⟩ := hv
          refine ⟨val', h3.but hL hns hsb.extBut, ?_, h9⟩
          by_cases hl : p'.2 = .loc
          · have h4' : mc p'.1 = some val' := by unfold At at h4; rw [hl] at h4; exact h4
            unfold At
            rw [hl]
            show (if p'.1 = x then some val else mc p'.1) = some val'
            rw [if_neg hne]; exact h4'
          · obtain ⟨c, h5, h6⟩ := h4.of hl
            refine At.mk' hl ⟨c, h5, ?_⟩
            obtain ⟨oc, h7, h8⟩ := h6
            have hcl : c ≠ Φ.env.locals := by
              rintro rfl
              rw [hL] at h7; cases h7
              rw [hLd] at h8; cases h8
            exact ⟨oc, hsb.extBut c oc hcl h7, h8⟩
  | cel =>
    obtain ⟨hk1, c, hc, hcm, hcl⟩ := hkk
    have hcell : ∃ v₀, s.heap.IsCell c v₀ := by
      have hlt : i < vs.length := by
        have e1 := Paired.length hp
        have : i < Φ.nm.length := by
          by_cases q : i < Φ.nm.length
          · exact q
          · rw [List.getElem?_eq_none (by (first | exact om4 q | omega))] at hx; cases hx
        (first | exact om5 this e1 | omega)
      have hb : vs[i]? = some vs[i] := by simp [hlt]
      have hv := pairedGet hp hx hb
      generalize vs[i] = ov at hv
      cases ov with
      | none => obtain ⟨c', v₀, h1, h2⟩ := hv rfl; rw [hc] at h1; cases h1; exact ⟨v₀, h2⟩
      | some v' =>
        obtain ⟨val', _, h4, _⟩ := hv
        obtain ⟨c', h1, h2⟩ := h4.of (by simp)
        have h1' : Φ.env.cells.lookup x = some c' := h1
        rw [hc] at h1'; cases h1'; exact ⟨_, h2⟩
    obtain ⟨v₀, hcell⟩ := hcell
    obtain ⟨oc, hoc, hocd⟩ := id hcell
    have hns := cellNoSeq hocd
    refine wpAny_storeName_cell hw.fn hk1 hc hcell (fun h' hn' hsb => hQ _ ⟨_, _, rfl, fun b o nb e => ?_⟩ ⟨fun b o e => ?_, fun a ha => ?_, ⟨mc, hn.sameBut hsb (Ne.symm hcl), ?_⟩⟩)
    · exact hsb.extBut b o (fun q => nb (q ▸ hcm)) e
    · exact hsb.extBut b o (fun q => by have := hw.mufresh _ hcm; rw [← q, e] at this; cases this) (hs.base b o e)
    · by_cases q : a = c
      · subst q; obtain ⟨o, e, _⟩ := hn'; exact ⟨o, e⟩
      · obtain ⟨o, e⟩ := hs.live a ha; exact ⟨o, hsb.extBut a o q e⟩
    · refine pairedSet hp hx ⟨val, hr.but hoc hns hsb.extBut, At.mk' (by simp) ⟨c, hc, hn'⟩, hok⟩ ?_
      intro j p' ov hj h1 h2 hv
      have hne := nodupGet hw.nodup hx (y := p'.1) (k' := p'.2) h1 hj
      have apart : ∀ c', Φ.env.cells.lookup p'.1 = some c' → c' ≠ c := fun c' e q => hne (hw.apart _ _ c' e (q ▸ hc))
      cases ov with
      | none =>
        intro e
        obtain ⟨c', v₁, h3, h4⟩ := hv e
        exact ⟨c', v₁, h3, h4.sameBut hsb (apart c' h3)⟩
      | some v' =>
        obtain ⟨val', h3, h4, h9⟩ := hv
        refine ⟨val', h3.but hoc hns hsb.extBut, ?_, h9⟩
        by_cases hl : p'.2 = .loc
        · unfold At at h4 ⊢
          rw [hl] at h4 ⊢; exact h4
        · obtain ⟨c', h5, h6⟩ := h4.of hl
          exact At.mk' hl ⟨c', h5, h6.sameBut hsb (apart c' h5)⟩

/-! statements -/
inductive Out where
  | nxt (vs : List (Option Vl))
  | brk (vs : List (Option Vl))
  | ret (v : Vl)

noncomputable def OutOK (h₀ : Heap) (Φ : Fm) : Out → Flow → Shared → Prop
  | .nxt vs, f, s => f = .next ∧ St h₀ Φ vs s
  | .brk vs, f, s => f = .brk ∧ St h₀ Φ vs s
  | .ret v, f, s => ∃ val, f = .ret val ∧ Rep Φ.rv s.heap v val

noncomputable def SPost (h₀ : Heap) (Φ : Fm) (R : Out → Prop) (s : Shared) (f : Flow) (s' : Shared) : Prop := KB Φ.mu s s' ∧ ∃ o, R o ∧ OutOK h₀ Φ o f s'

noncomputable def ExP (w : World) (h₀ : Heap) (Φ : Fm) (vs : List (Option Vl)) (ss : List Stmt) (R : Out → Prop) : Prop :=
  ∀ s, St h₀ Φ vs s → wpAny (MD w) Φ.A (execs ss Φ.env) (SPost h₀ Φ R s) NoE s
noncomputable def ExS (w : World) (h₀ : Heap) (Φ : Fm) (vs : List (Option Vl)) (st : Stmt) (R : Out → Prop) : Prop :=
  ∀ s, St h₀ Φ vs s → wpAny (MD w) Φ.A (exec st Φ.env) (SPost h₀ Φ R s) NoE s

theorem ExP.nil {R : Out → Prop} (h : R (.nxt vs)) : ExP w h₀ Φ vs [] R := fun s hs => wpAny_execs_nil ⟨KB.refl _ s, _, h, rfl, hs⟩

noncomputable def thenP (w : World) (h₀ : Heap) (Φ : Fm) (rest : List Stmt) (R : Out → Prop) : Out → Prop
  | .nxt vs' => ExP w h₀ Φ vs' rest R
  | o => R o

theorem ExP.cons {st rest} {R : Out → Prop} (h : ExS w h₀ Φ vs st (thenP w h₀ Φ rest R)) : ExP w h₀ Φ vs (st :: rest) R := by
  intro s hs
  refine wpAny_execs_cons (wpAny_mono (h s hs) (fun f s₁ h1 => ?_) fun _ _ x => x)
  obtain ⟨hk, o, ho, hf⟩ := h1
  cases o with
  | nxt vs' =>
    obtain ⟨rfl, hs₁⟩ := hf
    exact wpAny_mono (ho s₁ hs₁) (fun f' s₂ h2 => ⟨hk.trans h2.1, h2.2⟩) fun _ _ x => x
  | brk vs' =>
    obtain ⟨rfl, hs₁⟩ := hf
    exact ⟨hk, _, ho, rfl, hs₁⟩
  | ret v =>
    obtain ⟨val, rfl, hv⟩ := hf
    exact ⟨hk, _, ho, val, rfl, hv⟩

theorem ExS.mono {st} {R R' : Out → Prop} (h : ExS w h₀ Φ vs st R) (k : ∀ o, R o → R' o) : ExS w h₀ Φ vs st R' := fun s hs =>
  wpAny_mono (h s hs) (fun _ _ h1 => ⟨h1.1, by obtain ⟨o, a, b⟩ := h1.2; exact ⟨o, k o a, b⟩⟩) fun _ _ x => x
theorem ExP.mono {ss} {R R' : Out → Prop} (h : ExP w h₀ Φ vs ss R) (k : ∀ o, R o → R' o) : ExP w h₀ Φ vs ss R' := fun s hs =>
  wpAny_mono (h s hs) (fun _ _ h1 => ⟨h1.1, by obtain ⟨o, a, b⟩ := h1.2; exact ⟨o, k o a, b⟩⟩) fun _ _ x => x

theorem ExS.assign (hw : WF w h₀ Φ) (i : Nat) {x : Str} {k : VK} {v : Vl} {e px pos} {R : Out → Prop} (he : EvP w h₀ Φ vs e v) (hx : Φ.nm[i]? = some (x, k)) (hk : k ≠ .fre)
    (hp : v.pure = true) (hs : swapsWith e (some (.Name x px)) pos.line Φ.env = pure false) (hR : R (.nxt (vs.set i (some v)))) : ExS w h₀ Φ vs (.Assign [.Name x px] e pos) R := by
  intro s hst
  refine wpAny_Assign_Name (wpAny_mono (he s hst) (fun val s₁ h1 => ?_) fun _ _ x => x) hs
  exact storeP hw hx hk (hst.kept h1.1) h1.2 (Vl.okPure hp) fun s₂ hk2 hs2 => ⟨h1.1.kb.trans hk2, _, hR, rfl, hs2⟩

theorem ExS.ret (hw : WF w h₀ Φ) {e v pos} {R : Out → Prop} (he : EvP w h₀ Φ vs e v) (hR : R (.ret v)) : ExS w h₀ Φ vs (.Return (some e) pos) R := fun s hst =>
  wpAny_Return_some (wpAny_mono (he s hst) (fun val s₁ h1 => ⟨h1.1.kb, _, hR, val, rfl, h1.2.weaken hw.rvav⟩) fun _ _ x => x)

theorem ExS.brk {pos} {R : Out → Prop} (hR : R (.brk vs)) : ExS w h₀ Φ vs (.Break pos) R := fun s hst => wpAny_Break ⟨KB.refl _ s, _, hR, rfl, hst⟩

theorem ExS.ite {test body orelse pos b} {R : Out → Prop} (ht : TrP w h₀ Φ vs test b) (hb : b = true → ExP w h₀ Φ vs body R) (he : b = false → ExP w h₀ Φ vs orelse R) :
    ExS w h₀ Φ vs (.If test body orelse pos) R := by
  intro s hst
  refine wpAny_If (wpAny_mono (ht s hst) (fun b' s₁ h1 => ?_) fun _ _ x => x)
  obtain ⟨hk, rfl⟩ := h1
  have hs₁ := hst.kept hk
  cases b' with
  | true => exact wpAny_mono (hb rfl s₁ hs₁) (fun f s₂ h2 => ⟨hk.kb.trans h2.1, h2.2⟩) fun _ _ x => x
  | false => exact wpAny_mono (he rfl s₁ hs₁) (fun f s₂ h2 => ⟨hk.kb.trans h2.1, h2.2⟩) fun _ _ x => x
end
end Mine

namespace Mine

noncomputable def It.v : It → Vl
  | .sc s => .sc s
  | .list xs => .list xs
theorem It.rep {av h} {i : It} {val} (x : Rep av h i.v val) : ItR av h i val := by cases i <;> exact x

theorem freshNotAv {h₀ Φ vs} {s : Shared} (hs : St h₀ Φ vs s) : ¬ Φ.av s.heap.objs.size := fun h => by
  obtain ⟨o, e⟩ := hs.live _ h
  exact absurd (Heap.lt_size e) (Nat.lt_irrefl _)

theorem kpPush (s : Shared) (o : Obj) : Kp s { s with heap := s.heap.push o } := ⟨_, _, rfl, fun _ _ e => Heap.get?_push_of_some _ e⟩

theorem pairedMapL {α β γ : Type} {F : γ → β → Prop} {f : α → γ} : ∀ {l : List α} {r : List β}, Paired F (l.map f) r → Paired (fun a b => F (f a) b) l r
  | [], _, h => by cases h; exact .nil
  | a :: l, _, h => by
    cases h with
    | cons h1 h2 => exact .cons h1 (pairedMapL h2)

section
variable {w : World} {h₀ : Heap} {Φ : Fm} {vs : List (Option Vl)}

noncomputable def EvL (w : World) (h₀ : Heap) (Φ : Fm) (vs : List (Option Vl)) (es : List Expr) (vl : List Vl) : Prop :=
  ∀ pos s, St h₀ Φ vs s → wpAny (MD w) Φ.A (spliced (backTo pos (starEach es Φ.env))) (fun vals s' => Kp s s' ∧ Paired (Rep Φ.av s'.heap) vl vals) NoE s

theorem EvL.nil : EvL w h₀ Φ vs [] [] := fun _ s _ => wpAny_items_nil ⟨Kp.refl s, .nil⟩
theorem EvL.cons {e es v vl} (h : EvP w h₀ Φ vs e v) (t : EvL w h₀ Φ vs es vl) (he : starEach (e :: es) Φ.env = (false, eval e Φ.env) :: starEach es Φ.env := by rfl) : EvL w h₀ Φ vs (e :: es) (v :: vl) := by
  intro pos s hs
  refine wpAny_items_cons (wpAny_mono (h s hs) (fun val s₁ h1 => ?_) fun _ _ x => x) he
  refine wpAny_mono (t pos s₁ (hs.kept h1.1)) (fun vals s₂ h2 => ?_) fun _ _ x => x
  exact ⟨h1.1.trans h2.1, .cons (h1.2.keeps h2.1.heap) h2.2⟩

theorem EvP.list {es pos} {xs : List Sc} (h : EvL w h₀ Φ vs es (xs.map .sc)) (hz : xs.length ≤ 1000 := by decide) : EvP w h₀ Φ vs (.List es pos) (.list xs) := by
  intro s hs
  refine wpAny_List (wpAny_mono (h pos s hs) (fun vals s₁ h1 => ?_) fun _ _ x => x)
  have hl := Paired.length h1.2
  rw [List.length_map] at hl
  refine ⟨by rw [sizeLine_eq]; (first | exact om6 hl hz | omega), h1.1.trans (kpPush _ _), s₁.heap.objs.size, vals.toArray, rfl, ⟨_, Heap.get?_push_size _ rfl⟩, freshNotAv (hs.kept h1.1), ?_⟩
  have h2 : Paired (fun a b => Rep Φ.av s₁.heap (Vl.sc a) b) xs vals := pairedMapL h1.2
  exact h2

theorem EvP.tup {es k pos} {ws : List It} (h : EvL w h₀ Φ vs es (ws.map It.v)) (hz : ws.length ≤ 1000 := by decide) : EvP w h₀ Φ vs (.Tuple es k pos) (.tup ws) := by
  intro s hs
  refine wpAny_Tuple (wpAny_mono (h pos s hs) (fun vals s₁ h1 => ?_) fun _ _ x => x)
  have hl := Paired.length h1.2
  rw [List.length_map] at hl
  refine ⟨by rw [sizeLine_eq]; (first | exact om6 hl hz | omega), h1.1.trans (kpPush _ _), s₁.heap.objs.size, vals.toArray, rfl, ⟨_, Heap.get?_push_size _ rfl, rfl, _, rfl⟩, freshNotAv (hs.kept h1.1), ?_⟩
  exact pairedMono (pairedMapL h1.2) fun i val y => It.rep (y.keeps (kpPush s₁ _).heap)

/-! calls of the text's defs -/
noncomputable def Fn (w : World) (h₀ : Heap) (d : Nat) (f : Addr) (args : List Vl) (r : Vl) : Prop :=
  ∀ (A : Around) (s : Shared) (av : Addr → Prop) (vals : List Value), Room d A → (∀ b o, h₀.get? b = some o → s.heap.get? b = some o) → (∀ a, av a → ∃ o, s.heap.get? a = some o) →
    Paired (Rep av s.heap) args vals → wpAny (MD w) A (call (.ref f) vals) (fun val s' => Kp s s' ∧ Rep av s'.heap r val) NoE s

theorem Fn.le {d d' f args r} (h : Fn w h₀ d f args r) (k : d ≤ d') : Fn w h₀ d' f args r := fun A s av vals hr => h A s av vals (hr.le k)

theorem globalP (hw : WF w h₀ Φ) {x : Str} {v : Value} {pos} (hx : Φ.env.kindOf x = some .globalImplicit) (hg : nsIn (KK w) mainGlobals x = some (some v)) (hd : (x == ("__debug__" : Str)) = false)
    {s : Shared} (hs : St h₀ Φ vs s) {Q : Value → Shared → Prop} {E} (h : Q v s) : wpAny (MD w) Φ.A (eval (.Name x pos) Φ.env) Q E s := by
  obtain ⟨p, loose, mg, mb, T⟩ := hw.gd.T
  refine Calls.Name_function_global hw.fn hx (Calls.loadGlobal_global (mg := mg) ?_ (mg_of hw.gd.K T.g hg) h) hd
  rw [hw.gl]; exact T.g.keeps hs.base

theorem builtinP (hw : WF w h₀ Φ) {x : Str} {v : Value} {pos} (hx : Φ.env.kindOf x = some .globalImplicit) (hg : nsIn (KK w) mainGlobals x = some none) (hb : bootBuiltins x = some v) (hn : x ≠ "__name__") (hd : (x == ("__debug__" : Str)) = false)
    {s : Shared} (hs : St h₀ Φ vs s) {Q : Value → Shared → Prop} {E} (h : Q v s) : wpAny (MD w) Φ.A (eval (.Name x pos) Φ.env) Q E s := by
  obtain ⟨p, loose, mg, mb, T⟩ := hw.gd.T
  refine Calls.Name_function_global hw.fn hx (Calls.loadGlobal_builtin (mg := mg) (mb := mb) ?_ (mg_none_of hw.gd.K T.g hg) ?_ ((T.builtins x hn).trans hb) h) hd
  · rw [hw.gl]; exact T.g.keeps hs.base
  · rw [hw.bu]; exact T.b.keeps hs.base

theorem inKeeps {K : Frag} {h h' : Heap} (x : K.In h) (k : ∀ b o, h.get? b = some o → h'.get? b = some o) : K.In h' := fun a o e => k a o (x a o e)

theorem EvP.call (hw : WF w h₀ Φ) {x : Str} {f : Addr} {np pos e es vl r} (d : Nat) (hx : Φ.env.kindOf x = some .globalImplicit) (hg : nsIn (KK w) mainGlobals x = some (some (.ref f))) (hd : (x == ("__debug__" : Str)) = false)
    (hkp : keepIn (KK w) (.ref f) = true) (hl : EvL w h₀ Φ vs (e :: es) vl) (hf : Fn w h₀ d f vl r) (hdd : d ≤ Φ.d)
    (he : starEach (e :: es) Φ.env = (false, eval e Φ.env) :: starEach es Φ.env := by rfl)
    (hpl : (backTo pos (starEach (e :: es) Φ.env)).any (·.1) = false := by rfl)
    (hee : eval (.Call (.Name x np) (e :: es) [] pos) Φ.env = (do callWith pos (← eval (.Name x np) Φ.env) [] (backTo pos (starEach (e :: es) Φ.env)) (backToKw pos (keywordEach [] Φ.env))) := by rfl) :
    EvP w h₀ Φ vs (.Call (.Name x np) (e :: es) [] pos) r := by
  intro s hs
  refine Call_ (globalP hw hx hg hd hs ?_) hee
  refine callWith_of (P := (KK w).In) (by show (_ || false) = false; rw [hpl]; rfl) (keeps_K hkp) ?_
  have hl' := hl pos s hs
  rw [he] at hl' ⊢
  refine Calls.evalArgs_plain (wpAny_mono hl' (fun vals s₁ h1 => ⟨inKeeps hw.gd.K (hs.kept h1.1).base, ?_⟩) fun _ _ x => x)
  have hs₁ := hs.kept h1.1
  refine wpAny_mono (hf Φ.A s₁ Φ.av vals (hw.room.le hdd) hs₁.base hs₁.live h1.2) (fun val s₂ h2 => ⟨h1.1.trans h2.1, h2.2⟩) fun _ _ x => x

theorem EvP.call0 (hw : WF w h₀ Φ) {x : Str} {f : Addr} {np pos r} (d : Nat) (hx : Φ.env.kindOf x = some .globalImplicit) (hg : nsIn (KK w) mainGlobals x = some (some (.ref f))) (hd : (x == ("__debug__" : Str)) = false)
    (hkp : keepIn (KK w) (.ref f) = true) (hf : Fn w h₀ d f [] r) (hdd : d ≤ Φ.d) : EvP w h₀ Φ vs (.Call (.Name x np) [] [] pos) r := by
  intro s hs
  refine Call_ (globalP hw hx hg hd hs ?_) rfl
  refine callWith_of (P := (KK w).In) rfl (keeps_K hkp) ?_
  refine PyProof.Rows.evalArgs_none ⟨inKeeps hw.gd.K hs.base, ?_⟩
  exact wpAny_mono (hf Φ.A s Φ.av [] (hw.room.le hdd) hs.base hs.live .nil) (fun val s₂ h2 => h2) fun _ _ x => x
end

theorem bindL_other (kindOf : Str → Option NameKind) : ∀ (binds : List (Str × Value)) (m : Str → Option Value) (x : Str), x ∉ binds.map (·.1) → bindL kindOf binds m x = m x
  | [], m, x, _ => rfl
  | (n, v) :: r, m, x, h => by
    unfold bindL
    rw [bindL_other kindOf r _ x (fun q => h (List.mem_cons_of_mem _ q))]
    split
    · have : x ≠ n := fun q => h (q ▸ List.mem_cons_self)
      simp [this]
    · rfl
theorem bindC_other (kindOf : Str → Option NameKind) : ∀ (binds : List (Str × Value)) (m : Str → Option Value) (x : Str), x ∉ binds.map (·.1) → bindC kindOf binds m x = m x
  | [], m, x, _ => rfl
  | (n, v) :: r, m, x, h => by
    unfold bindC
    rw [bindC_other kindOf r _ x (fun q => h (List.mem_cons_of_mem _ q))]
    split
    · rfl
    · have : x ≠ n := fun q => h (q ▸ List.mem_cons_self)
      simp [this]
theorem bindL_get (kindOf : Str → Option NameKind) : ∀ (binds : List (Str × Value)) (m : Str → Option Value) (x : Str) (v : Value), (binds.map (·.1)).Nodup → (x, v) ∈ binds → kindOf x = some .local → bindL kindOf binds m x = some v := by
  intro binds
  induction binds with
  | nil => intro m x v _ hm _; cases hm
  | cons p r ih =>
    intro m x v hn hm hk
    obtain ⟨n, u⟩ := p
    rw [List.map_cons, List.nodup_cons] at hn
    rcases List.mem_cons.mp hm with e | hm
    · cases e
      unfold bindL
      rw [bindL_other kindOf r _ x hn.1, if_pos hk]; simp
    · unfold bindL
      exact ih _ x v hn.2 hm hk
theorem bindC_get (kindOf : Str → Option NameKind) : ∀ (binds : List (Str × Value)) (m : Str → Option Value) (x : Str) (v : Value), (binds.map (·.1)).Nodup → (x, v) ∈ binds → kindOf x ≠ some .local → bindC kindOf binds m x = some v := by
  intro binds
  induction binds with
  | nil => intro m x v _ hm _; cases hm
  | cons p r ih =>
    intro m x v hn hm hk
    obtain ⟨n, u⟩ := p
    rw [List.map_cons, List.nodup_cons] at hn
    rcases List.mem_cons.mp hm with e | hm
    · cases e
      unfold bindC
      rw [bindC_other kindOf r _ x hn.1, if_neg hk]; simp
    · unfold bindC
      exact ih _ x v hn.2 hm hk

/-- what is asked of a def's names, once a def -/
noncomputable def NmOK (scope : Scope) (p : Str × VK) : Bool :=
  (match p.2 with
    | .loc => scope.names.lookup p.1 == some .local
    | .cel => scope.names.lookup p.1 == some .cell
    | .fre => false) && !(p.1 == ("__debug__" : Str)) && !(p.1 == ("__classdict__" : Str))

noncomputable def frameOf (fd : FuncData) (f L : Addr) (A : Around) (d : Nat) (av : Addr → Prop) (nm : List (Str × VK)) : Fm where
  env := callEnvC fd L f
  A := A.deeper (callEnvC fd L f)
  d := d
  av := fun a => av a ∨ a = L ∨ ∃ x, (cellsFrom (L + 1) fd.scope.names []).lookup x = some a
  mu := fun a => a = L ∨ ∃ x, (cellsFrom (L + 1) fd.scope.names []).lookup x = some a
  rv := av
  nm := nm

theorem pairedAppend {α β : Type} {F : α → β → Prop} {l : List α} {r : List β} {l' : List α} {r' : List β} (h : Paired F l r) (h' : Paired F l' r') : Paired F (l ++ l') (r ++ r') := by
  induction h with
  | nil => exact h'
  | cons a _ ih => exact .cons a ih

theorem Fn.enter {w : World} {h₀ : Heap} (gd : Gd w h₀) {f : Addr} {oc : Value} {od : Option Addr} {osl : Array (Option Value)} {fd : FuncData} {body : List Stmt} {d : Nat} {args : List Vl}
    (ps rest : List (Str × VK))
    (ho : (KK w).lookup f = some ⟨oc, od, .func fd, osl⟩) (hcd : codeIn (KK w) fd.code fd.qualname = true) (hbody : fd.body = .stmts body) (hclo : fd.closure = [])
    (hgl : fd.globals = mainGlobals) (hbu : fd.builtins = builtinsNs) (hco : fd.scope.isCoroutine = false) (hgen : fd.scope.isGenerator = false) (hk : fd.scope.kind = .function)
    (hbind : ∀ vals : List Value, vals.length = ps.length → bindArgs fd ⟨vals, []⟩ = pure ((ps.map (·.1)).zip vals))
    (hnm : (ps ++ rest).all (NmOK fd.scope) = true) (hnd : ((ps ++ rest).map (·.1)).Nodup)
    (hlen : args.length = ps.length) (hpure : args.all Vl.pure = true) {A : Around} {s : Shared} {av : Addr → Prop} {vals : List Value} {Q : Value → Shared → Prop}
    (hroom : Room (d + 1) A) (hbase : ∀ b o, h₀.get? b = some o → s.heap.get? b = some o) (hlive : ∀ a, av a → ∃ o, s.heap.get? a = some o) (hargs : Paired (Rep av s.heap) args vals)
    (h : ∀ (L : Addr) (s₁ : Shared), WF w h₀ (frameOf fd f L A d av (ps ++ rest)) → St h₀ (frameOf fd f L A d av (ps ++ rest)) (args.map some ++ rest.map fun _ => none) s₁ →
      Kp s s₁ → (∀ b, (frameOf fd f L A d av (ps ++ rest)).mu b → s.heap.get? b = none) →
      wpAny (MD w) (frameOf fd f L A d av (ps ++ rest)).A (execs body (frameOf fd f L A d av (ps ++ rest)).env) (fun fl s₂ => Q (match fl with | .ret v => v | _ => .none) s₂) NoE s₁) :
    wpAny (MD w) A (call (.ref f) vals) Q NoE s := by
  have hvl : vals.length = ps.length := by rw [← Paired.length hargs, hlen]
  have hK : (KK w).In s.heap := inKeeps gd.K hbase
  obtain ⟨p, loose, mg, mb, T⟩ := gd.T
  have hnms : ∀ q ∈ ps ++ rest, NmOK fd.scope q = true := List.all_eq_true.mp hnm
  refine wpAny_call (codeAny_call_cells (fd := fd) (body := body) (binds := (ps.map (·.1)).zip vals) (by have := hroom.2.1; (first | exact om7 this | omega)) (hK _ _ ho) rfl (T.nolimit.keeps hbase) (codeRec_of hK hcd) hbody (hbind vals hvl) hclo ?_ (fun s₁ x => ?_) hco hgen hk)
  · intro x hx
    have hx1 : x.1 ∈ ps.map (·.1) := (List.of_mem_zip (show (x.1, x.2) ∈ _ from hx)).1
    obtain ⟨q, hq, hqx⟩ := List.mem_map.mp hx1
    have hq' := hnms q (List.mem_append.mpr (.inl hq))
    unfold NmOK at hq'
    simp only [Bool.and_eq_true] at hq'
    rw [hqx] at hq'
    cases e : q.2 with
    | loc => left; simpa [e] using hq'.1.1
    | cel =>
      right
      have : fd.scope.names.lookup x.1 = some .cell := by simpa [e] using hq'.1.1
      exact ⟨this, cellsFrom_some _ _ _ (.inl this)⟩
    | fre => simp [e] at hq'
  · have hkp : ∀ b o, s.heap.get? b = some o → s₁.heap.get? b = some o := x.toInCall.keep
    have hLs : s.heap.objs.size ≤ s.heap.objs.size := Nat.le_refl _
    generalize hL : s.heap.objs.size = L at x hLs ⊢
    have hcl : (callEnvC fd L f).cells = cellsFrom (L + 1) fd.scope.names [] := rfl
    have above : ∀ y c, (cellsFrom (L + 1) fd.scope.names []).lookup y = some c → L < c := fun y c e => x.above y c (mem_of_lookup e)
    have cellAt : ∀ y c, (cellsFrom (L + 1) fd.scope.names []).lookup y = some c → s₁.heap.IsCell c _ := fun y c e => x.cell y c e
    have kOf : ∀ y, (callEnvC fd L f).kindOf y = fd.scope.names.lookup y := fun _ => rfl
    have wf : WF w h₀ (frameOf fd f L A d av (ps ++ rest)) := {
      gd := gd
      fn := hk
      gl := hgl
      bu := hbu
      room := hroom.deeper
      mufresh := fun a ha => by
        cases e : h₀.get? a with
        | none => rfl
        | some o =>
          have := Heap.lt_size (hbase a o e)
          rw [hL] at this
          rcases ha with rfl | ⟨y, hy⟩
          · exact absurd this (Nat.lt_irrefl _)
          · exact absurd (Nat.lt_trans this (above y a hy)) (Nat.lt_irrefl _)
      muav := fun a ha => .inr ha
      rvav := fun a ha => .inl ha
      loc := .inl rfl
      kinds := fun q hq => by
        have hq' := hnms q hq
        unfold NmOK at hq'
        simp only [Bool.and_eq_true, Bool.not_eq_true'] at hq'
        refine ⟨?_, hq'.1.2, hq'.2⟩
        cases e : q.2 with
        | loc => show (callEnvC fd L f).kindOf q.1 = _; rw [kOf]; simpa [e] using hq'.1.1
        | cel =>
          have hc : fd.scope.names.lookup q.1 = some .cell := by simpa [e] using hq'.1.1
          obtain ⟨c, hc'⟩ := Option.isSome_iff_exists.mp (cellsFrom_some fd.scope.names (L + 1) [] (.inl hc))
          exact ⟨hc, c, hc', .inr ⟨_, hc'⟩, Nat.ne_of_gt (above _ _ hc')⟩
        | fre => simp [e] at hq'
      nodup := hnd
      apart := fun y z c hy hz => name_of_addr x.apart (mem_of_lookup hy) (mem_of_lookup hz) }
    have mov : ∀ a o, s.heap.get? a = some o → ¬ av a → ¬ (frameOf fd f L A d av (ps ++ rest)).av a ∧ s₁.heap.get? a = some o := fun a o e n => by
      have := Heap.lt_size e
      rw [hL] at this
      refine ⟨?_, hkp a o e⟩
      rintro (h1 | rfl | ⟨y, hy⟩)
      · exact n h1
      · exact absurd this (Nat.lt_irrefl _)
      · exact absurd (Nat.lt_trans this (above y a hy)) (Nat.lt_irrefl _)
    have st : St h₀ (frameOf fd f L A d av (ps ++ rest)) (args.map some ++ rest.map fun _ => none) s₁ := {
      base := fun b o e => hkp b o (hbase b o e)
      live := fun a ha => by
        rcases ha with h1 | rfl | ⟨y, hy⟩
        · obtain ⟨o, e⟩ := hlive a h1; exact ⟨o, hkp a o e⟩
        · obtain ⟨o, _, _, e, _⟩ := x.toInCall.ns; exact ⟨o, e⟩
        · obtain ⟨o, e, _⟩ := cellAt y a hy; exact ⟨o, e⟩
      ns := by
        refine ⟨_, x.toInCall.ns, ?_⟩
        have hnd1 : (ps.map (·.1)).Nodup := by
          rw [List.map_append] at hnd
          exact (List.nodup_append.mp hnd).1
        have hzip : (((ps.map (·.1)).zip vals).map (·.1)) = ps.map (·.1) := by
          rw [List.map_fst_zip]; rw [List.length_map, hvl]; exact Nat.le_refl _
        have first : ∀ (qs : List (Str × VK)) (as : List Vl) (us : List Value), Paired (Rep av s.heap) as us → qs.length = us.length → (∀ a ∈ as, a.pure = true) → (∀ q ∈ qs, q ∈ ps) →
            (∀ y u, (y, u) ∈ (qs.map (·.1)).zip us → (y, u) ∈ (ps.map (·.1)).zip vals) →
            Paired (VOK (frameOf fd f L A d av (ps ++ rest)) (bindL (callEnvC fd L f).kindOf ((ps.map (·.1)).zip vals) fun _ => none) s₁.heap) qs (as.map some) := by
          intro qs
          induction qs with
          | nil => intro as us h1 h2 _ _ _; cases h1 with
            | nil => exact .nil
            | cons _ _ => simp at h2
          | cons q qs ih =>
            intro as us h1 h2 h3 h4 h5
            cases h1 with
            | nil => simp at h2
            | cons ha ht =>
              rename_i a u as us
              refine .cons ⟨u, Rep.move mov (h3 a List.mem_cons_self) ha, ?_, Vl.okPure (h3 a List.mem_cons_self)⟩ (ih as us ht (by simpa using h2) (fun b hb => h3 b (List.mem_cons_of_mem _ hb)) (fun b hb => h4 b (List.mem_cons_of_mem _ hb)) fun y u' hy => h5 y u' (by
                rw [List.map_cons, List.zip_cons_cons]; exact List.mem_cons_of_mem _ hy))
              have hin : (q.1, u) ∈ (ps.map (·.1)).zip vals := h5 q.1 u (by rw [List.map_cons, List.zip_cons_cons]; exact List.mem_cons_self)
              obtain ⟨kq, _⟩ := wf.kinds q (List.mem_append.mpr (.inl (h4 q List.mem_cons_self)))
              by_cases hl : q.2 = .loc
              · unfold At
                rw [hl] at kq ⊢
                exact bindL_get _ _ _ _ _ (by rw [hzip]; exact hnd1) hin kq
              · refine At.mk' hl ?_
                cases e : q.2 with
                | loc => exact absurd e hl
                | cel =>
                  rw [e] at kq
                  obtain ⟨k1, c, k2, _⟩ := kq
                  refine ⟨c, k2, ?_⟩
                  have := cellAt q.1 c k2
                  rw [bindC_get _ _ _ _ u (by rw [hzip]; exact hnd1) hin (by show (frameOf fd f L A d av (ps ++ rest)).env.kindOf q.1 ≠ _; rw [k1]; decide)] at this
                  exact this
                | fre =>
                  have := hnms q (List.mem_append.mpr (.inl (h4 q List.mem_cons_self)))
                  unfold NmOK at this
                  simp [e] at this
        have second : ∀ (qs : List (Str × VK)), (∀ q ∈ qs, q ∈ ps ++ rest) → Paired (VOK (frameOf fd f L A d av (ps ++ rest)) (bindL (callEnvC fd L f).kindOf ((ps.map (·.1)).zip vals) fun _ => none) s₁.heap) qs (qs.map fun _ => none) := by
          intro qs
          induction qs with
          | nil => intro _; exact .nil
          | cons q qs ih =>
            intro hq
            refine .cons (fun e => ?_) (ih fun b hb => hq b (List.mem_cons_of_mem _ hb))
            obtain ⟨kq, _⟩ := wf.kinds q (hq q List.mem_cons_self)
            rw [e] at kq
            obtain ⟨k1, c, k2, _⟩ := kq
            exact ⟨c, _, k2, cellAt q.1 c k2⟩
        exact pairedAppend (first ps args vals hargs hvl.symm (List.all_eq_true.mp hpure) (fun _ h => h) fun _ _ h => h) (second rest fun q hq => List.mem_append.mpr (.inr hq)) }
    have hsame := x.toInCall.same
    refine wpAny_mono (h L s₁ wf st (by obtain ⟨h', tk, e⟩ := hsame; exact ⟨h', tk, e, by rw [e] at hkp; exact hkp⟩) fun b hb => ?_) (fun fl s₂ h2 => h2) fun _ _ x => x.elim
    cases e : s.heap.get? b with
    | none => rfl
    | some o =>
      have := Heap.lt_size e
      rw [hL] at this
      rcases hb with rfl | ⟨y, hy⟩
      · exact absurd this (Nat.lt_irrefl _)
      · exact absurd (Nat.lt_trans this (above y b hy)) (Nat.lt_irrefl _)

theorem Fn.intro {w : World} {h₀ : Heap} (gd : Gd w h₀) {f : Addr} {oc : Value} {od : Option Addr} {osl : Array (Option Value)} {fd : FuncData} {body : List Stmt} {d : Nat} {args : List Vl} {r : Vl}
    (ps rest : List (Str × VK))
    (ho : (KK w).lookup f = some ⟨oc, od, .func fd, osl⟩) (hcd : codeIn (KK w) fd.code fd.qualname = true) (hbody : fd.body = .stmts body) (hclo : fd.closure = [])
    (hgl : fd.globals = mainGlobals) (hbu : fd.builtins = builtinsNs) (hco : fd.scope.isCoroutine = false) (hgen : fd.scope.isGenerator = false) (hk : fd.scope.kind = .function)
    (hbind : ∀ vals : List Value, vals.length = ps.length → bindArgs fd ⟨vals, []⟩ = pure ((ps.map (·.1)).zip vals))
    (hnm : (ps ++ rest).all (NmOK fd.scope) = true) (hnd : ((ps ++ rest).map (·.1)).Nodup)
    (hlen : args.length = ps.length) (hpure : args.all Vl.pure = true)
    (h : ∀ (L : Addr) (A : Around) (av : Addr → Prop), WF w h₀ (frameOf fd f L A d av (ps ++ rest)) →
      ExP w h₀ (frameOf fd f L A d av (ps ++ rest)) (args.map some ++ rest.map fun _ => none) body (fun o => o = .ret r)) :
    Fn w h₀ (d + 1) f args r := by
  intro A s av vals hroom hbase hlive hargs
  refine Fn.enter gd ps rest ho hcd hbody hclo hgl hbu hco hgen hk hbind hnm hnd hlen hpure hroom hbase hlive hargs fun L s₁ hw st kp hfresh => ?_
  refine wpAny_mono (h L A av hw s₁ st) (fun fl s₂ h2 => ?_) fun _ _ x => x.elim
  obtain ⟨kb, o, rfl, val, rfl, hv⟩ := h2
  refine ⟨?_, hv⟩
  obtain ⟨h1, tk1, rfl, k1⟩ := kp
  obtain ⟨h2, tk2, rfl, k2⟩ := kb
  exact ⟨h2, tk2, rfl, fun b o e => k2 b o (fun q => by have := hfresh b q; rw [e] at this; cases this) (k1 b o e)⟩
end Mine

namespace Mine
/-! the text's defs by their place in the text -/
noncomputable def dfAt (i : Nat) : Stmt := (PW.main.body[i]?).getD (.Pass default)
/-- a def's name, parameters, body, scope and place -/
noncomputable def partsOf : Stmt → Str × Arguments × List Stmt × Scope × Pos
  | .FunctionDef name args b _ _ _ scope _ _ p => (name, args, b, scope, p)
  | _ => default
noncomputable def bodyAt (i : Nat) : List Stmt := (partsOf (dfAt i)).2.2.1
noncomputable def fdAt (i : Nat) (code pm : Value) : FuncData :=
  { name := (partsOf (dfAt i)).1, qualname := (partsOf (dfAt i)).1, params := (partsOf (dfAt i)).2.1, body := .stmts (partsOf (dfAt i)).2.2.1, scope := (partsOf (dfAt i)).2.2.2.1, globals := mainGlobals, closure := [], defaults := .none, kwdefaults := .none, pyModule := pm, code, builtins := builtinsNs }

structure DefAt (w : World) (i : Nat) (f : Addr) (code pm : Value) (n : Nat) (ps : List Str) : Prop where
  ho : (KK w).lookup f = some ⟨.type "function", none, .func (fdAt i code pm), #[]⟩
  hcd : codeIn (KK w) code (fdAt i code pm).qualname = true
  hcode : (fdAt i code pm).code = code
  hbody : (fdAt i code pm).body = .stmts (bodyAt i)
  hclo : (fdAt i code pm).closure = []
  hgl : (fdAt i code pm).globals = mainGlobals
  hbu : (fdAt i code pm).builtins = builtinsNs
  hco : (fdAt i code pm).scope.isCoroutine = false
  hgen : (fdAt i code pm).scope.isGenerator = false
  hk : (fdAt i code pm).scope.kind = .function
  hn : ps.length = n
  hbind : ∀ vals : List Value, vals.length = n → bindArgs (fdAt i code pm) ⟨vals, []⟩ = pure (ps.zip vals)
  keep : keepIn (KK w) (.ref f) = true

noncomputable abbrev frAt (i : Nat) (code pm : Value) (f L : Addr) (A : Around) (d : Nat) (av : Addr → Prop) (nm : List (Str × VK)) : Fm := frameOf (fdAt i code pm) f L A d av nm

theorem Fn.of {w : World} {h₀ : Heap} (gd : Gd w h₀) {i f code pm n} {ps' : List Str} (D : DefAt w i f code pm n ps') {d : Nat} {args : List Vl} {r : Vl}
    (ps rest : List (Str × VK)) (hps : ps.map (·.1) = ps') (hlen : args.length = n) 
    (hnm : (ps ++ rest).all (NmOK (fdAt i code pm).scope) = true) (hnd : ((ps ++ rest).map (·.1)).Nodup) (hpure : args.all Vl.pure = true)
    (h : ∀ (L : Addr) (A : Around) (av : Addr → Prop), WF w h₀ (frAt i code pm f L A d av (ps ++ rest)) →
      ExP w h₀ (frAt i code pm f L A d av (ps ++ rest)) (args.map some ++ rest.map fun _ => none) (bodyAt i) (fun o => o = .ret r)) :
    Fn w h₀ (d + 1) f args r :=
  Fn.intro gd ps rest D.ho (by rw [D.hcode]; exact D.hcd) D.hbody D.hclo D.hgl D.hbu D.hco D.hgen D.hk (fun vals hv => by rw [D.hbind vals (hv.trans (by rw [← D.hn, ← hps, List.length_map])), hps]) hnm hnd
    (hlen.trans (by rw [← D.hn, ← hps, List.length_map])) hpure h

theorem len0 {vals : List Value} (h : vals.length = 0) : vals = [] := List.eq_nil_of_length_eq_zero h
theorem lenS {vals : List Value} {n : Nat} (h : vals.length = n + 1) : ∃ x r, vals = x :: r ∧ r.length = n := by
  cases vals with
  | nil => cases h
  | cons x r => exact ⟨x, r, rfl, Nat.succ.inj h⟩
theorem bind0 {fd : FuncData} (h : bindArgs fd ⟨[], []⟩ = pure []) (vals : List Value) (hv : vals.length = 0) : bindArgs fd ⟨vals, []⟩ = pure (([] : List Str).zip vals) := by
  rw [len0 hv]; exact h
theorem bind1 {fd : FuncData} {a : Str} (h : ∀ x, bindArgs fd ⟨[x], []⟩ = pure [(a, x)]) (vals : List Value) (hv : vals.length = 1) : bindArgs fd ⟨vals, []⟩ = pure ([a].zip vals) := by
  obtain ⟨x, r, rfl, hr⟩ := lenS hv
  rw [len0 hr]; exact h x
theorem bind2 {fd : FuncData} {a b : Str} (h : ∀ x y, bindArgs fd ⟨[x, y], []⟩ = pure [(a, x), (b, y)]) (vals : List Value) (hv : vals.length = 2) : bindArgs fd ⟨vals, []⟩ = pure ([a, b].zip vals) := by
  obtain ⟨x, r1, rfl, hr1⟩ := lenS hv
  obtain ⟨y, r2, rfl, hr2⟩ := lenS hr1
  rw [len0 hr2]; exact h x y
theorem bind3 {fd : FuncData} {a b c : Str} (h : ∀ x y z, bindArgs fd ⟨[x, y, z], []⟩ = pure [(a, x), (b, y), (c, z)]) (vals : List Value) (hv : vals.length = 3) : bindArgs fd ⟨vals, []⟩ = pure ([a, b, c].zip vals) := by
  obtain ⟨x, r1, rfl, hr1⟩ := lenS hv
  obtain ⟨y, r2, rfl, hr2⟩ := lenS hr1
  obtain ⟨z, r3, rfl, hr3⟩ := lenS hr2
  rw [len0 hr3]; exact h x y z
theorem bind4 {fd : FuncData} {a b c d : Str} (h : ∀ x y z u, bindArgs fd ⟨[x, y, z, u], []⟩ = pure [(a, x), (b, y), (c, z), (d, u)]) (vals : List Value) (hv : vals.length = 4) : bindArgs fd ⟨vals, []⟩ = pure ([a, b, c, d].zip vals) := by
  obtain ⟨x, r1, rfl, hr1⟩ := lenS hv
  obtain ⟨y, r2, rfl, hr2⟩ := lenS hr1
  obtain ⟨z, r3, rfl, hr3⟩ := lenS hr2
  obtain ⟨u, r4, rfl, hr4⟩ := lenS hr3
  rw [len0 hr4]; exact h x y z u

section
variable (w : World)
theorem D_pretty : DefAt w 2 22 (.ref 21) (.str "cpy313.dis" 187) 1 ["flags"] := ⟨by kernel_rfl!, by kernel_rfl!, by kernel_rfl!, by kernel_rfl!, by kernel_rfl!, by kernel_rfl!, by kernel_rfl!, by kernel_rfl!, by kernel_rfl!, by kernel_rfl!, rfl, bind1 (by intro x; kernel_rfl!), by kernel_rfl!⟩
theorem D_div2 : DefAt w 5 29 (.ref 28) (.str "cpy313._pylong" 230) 3 ["a", "b", "n"] := ⟨by kernel_rfl!, by kernel_rfl!, by kernel_rfl!, by kernel_rfl!, by kernel_rfl!, by kernel_rfl!, by kernel_rfl!, by kernel_rfl!, by kernel_rfl!, by kernel_rfl!, rfl, bind3 (by intro x y z; kernel_rfl!), by kernel_rfl!⟩
theorem D_i2d : DefAt w 7 43 (.ref 42) (.str "cpy313._pylong" 230) 2 ["a", "n"] := ⟨by kernel_rfl!, by kernel_rfl!, by kernel_rfl!, by kernel_rfl!, by kernel_rfl!, by kernel_rfl!, by kernel_rfl!, by kernel_rfl!, by kernel_rfl!, by kernel_rfl!, rfl, bind2 (by intro x y; kernel_rfl!), by kernel_rfl!⟩
theorem D_d2i : DefAt w 8 50 (.ref 49) (.str "cpy313._pylong" 230) 2 ["digits", "n"] := ⟨by kernel_rfl!, by kernel_rfl!, by kernel_rfl!, by kernel_rfl!, by kernel_rfl!, by kernel_rfl!, by kernel_rfl!, by kernel_rfl!, by kernel_rfl!, by kernel_rfl!, rfl, bind2 (by intro x y; kernel_rfl!), by kernel_rfl!⟩
theorem D_dmp : DefAt w 9 57 (.ref 56) (.str "cpy313._pylong" 230) 2 ["a", "b"] := ⟨by kernel_rfl!, by kernel_rfl!, by kernel_rfl!, by kernel_rfl!, by kernel_rfl!, by kernel_rfl!, by kernel_rfl!, by kernel_rfl!, by kernel_rfl!, by kernel_rfl!, rfl, bind2 (by intro x y; kernel_rfl!), by kernel_rfl!⟩
theorem D_divmod : DefAt w 10 64 (.ref 63) (.str "cpy313._pylong" 230) 2 ["a", "b"] := ⟨by kernel_rfl!, by kernel_rfl!, by kernel_rfl!, by kernel_rfl!, by kernel_rfl!, by kernel_rfl!, by kernel_rfl!, by kernel_rfl!, by kernel_rfl!, by kernel_rfl!, rfl, bind2 (by intro x y; kernel_rfl!), by kernel_rfl!⟩
theorem D_rgb : DefAt w 12 71 (.ref 70) (.str "cpy313.colorsys" 312) 3 ["r", "g", "b"] := ⟨by kernel_rfl!, by kernel_rfl!, by kernel_rfl!, by kernel_rfl!, by kernel_rfl!, by kernel_rfl!, by kernel_rfl!, by kernel_rfl!, by kernel_rfl!, by kernel_rfl!, rfl, bind3 (by intro x y z; kernel_rfl!), by kernel_rfl!⟩
theorem D_hsv : DefAt w 13 78 (.ref 77) (.str "cpy313.colorsys" 312) 3 ["h", "s", "v"] := ⟨by kernel_rfl!, by kernel_rfl!, by kernel_rfl!, by kernel_rfl!, by kernel_rfl!, by kernel_rfl!, by kernel_rfl!, by kernel_rfl!, by kernel_rfl!, by kernel_rfl!, rfl, bind3 (by intro x y z; kernel_rfl!), by kernel_rfl!⟩
theorem D_names : DefAt w 15 85 (.ref 84) (.str "law_wf0051_01" 346) 0 [] := ⟨by kernel_rfl!, by kernel_rfl!, by kernel_rfl!, by kernel_rfl!, by kernel_rfl!, by kernel_rfl!, by kernel_rfl!, by kernel_rfl!, by kernel_rfl!, by kernel_rfl!, rfl, bind0 (by kernel_rfl!), by kernel_rfl!⟩
theorem D_places : DefAt w 16 90 (.ref 89) (.str "law_wf0051_01" 346) 1 ["numbers"] := ⟨by kernel_rfl!, by kernel_rfl!, by kernel_rfl!, by kernel_rfl!, by kernel_rfl!, by kernel_rfl!, by kernel_rfl!, by kernel_rfl!, by kernel_rfl!, by kernel_rfl!, rfl, bind1 (by intro x; kernel_rfl!), by kernel_rfl!⟩
theorem D_told : DefAt w 17 97 (.ref 96) (.str "law_wf0051_01" 346) 3 ["steps", "share", "level"] := ⟨by kernel_rfl!, by kernel_rfl!, by kernel_rfl!, by kernel_rfl!, by kernel_rfl!, by kernel_rfl!, by kernel_rfl!, by kernel_rfl!, by kernel_rfl!, by kernel_rfl!, rfl, bind3 (by intro x y z; kernel_rfl!), by kernel_rfl!⟩
theorem D_dist : DefAt w 18 102 (.ref 101) (.str "law_wf0051_01" 346) 3 ["places", "share", "level"] := ⟨by kernel_rfl!, by kernel_rfl!, by kernel_rfl!, by kernel_rfl!, by kernel_rfl!, by kernel_rfl!, by kernel_rfl!, by kernel_rfl!, by kernel_rfl!, by kernel_rfl!, rfl, bind3 (by intro x y z; kernel_rfl!), by kernel_rfl!⟩
theorem D_partner : DefAt w 19 107 (.ref 106) (.str "law_wf0051_01" 346) 1 ["firsts"] := ⟨by kernel_rfl!, by kernel_rfl!, by kernel_rfl!, by kernel_rfl!, by kernel_rfl!, by kernel_rfl!, by kernel_rfl!, by kernel_rfl!, by kernel_rfl!, by kernel_rfl!, rfl, bind1 (by intro x; kernel_rfl!), by kernel_rfl!⟩
theorem D_number : DefAt w 20 112 (.ref 111) (.str "law_wf0051_01" 346) 2 ["places", "width"] := ⟨by kernel_rfl!, by kernel_rfl!, by kernel_rfl!, by kernel_rfl!, by kernel_rfl!, by kernel_rfl!, by kernel_rfl!, by kernel_rfl!, by kernel_rfl!, by kernel_rfl!, rfl, bind2 (by intro x y; kernel_rfl!), by kernel_rfl!⟩
theorem D_tried : DefAt w 21 119 (.ref 118) (.str "law_wf0051_01" 346) 4 ["done", "free", "places", "copies"] := ⟨by kernel_rfl!, by kernel_rfl!, by kernel_rfl!, by kernel_rfl!, by kernel_rfl!, by kernel_rfl!, by kernel_rfl!, by kernel_rfl!, by kernel_rfl!, by kernel_rfl!, rfl, bind4 (by intro x y z u; kernel_rfl!), by kernel_rfl!⟩
theorem D_even : DefAt w 22 124 (.ref 123) (.str "law_wf0051_01" 346) 2 ["number", "width"] := ⟨by kernel_rfl!, by kernel_rfl!, by kernel_rfl!, by kernel_rfl!, by kernel_rfl!, by kernel_rfl!, by kernel_rfl!, by kernel_rfl!, by kernel_rfl!, by kernel_rfl!, rfl, bind2 (by intro x y; kernel_rfl!), by kernel_rfl!⟩

/-! where the globals lie -/
theorem g_pretty : nsIn (KK w) mainGlobals "pretty_flags" = some (some (.ref 22)) := by kernel_rfl!
theorem g_div2 : nsIn (KK w) mainGlobals "_div2n1n" = some (some (.ref 29)) := by kernel_rfl!
theorem g_i2d : nsIn (KK w) mainGlobals "_int2digits" = some (some (.ref 43)) := by kernel_rfl!
theorem g_d2i : nsIn (KK w) mainGlobals "_digits2int" = some (some (.ref 50)) := by kernel_rfl!
theorem g_dmp : nsIn (KK w) mainGlobals "_divmod_pos" = some (some (.ref 57)) := by kernel_rfl!
theorem g_divmod : nsIn (KK w) mainGlobals "int_divmod" = some (some (.ref 64)) := by kernel_rfl!
theorem g_rgb : nsIn (KK w) mainGlobals "rgb_to_hsv" = some (some (.ref 71)) := by kernel_rfl!
theorem g_hsv : nsIn (KK w) mainGlobals "hsv_to_rgb" = some (some (.ref 78)) := by kernel_rfl!
theorem g_names : nsIn (KK w) mainGlobals "_law_names" = some (some (.ref 85)) := by kernel_rfl!
theorem g_places : nsIn (KK w) mainGlobals "_law_places" = some (some (.ref 90)) := by kernel_rfl!
theorem g_told : nsIn (KK w) mainGlobals "_law_told" = some (some (.ref 97)) := by kernel_rfl!
theorem g_dist : nsIn (KK w) mainGlobals "_law_distances" = some (some (.ref 102)) := by kernel_rfl!
theorem g_partner : nsIn (KK w) mainGlobals "_law_partner" = some (some (.ref 107)) := by kernel_rfl!
theorem g_number : nsIn (KK w) mainGlobals "_law_number" = some (some (.ref 112)) := by kernel_rfl!
theorem g_tried : nsIn (KK w) mainGlobals "_law_tried" = some (some (.ref 119)) := by kernel_rfl!
theorem g_even : nsIn (KK w) mainGlobals "_law_even" = some (some (.ref 124)) := by kernel_rfl!
end

variable {w : World} {h₀ : Heap}
theorem names_fn (gd : Gd w h₀) : Fn w h₀ 1 85 [] (.list [.str "OPTIMIZED", .str "NEWLOCALS", .str "VARARGS", .str "VARKEYWORDS"]) := by
  refine Fn.of gd (D_names w) [] [] rfl rfl (by decide +kernel) (by decide +kernel) rfl fun L A av hw => ?_
  refine ExP.cons (ExS.ret hw (EvP.list (EvL.cons EvP.str (EvL.cons EvP.str (EvL.cons EvP.str (EvL.cons EvP.str EvL.nil))))) rfl)
end Mine

namespace Mine
section
variable {w : World} {h₀ : Heap} {Φ : Fm} {vs : List (Option Vl)}

theorem BinP.mul {a b : Int} (h : IntMulOk a b) : BinP w h₀ Φ vs .Mult (iV a) (iV b) (iV (a * b)) := fun s va vb _ ⟨_, e⟩ ⟨_, e'⟩ => by
  subst e; subst e'; (with_reducible refine PySem.AutoIntOps.mul_0 ?_ h); exact ⟨Kp.tok s _, ⟨_, rfl⟩⟩
theorem BinP.fdiv {a b : Int} (h : b ≠ 0) (hl : b.natAbs.log2 < 9000) : BinP w h₀ Φ vs .FloorDiv (iV a) (iV b) (iV (a.fdiv b)) := fun s va vb _ ⟨_, e⟩ ⟨_, e'⟩ => by
  subst e; subst e'; (with_reducible refine PyProof.Rows.floordiv_int h ?_ (.inl (PyProof.noPylong_of_log2 hl))); exact ⟨Kp.tok s _, ⟨_, rfl⟩⟩
theorem BinP.fmod {a b : Int} (h : b ≠ 0) : BinP w h₀ Φ vs .Mod (iV a) (iV b) (iV (a.fmod b)) := fun s va vb _ ⟨_, e⟩ ⟨_, e'⟩ => by
  subst e; subst e'; (with_reducible refine PyProof.Rows.mod_int' h ?_); exact ⟨Kp.tok s _, ⟨_, rfl⟩⟩
theorem BinP.pow {a b : Int} (h : 0 ≤ b) (hz : (Builtin.Int.intBits a : Int) * b ≤ 2 ^ 27) : BinP w h₀ Φ vs .Pow (iV a) (iV b) (iV (a ^ b.toNat)) := fun s va vb _ ⟨_, e⟩ ⟨_, e'⟩ => by
  subst e; subst e'; (with_reducible refine PyProof.Rows.pow_int h hz ?_); exact ⟨Kp.tok s _, ⟨_, rfl⟩⟩
theorem BinP.shl {a b : Int} (h : 0 ≤ b) (hz : (Builtin.Int.intBits a : Int) + b ≤ 2 ^ 27) : BinP w h₀ Φ vs .LShift (iV a) (iV b) (iV (a * 2 ^ b.toNat)) := fun s va vb _ ⟨_, e⟩ ⟨_, e'⟩ => by
  subst e; subst e'; (with_reducible refine PyProof.Rows.lshift_int h hz ?_); exact ⟨Kp.tok s _, ⟨_, rfl⟩⟩
theorem BinP.shr {a b : Int} (h : 0 ≤ b) : BinP w h₀ Φ vs .RShift (iV a) (iV b) (iV (a.fdiv (2 ^ b.toNat))) := fun s va vb _ ⟨_, e⟩ ⟨_, e'⟩ => by
  subst e; subst e'; (with_reducible refine PyProof.Rows.rshift_int h ?_); exact ⟨Kp.tok s _, ⟨_, rfl⟩⟩
theorem BinP.and {a b : Int} : BinP w h₀ Φ vs .BitAnd (iV a) (iV b) (iV (Builtin.bitAnd a b)) := fun s va vb _ ⟨_, e⟩ ⟨_, e'⟩ => by
  subst e; subst e'; (with_reducible refine PyProof.Rows.and_int ?_); exact ⟨Kp.tok s _, ⟨_, rfl⟩⟩
theorem BinP.xor {a b : Int} : BinP w h₀ Φ vs .BitXor (iV a) (iV b) (iV (Builtin.bitXor a b)) := fun s va vb _ ⟨_, e⟩ ⟨_, e'⟩ => by
  subst e; subst e'; (with_reducible refine PyProof.Rows.xor_int ?_); exact ⟨Kp.tok s _, ⟨_, rfl⟩⟩

theorem CmpP.neI {a b : Int} : CmpP w h₀ Φ vs .NotEq (iV a) (iV b) (a != b) := fun s va vb _ ⟨_, e⟩ ⟨_, e'⟩ => by
  subst e; subst e'; (with_reducible refine PyProof.Rows.ne_int ?_); exact ⟨Kp.refl s, rfl⟩
theorem CmpP.ltI {a b : Int} : CmpP w h₀ Φ vs .Lt (iV a) (iV b) (decide (a < b)) := fun s va vb _ ⟨_, e⟩ ⟨_, e'⟩ => by
  subst e; subst e'; (with_reducible refine PyProof.Rows.lt_int ?_); exact ⟨Kp.refl s, rfl⟩
theorem CmpP.leI {a b : Int} : CmpP w h₀ Φ vs .LtE (iV a) (iV b) (decide (a ≤ b)) := fun s va vb _ ⟨_, e⟩ ⟨_, e'⟩ => by
  subst e; subst e'; (with_reducible refine PyProof.Rows.le_int ?_); exact ⟨Kp.refl s, rfl⟩
theorem CmpP.gtI {a b : Int} : CmpP w h₀ Φ vs .Gt (iV a) (iV b) (decide (b < a)) := fun s va vb _ ⟨_, e⟩ ⟨_, e'⟩ => by
  subst e; subst e'; (with_reducible refine PyProof.Rows.gt_int ?_); exact ⟨Kp.refl s, rfl⟩

/-! floats -/
theorem BinP.mulF {a b : UInt64} : BinP w h₀ Φ vs .Mult (fV a) (fV b) (fV (Float64.mul a b)) := fun s va vb _ ⟨_, e⟩ ⟨_, e'⟩ => by
  subst e; subst e'; (with_reducible refine PyProof.Rows.mul_float ?_); exact ⟨Kp.tok s _, ⟨_, rfl⟩⟩
theorem BinP.addF {a b : UInt64} : BinP w h₀ Φ vs .Add (fV a) (fV b) (fV (Float64.add a b)) := fun s va vb _ ⟨_, e⟩ ⟨_, e'⟩ => by
  subst e; subst e'; (with_reducible refine PyProof.Rows.add_float ?_); exact ⟨Kp.tok s _, ⟨_, rfl⟩⟩
theorem BinP.subF {a b : UInt64} : BinP w h₀ Φ vs .Sub (fV a) (fV b) (fV (Float64.sub a b)) := fun s va vb _ ⟨_, e⟩ ⟨_, e'⟩ => by
  subst e; subst e'; (with_reducible refine PyProof.Rows.sub_float ?_); exact ⟨Kp.tok s _, ⟨_, rfl⟩⟩
theorem BinP.divF (hw : WF w h₀ Φ) {a b : UInt64} (h : Float64.isZero b = false) : BinP w h₀ Φ vs .Div (fV a) (fV b) (fV (Float64.div a b)) := fun s va vb _ ⟨_, e⟩ ⟨_, e'⟩ => by
  subst e; subst e'
  have hh : Φ.A.handled = none := hw.room.1
  with_reducible refine PyProof.Rows.truediv_float_or hh (fun q => ?_) fun _ => ?_
  · rw [h] at q; cases q
  · exact ⟨Kp.tok s _, ⟨_, rfl⟩⟩
theorem BinP.modF {a b : UInt64} (h : Float64.isZero b = false) : BinP w h₀ Φ vs .Mod (fV a) (fV b) (fV (Float64.divmod a b).2) := fun s va vb _ ⟨_, e⟩ ⟨_, e'⟩ => by
  subst e; subst e'
  (with_reducible refine PySem.AutoFloatOps.mod_1 (by rw [h]; decide) ?_); exact ⟨Kp.tok s _, ⟨_, rfl⟩⟩
theorem BinP.subFI {a : UInt64} {n : Int} (h : n.natAbs < 2 ^ 1023) : BinP w h₀ Φ vs .Sub (fV a) (iV n) (fV (Float64.sub a (Float64.ofInt n))) := fun s va vb _ ⟨_, e⟩ ⟨_, e'⟩ => by
  subst e; subst e'; (with_reducible refine PyProof.Rows.sub_fi_fits h ?_); exact ⟨Kp.tok s _, ⟨_, rfl⟩⟩
theorem BinP.divIF {n : Int} {a : UInt64} (h : n.natAbs < 2 ^ 1023) (hz : Float64.isZero a = false) : BinP w h₀ Φ vs .Div (iV n) (fV a) (fV (Float64.div (Float64.ofInt n) a)) := fun s va vb _ ⟨_, e⟩ ⟨_, e'⟩ => by
  subst e; subst e'
  (with_reducible refine PySem.AutoFloatOps.truediv_if_2 (Float64.ofInt_fits h) (by rw [hz]; decide) ?_); exact ⟨Kp.tok s _, ⟨_, rfl⟩⟩
theorem CmpP.eqF {a b : UInt64} : CmpP w h₀ Φ vs .Eq (fV a) (fV b) (Float64.cmp a b == some .eq) := fun s va vb _ ⟨_, e⟩ ⟨_, e'⟩ => by
  subst e; subst e'; (with_reducible refine PySem.AutoFloatOps.eq_0 ?_); exact ⟨Kp.refl s, rfl⟩
theorem CmpP.eqFI {a : UInt64} {n : Int} : CmpP w h₀ Φ vs .Eq (fV a) (iV n) (Float64.cmpInt a n == some .eq) := fun s va vb _ ⟨_, e⟩ ⟨_, e'⟩ => by
  subst e; subst e'; (with_reducible refine PyProof.Rows.eq_fi ?_); exact ⟨Kp.refl s, rfl⟩

/-! calls of built-ins -/
noncomputable def CalP (w : World) (h₀ : Heap) (Φ : Fm) (vs : List (Option Vl)) (fv : Value) (vl : List Vl) (r : Vl) : Prop :=
  ∀ s vals, St h₀ Φ vs s → Paired (Rep Φ.av s.heap) vl vals → wpAny (MD w) Φ.A (call fv vals) (Post Φ r s) NoE s

theorem EvP.callB (hw : WF w h₀ Φ) {x : Str} {id : String} {np pos e es vl r} (hx : Φ.env.kindOf x = some .globalImplicit) (hg : nsIn (KK w) mainGlobals x = some none) (hb : bootBuiltins x = some (.builtin id)) (hn : x ≠ "__name__") (hd : (x == ("__debug__" : Str)) = false)
    (hl : EvL w h₀ Φ vs (e :: es) vl) (hf : CalP w h₀ Φ vs (.builtin id) vl r)
    (he : starEach (e :: es) Φ.env = (false, eval e Φ.env) :: starEach es Φ.env := by rfl)
    (hpl : (backTo pos (starEach es Φ.env)).any (·.1) = false := by rfl)
    (hee : eval (.Call (.Name x np) (e :: es) [] pos) Φ.env = (do callWith pos (← eval (.Name x np) Φ.env) [] (backTo pos (starEach (e :: es) Φ.env)) (backToKw pos (keywordEach [] Φ.env))) := by rfl) :
    EvP w h₀ Φ vs (.Call (.Name x np) (e :: es) [] pos) r := by
  intro s hs
  refine Call_ (builtinP hw hx hg hb hn hd hs ?_) hee
  refine PyProof.Rows.callWith_builtin1 (wpAny_mono (hl pos s hs) (fun vals s₁ h1 => ?_) fun _ _ x => x) he hpl
  exact wpAny_mono (hf s₁ vals (hs.kept h1.1) h1.2) (fun val s₂ h2 => ⟨h1.1.trans h2.1, h2.2⟩) fun _ _ x => x

theorem EvP.callT (hw : WF w h₀ Φ) {x : Str} {id : String} {np pos e es vl r} (hx : Φ.env.kindOf x = some .globalImplicit) (hg : nsIn (KK w) mainGlobals x = some none) (hb : bootBuiltins x = some (.type id)) (hn : x ≠ "__name__") (hd : (x == ("__debug__" : Str)) = false)
    (hl : EvL w h₀ Φ vs (e :: es) vl) (hf : CalP w h₀ Φ vs (.type id) vl r)
    (he : starEach (e :: es) Φ.env = (false, eval e Φ.env) :: starEach es Φ.env := by rfl)
    (hpl : (backTo pos (starEach es Φ.env)).any (·.1) = false := by rfl)
    (hee : eval (.Call (.Name x np) (e :: es) [] pos) Φ.env = (do callWith pos (← eval (.Name x np) Φ.env) [] (backTo pos (starEach (e :: es) Φ.env)) (backToKw pos (keywordEach [] Φ.env))) := by rfl) :
    EvP w h₀ Φ vs (.Call (.Name x np) (e :: es) [] pos) r := by
  intro s hs
  refine Call_ (builtinP hw hx hg hb hn hd hs ?_) hee
  refine PyProof.Rows.callWith_type1 (wpAny_mono (hl pos s hs) (fun vals s₁ h1 => ?_) fun _ _ x => x) he hpl
  exact wpAny_mono (hf s₁ vals (hs.kept h1.1) h1.2) (fun val s₂ h2 => ⟨h1.1.trans h2.1, h2.2⟩) fun _ _ x => x

theorem CalP.intF (hw : WF w h₀ Φ) {x : UInt64} (h : Float64.isFinite x = true) : CalP w h₀ Φ vs (.type "int") [fV x] (iV (PySem.Flt.toInt Float64.truncOf x)) := by
  intro s vals hs hp
  cases hp with
  | cons h1 t =>
    cases t
    obtain ⟨tk, rfl⟩ := h1
    refine PySem.Flt.call_int_float3 hw.room.1 (fun q => ?_) (fun q => ?_) fun _ => ⟨Kp.tok s _, ⟨_, rfl⟩⟩
    · exfalso; unfold Float64.isFinite Float64.isNaN at *; revert h q; cases Float64.decode x <;> simp
    · exfalso; unfold Float64.isFinite Float64.isInf at *; revert h q; cases Float64.decode x <;> simp
theorem CalP.intI {x : Int} : CalP w h₀ Φ vs (.type "int") [iV x] (iV x) := by
  intro s vals hs hp
  cases hp with
  | cons h1 t =>
    cases t
    obtain ⟨tk, rfl⟩ := h1
    (with_reducible refine call_int_int ?_); exact ⟨Kp.refl s, ⟨_, rfl⟩⟩

noncomputable def gtF (a b : UInt64) : Bool := Float64.cmp a b == some .gt
noncomputable def ltF (a b : UInt64) : Bool := Float64.cmp a b == some .lt
noncomputable def max3 (a b c : UInt64) : UInt64 := if gtF b a then (if gtF c b then c else b) else (if gtF c a then c else a)
noncomputable def min3 (a b c : UInt64) : UInt64 := if ltF b a then (if ltF c b then c else b) else (if ltF c a then c else a)

theorem three_walk {A : Around} {s : Shared} (hh : A.handled = none) (items : Array Value) (hs0 : 0 < items.size) {Q : Value → Shared → Prop} {E} {op : CmpOp} {bt : Nat → Nat → Bool}
    (hc : CmpOf PW w A.in1 op (fun i v => items[i]? = some v) bt)
    (hQ : ∀ v h' tk, items[argBest bt (items.size - 1)]? = some v → (∀ b o, s.heap.get? b = some o → h'.get? b = some o) → Q v { s with heap := h', toks := tk }) :
    wpAny (MD w) A.in1 (pyIter (.ref s.heap.objs.size)) (fun it s₂ => ∃ I fp wr n P St bt, it = .ref I ∧ Walks PW w A.in1 I fp wr n P St ∧ St 0 s₂.heap ∧ (∀ b ∈ fp, b < s₂.heap.objs.size) ∧ 0 < n ∧ CmpOf PW w A.in1 op P bt ∧
      ∀ v h' tk, P (argBest bt (n - 1)) v → (∀ b o, b ∉ wr → s₂.heap.get? b = some o → h'.get? b = some o) → Q v { s₂ with heap := h', toks := tk }) E
      { s with heap := s.heap.push { cls := .type "tuple", data := .seq items } } := by
  have hT : (s.heap.push { cls := .type "tuple", data := .seq items }).IsTuple s.heap.objs.size items := ⟨_, Heap.get?_push_size _ rfl, rfl, 0, rfl⟩
  have hsz : (s.heap.push { cls := .type "tuple", data := .seq items }).objs.size = s.heap.objs.size + 1 := Heap.size_push ..
  refine wpAny_pyIter_tuple hT ?_
  refine ⟨_, [_, s.heap.objs.size], [_], _, _, _, bt, rfl, Walks.tuple (A := A.in1) hh _ s.heap.objs.size (by rw [hsz]; exact Nat.ne_of_lt (Nat.lt_succ_self _)) items,
    ⟨⟨_, Heap.get?_push_size _ rfl, rfl, rfl⟩, hT.push _⟩, fun d hd => ?_, hs0, hc, fun v h' tk hP hk => ?_⟩
  · show d < ((s.heap.push _).push _).objs.size
    rw [Heap.size_push, hsz]
    rcases List.mem_cons.mp hd with rfl | hd
    · rw [hsz]; exact Nat.lt_succ_self _
    · rcases List.mem_cons.mp hd with rfl | hd
      · exact Nat.lt_succ_of_lt (Nat.lt_succ_self _)
      · cases hd
  · refine hQ v h' tk hP fun d o e => ?_
    refine hk d o (fun hm => ?_) (Heap.get?_push_of_some _ (Heap.get?_push_of_some _ e))
    rcases List.mem_cons.mp hm with e1 | hm
    · have := Heap.lt_size e; rw [e1, hsz] at this; exact Nat.lt_irrefl _ (Nat.lt_of_succ_lt this)
    · cases hm

theorem three_at {a b c : UInt64} {t u x : Tok} {i : Nat} {v : Value} (h : (#[Value.float a t, .float b u, .float c x] : Array Value)[i]? = some v) :
    ∃ t', v = .float ((#[a, b, c] : Array UInt64)[i]?.getD 0) t' := by
  rcases i with _ | _ | _ | i
  · cases h; exact ⟨_, rfl⟩
  · cases h; exact ⟨_, rfl⟩
  · cases h; exact ⟨_, rfl⟩
  · simp at h

theorem argBest_two (bt : Nat → Nat → Bool) : argBest bt 2 = if bt 1 0 then (if bt 2 1 then 2 else 1) else (if bt 2 0 then 2 else 0) := by
  show (if bt 2 (if bt 1 0 = true then 1 else 0) = true then 2 else (if bt 1 0 = true then 1 else 0)) = _
  by_cases h : bt 1 0 = true <;> simp [h]

theorem three_pick {g : UInt64 → UInt64 → Bool} {a b c : UInt64} {t u x : Tok} {v : Value}
    (hv : (#[Value.float a t, .float b u, .float c x] : Array Value)[argBest (fun i j => g ((#[a, b, c] : Array UInt64)[i]?.getD 0) ((#[a, b, c] : Array UInt64)[j]?.getD 0)) 2]? = some v) :
    SR (.flt (if g b a then (if g c b then c else b) else (if g c a then c else a))) v := by
  have key : argBest (fun i j => g ((#[a, b, c] : Array UInt64)[i]?.getD 0) ((#[a, b, c] : Array UInt64)[j]?.getD 0)) 2 = if g b a then (if g c b then 2 else 1) else (if g c a then 2 else 0) := argBest_two _
  rw [key] at hv
  clear key
  generalize g b a = p1 at hv ⊢
  generalize g c b = p2 at hv ⊢
  generalize g c a = p3 at hv ⊢
  cases p1 <;> cases p2 <;> cases p3 <;> (cases hv; exact ⟨_, rfl⟩)

theorem CalP.maxF (hw : WF w h₀ Φ) {a b c : UInt64} : CalP w h₀ Φ vs (.builtin "max") [fV a, fV b, fV c] (fV (max3 a b c)) := by
  intro s vals hs hp
  cases hp with | cons h1 t => cases t with | cons h2 t => cases t with | cons h3 t =>
  cases t
  obtain ⟨ta, rfl⟩ := h1
  obtain ⟨tb, rfl⟩ := h2
  obtain ⟨tc, rfl⟩ := h3
  refine call_max_three (three_walk hw.room.1 _ (by simp) (bt := fun i j => gtF ((#[a, b, c] : Array UInt64)[i]?.getD 0) ((#[a, b, c] : Array UInt64)[j]?.getD 0)) ?_ ?_)
  · intro i j vi vj s Q E hi hj hQ
    obtain ⟨_, rfl⟩ := three_at hi
    obtain ⟨_, rfl⟩ := three_at hj
    show wpAny _ _ (compareOp .Gt _ _) _ _ _
    (with_reducible refine PySem.AutoFloatOps.gt_0 ?_); exact hQ
  · intro v h' tk hv hk
    refine ⟨⟨h', tk, rfl, hk⟩, ?_⟩
    exact three_pick (g := gtF) hv

theorem CalP.minF (hw : WF w h₀ Φ) {a b c : UInt64} : CalP w h₀ Φ vs (.builtin "min") [fV a, fV b, fV c] (fV (min3 a b c)) := by
  intro s vals hs hp
  cases hp with | cons h1 t => cases t with | cons h2 t => cases t with | cons h3 t =>
  cases t
  obtain ⟨ta, rfl⟩ := h1
  obtain ⟨tb, rfl⟩ := h2
  obtain ⟨tc, rfl⟩ := h3
  refine call_min_three (three_walk hw.room.1 _ (by simp) (bt := fun i j => ltF ((#[a, b, c] : Array UInt64)[i]?.getD 0) ((#[a, b, c] : Array UInt64)[j]?.getD 0)) ?_ ?_)
  · intro i j vi vj s Q E hi hj hQ
    obtain ⟨_, rfl⟩ := three_at hi
    obtain ⟨_, rfl⟩ := three_at hj
    show wpAny _ _ (compareOp .Lt _ _) _ _ _
    (with_reducible refine PySem.AutoFloatOps.lt_0 ?_); exact hQ
  · intro v h' tk hv hk
    refine ⟨⟨h', tk, rfl, hk⟩, ?_⟩
    exact three_pick (g := ltF) hv
end
end Mine

namespace Mine

theorem subs_ops (slice : Expr) (o i : Value) : ∃ ops, subscripted slice false o i = operate ops (getItem o i) := by
  cases slice <;> first | exact ⟨_, rfl⟩ | (rename_i a b c d; cases c <;> exact ⟨_, rfl⟩)

theorem pairedGetR {α β : Type} {F : α → β → Prop} {l : List α} {r : List β} (h : Paired F l r) : ∀ {i : Nat} {a : α}, l[i]? = some a → ∃ b, r[i]? = some b ∧ F a b := by
  induction h with
  | nil => intro i a h1; simp at h1
  | cons h t ih =>
    intro i a h1
    cases i with
    | zero => simp at h1; subst h1; exact ⟨_, rfl, h⟩
    | succ i => exact ih h1
theorem pairedTake {α β : Type} {F : α → β → Prop} {l : List α} {r : List β} (n : Nat) (h : Paired F l r) : Paired F (l.take n) (r.take n) := by
  induction h generalizing n with
  | nil => rw [List.take_nil, List.take_nil]; exact .nil
  | cons h t ih => cases n with
    | zero => exact .nil
    | succ n => exact .cons h (ih n)
theorem pairedDrop {α β : Type} {F : α → β → Prop} {l : List α} {r : List β} (n : Nat) (h : Paired F l r) : Paired F (l.drop n) (r.drop n) := by
  induction h generalizing n with
  | nil => rw [List.drop_nil, List.drop_nil]; exact .nil
  | cons h t ih => cases n with
    | zero => exact .cons h t
    | succ n => exact ih n

section
variable {w : World} {h₀ : Heap} {Φ : Fm} {vs : List (Option Vl)}

/-! items -/
theorem EvP.item {value slice pos} {xs : List Sc} {k : Int} {x : Sc} (hv : EvP w h₀ Φ vs value (.list xs)) (hi : EvP w h₀ Φ vs slice (iV k)) (h0 : 0 ≤ k) (hk : k < 2 ^ 63) (hx : xs[k.toNat]? = some x) :
    EvP w h₀ Φ vs (.Subscript value slice pos) (.sc x) := by
  intro s hs
  refine Subscript_ (wpAny_mono (hv s hs) (fun o s₁ h1 => ?_) fun _ _ x => x)
  have hs₁ := hs.kept h1.1
  refine wpAny_mono (hi s₁ hs₁) (fun i s₂ h2 => ?_) fun _ _ x => x
  obtain ⟨a, items, rfl, hl, _, hp⟩ := h1.2.keeps h2.1.heap
  replace hl := hl.isList
  obtain ⟨t, rfl⟩ := h2.2
  obtain ⟨ops, hops⟩ := subs_ops slice (.ref a) (.int k t)
  obtain ⟨b, hb, hf⟩ := pairedGetR hp hx
  have hb' : items[k.toNat]? = some b := by simpa using hb
  exact PyProof.Rows.tail_any hl.typeIs slot_list_getitem.lookup (wpAny_getItem_list hl h0 hk hb' ⟨h1.1.trans h2.1, hf⟩) hops

theorem EvP.itemT {value slice pos} {ws : List It} {k : Int} {x : It} (hv : EvP w h₀ Φ vs value (.tup ws)) (hi : EvP w h₀ Φ vs slice (iV k)) (h0 : 0 ≤ k) (hk : k < 2 ^ 63) (hx : ws[k.toNat]? = some x) :
    EvP w h₀ Φ vs (.Subscript value slice pos) x.v := by
  intro s hs
  refine Subscript_ (wpAny_mono (hv s hs) (fun o s₁ h1 => ?_) fun _ _ x => x)
  have hs₁ := hs.kept h1.1
  refine wpAny_mono (hi s₁ hs₁) (fun i s₂ h2 => ?_) fun _ _ x => x
  obtain ⟨a, items, rfl, hl, _, hp⟩ := h1.2.keeps h2.1.heap
  obtain ⟨t, rfl⟩ := h2.2
  obtain ⟨ops, hops⟩ := subs_ops slice (.ref a) (.int k t)
  obtain ⟨b, hb, hf⟩ := pairedGetR hp hx
  have hlt : k.toNat < items.size := by
    by_cases q : k.toNat < items.toList.length
    · simpa using q
    · rw [List.getElem?_eq_none (by (first | exact om8 q | omega))] at hb; cases hb
  have hT : IsTup s₂.heap a items := hl
  refine PyProof.Rows.tail_any hT.typeIs PyProof.Rows.slot_tuple_getitem.lookup (PyProof.Rows.getItem_tuple hT (by (first | exact om9 h0 | omega)) hk (j := k.toNat) ?_ (by simpa using hb) ⟨h1.1.trans h2.1, ?_⟩) hops
  · unfold seqIndex?
    have h1 : ¬ k < 0 := by (first | exact om10 h0 | omega)
    simp only [h1, if_false]
    have h2 : (decide (0 ≤ k) && decide (k < (items.size : Int))) = true := by simp; (first | exact om11 h1 hlt | omega)
    rw [if_pos h2]
  · cases x <;> exact hf

/-! cuts -/
noncomputable def PartP (w : World) (h₀ : Heap) (Φ : Fm) (vs : List (Option Vl)) (e : Option Expr) (v : Option Int) : Prop :=
  ∀ s, St h₀ Φ vs s → wpAny (MD w) Φ.A (evalPart e Φ.env) (fun val s' => Kp s s' ∧ IsPart val v) NoE s
theorem PartP.none : PartP w h₀ Φ vs none none := fun s _ => wpAny_pure ⟨Kp.refl s, .none⟩
theorem PartP.some {e i} (h : EvP w h₀ Φ vs e (iV i)) : PartP w h₀ Φ vs (some e) (some i) := fun s hs =>
  wpAny_mono (h s hs) (fun val s₁ h1 => ⟨h1.1, by obtain ⟨t, rfl⟩ := h1.2; exact .int i t⟩) fun _ _ x => x

noncomputable def cut (xs : List Sc) (lo hi : Option Int) : List Sc := (xs.drop (lo.elim 0 (clipAt xs.length))).take (hi.elim xs.length (clipAt xs.length) - lo.elim 0 (clipAt xs.length))

theorem EvP.slice {value lower upper p pos} {xs : List Sc} {lo hi : Option Int} (hv : EvP w h₀ Φ vs value (.list xs)) (hl : PartP w h₀ Φ vs lower lo) (hu : PartP w h₀ Φ vs upper hi) (hz : xs.length ≤ 1000) :
    EvP w h₀ Φ vs (.Subscript value (.Slice lower upper none p) pos) (.list (cut xs lo hi)) := by
  intro s hs
  refine Subscript_ (wpAny_mono (hv s hs) (fun o s₁ h1 => ?_) fun _ _ x => x)
  have hs₁ := hs.kept h1.1
  refine wpAny_Slice (wpAny_mono (hl s₁ hs₁) (fun l s₂ h2 => ?_) fun _ _ x => x)
  have hs₂ := hs₁.kept h2.1
  refine wpAny_mono (hu s₂ hs₂) (fun u s₃ h3 => ?_) fun _ _ x => x
  refine wpAny_pure ?_
  have hs₃ := hs₂.kept h3.1
  have kall := (h1.1.trans h2.1).trans h3.1
  obtain ⟨a, items, rfl, hls, _, hp⟩ := (h1.2.keeps h2.1.heap).keeps h3.1.heap
  replace hls := hls.isList
  have hlen : items.size = xs.length := by rw [Paired.length hp]; simp
  have hls' : (s₃.heap.push { cls := .type "slice", data := .fields #[l, u, .none] }).IsList a items := hls.push _
  obtain ⟨ops, hops⟩ := subs_ops (.Slice lower upper none p) (.ref a) (.ref s₃.heap.objs.size)
  refine PyProof.Rows.tail_any (Heap.IsList.typeIs (s := { s₃ with heap := s₃.heap.push _ }) hls') slot_list_getitem.lookup
    (wpAny_getItem_list_slice hls' (Heap.IsSliceOf.new ..) h2.2 h3.2 .none (by simp) ?_ (by rw [sizeLine_eq]; (first | exact om12 hlen hz | omega))) hops
  have hk2 : Kp s { s₃ with heap := s₃.heap.push { cls := .type "slice", data := .fields #[l, u, .none] } } := kall.trans (kpPush _ _)
  refine ⟨hk2.trans (kpPush _ _), _, _, rfl, ⟨_, Heap.get?_push_size _ rfl⟩, freshNotAv (hs.kept hk2), ?_⟩
  rw [slicePick_plain, hlen]
  exact pairedTake _ (pairedDrop _ hp)

theorem EvP.sliceA {value lower upper p pos} {xs : List Sc} {lo hi : Option Int} (hv : EvP w h₀ Φ vs value (.arg xs)) (hl : PartP w h₀ Φ vs lower lo) (hu : PartP w h₀ Φ vs upper hi) (hz : xs.length ≤ 1000) :
    EvP w h₀ Φ vs (.Subscript value (.Slice lower upper none p) pos) (.list (cut xs lo hi)) := by
  intro s hs
  refine Subscript_ (wpAny_mono (hv s hs) (fun o s₁ h1 => ?_) fun _ _ x => x)
  have hs₁ := hs.kept h1.1
  refine wpAny_Slice (wpAny_mono (hl s₁ hs₁) (fun l s₂ h2 => ?_) fun _ _ x => x)
  have hs₂ := hs₁.kept h2.1
  refine wpAny_mono (hu s₂ hs₂) (fun u s₃ h3 => ?_) fun _ _ x => x
  refine wpAny_pure ?_
  have hs₃ := hs₂.kept h3.1
  have kall := (h1.1.trans h2.1).trans h3.1
  obtain ⟨a, items, rfl, hls, _, hp⟩ := (h1.2.keeps h2.1.heap).keeps h3.1.heap
  have hlen : items.size = xs.length := by rw [Paired.length hp]; simp
  have hls' : (s₃.heap.push { cls := .type "slice", data := .fields #[l, u, .none] }).IsList a items := hls.push _
  obtain ⟨ops, hops⟩ := subs_ops (.Slice lower upper none p) (.ref a) (.ref s₃.heap.objs.size)
  refine PyProof.Rows.tail_any (Heap.IsList.typeIs (s := { s₃ with heap := s₃.heap.push _ }) hls') slot_list_getitem.lookup
    (wpAny_getItem_list_slice hls' (Heap.IsSliceOf.new ..) h2.2 h3.2 .none (by simp) ?_ (by rw [sizeLine_eq]; (first | exact om12 hlen hz | omega))) hops
  have hk2 : Kp s { s₃ with heap := s₃.heap.push { cls := .type "slice", data := .fields #[l, u, .none] } } := kall.trans (kpPush _ _)
  refine ⟨hk2.trans (kpPush _ _), _, _, rfl, ⟨_, Heap.get?_push_size _ rfl⟩, freshNotAv (hs.kept hk2), ?_⟩
  rw [slicePick_plain, hlen]
  exact pairedTake _ (pairedDrop _ hp)

/-! truth -/
theorem TrP.not {x pos b} (h : TrP w h₀ Φ vs x b) : TrP w h₀ Φ vs (.UnaryOp .Not x pos) (!b) := fun s hs =>
  isTrue_not (wpAny_mono (h s hs) (fun _ _ h1 => ⟨h1.1, by rw [h1.2]⟩) fun _ _ x => x)
theorem TrP.andNil {pos} : TrP w h₀ Φ vs (.BoolOp .And [] pos) true := fun s _ => isTrue_and_nil ⟨Kp.refl s, rfl⟩
theorem TrP.orNil {pos} : TrP w h₀ Φ vs (.BoolOp .Or [] pos) false := fun s _ => isTrue_or_nil ⟨Kp.refl s, rfl⟩
theorem TrP.and {x rest pos b c} (h : TrP w h₀ Φ vs x b) (hr : b = true → TrP w h₀ Φ vs (.BoolOp .And rest pos) c) : TrP w h₀ Φ vs (.BoolOp .And (x :: rest) pos) (b && c) := by
  intro s hs
  refine isTrue_and (wpAny_mono (h s hs) (fun b' s₁ h1 => ?_) fun _ _ x => x)
  obtain ⟨hk, rfl⟩ := h1
  cases b' with
  | false => exact ⟨hk, rfl⟩
  | true => exact wpAny_mono (hr rfl s₁ (hs.kept hk)) (fun _ _ h2 => ⟨hk.trans h2.1, h2.2⟩) fun _ _ x => x
theorem TrP.or {x rest pos b c} (h : TrP w h₀ Φ vs x b) (hr : b = false → TrP w h₀ Φ vs (.BoolOp .Or rest pos) c) : TrP w h₀ Φ vs (.BoolOp .Or (x :: rest) pos) (b || c) := by
  intro s hs
  refine isTrue_or (wpAny_mono (h s hs) (fun b' s₁ h1 => ?_) fun _ _ x => x)
  obtain ⟨hk, rfl⟩ := h1
  cases b' with
  | true => exact ⟨hk, rfl⟩
  | false => exact wpAny_mono (hr rfl s₁ (hs.kept hk)) (fun _ _ h2 => ⟨hk.trans h2.1, h2.2⟩) fun _ _ x => x

theorem TrP.ofBool {e b} (h : EvP w h₀ Φ vs e (bV b)) (he : isTrue e Φ.env (eval e Φ.env) = (do let v ← eval e Φ.env; standAt e.pos; holding [v] (truthy v)) := by rfl) : TrP w h₀ Φ vs e b := fun s hs =>
  isTrue_plain (wpAny_mono (h s hs) (fun v s₁ h1 => by
    have hv : v = .bool b := h1.2
    subst hv
    exact wpAny_truthy_bool ⟨h1.1, rfl⟩) fun _ _ x => x) he
theorem TrP.ofInt {e i} (h : EvP w h₀ Φ vs e (iV i)) (he : isTrue e Φ.env (eval e Φ.env) = (do let v ← eval e Φ.env; standAt e.pos; holding [v] (truthy v)) := by rfl) : TrP w h₀ Φ vs e (i != 0) := fun s hs =>
  isTrue_plain (wpAny_mono (h s hs) (fun v s₁ h1 => by
    obtain ⟨t, rfl⟩ := h1.2
    with_reducible refine PyProof.Rows.truthy_int ?_
    exact ⟨h1.1, rfl⟩) fun _ _ x => x) he
theorem TrP.ofList {e xs} (h : EvP w h₀ Φ vs e (.list xs)) (hz : xs.length ≤ 1000) (he : isTrue e Φ.env (eval e Φ.env) = (do let v ← eval e Φ.env; standAt e.pos; holding [v] (truthy v)) := by rfl) : TrP w h₀ Φ vs e (!xs.isEmpty) := fun s hs =>
  isTrue_plain (wpAny_mono (h s hs) (fun v s₁ h1 => by
    obtain ⟨a, items, rfl, hl, _, hp⟩ := h1.2
    have hlen : items.size = xs.length := by rw [Paired.length hp]; simp
    refine wpAny_truthy_list hl.isList (by (first | exact om13 hlen hz | omega)) ⟨h1.1.trans (Kp.tok _ _), ?_⟩
    cases xs with
    | nil => simp at hlen; simp [Array.isEmpty, hlen]
    | cons a b => simp at hlen; simp [Array.isEmpty, hlen]) fun _ _ x => x) he

theorem EvP.ifexp {test body orelse pos b v} (ht : TrP w h₀ Φ vs test b) (h1 : b = true → EvP w h₀ Φ vs body v) (h2 : b = false → EvP w h₀ Φ vs orelse v) : EvP w h₀ Φ vs (.IfExp test body orelse pos) v := by
  intro s hs
  refine IfExp_ (wpAny_mono (ht s hs) (fun b' s₁ h => ?_) fun _ _ x => x)
  obtain ⟨hk, rfl⟩ := h
  cases b' with
  | true => exact wpAny_mono (h1 rfl s₁ (hs.kept hk)) (fun _ _ h2 => ⟨hk.trans h2.1, h2.2⟩) fun _ _ x => x
  | false => exact wpAny_mono (h2 rfl s₁ (hs.kept hk)) (fun _ _ h2 => ⟨hk.trans h2.1, h2.2⟩) fun _ _ x => x

theorem EvP.and1 {e pos v} (h : EvP w h₀ Φ vs e v) : EvP w h₀ Φ vs (.BoolOp .And [e] pos) v := fun s hs => BoolOp_one (h s hs)
theorem EvP.and {e₁ e₂ rest pos b c} (h : EvP w h₀ Φ vs e₁ (bV b)) (h2 : b = true → EvP w h₀ Φ vs (.BoolOp .And (e₂ :: rest) pos) (bV c)) : EvP w h₀ Φ vs (.BoolOp .And (e₁ :: e₂ :: rest) pos) (bV (b && c)) := by
  intro s hs
  refine BoolOp_and (wpAny_mono (h s hs) (fun v s₁ h1 => ?_) fun _ _ x => x)
  have hv : v = .bool b := h1.2
  subst hv
  refine wpAny_truthy_bool ?_
  cases b with
  | false => exact ⟨h1.1, rfl⟩
  | true => exact wpAny_mono (h2 rfl s₁ (hs.kept h1.1)) (fun _ _ h3 => ⟨h1.1.trans h3.1, h3.2⟩) fun _ _ x => x

/-! lists -/
theorem BinP.cat {xs ys : List Sc} (hz : xs.length + ys.length ≤ 1000) : BinP w h₀ Φ vs .Add (.list xs) (.list ys) (.list (xs ++ ys)) := by
  intro s va vb hs q_1 q_2
  obtain ⟨l, its, e, hl, _, hp⟩ := q_1
  obtain ⟨b, its2, e', hb, _, hp2⟩ := q_2
  subst e; subst e'
  have l1 : its.size = xs.length := by rw [Paired.length hp]; simp
  have l2 : its2.size = ys.length := by rw [Paired.length hp2]; simp
  obtain ⟨n, ho⟩ := id hl
  obtain ⟨n2, ho2⟩ := id hb
  refine concat_meets ⟨_, ho, rfl⟩ ⟨_, ho2, rfl⟩ noFill_list_add seq_list_add PySem.F.slot_list_add PySem.F.entry_list_add (PySem.F.args_list_add_2 _ _) (list_addW l b its its2 n n2 none none #[] #[] (by rw [sizeLine_eq]; (first | exact om14 l2 l1 hz | omega))) ⟨ho, ho2, ?_⟩
  refine ⟨kpPush _ _, _, _, rfl, ⟨_, Heap.get?_push_size _ rfl⟩, freshNotAv hs, ?_⟩
  rw [Array.toList_append]
  exact pairedAppend hp hp2

theorem CalP.len {xs : List Sc} (hz : xs.length ≤ 1000) : CalP w h₀ Φ vs (.builtin "len") [.list xs] (iV xs.length) := by
  intro s vals hs hp
  cases hp with
  | cons h1 t =>
    cases t
    obtain ⟨a, items, rfl, hl, _, hp⟩ := h1
    have hlen : items.size = xs.length := by rw [Paired.length hp]; simp
    refine PyProof.Rows.len_list hl.isList (by (first | exact om13 hlen hz | omega)) ?_
    rw [hlen]
    exact ⟨Kp.tok _ _, ⟨_, rfl⟩⟩
end
end Mine

namespace Mine
section
variable {w : World} {h₀ : Heap} {Φ : Fm} {vs : List (Option Vl)}

theorem It.pure (i : It) : i.v.pure = true := by cases i <;> rfl
theorem It.repV {av h} {i : It} {val} (x : ItR av h i val) : Rep av h i.v val := by cases i <;> exact x

theorem Rep.kb {av mu : Addr → Prop} {s s' : Shared} (k : KB mu s s') (hm : ∀ a, mu a → av a) {v val} (hp : v.pure = true) (x : Rep av s.heap v val) : Rep av s'.heap v val :=
  Rep.move (fun a o e n => ⟨n, k.heap a o (fun q => n (hm a q)) e⟩) hp x

theorem extKp {s : Shared} {h' : Heap} (he : Heap.ExtBut s.heap.objs.size s.heap h') : Kp s { s with heap := h' } :=
  ⟨h', s.toks, rfl, fun b o e => he b o (Nat.ne_of_lt (Heap.lt_size e)) e⟩

/-! several names at once -/
theorem ExS.unpack2 (hw : WF w h₀ Φ) (i j : Nat) {x y : Str} {kx ky : VK} {a b : It} {e px py tk tpos pos} {R : Out → Prop} (he : EvP w h₀ Φ vs e (.tup [a, b]))
    (hx : Φ.nm[i]? = some (x, kx)) (hy : Φ.nm[j]? = some (y, ky)) (hkx : kx ≠ .fre) (hky : ky ≠ .fre)
    (hs : swapsWithSole [.Tuple [.Name x px, .Name y py] tk tpos] e pos.line Φ.env = pure false) (hsw : swappedStores [.Tuple [.Name x px, .Name y py] tk tpos] e Φ.env = pure none)
    (hR : R (.nxt ((vs.set i (some a.v)).set j (some b.v)))) : ExS w h₀ Φ vs (.Assign [.Tuple [.Name x px, .Name y py] tk tpos] e pos) R := by
  intro s hst
  refine Assign_Tuple (wpAny_mono (he s hst) (fun val s₁ h1 => ?_) fun _ _ x => x) hs hsw
  obtain ⟨T, items, rfl, hT, _, hp⟩ := h1.2
  have hT' : IsTup s₁.heap T items := hT
  have hl : items.size = 2 := by have := Paired.length hp; simp at this; (first | exact om15 this | omega)
  have hh : Φ.A.handled = none := hw.room.1
  have hs₁ := hst.kept h1.1
  refine assign_Tuple_tuple hh hT' (by rw [hl]; rfl) rfl fun h' hext => ?_
  have k2 := extKp hext
  have hs₂ := hs₁.kept k2
  obtain ⟨u, v, hu⟩ : ∃ u v, items.toList = [u, v] := by
    match h : items.toList with
    | [u, v] => exact ⟨u, v, rfl⟩
    | [] => have : items.toList.length = 2 := by simpa using hl
            rw [h] at this; simp at this
    | [_] => have : items.toList.length = 2 := by simpa using hl
             rw [h] at this; simp at this
    | _ :: _ :: _ :: _ => have : items.toList.length = 2 := by simpa using hl
                          rw [h] at this; simp at this
  rw [hu] at hp ⊢
  cases hp with | cons ha hp => cases hp with | cons hb hp =>
  refine assignInOrder_cons (PyProof.Rows.assign_Name (storeP hw hx hkx hs₂ ((It.repV ha).keeps k2.heap) (Vl.okPure (It.pure a)) fun s₃ k3 hs₃ => ?_))
  refine assignInOrder_cons (PyProof.Rows.assign_Name (storeP hw hy hky hs₃ (((It.repV hb).keeps k2.heap).kb k3 hw.muav (It.pure b)) (Vl.okPure (It.pure b)) fun s₄ k4 hs₄ => ?_))
  exact assignInOrder_nil ⟨(((h1.1.trans k2).kb).trans k3).trans k4, _, hR, rfl, hs₄⟩

theorem ExS.unpack3 (hw : WF w h₀ Φ) (i j l : Nat) {x y z : Str} {kx ky kz : VK} {a b c : It} {e px py pz tk tpos pos} {R : Out → Prop} (he : EvP w h₀ Φ vs e (.tup [a, b, c]))
    (hx : Φ.nm[i]? = some (x, kx)) (hy : Φ.nm[j]? = some (y, ky)) (hz : Φ.nm[l]? = some (z, kz)) (hkx : kx ≠ .fre) (hky : ky ≠ .fre) (hkz : kz ≠ .fre)
    (hs : swapsWithSole [.Tuple [.Name x px, .Name y py, .Name z pz] tk tpos] e pos.line Φ.env = pure false) (hsw : swappedStores [.Tuple [.Name x px, .Name y py, .Name z pz] tk tpos] e Φ.env = pure none)
    (hR : R (.nxt (((vs.set i (some a.v)).set j (some b.v)).set l (some c.v)))) : ExS w h₀ Φ vs (.Assign [.Tuple [.Name x px, .Name y py, .Name z pz] tk tpos] e pos) R := by
  intro s hst
  refine Assign_Tuple (wpAny_mono (he s hst) (fun val s₁ h1 => ?_) fun _ _ x => x) hs hsw
  obtain ⟨T, items, rfl, hT, _, hp⟩ := h1.2
  have hT' : IsTup s₁.heap T items := hT
  have hl : items.size = 3 := by have := Paired.length hp; simp at this; (first | exact om16 this | omega)
  have hh : Φ.A.handled = none := hw.room.1
  have hs₁ := hst.kept h1.1
  refine assign_Tuple_tuple hh hT' (by rw [hl]; rfl) rfl fun h' hext => ?_
  have k2 := extKp hext
  have hs₂ := hs₁.kept k2
  generalize items.toList = its at hp ⊢
  cases hp with | cons ha hp => cases hp with | cons hb hp => cases hp with | cons hc hp =>
  cases hp
  refine assignInOrder_cons (PyProof.Rows.assign_Name (storeP hw hx hkx hs₂ ((It.repV ha).keeps k2.heap) (Vl.okPure (It.pure a)) fun s₃ k3 hs₃ => ?_))
  refine assignInOrder_cons (PyProof.Rows.assign_Name (storeP hw hy hky hs₃ (((It.repV hb).keeps k2.heap).kb k3 hw.muav (It.pure b)) (Vl.okPure (It.pure b)) fun s₄ k4 hs₄ => ?_))
  refine assignInOrder_cons (PyProof.Rows.assign_Name (storeP hw hz hkz hs₄ ((((It.repV hc).keeps k2.heap).kb k3 hw.muav (It.pure c)).kb k4 hw.muav (It.pure c)) (Vl.okPure (It.pure c)) fun s₅ k5 hs₅ => ?_))
  exact assignInOrder_nil ⟨((((h1.1.trans k2).kb).trans k3).trans k4).trans k5, _, hR, rfl, hs₅⟩

/-- the stores that CPython makes the other way round -/
theorem ExS.swap2 (hw : WF w h₀ Φ) (i j : Nat) {x y : Str} {kx ky : VK} {a b : It} {e px py tk tpos pos} {R : Out → Prop} (he : EvP w h₀ Φ vs e (.tup [a, b]))
    (hx : Φ.nm[i]? = some (x, kx)) (hy : Φ.nm[j]? = some (y, ky)) (hkx : kx ≠ .fre) (hky : ky ≠ .fre)
    (hs : swapsWithSole [.Tuple [.Name x px, .Name y py] tk tpos] e pos.line Φ.env = pure false) (hsw : swappedStores [.Tuple [.Name x px, .Name y py] tk tpos] e Φ.env = pure (some [x, y]))
    (hR : R (.nxt ((vs.set j (some b.v)).set i (some a.v)))) : ExS w h₀ Φ vs (.Assign [.Tuple [.Name x px, .Name y py] tk tpos] e pos) R := by
  intro s hst
  refine Assign_Tuple_swapped (names := [x, y]) (wpAny_mono (he s hst) (fun val s₁ h1 => ?_) fun _ _ x => x) hs hsw
  obtain ⟨T, items, rfl, hT, _, hp⟩ := h1.2
  have hT' : IsTup s₁.heap T items := hT
  have hl : items.size = 2 := by have := Paired.length hp; simp at this; (first | exact om15 this | omega)
  have hh : Φ.A.handled = none := hw.room.1
  have hs₁ := hst.kept h1.1
  have hun : ([x, y] : List Str).length = items.size := by rw [hl]; rfl
  rw [hun]
  refine unpackItems_tuple hh hT' fun h' hext => ?_
  have k2 := extKp hext
  have hs₂ := hs₁.kept k2
  generalize items.toList = its at hp ⊢
  cases hp with | cons ha hp => cases hp with | cons hb hp =>
  cases hp
  refine assignInOrder_cons (bindName_ (storeP hw hy hky hs₂ ((It.repV hb).keeps k2.heap) (Vl.okPure (It.pure b)) fun s₃ k3 hs₃ => ?_))
  refine assignInOrder_cons (bindName_ (storeP hw hx hkx hs₃ (((It.repV ha).keeps k2.heap).kb k3 hw.muav (It.pure a)) (Vl.okPure (It.pure a)) fun s₄ k4 hs₄ => ?_))
  exact assignInOrder_nil ⟨(((h1.1.trans k2).kb).trans k3).trans k4, _, hR, rfl, hs₄⟩

/-! x op= e -/
noncomputable def InpP (w : World) (h₀ : Heap) (Φ : Fm) (vs : List (Option Vl)) (op : Operator) (a b v : Vl) : Prop :=
  ∀ s va vb, St h₀ Φ vs s → Rep Φ.av s.heap a va → Rep Φ.av s.heap b vb → wpAny (MD w) Φ.A (inplaceOp op va vb) (Post Φ v s) NoE s
theorem InpP.add {a b : Int} : InpP w h₀ Φ vs .Add (iV a) (iV b) (iV (a + b)) := fun s va vb _ ⟨_, e⟩ ⟨_, e'⟩ => by
  subst e; subst e'; (with_reducible refine PySem.P.iadd_int ?_); exact ⟨Kp.tok s _, ⟨_, rfl⟩⟩
theorem InpP.xor {a b : Int} : InpP w h₀ Φ vs .BitXor (iV a) (iV b) (iV (Builtin.bitXor a b)) := fun s va vb _ ⟨_, e⟩ ⟨_, e'⟩ => by
  subst e; subst e'; (with_reducible refine PyProof.Rows.ixor_int ?_); exact ⟨Kp.tok s _, ⟨_, rfl⟩⟩

theorem ExS.aug (hw : WF w h₀ Φ) (i : Nat) {x : Str} {k : VK} {a b v : Vl} {op e px pos} {R : Out → Prop} (hx : Φ.nm[i]? = some (x, k)) (hk : k ≠ .fre) (hv : vs[i]? = some (some a))
    (he : EvP w h₀ Φ vs e b) (ho : InpP w h₀ Φ vs op a b v) (hp : v.pure = true) (hR : R (.nxt (vs.set i (some v)))) : ExS w h₀ Φ vs (.AugAssign (.Name x px) op e pos) R := by
  intro s hst
  have hload : wpAny (MD w) Φ.A (loadName Φ.env x) (Post Φ a s) NoE s := by
    obtain ⟨mc, hn, hpp⟩ := hst.ns
    obtain ⟨val, hr, ha, _⟩ := pairedGet hpp hx hv
    obtain ⟨hk', hpl⟩ := hw.kinds _ (List.mem_of_getElem? hx)
    cases k with
    | loc => exact wpAny_loadName_local hw.fn hk' hn ha ⟨Kp.refl s, hr⟩
    | cel =>
      obtain ⟨c, hc, hcell⟩ := ha
      exact wpAny_loadName_cell hw.fn hk'.1 hc hcell ⟨Kp.refl s, hr⟩
    | fre => exact absurd rfl hk
  refine wpAny_AugAssign_Name (wpAny_mono hload (fun va s₁ h1 => ?_) fun _ _ x => x)
  have hs₁ := hst.kept h1.1
  refine wpAny_mono (he s₁ hs₁) (fun vb s₂ h2 => ?_) fun _ _ x => x
  have hs₂ := hs₁.kept h2.1
  refine wpAny_mono (ho s₂ va vb hs₂ (h1.2.keeps h2.1.heap) h2.2) (fun vc s₃ h3 => ?_) fun _ _ x => x
  exact storeP hw hx hk (hs₂.kept h3.1) h3.2 (Vl.okPure hp) fun s₄ k4 hs₄ => ⟨((h1.1.trans h2.1).trans h3.1).kb.trans k4, _, hR, rfl, hs₄⟩

/-! a list of the frame's own -/
noncomputable def Fm.own (Φ : Fm) (a : Addr) : Fm := { Φ with av := fun b => Φ.av b ∨ b = a, mu := fun b => Φ.mu b ∨ b = a }

theorem WF.own (hw : WF w h₀ Φ) {a : Addr} (ha : h₀.get? a = none) : WF w h₀ (Φ.own a) where
  gd := hw.gd
  fn := hw.fn
  gl := hw.gl
  bu := hw.bu
  room := hw.room
  mufresh := fun b hb => hb.elim (hw.mufresh b) fun e => e ▸ ha
  muav := fun b hb => hb.imp (hw.muav b) id
  rvav := fun b hb => .inl (hw.rvav b hb)
  loc := .inl hw.loc
  kinds := fun p hp => by
    obtain ⟨h1, h2⟩ := hw.kinds p hp
    refine ⟨?_, h2⟩
    revert h1
    cases p.2 with
    | loc => exact id
    | cel => rintro ⟨k1, c, k2, k3, k4⟩; exact ⟨k1, c, k2, .inl k3, k4⟩
    | fre => rintro ⟨k1, c, k2, k3⟩; exact ⟨k1, c, k2, .inl k3⟩
  nodup := hw.nodup
  apart := hw.apart

theorem okMono {mu mu' : Addr → Prop} (k : ∀ a, mu a → mu' a) {v : Vl} (x : v.okMu mu) : v.okMu mu' := by
  cases v <;> first | trivial | exact k _ x

theorem At.keeps {mc} {h h' : Heap} (k : ∀ b o, h.get? b = some o → h'.get? b = some o) {p val} (x : At Φ mc h p val) : At Φ mc h' p val := by
  by_cases hl : p.2 = .loc
  · unfold At at x ⊢
    rw [hl] at x ⊢; exact x
  · obtain ⟨c, h1, h2⟩ := x.of hl
    exact At.mk' hl ⟨c, h1, h2.keeps k⟩

theorem VOK.fresh {mc} {h h' : Heap} {a : Addr} (ha : h.get? a = none) (k : ∀ b o, h.get? b = some o → h'.get? b = some o) {p ov} (x : VOK Φ mc h p ov) : VOK (Φ.own a) mc h' p ov := by
  cases ov with
  | none => intro e; obtain ⟨c, v₀, h1, h2⟩ := x e; exact ⟨c, v₀, h1, h2.keeps k⟩
  | some v =>
    obtain ⟨val, h1, h2, h5⟩ := x
    exact ⟨val, Rep.keeps k (Rep.more (X := fun b => b = a) (fun b o e q => by subst q; rw [ha] at e; cases e) h1), At.keeps (Φ := Φ) k h2, okMono (fun _ q => .inl q) h5⟩

noncomputable def OnlyRet (R : Out → Prop) : Prop := ∀ o, R o → ∃ v, o = .ret v

theorem freshNone (s : Shared) : s.heap.get? s.heap.objs.size = none := by
  cases e : s.heap.get? s.heap.objs.size with
  | none => rfl
  | some o => exact absurd (Heap.lt_size e) (Nat.lt_irrefl _)

theorem h0None {s : Shared} (hs : St h₀ Φ vs s) {a : Addr} (ha : s.heap.get? a = none) : h₀.get? a = none := by
  cases e : h₀.get? a with
  | none => rfl
  | some o => rw [hs.base a o e] at ha; cases ha

theorem ownBack {R : Out → Prop} (hR : OnlyRet R) {a : Addr} {s s' : Shared} {f : Flow} (ha : s.heap.get? a = none) {s₁ : Shared} (k : KB Φ.mu s s₁) (x : SPost h₀ (Φ.own a) R s₁ f s') : SPost h₀ Φ R s f s' := by
  obtain ⟨h1, o, h2, h3⟩ := x
  obtain ⟨v, rfl⟩ := hR o h2
  refine ⟨?_, _, h2, h3⟩
  obtain ⟨h', tk, rfl, k'⟩ := k
  obtain ⟨h'', tk', rfl, k''⟩ := h1
  refine ⟨h'', tk', rfl, fun b o n e => k'' b o (fun q => q.elim n fun q => ?_) (k' b o n e)⟩
  subst q; rw [ha] at e; cases e

/-- x = []: a list of the frame's own -/
theorem ExP.newOwn (hw : WF w h₀ Φ) (i : Nat) {x : Str} {k : VK} {px lp pos rest} {R : Out → Prop} (hx : Φ.nm[i]? = some (x, k)) (hk : k ≠ .fre) (hR : OnlyRet R)
    (h : ∀ a, ¬ Φ.av a → WF w h₀ (Φ.own a) → ExP w h₀ (Φ.own a) (vs.set i (some (.own a []))) rest R) : ExP w h₀ Φ vs (.Assign [.Name x px] (.List [] lp) pos :: rest) R := by
  intro s hst
  refine wpAny_execs_cons (wpAny_Assign_Name ?_ rfl)
  refine wpAny_List (wpAny_items_nil ⟨by decide, ?_⟩)
  have ha := freshNone s
  have hw' := hw.own (h0None hst ha)
  have kp := kpPush s { cls := .type "list", data := .seq ([] : List Value).toArray }
  have hst' : St h₀ (Φ.own s.heap.objs.size) vs { s with heap := s.heap.push { cls := .type "list", data := .seq ([] : List Value).toArray } } := {
    base := fun b o e => kp.heap b o (hst.base b o e)
    live := fun b hb => by
      rcases hb with hb | rfl
      · obtain ⟨o, e⟩ := hst.live b hb; exact ⟨o, kp.heap b o e⟩
      · exact ⟨_, Heap.get?_push_size _ rfl⟩
    ns := by
      obtain ⟨mc, h1, h2⟩ := hst.ns
      exact ⟨mc, h1.keeps kp.heap, pairedMono h2 fun _ _ y => VOK.fresh ha kp.heap y⟩ }
  refine storeP (Φ := Φ.own s.heap.objs.size) hw' hx hk hst' (v := .own s.heap.objs.size []) ⟨rfl, _, ⟨_, Heap.get?_push_size _ rfl⟩, .nil⟩ (.inr rfl) fun s₂ k2 hs₂ => ?_
  refine wpAny_mono (h s.heap.objs.size (freshNotAv hst) hw' s₂ hs₂) (fun f s₃ h3 => ?_) fun _ _ x => x
  refine ownBack hR ha (k := kp.kb) ?_
  exact ⟨k2.trans h3.1, h3.2⟩

/-- the frame's own list as a plain value again -/
theorem ExP.freeze {a : Addr} (ha : ¬ Φ.av a) (i : Nat) {xs : List Sc} {rest} {R : Out → Prop} (hv : vs[i]? = some (some (.own a xs))) (hR : OnlyRet R) (hoth : ((vs.set i none).all fun o => o.all Vl.pure) = true)
    (h : ExP w h₀ Φ (vs.set i (some (.list xs))) rest R) : ExP w h₀ (Φ.own a) vs rest R := by
  intro s hst
  have hst' : St h₀ Φ (vs.set i (some (.list xs))) s := {
    base := hst.base
    live := fun b hb => hst.live b (.inl hb)
    ns := by
      obtain ⟨mc, h1, h2⟩ := hst.ns
      refine ⟨mc, h1, ?_⟩
      have hlt : i < Φ.nm.length := by
        have e1 : Φ.nm.length = vs.length := Paired.length h2
        by_cases q : i < vs.length
        · (first | exact om17 q e1 | omega)
        · rw [List.getElem?_eq_none (by (first | exact om4 q | omega))] at hv; cases hv
      have hx : Φ.nm[i]? = some Φ.nm[i] := by simp [hlt]
      obtain ⟨val, hr, hat, _⟩ := pairedGet h2 hx hv
      refine pairedSet h2 hx ⟨val, ?_, hat, trivial⟩ fun j p ov hj hp' hov y => ?_
      · obtain ⟨rfl, items, hl, hpp⟩ := hr
        exact ⟨a, items, rfl, hl, ha, hpp⟩
      · cases ov with
        | none => exact y
        | some v =>
          obtain ⟨val', g1, g2, g3⟩ := y
          have hmem : some v ∈ vs.set i none := by
            have : (vs.set i none)[j]? = some (some v) := by rw [List.getElem?_set_ne (Ne.symm hj)]; exact hov
            exact List.mem_of_getElem? this
          have hpure : v.pure = true := by simpa using (List.all_eq_true.mp hoth) _ hmem
          exact ⟨val', g1.weaken fun b q => .inl q, g2, Vl.okPure hpure⟩ }
  refine wpAny_mono (h s hst') (fun f s₃ h3 => ?_) fun _ _ x => x
  obtain ⟨h1, o, h2, h4⟩ := h3
  obtain ⟨v, rfl⟩ := hR o h2
  exact ⟨h1.mono fun _ _ _ q => .inl q, _, h2, h4⟩
end
end Mine

namespace Mine
section
variable {w : World} {h₀ : Heap} {Φ : Fm} {vs : List (Option Vl)}

/-! what a loop runs over -/
noncomputable def ItS (w : World) (Φ : Fm) (s : Shared) (items : List Sc) (it : Value) (s₂ : Shared) : Prop :=
  ∃ I fp wr P St', it = .ref I ∧ Walks PW w Φ.A I fp wr items.length P St' ∧ St' 0 s₂.heap ∧ (∀ b ∈ fp, b < s₂.heap.objs.size) ∧ (∀ i v, P i v → ∃ x, items[i]? = some x ∧ SR x v) ∧
    (∀ b ∈ wr, s.heap.get? b = none) ∧ (∀ b ∈ fp, ¬ Φ.av b) ∧ (∀ i h, St' i h → ∀ b ∈ wr, ∃ o, h.get? b = some o)

noncomputable def ItP (w : World) (h₀ : Heap) (Φ : Fm) (vs : List (Option Vl)) (iter : Expr) (items : List Sc) : Prop :=
  ∀ s, St h₀ Φ vs s → wpAny (MD w) Φ.A (eval iter Φ.env) (fun xv s₁ => wpAny (MD w) Φ.A (pyIter xv) (fun it s₂ => Kp s s₂ ∧ ItS w Φ s items it s₂) NoE s₁) NoE s

theorem newNotAv {s s' : Shared} (hs : St h₀ Φ vs s) (k : Kp s s') : ¬ Φ.av s'.heap.objs.size := freshNotAv (hs.kept k)
theorem newNone {s s' : Shared} (k : Kp s s') : s.heap.get? s'.heap.objs.size = none := by
  cases e : s.heap.get? s'.heap.objs.size with
  | none => rfl
  | some o => exact absurd (Heap.lt_size (k.heap _ _ e)) (Nat.lt_irrefl _)

theorem ItP.list (hw : WF w h₀ Φ) {e xs} (h : EvP w h₀ Φ vs e (.list xs)) : ItP w h₀ Φ vs e xs := by
  intro s hs
  refine wpAny_mono (h s hs) (fun xv s₁ h1 => ?_) fun _ _ x => x
  obtain ⟨a, items, rfl, hl, hav, hp⟩ := h1.2
  have hlen : items.size = xs.length := by rw [Paired.length hp]; simp
  have hll := hl.isList
  refine wpAny_pyIter_list hll ⟨h1.1.trans (kpPush _ _), s₁.heap.objs.size, [_, a], [_], _, _, rfl, hlen ▸ Walks.list hw.room.1 s₁.heap.objs.size a (by obtain ⟨o, e⟩ := hl; exact Nat.ne_of_lt (Heap.lt_size e)) items,
    ⟨⟨_, Heap.get?_push_size _ rfl, rfl, rfl⟩, hll.push _⟩, fun b hb => ?_, fun i v hv => ?_, fun b hb => ?_, fun b hb => ?_, fun i h hh b hb => ?_⟩
  · show b < (s₁.heap.push _).objs.size
    rw [Heap.size_push]
    rcases List.mem_cons.mp hb with rfl | hb
    · exact Nat.lt_succ_self _
    · rw [List.mem_singleton.mp hb]; obtain ⟨o, e⟩ := hl; exact Nat.lt_succ_of_lt (Heap.lt_size e)
  · have hv' : items.toList[i]? = some v := by simpa using hv
    have hlt : i < xs.length := by
      by_cases q : i < items.toList.length
      · rw [Paired.length hp]; exact q
      · rw [List.getElem?_eq_none (by (first | exact om4 q | omega))] at hv'; cases hv'
    exact ⟨xs[i], by simp [hlt], pairedGet hp (by simp [hlt]) hv'⟩
  · rw [List.mem_singleton.mp hb]; exact newNone h1.1
  · rcases List.mem_cons.mp hb with rfl | hb
    · exact newNotAv hs h1.1
    · rw [List.mem_singleton.mp hb]; exact hav
  · rw [List.mem_singleton.mp hb]; obtain ⟨⟨o, e, _⟩, _⟩ := hh; exact ⟨o, e⟩

theorem ItP.tup (hw : WF w h₀ Φ) {e} {xs : List Sc} (h : EvP w h₀ Φ vs e (.tup (xs.map .sc))) : ItP w h₀ Φ vs e xs := by
  intro s hs
  refine wpAny_mono (h s hs) (fun xv s₁ h1 => ?_) fun _ _ x => x
  obtain ⟨a, items, rfl, hl, hav, hp⟩ := h1.2
  have hlen : items.size = xs.length := by have := Paired.length hp; simp at this; (first | exact om18 this | omega)
  have hlt : a < s₁.heap.objs.size := by obtain ⟨o, e, _⟩ := hl; exact Heap.lt_size e
  refine wpAny_pyIter_tuple hl ⟨h1.1.trans (kpPush _ _), s₁.heap.objs.size, [_, a], [_], _, _, rfl, hlen ▸ Walks.tuple hw.room.1 s₁.heap.objs.size a (Nat.ne_of_lt hlt) items,
    ⟨⟨_, Heap.get?_push_size _ rfl, rfl, rfl⟩, hl.push _⟩, fun b hb => ?_, fun i v hv => ?_, fun b hb => ?_, fun b hb => ?_, fun i h hh b hb => ?_⟩
  · show b < (s₁.heap.push _).objs.size
    rw [Heap.size_push]
    rcases List.mem_cons.mp hb with rfl | hb
    · exact Nat.lt_succ_self _
    · rw [List.mem_singleton.mp hb]; exact Nat.lt_succ_of_lt hlt
  · have hv' : items.toList[i]? = some v := by simpa using hv
    have hlt : i < xs.length := by
      by_cases q : i < items.toList.length
      · have : items.toList.length = items.size := by simp
        (first | exact om19 this q hlen | omega)
      · rw [List.getElem?_eq_none (by (first | exact om4 q | omega))] at hv'; cases hv'
    exact ⟨xs[i], by simp [hlt], pairedGet hp (a := It.sc xs[i]) (by simp [hlt]) hv'⟩
  · rw [List.mem_singleton.mp hb]; exact newNone h1.1
  · rcases List.mem_cons.mp hb with rfl | hb
    · exact newNotAv hs h1.1
    · rw [List.mem_singleton.mp hb]; exact hav
  · rw [List.mem_singleton.mp hb]; obtain ⟨⟨o, e, _⟩, _⟩ := hh; exact ⟨o, e⟩

theorem EvL.one {e v} (h : EvP w h₀ Φ vs e v) (he : starEach [e] Φ.env = [(false, eval e Φ.env)] := by rfl) : EvL w h₀ Φ vs [e] [v] := EvL.cons h EvL.nil he

noncomputable def upTo (n : Nat) : List Sc := (List.range n).map fun i => .int (i : Nat)

theorem boot_range : bootBuiltins "range" = some (.type "range") := by decide +kernel

theorem rangeIter (hw : WF w h₀ Φ) {s s₂ : Shared} (hs : St h₀ Φ vs s) (k : Kp s s₂) {r : Addr} {n : Nat} {t u v : Tok} (hr : IsRange s₂.heap r 0 (n : Nat) 1 t u v) (hn : n ≤ 1000) :
    wpAny (MD w) Φ.A (pyIter (.ref r)) (fun it s₃ => Kp s s₃ ∧ ItS w Φ s (upTo n) it s₃) NoE s₂ := by
  have hsz : Builtin.Range.rangeSize 0 (n : Nat) 1 = ((n : Nat) : Int) := by rw [rangeSize_one]; split <;> omega
  refine wpAny_pyIter_range hr (small_one (by (first | exact om20 | omega)) (by (first | exact om21 | omega)) (by (first | exact om22 | omega)) (by (first | exact om23 hn | omega))) ?_
  rw [hsz]
  refine ⟨k.trans (kpPush _ _), s₂.heap.objs.size, [_], [_], _, _, rfl, (show (upTo n).length = n by simp [upTo]) ▸ (Walks.range hw.room.1 s₂.heap.objs.size 0 1 n).bound, ?_, fun b hb => ?_, fun i v hv => ?_, fun b hb => ?_, fun b hb => ?_, fun i h hh b hb => ?_⟩
  · show IsRangeIter _ _ _ _ _
    rw [show (upTo n).length = n by simp [upTo]]
    simpa using Heap.get?_push_size s₂.heap (o := { cls := .type "range_iterator", data := .fields #[rawInt 0, rawInt (n : Nat), rawInt 1] }) rfl
  · rw [List.mem_singleton.mp hb]
    show _ < (Heap.push _ _).objs.size
    rw [Heap.size_push]; exact Nat.lt_succ_self _
  · obtain ⟨hi, t', rfl⟩ := hv
    refine ⟨.int ((i : Nat) : Int), ?_, t', ?_⟩
    · have hi' : i < n := by simpa [upTo] using hi
      simp [upTo, hi']
    · simp
  · rw [List.mem_singleton.mp hb]; exact newNone k
  · rw [List.mem_singleton.mp hb]; exact newNotAv hs k
  · rw [List.mem_singleton.mp hb]; exact ⟨_, hh⟩

theorem ItP.range (hw : WF w h₀ Φ) {x : Str} {np pos e} {n : Nat} (hx0 : x = "range") (hx : Φ.env.kindOf x = some .globalImplicit) (hg : nsIn (KK w) mainGlobals x = some none)
    (he : EvP w h₀ Φ vs e (iV (n : Nat))) (hn : n ≤ 1000) (hse : starEach [e] Φ.env = [(false, eval e Φ.env)] := by rfl)
    (hee : eval (.Call (.Name x np) [e] [] pos) Φ.env = (do callWith pos (← eval (.Name x np) Φ.env) [] (backTo pos (starEach [e] Φ.env)) (backToKw pos (keywordEach [] Φ.env))) := by rfl) :
    ItP w h₀ Φ vs (.Call (.Name x np) [e] [] pos) (upTo n) := by
  subst hx0
  intro s hs
  refine Call_ (builtinP hw hx hg boot_range (by decide) (by decide) hs ?_) hee
  refine PyProof.Rows.callWith_type1 (wpAny_mono (EvL.one he hse pos s hs) (fun vals s₁ h1 => ?_) fun _ _ x => x) hse rfl
  obtain ⟨k1, hp⟩ := h1
  cases hp with | cons ha hp =>
  cases hp
  obtain ⟨t, rfl⟩ := ha
  refine call_range_1 ?_
  have k2 : Kp s₁ { s₁ with heap := s₁.heap.push { cls := .type "range", data := .fields #[.int 0 s₁.toks, .int (n : Nat) t, .int 1 (s₁.toks + 1)] }, toks := s₁.toks + 1 + 1 } :=
    ⟨_, _, rfl, fun _ _ e => Heap.get?_push_of_some _ e⟩
  exact rangeIter hw hs (k1.trans k2) (IsRange.new ..) hn

/-! a loop -/
noncomputable def Fm.more (Φ : Fm) (X : Addr → Prop) : Fm := { Φ with av := fun b => Φ.av b ∨ X b }

theorem WF.more (hw : WF w h₀ Φ) (X : Addr → Prop) : WF w h₀ (Φ.more X) where
  gd := hw.gd
  fn := hw.fn
  gl := hw.gl
  bu := hw.bu
  room := hw.room
  mufresh := hw.mufresh
  muav := fun b hb => .inl (hw.muav b hb)
  rvav := fun b hb => .inl (hw.rvav b hb)
  loc := hw.loc
  kinds := fun p hp => by
    obtain ⟨h1, h2⟩ := hw.kinds p hp
    refine ⟨?_, h2⟩
    revert h1
    cases p.2 with
    | loc => exact id
    | cel => exact id
    | fre => rintro ⟨k1, c, k2, k3⟩; exact ⟨k1, c, k2, .inl k3⟩
  nodup := hw.nodup
  apart := hw.apart

theorem VOK.less {X : Addr → Prop} {mc h p ov} (x : VOK (Φ.more X) mc h p ov) : VOK Φ mc h p ov := by
  cases ov with
  | none => exact x
  | some v => obtain ⟨val, h1, h2, h3⟩ := x; exact ⟨val, h1.weaken fun b q => .inl q, h2, h3⟩
theorem St.less {X : Addr → Prop} {s : Shared} (x : St h₀ (Φ.more X) vs s) : St h₀ Φ vs s :=
  ⟨x.base, fun a ha => x.live a (.inl ha), by obtain ⟨mc, h1, h2⟩ := x.ns; exact ⟨mc, h1, pairedMono h2 fun _ _ y => VOK.less y⟩⟩
theorem OutOK.less {X : Addr → Prop} {o f} {s : Shared} (x : OutOK h₀ (Φ.more X) o f s) : OutOK h₀ Φ o f s := by
  cases o with
  | nxt vs => exact ⟨x.1, x.2.less⟩
  | brk vs => exact ⟨x.1, x.2.less⟩
  | ret v => exact x

/-- from where the iterator was made -/
theorem St.enter {X : Addr → Prop} {s s₂ : Shared} (x : St h₀ Φ vs s) (k : Kp s s₂) (hX : ∀ b, X b → s.heap.get? b = none) (hl : ∀ b, X b → ∃ o, s₂.heap.get? b = some o) : St h₀ (Φ.more X) vs s₂ where
  base := (x.kept k).base
  live := fun a ha => ha.elim ((x.kept k).live a) (hl a)
  ns := by
    obtain ⟨mc, h1, h2⟩ := x.ns
    refine ⟨mc, h1.keeps k.heap, pairedMono h2 fun p ov y => ?_⟩
    cases ov with
    | none => exact VOK.keeps (Φ := Φ) k.heap y
    | some v =>
      obtain ⟨val, h1, h2, h3⟩ := y
      exact ⟨val, Rep.keeps k.heap (Rep.more (fun a o e q => by rw [hX a q] at e; cases e) h1), At.keeps (Φ := Φ) k.heap h2, h3⟩

/-- the iterator alone has changed -/
theorem St.turnedNs (hw : WF w h₀ Φ) {X : Addr → Prop} {s : Shared} {h₁ : Heap} (x : St h₀ (Φ.more X) vs s) (k : ∀ b o, ¬ X b → s.heap.get? b = some o → h₁.get? b = some o)
    (hX : ∀ b, X b → ¬ Φ.av b) : ∃ mc, h₁.Ns Φ.env.locals mc ∧ Paired (VOK (Φ.more X) mc h₁) Φ.nm vs := by
  obtain ⟨mc, h1, h2⟩ := x.ns
  have hL : ¬ X Φ.env.locals := fun q => hX _ q (hw.muav _ hw.loc)
  have hcell : ∀ (p : Str × VK) c, p ∈ Φ.nm → p.2 ≠ .loc → Φ.env.cells.lookup p.1 = some c → ¬ X c := fun p c hp hne hc q => by
    obtain ⟨k1, _⟩ := hw.kinds p hp
    cases e : p.2 with
    | loc => exact hne e
    | cel => rw [e] at k1; obtain ⟨_, c', k2, k3, _⟩ := k1; rw [hc] at k2; cases k2; exact hX c q (hw.muav c k3)
    | fre => rw [e] at k1; obtain ⟨_, c', k2, k3⟩ := k1; rw [hc] at k2; cases k2; exact hX c q k3
  refine ⟨mc, Heap.Ns.at' h1 fun o e => k _ o hL e, ?_⟩
  have main : ∀ (nm : List (Str × VK)) (vs : List (Option Vl)), (∀ p ∈ nm, p ∈ Φ.nm) → Paired (VOK (Φ.more X) mc s.heap) nm vs → Paired (VOK (Φ.more X) mc h₁) nm vs := by
    intro nm
    induction nm with
    | nil => intro vs _ h; cases h; exact .nil
    | cons p nm ih =>
      intro vs hin h
      cases h with
      | cons y t =>
        refine .cons ?_ (ih _ (fun q hq => hin q (List.mem_cons_of_mem _ hq)) t)
        have hp := hin p List.mem_cons_self
        rename_i ov _
        cases ov with
        | none =>
          intro e
          obtain ⟨c, v₀, g1, g2⟩ := y e
          obtain ⟨oc, g3, g4⟩ := g2
          exact ⟨c, v₀, g1, oc, k c oc (hcell p c hp (by rw [e]; simp) g1) g3, g4⟩
        | some v =>
          obtain ⟨val, g1, g2, g3⟩ := y
          refine ⟨val, ?_, ?_, g3⟩
          · by_cases hpu : v.pure = true
            · exact Rep.move (fun a o e n => ⟨n, k a o (fun q => n (.inr q)) e⟩) hpu g1
            · cases v with
              | own b xs =>
                obtain ⟨r1, items, ⟨n, r2⟩, r3⟩ := g1
                exact ⟨r1, items, ⟨n, k b _ (fun q => hX b q (hw.muav b g3)) r2⟩, r3⟩
              | _ => exact absurd rfl hpu
          · by_cases hl' : p.2 = .loc
            · unfold At at g2 ⊢
              rw [hl'] at g2 ⊢; exact g2
            · obtain ⟨c, g5, oc, g6, g7⟩ := g2.of hl'
              exact At.mk' hl' ⟨c, g5, oc, k c oc (hcell p c hp hl' g5) g6, g7⟩
  exact main Φ.nm vs (fun _ h => h) h2


theorem St.turned (hw : WF w h₀ Φ) {X : Addr → Prop} {s : Shared} {h₁ : Heap} {tk : Nat} (x : St h₀ (Φ.more X) vs s) (k : ∀ b o, ¬ X b → s.heap.get? b = some o → h₁.get? b = some o) (hl : ∀ b, X b → ∃ o, h₁.get? b = some o)
    (hX : ∀ b, X b → ¬ Φ.av b) (hX0 : ∀ b, X b → h₀.get? b = none) : St h₀ (Φ.more X) vs { s with heap := h₁, toks := tk } where
  base := fun b o e => k b o (fun q => by rw [hX0 b q] at e; cases e) (x.base b o e)
  live := fun a ha => by
    rcases ha with ha | ha
    · obtain ⟨o, e⟩ := x.live a (.inl ha); exact ⟨o, k a o (fun q => hX a q ha) e⟩
    · exact hl a ha
  ns := St.turnedNs hw x k hX
theorem St.left (hw : WF w h₀ Φ) {X : Addr → Prop} {s : Shared} {h₁ : Heap} {tk : Nat} (x : St h₀ (Φ.more X) vs s) (k : ∀ b o, ¬ X b → s.heap.get? b = some o → h₁.get? b = some o)
    (hX : ∀ b, X b → ¬ Φ.av b) (hX0 : ∀ b, X b → h₀.get? b = none) : St h₀ Φ vs { s with heap := h₁, toks := tk } where
  base := fun b o e => k b o (fun q => by rw [hX0 b q] at e; cases e) (x.base b o e)
  live := fun a ha => by obtain ⟨o, e⟩ := x.live a (.inl ha); exact ⟨o, k a o (fun q => hX a q ha) e⟩
  ns := by obtain ⟨mc, h1, h2⟩ := St.turnedNs hw x k hX; exact ⟨mc, h1, pairedMono h2 fun _ _ y => VOK.less y⟩

noncomputable def loopR (J : List (Option Vl) → Prop) (R : Out → Prop) : Out → Prop
  | .nxt vs' => J vs'
  | .brk vs' => R (.nxt vs')
  | .ret v => R (.ret v)

theorem ExS.forL (hw : WF w h₀ Φ) (i : Nat) {x : Str} {kx : VK} {iter items body orelse px pos} {R : Out → Prop} (hx : Φ.nm[i]? = some (x, kx)) (hk : kx ≠ .fre)
    (hit : ItP w h₀ Φ vs iter items) (J : Nat → List (Option Vl) → Prop) (h0 : J 0 vs)
    (step : ∀ j item vs' X, items[j]? = some item → J j vs' → WF w h₀ (Φ.more X) → ExP w h₀ (Φ.more X) (vs'.set i (some (.sc item))) body (loopR (J (j + 1)) R))
    (done : ∀ vs', J items.length vs' → ExP w h₀ Φ vs' orelse R)
    (hfs : ∀ x, foldedSetIterable iter Φ.env x = pure x := by intro _; rfl) : ExS w h₀ Φ vs (.For (.Name x px) iter body orelse pos) R := by
  intro s hst
  refine wpAny_For (wpAny_mono (hit s hst) (fun xv s₁ h1 => wpAny_mono h1 (fun it s₂ h2 => ?_) fun _ _ x => x.elim) fun _ _ x => x) hfs
  obtain ⟨kp, I, fp, wr, P, St', rfl, W, hst0, _, hP, hwr, hfp, hlive⟩ := h2
  let X : Addr → Prop := fun b => b ∈ wr
  have hw' := hw.more X
  have hX0 : ∀ b, X b → h₀.get? b = none := fun b hb => h0None hst (hwr b hb)
  have hXav : ∀ b, X b → ¬ Φ.av b := fun b hb => hfp b (W.sub b hb)
  refine codeAny_forLoop (fun k s' => ∃ j vs', KB Φ.mu s s' ∧ St h₀ (Φ.more X) vs' s' ∧ J j vs' ∧ St' j s'.heap ∧ j ≤ items.length ∧ k = items.length + 1 - j) ?_ (items.length + 1)
    ⟨0, vs, kp.kb, St.enter hst kp hwr (fun b hb => hlive 0 _ hst0 b hb), h0, hst0, Nat.zero_le _, rfl⟩
  rintro k s' ⟨j, vs', kb, hs', hJ, hst', hj, rfl⟩
  have kbwr : ∀ (h₁ : Heap) (tk : Nat), (∀ b o, b ∉ wr → s'.heap.get? b = some o → h₁.get? b = some o) → KB Φ.mu s { s' with heap := h₁, toks := tk } := fun h₁ tk hk₁ => by
    obtain ⟨h', tk', rfl, k'⟩ := kb
    exact ⟨h₁, tk, rfl, fun b o n e => hk₁ b o (fun q => by rw [hwr b q] at e; cases e) (k' b o n e)⟩
  by_cases hlt : j < items.length
  · refine W.item j _ _ _ hlt hst' fun v h₁ tk₁ hPv hst₁ hk₁ => ?_
    obtain ⟨item, hitem, hsr⟩ := hP j v hPv
    have hs₁ : St h₀ (Φ.more X) vs' { s' with heap := h₁, toks := tk₁ } := St.turned hw hs' hk₁ (fun b hb => hlive (j + 1) _ hst₁ b hb) hXav hX0
    have kb₁ := kbwr h₁ tk₁ hk₁
    refine PyProof.Rows.assign_Name (storeP (Φ := Φ.more X) hw' hx hk hs₁ (v := .sc item) hsr trivial fun s₂' k2 hs₂ => ?_)
    refine wpAny_mono (step j item vs' X hitem hJ hw' s₂' hs₂) (fun fl s₃ h3 => ?_) fun _ _ x => x.elim
    obtain ⟨k3, o, ho, hf⟩ := h3
    have kb3 : KB Φ.mu s s₃ := (kb₁.trans k2).trans k3
    cases o with
    | nxt vs'' =>
      obtain ⟨rfl, hs₃⟩ := hf
      refine ⟨items.length + 1 - (j + 1), by (first | exact om24 hlt | omega), j + 1, vs'', kb3, hs₃, ho, ?_, hlt, rfl⟩
      exact W.frame _ _ _ hst₁ fun b hb o e => k3.heap b o (fun q => hfp b hb (hw.muav b q)) (k2.heap b o (fun q => hfp b hb (hw.muav b q)) e)
    | brk vs'' =>
      obtain ⟨rfl, hs₃⟩ := hf
      exact ⟨kb3, _, ho, rfl, hs₃.less⟩
    | ret v =>
      obtain ⟨val, rfl, hv⟩ := hf
      exact ⟨kb3, _, ho, val, rfl, hv⟩
  · have hin : j = items.length := by (first | exact om25 hlt hj | omega)
    subst hin
    refine W.done _ _ _ hst' fun h₁ tk₁ hk₁ => ?_
    have hs₁ : St h₀ Φ vs' { s' with heap := h₁, toks := tk₁ } := St.left hw hs' hk₁ hXav hX0
    refine wpAny_mono (done vs' hJ _ hs₁) (fun fl s₃ h3 => ?_) fun _ _ x => x.elim
    exact ⟨(kbwr h₁ tk₁ hk₁).trans h3.1, h3.2⟩
end
end Mine

namespace Mine

/-! a source of turns -/
structure Tn (w : World) (A : Around) (it : Value) (target : Expr) (n : Nat) (X : Addr → Prop) (fp : List Addr) (St' : Nat → Heap → Prop) (V : Nat → Value → Heap → Prop) : Prop where
  item : ∀ i (s : Shared) (Q : Value → Shared → Prop), i < n → St' i s.heap →
    (∀ v h' tk, V i v h' → St' (i + 1) h' → (∀ b o, ¬ X b → s.heap.get? b = some o → h'.get? b = some o) → Q v { s with heap := h', toks := tk }) →
    wpAny (MD w) A (pyNext it) (fun r s₁ => ∃ v, r = some v ∧ wpAny (MD w) A (letOwnedTupleGo target it v) (fun _ s₂ => Q v s₂) NoE s₁) NoE s
  done : ∀ (s : Shared) (Q : Shared → Prop), St' n s.heap → (∀ h' tk, (∀ b o, ¬ X b → s.heap.get? b = some o → h'.get? b = some o) → Q { s with heap := h', toks := tk }) →
    wpAny (MD w) A (pyNext it) (fun r s₁ => r = none ∧ Q s₁) NoE s
  self : ∀ i (s : Shared) (Q : Value → Shared → Prop) E, St' i s.heap → Q it s → wpAny (MD w) A (pyIter it) Q E s
  frame : ∀ i h h', St' i h → (∀ b ∈ fp, ∀ o, h.get? b = some o → h'.get? b = some o) → St' i h'
  sub : ∀ b, X b → b ∈ fp
  live : ∀ i h, St' i h → ∀ b, X b → ∃ o, h.get? b = some o

noncomputable def VN (items : List Sc) (i : Nat) (v : Value) (_ : Heap) : Prop := ∃ x, items[i]? = some x ∧ SR x v
noncomputable def VP (items : List Sc) (i : Nat) (v : Value) (h : Heap) : Prop := ∃ x T vals, items[i]? = some x ∧ v = .ref T ∧ h.IsTuple T vals ∧ Paired SR [.int i, x] vals.toList

noncomputable def ItX (w : World) (h₀ : Heap) (Φ : Fm) (vs : List (Option Vl)) (iter target : Expr) (n : Nat) (V : Nat → Value → Heap → Prop) : Prop :=
  ∀ s, St h₀ Φ vs s → wpAny (MD w) Φ.A (eval iter Φ.env) (fun xv s₁ => wpAny (MD w) Φ.A (pyIter xv) (fun it s₂ => Kp s s₂ ∧ ∃ X fp St', Tn w Φ.A it target n X fp St' V ∧ St' 0 s₂.heap ∧ (∀ b ∈ fp, b < s₂.heap.objs.size ∧ ¬ Φ.av b) ∧
    (∀ b, X b → s.heap.get? b = none)) NoE s₁) NoE s

section
variable {w : World} {h₀ : Heap} {Φ : Fm} {vs : List (Option Vl)}

theorem ItX.name {iter items x px} (h : ItP w h₀ Φ vs iter items) : ItX w h₀ Φ vs iter (.Name x px) items.length (VN items) := by
  intro s hs
  refine wpAny_mono (h s hs) (fun xv s₁ h1 => wpAny_mono h1 (fun it s₂ h2 => ?_) fun _ _ x => x) fun _ _ x => x
  obtain ⟨kp, I, fp, wr, P, St', rfl, W, hst0, hlt, hP, hwr, hfp, hlive⟩ := h2
  refine ⟨kp, fun b => b ∈ wr, fp, St', ⟨?_, ?_, ?_, W.frame, W.sub, hlive⟩, hst0, fun b hb => ⟨hlt b hb, hfp b hb⟩, hwr⟩
  · intro i s Q hi hst hQ
    refine W.item i s _ _ hi hst fun v h' tk hPv hst' hk => ⟨v, rfl, ?_⟩
    exact wpAny_of_eq (a := ()) rfl (hQ v h' tk (hP i v hPv) hst' hk)
  · intro s Q hst hQ
    exact W.done s _ _ hst fun h' tk hk => ⟨rfl, hQ h' tk hk⟩
  · exact fun i s Q E hst hQ => W.self i s Q E hst hQ

noncomputable def AssignP (w : World) (h₀ : Heap) (Φ : Fm) (target : Expr) (V : Nat → Value → Heap → Prop) (upd : Nat → List (Option Vl) → List (Option Vl)) : Prop :=
  ∀ i v s vs (Q : Shared → Prop), St h₀ Φ vs s → V i v s.heap → (∀ s', KB Φ.mu s s' → St h₀ Φ (upd i vs) s' → Q s') → wpAny (MD w) Φ.A (assign target Φ.env v) (fun _ s' => Q s') NoE s

theorem AssignP.name (hw : WF w h₀ Φ) {items : List Sc} (k : Nat) {x kx px} (hx : Φ.nm[k]? = some (x, kx)) (hk : kx ≠ .fre) :
    AssignP w h₀ Φ (.Name x px) (VN items) (fun i vs => vs.set k ((items[i]?).map .sc)) := by
  intro i v s vs Q hs q_1 hQ
  obtain ⟨y, hy, hv⟩ := q_1
  refine PyProof.Rows.assign_Name (storeP hw hx hk hs (v := .sc y) hv trivial fun s' k hs' => hQ s' k ?_)
  dsimp only; rw [hy]; exact hs'

theorem AssignP.pair (hw : WF w h₀ Φ) {items : List Sc} (k l : Nat) {x kx px y ky py tk tp} (hx : Φ.nm[k]? = some (x, kx)) (hk : kx ≠ .fre) (hy : Φ.nm[l]? = some (y, ky)) (hl : ky ≠ .fre) :
    AssignP w h₀ Φ (.Tuple [.Name x px, .Name y py] tk tp) (VP items) (fun i vs => (vs.set k (some (iV i))).set l ((items[i]?).map .sc)) := by
  intro i v s vs Q hs q_1 hQ
  obtain ⟨z, T, vals, hz, hv, hT, hp⟩ := q_1
  subst hv
  have hT' : IsTup s.heap T vals := hT
  have hh : Φ.A.handled = none := hw.room.1
  have hsz : vals.size = 2 := by have := Paired.length hp; simp at this; (first | exact om15 this | omega)
  refine assign_Tuple_tuple hh hT' (by rw [hsz]; rfl) rfl fun h' hext => ?_
  have k2 := extKp hext
  have hs₂ := hs.kept k2
  generalize vals.toList = its at hp ⊢
  cases hp with | cons ha hp => cases hp with | cons hb hp =>
  cases hp
  refine assignInOrder_cons (PyProof.Rows.assign_Name (storeP hw hx hk hs₂ (v := iV i) ha trivial fun s₃ k3 hs₃ => ?_))
  refine assignInOrder_cons (PyProof.Rows.assign_Name (storeP hw hy hl hs₃ (v := .sc z) hb trivial fun s₄ k4 hs₄ => ?_))
  refine assignInOrder_nil (hQ _ ((k2.kb.trans k3).trans k4) ?_)
  dsimp only; rw [hz]; exact hs₄

/-! the list that a block makes -/
noncomputable def AccL (h : Heap) (D : Addr) (zs : List Sc) : Prop := ∃ ys, h.PlainList D ys ∧ Paired SR zs ys.toList

noncomputable def KD (Φ : Fm) (D : Addr) (s s' : Shared) : Prop := KB (fun b => Φ.mu b ∨ b = D) s s'
theorem KB.kd {Φ : Fm} {D s s'} (x : KB Φ.mu s s') : KD Φ D s s' := x.mono fun _ _ _ q => .inl q
theorem KD.trans {Φ : Fm} {D s s' s''} (x : KD Φ D s s') (y : KD Φ D s' s'') : KD Φ D s s'' := KB.trans x y

noncomputable def AccP (w : World) (h₀ : Heap) (Φ : Fm) (D : Addr) (vs : List (Option Vl)) (zs : List Sc) (m : Sem Unit) (J : List (Option Vl) → List Sc → Prop) : Prop :=
  ∀ s, St h₀ Φ vs s → AccL s.heap D zs → wpAny (MD w) Φ.A m (fun _ s' => KD Φ D s s' ∧ ∃ vs' zs', J vs' zs' ∧ St h₀ Φ vs' s' ∧ AccL s'.heap D zs') NoE s

/-- the list alone has grown -/
theorem St.grown (hw : WF w h₀ Φ) {D : Addr} (hD : Φ.av D) (hDm : ¬ Φ.mu D) (hD0 : h₀.get? D = none) (hp : vs.all (fun o => o.all Vl.pure) = true) {s : Shared} {h' : Heap} {tk : Nat} (x : St h₀ Φ vs s) {ys : Array Value} (hl : s.heap.PlainList D ys)
    (hl' : ∃ o, h'.get? D = some o) (keep : ∀ b o, b ≠ D → s.heap.get? b = some o → h'.get? b = some o) : St h₀ Φ vs { s with heap := h', toks := tk } := by
  obtain ⟨n, hDo⟩ := hl
  refine ⟨fun b o e => keep b o (fun q => by rw [q, hD0] at e; cases e) (x.base b o e), fun a ha => ?_, ?_⟩
  · by_cases q : a = D
    · rw [q]; exact hl'
    · obtain ⟨o, e⟩ := x.live a ha; exact ⟨o, keep a o q e⟩
  · obtain ⟨mc, h1, h2⟩ := x.ns
    have hL : Φ.env.locals ≠ D := fun q => hDm (q ▸ hw.loc)
    refine ⟨mc, Heap.Ns.at' h1 fun o e => keep _ o hL e, ?_⟩
    have cellNe : ∀ c v, s.heap.IsCell c v → c ≠ D := fun c v q_1 q => by obtain ⟨o, e, d⟩ := q_1; subst q; rw [hDo] at e; cases e; cases d
    have main : ∀ (nm : List (Str × VK)) (vs : List (Option Vl)), vs.all (fun o => o.all Vl.pure) = true → Paired (VOK Φ mc s.heap) nm vs → Paired (VOK Φ mc h') nm vs := by
      intro nm
      induction nm with
      | nil => intro vs _ h; cases h; exact .nil
      | cons p nm ih =>
        intro vs hp h
        cases h with
        | cons y t =>
          rename_i ov _
          simp only [List.all_cons, Bool.and_eq_true] at hp
          refine .cons ?_ (ih _ hp.2 t)
          cases ov with
          | none =>
            intro e
            obtain ⟨c, v₀, g1, g2⟩ := y e
            exact ⟨c, v₀, g1, by obtain ⟨oc, g3, g4⟩ := id g2; exact ⟨oc, keep c oc (cellNe _ _ g2) g3, g4⟩⟩
          | some v =>
            obtain ⟨val, g1, g2, g3⟩ := y
            refine ⟨val, Rep.move (fun a o e n => ⟨n, keep a o (fun q => n (q ▸ hD)) e⟩) (by simpa using hp.1) g1, ?_, g3⟩
            by_cases hl' : p.2 = .loc
            · unfold At at g2 ⊢
              rw [hl'] at g2 ⊢; exact g2
            · obtain ⟨c, g5, g6⟩ := g2.of hl'
              exact At.mk' hl' ⟨c, g5, by obtain ⟨oc, g3, g4⟩ := id g6; exact ⟨oc, keep c oc (cellNe _ _ g6) g3, g4⟩⟩
    exact main Φ.nm vs hp h2

theorem AccL.keeps {h h' : Heap} {D zs} (x : AccL h D zs) (k : ∀ o, h.get? D = some o → h'.get? D = some o) : AccL h' D zs := by obtain ⟨ys, a, b⟩ := x; exact ⟨ys, a.at k, b⟩

/-- the block's one value more -/
theorem AccP.emit (hw : WF w h₀ Φ) {D : Addr} (hD : Φ.av D) (hDm : ¬ Φ.mu D) (hD0 : h₀.get? D = none) {zs : List Sc} {elt : Expr} {x : Sc} {J : List (Option Vl) → List Sc → Prop} (hp : vs.all (fun o => o.all Vl.pure) = true)
    (he : EvP w h₀ Φ vs elt (.sc x)) (hz : zs.length ≤ 1000) (hJ : J vs (zs ++ [x])) :
    AccP w h₀ Φ D vs zs (do let _ ← call (.builtin "list.append") [.ref D, ← eval elt Φ.env]) J := by
  intro s hs q_1
  obtain ⟨ys, hl, hpr⟩ := q_1
  refine wpAny_bind (wpAny_mono (he s hs) (fun v s₁ h1 => ?_) fun _ _ x => x)
  obtain ⟨k1, hv⟩ := h1
  have hs₁ := hs.kept k1
  have hl₁ : s₁.heap.PlainList D ys := hl.at fun o e => k1.heap D o e
  have hys : ys.size ≤ sizeLine := by
    have := Paired.length hpr
    rw [sizeLine_eq]
    simp at this; (first | exact om6 this hz | omega)
  refine wpAny_bind (wpAny_list_append_plain (hsz := hys) hl₁ fun h' hl' hsb => wpAny_pure ?_)
  have kd : KD Φ D s₁ { s₁ with heap := h' } := ⟨h', s₁.toks, rfl, fun b o n e => hsb.extBut b o (fun q => n (.inr q)) e⟩
  refine ⟨(k1.kb.kd (Φ := Φ) (D := D)).trans kd, vs, _, hJ, St.grown hw hD hDm hD0 hp hs₁ hl₁ (by obtain ⟨n, e⟩ := hl'; exact ⟨_, e⟩) hsb.extBut, _, hl', ?_⟩
  rw [Array.toList_push]
  exact Paired.snoc hpr hv

/-! tests -/
noncomputable def TsP (w : World) (h₀ : Heap) (Φ : Fm) (vs : List (Option Vl)) (ifs : List Expr) (b : Bool) : Prop :=
  ∀ s, St h₀ Φ vs s → wpAny (MD w) Φ.A (forIn ifs true fun c r => if r = true then do let ok ← isTrue c Φ.env (eval c Φ.env); pure (ForInStep.yield ok) else pure (ForInStep.yield r)) (fun b' s' => Kp s s' ∧ b' = b) NoE s
theorem TsP.nil : TsP w h₀ Φ vs [] true := fun s _ => wpAny_tests_nil ⟨Kp.refl s, rfl⟩
theorem TsP.one {c b} (h : TrP w h₀ Φ vs c b) : TsP w h₀ Φ vs [c] b := fun s hs => wpAny_tests_one (h s hs)

/-! the loop -/
noncomputable def LoopEnd (h₀ : Heap) (Φ : Fm) (D : Addr) (X : Addr → Prop) (J : List (Option Vl) → List Sc → Prop) (s : Shared) (r : Result) (s' : Shared) : Prop :=
  r = .ok .next ∧ KB (fun b => Φ.mu b ∨ b = D ∨ X b) s s' ∧ ∃ vs' zs', J vs' zs' ∧ St h₀ Φ vs' s' ∧ AccL s'.heap D zs'

theorem compLoopP (hw : WF w h₀ Φ) {elt : Expr} {gens : List Comprehension} {scope : Scope} {epos : Pos} {dep n : Nat} {it : Value} {target : Expr} {pos : Pos} {D : Addr} {X : Addr → Prop} {fp : List Addr} {St' : Nat → Heap → Prop} {V : Nat → Value → Heap → Prop}
    (hD : Φ.av D) (hDmu : ¬ Φ.mu D) (T : Tn w Φ.A it target n X fp St' V) (hfp : ∀ b ∈ fp, ¬ Φ.av b) (hX0 : ∀ b, X b → h₀.get? b = none) (upd : Nat → List (Option Vl) → List (Option Vl)) (hassign : AssignP w h₀ (Φ.more X) target V upd) (test : Sem Bool) (rest : Sem Unit)
    (hturn : compTurn (.ListComp elt gens scope epos) dep it (.ref D) Φ.env = (standAt pos >>= fun _ => pyNext it >>= fun r => match r with
      | none => pure (.done .next)
      | some v => letOwnedTupleGo target it v >>= fun _ => assign target Φ.env v >>= fun _ => test >>= fun ok => if ok = true then rest >>= fun _ => again (.compLoop (.ListComp elt gens scope epos) dep it (.ref D) Φ.env) else again (.compLoop (.ListComp elt gens scope epos) dep it (.ref D) Φ.env)))
    (J : Nat → List (Option Vl) → List Sc → Prop)
    (step : ∀ j vs' zs', j < n → J j vs' zs' → WF w h₀ (Φ.more X) → ∃ b, (∀ s, St h₀ (Φ.more X) (upd j vs') s → wpAny (MD w) Φ.A test (fun b' s' => Kp s s' ∧ b' = b) NoE s) ∧
      (b = true → AccP w h₀ (Φ.more X) D (upd j vs') zs' rest (J (j + 1))) ∧ (b = false → J (j + 1) (upd j vs') zs'))
    (s : Shared) {zs : List Sc} (hs : St h₀ (Φ.more X) vs s) (hst : St' 0 s.heap) (hJ : J 0 vs zs) (hacc : AccL s.heap D zs) :
    codeAny (MD w) Φ.A (.compLoop (.ListComp elt gens scope epos) dep it (.ref D) Φ.env) (LoopEnd h₀ Φ D X (J n) s) s := by
  have hXav : ∀ b, X b → ¬ Φ.av b := fun b hb => hfp b (T.sub b hb)
  have hw' := hw.more X
  refine codeAny_loop rfl (fun k s' => ∃ j vs' zs', KB (fun b => Φ.mu b ∨ b = D ∨ X b) s s' ∧ St h₀ (Φ.more X) vs' s' ∧ J j vs' zs' ∧ St' j s'.heap ∧ AccL s'.heap D zs' ∧ j ≤ n ∧ k = n + 1 - j) ?_ (n + 1)
    ⟨0, vs, zs, KB.refl _ s, hs, hJ, hst, hacc, Nat.zero_le _, rfl⟩
  rintro k s' ⟨j, vs', zs', kb, hs', hJ, hst', hacc', hj, rfl⟩
  show wpAny _ Φ.A ((compTurn (.ListComp elt gens scope epos) dep it (.ref D) Φ.env).onRaise (fun x => do noteFrame x Φ.env; theTreesLotGoes x)) _ _ s'
  refine wpAny_noted ?_
  rw [hturn]
  refine wpAny_bind (wpAny_standAt (wpAny_bind ?_))
  by_cases hlt : j < n
  · refine wpAny_mono (T.item j s' (fun v s₂ => ∃ h₁ tk, s₂ = { s' with heap := h₁, toks := tk } ∧ V j v h₁ ∧ St' (j + 1) h₁ ∧ ∀ b o, ¬ X b → s'.heap.get? b = some o → h₁.get? b = some o) hlt hst' fun v h₁ tk hV hst₁ hk₁ => ⟨h₁, tk, rfl, hV, hst₁, hk₁⟩)
      (fun r s₁ h1 => ?_) fun _ _ x => x.elim
    obtain ⟨v, rfl, h1⟩ := h1
    refine wpAny_bind (wpAny_mono h1 (fun _ s₁' h1' => ?_) fun _ _ x => x.elim)
    obtain ⟨h₁, tk, rfl, hV, hst₁, hk₁⟩ := h1'
    have hs₁ : St h₀ (Φ.more X) vs' { s' with heap := h₁, toks := tk } := St.turned hw hs' hk₁ (fun b hb => T.live (j + 1) _ hst₁ b hb) hXav hX0
    have kb₁ : KB (fun b => Φ.mu b ∨ b = D ∨ X b) s' { s' with heap := h₁, toks := tk } := ⟨h₁, tk, rfl, fun b o n e => hk₁ b o (fun q => n (.inr (.inr q))) e⟩
    have hacc₁ : AccL h₁ D zs' := hacc'.keeps fun o e => hk₁ D o (fun q => hXav D q hD) e
    obtain ⟨b, ht, hb1, hb0⟩ := step j vs' zs' hlt hJ hw'
    refine wpAny_bind (wpAny_mono (hassign j v _ vs' (fun s₂ => KB (Φ.more X).mu { s' with heap := h₁, toks := tk } s₂ ∧ St h₀ (Φ.more X) (upd j vs') s₂) hs₁ hV fun s₂ a b => ⟨a, b⟩) (fun _ s₂ h2 => ?_) fun _ _ x => x.elim)
    obtain ⟨k2, hs₂⟩ := h2
    have hDm : ∀ b, Φ.mu b → b ∉ fp := fun b hb q => hfp b q (hw.muav b hb)
    have kb₂ : KB (fun b => Φ.mu b ∨ b = D ∨ X b) { s' with heap := h₁, toks := tk } s₂ := KB.mono k2 fun _ _ _ q => .inl q
    have hst₂ : St' (j + 1) s₂.heap := T.frame _ _ _ hst₁ fun b hb o e => k2.heap b o (fun q => hDm b q hb) e
    have hacc₂ : AccL s₂.heap D zs' := hacc₁.keeps fun o e => k2.heap D o hDmu e
    refine wpAny_bind (wpAny_mono (ht s₂ hs₂) (fun b' s₃ h3 => ?_) fun _ _ x => x.elim)
    obtain ⟨k3, rfl⟩ := h3
    have hs₃ := hs₂.kept k3
    have hst₃ : St' (j + 1) s₃.heap := T.frame _ _ _ hst₂ fun b _ o e => k3.heap b o e
    have hacc₃ : AccL s₃.heap D zs' := hacc₂.keeps fun o e => k3.heap D o e
    have kb₃ : KB (fun b => Φ.mu b ∨ b = D ∨ X b) s s₃ := ((kb.trans kb₁).trans kb₂).trans k3.kb
    cases b' with
    | false =>
      exact wpAny_pure ⟨rfl, n + 1 - (j + 1), by (first | exact om24 hlt | omega), j + 1, _, _, kb₃, hs₃, hb0 rfl, hst₃, hacc₃, hlt, rfl⟩
    | true =>
      refine wpAny_bind (wpAny_mono (hb1 rfl s₃ hs₃ hacc₃) (fun _ s₄ h4 => ?_) fun _ _ x => x.elim)
      obtain ⟨k4, vs₄, zs₄, hJ₄, hs₄, hacc₄⟩ := h4
      have hst₄ : St' (j + 1) s₄.heap := T.frame _ _ _ hst₃ fun b hb o e => KB.heap k4 b o (fun q => q.elim (fun q => hDm b q hb) fun q => hfp b hb (q ▸ hD)) e
      exact wpAny_pure ⟨rfl, n + 1 - (j + 1), by (first | exact om24 hlt | omega), j + 1, _, _, kb₃.trans (KB.mono k4 fun _ _ _ q => q.imp id .inl), hs₄, hJ₄, hst₄, hacc₄, hlt, rfl⟩
  · have hin : j = n := by (first | exact om25 hlt hj | omega)
    subst hin
    refine wpAny_mono (T.done s' (fun s₂ => ∃ h₁ tk, s₂ = { s' with heap := h₁, toks := tk } ∧ ∀ b o, ¬ X b → s'.heap.get? b = some o → h₁.get? b = some o) hst' fun h₁ tk hk₁ => ⟨h₁, tk, rfl, hk₁⟩) (fun r s₁ h1 => ?_) fun _ _ x => x.elim
    obtain ⟨rfl, h₁, tk, rfl, hk₁⟩ := h1
    have hs₁ : St h₀ Φ vs' { s' with heap := h₁, toks := tk } := St.left hw hs' hk₁ hXav hX0
    exact wpAny_pure ⟨rfl, kb.trans ⟨h₁, tk, rfl, fun b o n e => hk₁ b o (fun q => n (.inr (.inr q))) e⟩, vs', zs', hJ, hs₁, hacc'.keeps fun o e => hk₁ D o (fun q => hXav D q hD) e⟩
end
end Mine

namespace Mine

noncomputable def capsOf (cells : List (Str × Addr)) : List (Str × NameKind) → List (Str × Addr) → List (Str × Addr)
  | [], acc => acc
  | (n, k) :: r, acc => if k == .free then capsOf cells r ((n, (cells.lookup n).getD 0) :: acc) else capsOf cells r acc

theorem capsOf_c {cells : List (Str × Addr)} {n : Str} {k : NameKind} {r : List (Str × NameKind)} {acc : List (Str × Addr)} : capsOf cells ((n, k) :: r) acc = if k == .free then capsOf cells r ((n, (cells.lookup n).getD 0) :: acc) else capsOf cells r acc := rfl
theorem capsOf_mem {cells : List (Str × Addr)} : ∀ {names : List (Str × NameKind)} {acc : List (Str × Addr)} {x : Str} {c : Addr}, (∀ p ∈ names, p.2 = .free → (cells.lookup p.1).isSome = true) → (x, c) ∈ capsOf cells names acc →
    (x, c) ∈ acc ∨ (cells.lookup x = some c ∧ (x, NameKind.free) ∈ names) := by
  intro names
  induction names with
  | nil => intro _ _ _ _ h; exact .inl h
  | cons p r ih =>
    intro acc x c hf h
    obtain ⟨n, k⟩ := p
    rw [capsOf_c] at h
    split at h
    · rename_i hk
      have hk' : k = .free := by simpa using hk
      rcases ih (fun p hp => hf p (List.mem_cons_of_mem _ hp)) h with h1 | h1
      · rcases List.mem_cons.mp h1 with e | h1
        · cases e
          obtain ⟨a, ha⟩ := Option.isSome_iff_exists.mp (hf (x, k) List.mem_cons_self hk')
          right
          refine ⟨by rw [show List.lookup x cells = some a from ha]; rfl, by rw [hk']; exact List.mem_cons_self⟩
        · exact .inl h1
      · exact .inr ⟨h1.1, List.mem_cons_of_mem _ h1.2⟩
    · rcases ih (fun p hp => hf p (List.mem_cons_of_mem _ hp)) h with h1 | h1
      · exact .inl h1
      · exact .inr ⟨h1.1, List.mem_cons_of_mem _ h1.2⟩

theorem capsOf_acc {cells : List (Str × Addr)} : ∀ {names : List (Str × NameKind)} {acc : List (Str × Addr)} {p : Str × Addr}, p ∈ acc → p ∈ capsOf cells names acc
  | [], _, _, h => h
  | (n, k) :: r, acc, p, h => by
    rw [capsOf_c]
    split
    · exact capsOf_acc (List.mem_cons_of_mem _ h)
    · exact capsOf_acc h
theorem capsOf_has {cells : List (Str × Addr)} : ∀ {names : List (Str × NameKind)} {acc : List (Str × Addr)} {x : Str}, (x, NameKind.free) ∈ names → ∃ c, (x, c) ∈ capsOf cells names acc := by
  intro names
  induction names with
  | nil => intro _ _ h; cases h
  | cons p r ih =>
    intro acc x h
    obtain ⟨n, k⟩ := p
    rw [capsOf_c]
    rcases List.mem_cons.mp h with e | h
    · cases e
      rw [if_pos (show (NameKind.free == NameKind.free) = true from rfl)]
      exact ⟨_, capsOf_acc List.mem_cons_self⟩
    · split
      · exact ih h
      · exact ih h

theorem lookup_of_mem {α : Type} : ∀ {l : List (Str × α)} {x : Str} {c : α}, (x, c) ∈ l → ∃ c', l.lookup x = some c' ∧ (x, c') ∈ l := by
  intro l
  induction l with
  | nil => intro _ _ h; cases h
  | cons p r ih =>
    intro x c h
    obtain ⟨k, v⟩ := p
    rw [List.lookup_cons]
    cases hb : x == k with
    | true => rw [← beq_iff_eq.mp hb]; exact ⟨v, rfl, List.mem_cons_self⟩
    | false =>
      rcases List.mem_cons.mp h with e | h
      · cases e; simp at hb
      · obtain ⟨c', h1, h2⟩ := ih h
        exact ⟨c', h1, List.mem_cons_of_mem _ h2⟩

theorem closureFor_caps {scope : Scope} {env : Env} (hf : ∀ p ∈ scope.names, p.2 = .free → (env.cells.lookup p.1).isSome = true) : closureFor scope env = pure (capsOf env.cells scope.names []) := by
  have main : ∀ (f : Str × NameKind → List (Str × Addr) → Sem (ForInStep (List (Str × Addr)))) (_ : ∀ name kind cs, f (name, kind) cs = if (kind == NameKind.free) = true then (do let a ← cellOf env name; pure (ForInStep.yield ((name, a) :: cs))) else pure (ForInStep.yield cs))
      (names : List (Str × NameKind)) (acc : List (Str × Addr)), (∀ p ∈ names, p.2 = .free → (env.cells.lookup p.1).isSome = true) → forIn names acc f = pure (capsOf env.cells names acc) := by
    intro f hfeq names
    induction names with
    | nil => intro acc _; rw [List.forIn_nil]; rfl
    | cons p r ih =>
      intro acc hf
      obtain ⟨n, k⟩ := p
      rw [List.forIn_cons, hfeq]
      rw [capsOf_c]
      split
      · rename_i hk
        have hk' : k = .free := by simpa using hk
        obtain ⟨a, ha⟩ := Option.isSome_iff_exists.mp (hf (n, k) List.mem_cons_self hk')
        have hc : cellOf env n = pure a := by unfold cellOf; rw [show List.lookup n env.cells = some a from ha]
        rw [hc, show List.lookup n env.cells = some a from ha]
        show forIn r ((n, a) :: acc) f = _
        rw [ih _ fun p hp => hf p (List.mem_cons_of_mem _ hp)]; rfl
      · show forIn r acc f = _
        rw [ih _ fun p hp => hf p (List.mem_cons_of_mem _ hp)]
  simp only [closureFor]
  rw [main _ (fun name kind cs => rfl) scope.names [] hf]
  rfl

theorem cellsFrom_append : ∀ (names : List (Str × NameKind)) (n : Nat) (acc : List (Str × Addr)), cellsFrom n names acc = cellsFrom n names [] ++ acc
  | [], _, _ => rfl
  | (x, k) :: r, n, acc => by
    unfold cellsFrom
    split
    · rw [cellsFrom_append r (n + 1) ((x, n) :: acc), cellsFrom_append r (n + 1) [(x, n)], List.append_assoc]; rfl
    · exact cellsFrom_append r n acc
theorem cellsFrom_mem : ∀ {names : List (Str × NameKind)} {n : Nat} {x : Str} {c : Addr}, (x, c) ∈ cellsFrom n names [] → n ≤ c ∧ (x, NameKind.cell) ∈ names
  | [], _, _, _, h => (nomatch h)
  | (y, k) :: r, n, x, c, h => by
    unfold cellsFrom at h
    split at h
    · rename_i hk
      have hk' : k = .cell := by simpa using hk
      rw [cellsFrom_append] at h
      rcases List.mem_append.mp h with h | h
      · have := cellsFrom_mem h; exact ⟨by omega, List.mem_cons_of_mem _ this.2⟩
      · rcases List.mem_cons.mp h with e | h
        · cases e; exact ⟨Nat.le_refl _, by rw [hk']; exact List.mem_cons_self⟩
        · cases h
    · have := cellsFrom_mem h; exact ⟨this.1, List.mem_cons_of_mem _ this.2⟩

theorem lookup_append {α : Type} {x : Str} : ∀ {l l' : List (Str × α)}, (l ++ l').lookup x = (l.lookup x).or (l'.lookup x)
  | [], _ => by simp
  | (k, v) :: r, l' => by
    rw [List.cons_append, List.lookup_cons, List.lookup_cons]
    cases x == k with
    | true => simp
    | false => exact lookup_append

noncomputable def compCells (scope : Scope) (C : Addr) (env : Env) : List (Str × Addr) := cellsFrom (C + 1) scope.names [] ++ capsOf env.cells scope.names []

noncomputable def compFm (scope : Scope) (C D : Addr) (Φ : Fm) (nm : List (Str × VK)) : Fm where
  env := compEnvC scope (compCells scope C Φ.env) C Φ.env
  A := Φ.A
  d := Φ.d
  av := fun a => Φ.av a ∨ a = D ∨ a = C ∨ ∃ x, (x, a) ∈ cellsFrom (C + 1) scope.names []
  mu := fun a => a = C ∨ ∃ x, (x, a) ∈ cellsFrom (C + 1) scope.names []
  rv := Φ.av
  nm := nm

noncomputable def compOK (scope : Scope) (cap : List Str) (lv : List (Str × VK)) : Bool :=
  (lv.all fun p => (match p.2 with
    | .loc => scope.names.lookup p.1 == some .local
    | .cel => scope.names.lookup p.1 == some .cell
    | .fre => false) && !(p.1 == ("__debug__" : Str)) && !(p.1 == ("__classdict__" : Str))) &&
  (cap.all fun x => scope.names.lookup x == some .free && !(scope.names.any fun p => p.1 == x && p.2 == .cell) && !(x == ("__debug__" : Str)) && !(x == ("__classdict__" : Str))) &&
  (scope.names.all fun p => p.2 != .free || cap.any (· == p.1)) &&
  (scope.names.all fun p => p.2 != .local || scope.names.lookup p.1 == some .local) && scope.kind == .function

theorem relabel_lookup {scope : Scope} {env : Env} {x : Str} (k : NameKind) (hk : scope.names.lookup x = some k) : (relabel scope env).names.lookup x = some (if (k == .free && env.scope.kind == .function && env.kindOf x == some .cell) = true then .cell else k) := by
  show (scope.names.map _).lookup x = _
  generalize scope.names = names at hk
  induction names with
  | nil => simp at hk
  | cons p r ih =>
    obtain ⟨n, k'⟩ := p
    rw [List.lookup_cons] at hk
    rw [List.map_cons]
    dsimp only
    cases hb : x == n with
    | true =>
      rw [hb] at hk
      cases hk
      have hx : x = n := beq_iff_eq.mp hb
      subst hx
      split <;> simp [List.lookup_cons, *]
    | false =>
      rw [hb] at hk
      split <;> (rw [List.lookup_cons, hb]; exact ih hk)

section
variable {w : World} {h₀ : Heap} {Φ : Fm} {vs : List (Option Vl)}

noncomputable def CapP (Φ : Fm) (vs : List (Option Vl)) (p : Str × Nat) (v : Vl) : Prop := (∃ k, k ≠ VK.loc ∧ Φ.nm[p.2]? = some (p.1, k)) ∧ vs[p.2]? = some (some v) ∧ v.pure = true

theorem pairedL {α β : Type} {F : α → β → Prop} {l : List α} {r : List β} (h : Paired F l r) {a : α} (ha : a ∈ l) : ∃ b, F a b := by
  induction h with
  | nil => cases ha
  | cons h1 _ ih =>
    rcases List.mem_cons.mp ha with rfl | ha
    · exact ⟨_, h1⟩
    · exact ih ha

structure Caps (Φ : Fm) (vs : List (Option Vl)) (scope : Scope) (cap : List (Str × Nat)) (capv : List Vl) (lv : List (Str × VK)) : Prop where
  ok : compOK scope (cap.map (·.1)) lv = true
  nd : ((lv ++ cap.map fun p => (p.1, VK.fre)).map (·.1)).Nodup
  cp : Paired (CapP Φ vs) cap capv

theorem Caps.cell (hw : WF w h₀ Φ) {scope cap capv lv} (c : Caps Φ vs scope cap capv lv) {x : Str} (hx : x ∈ cap.map (·.1)) : (Φ.env.kindOf x = some .cell ∨ Φ.env.kindOf x = some .free) ∧ ∃ a, Φ.env.cells.lookup x = some a ∧ Φ.av a := by
  obtain ⟨p, hp, rfl⟩ := List.mem_map.mp hx
  obtain ⟨v, ⟨k, hk, hnm⟩, _⟩ := pairedL c.cp hp
  obtain ⟨hk1, _⟩ := hw.kinds _ (List.mem_of_getElem? hnm)
  cases k with
  | loc => exact absurd rfl hk
  | cel => obtain ⟨h1, a, h2, h3, _⟩ := hk1; exact ⟨.inl h1, a, h2, hw.muav a h3⟩
  | fre => obtain ⟨h1, a, h2, h3⟩ := hk1; exact ⟨h1, a, h2, h3⟩

theorem Caps.frees (hw : WF w h₀ Φ) {scope cap capv lv} (c : Caps Φ vs scope cap capv lv) : ∀ p ∈ scope.names, p.2 = .free → p.1 ∈ cap.map (·.1) := fun p hp e => by
  have h := c.ok
  unfold compOK at h
  simp only [Bool.and_eq_true] at h
  have := (List.all_eq_true.mp h.1.1.2) p hp
  rw [e] at this
  simp only [bne_self_eq_false, Bool.false_or] at this
  obtain ⟨y, hy, e⟩ := List.any_eq_true.mp this
  rw [← beq_iff_eq.mp e]; exact hy

theorem Caps.oldMem (hw : WF w h₀ Φ) {scope cap capv lv} (c : Caps Φ vs scope cap capv lv) {x a} (h : (x, a) ∈ capsOf Φ.env.cells scope.names []) : Φ.env.cells.lookup x = some a ∧ Φ.av a := by
  have hf : ∀ p ∈ scope.names, p.2 = .free → (Φ.env.cells.lookup p.1).isSome = true := fun p hp e => by
    obtain ⟨_, b, hb, _⟩ := c.cell hw (c.frees hw p hp e); rw [hb]; rfl
  rcases capsOf_mem hf h with h | ⟨h1, h2⟩
  · cases h
  · obtain ⟨_, b, hb, hav⟩ := c.cell hw (c.frees hw _ h2 rfl)
    rw [h1] at hb; cases hb; exact ⟨h1, hav⟩

theorem compWF (hw : WF w h₀ Φ) {scope : Scope} {cap : List (Str × Nat)} {capv : List Vl} {lv : List (Str × VK)} (c : Caps Φ vs scope cap capv lv) {s : Shared} (hs : St h₀ Φ vs s) {D C : Addr} (hD : s.heap.objs.size ≤ D) (hC : s.heap.objs.size ≤ C) :
    WF w h₀ (compFm scope C D Φ (lv ++ cap.map fun p => (p.1, VK.fre))) := by
  have hok := c.ok
  unfold compOK at hok
  simp only [Bool.and_eq_true] at hok
  obtain ⟨⟨⟨⟨hlv, hcap⟩, hfr⟩, hloc⟩, hk⟩ := hok
  have none_of : ∀ a, s.heap.objs.size ≤ a → h₀.get? a = none := fun a ha => by
    cases e : h₀.get? a with
    | none => rfl
    | some o => exact absurd (Heap.lt_size (hs.base a o e)) (Nat.not_lt.mpr ha)
  have newLt : ∀ x a, (x, a) ∈ cellsFrom (C + 1) scope.names [] → C < a := fun x a h => (cellsFrom_mem h).1
  have avLt : ∀ a, Φ.av a → a < s.heap.objs.size := fun a ha => by obtain ⟨o, e⟩ := hs.live a ha; exact Heap.lt_size e
  have cellsEq : (compFm scope C D Φ (lv ++ cap.map fun p => (p.1, VK.fre))).env.cells = cellsFrom (C + 1) scope.names [] ++ capsOf Φ.env.cells scope.names [] := rfl
  have newOK := cellsFrom_ok scope.names { objs := Array.replicate (C + 1) default } (C + 1) [] ⟨fun _ _ hm => (nomatch hm), List.Pairwise.nil⟩ (by simp)
  have hsz : ({ objs := Array.replicate (C + 1) default } : Heap).objs.size = C + 1 := by simp
  rw [hsz] at newOK
  have lk : ∀ x a, (cellsFrom (C + 1) scope.names [] ++ capsOf Φ.env.cells scope.names []).lookup x = some a → (x, a) ∈ cellsFrom (C + 1) scope.names [] ∨ ((x, a) ∈ capsOf Φ.env.cells scope.names [] ∧ Φ.env.cells.lookup x = some a ∧ Φ.av a) := fun x a h => by
    rcases List.mem_append.mp (mem_of_lookup h) with h | h
    · exact .inl h
    · exact .inr ⟨h, c.oldMem hw h⟩
  refine ⟨hw.gd, by simpa [compFm, compEnvC, relabel] using hk, hw.gl, hw.bu, hw.room, ?_, ?_, fun a ha => .inl ha, .inl rfl, ?_, c.nd, ?_⟩
  · rintro a (rfl | ⟨x, hx⟩)
    · exact none_of _ hC
    · exact none_of _ (Nat.le_trans hC (Nat.le_of_lt (newLt x a hx)))
  · rintro a (rfl | h)
    · exact .inr (.inr (.inl rfl))
    · exact .inr (.inr (.inr h))
  · intro p hp
    rcases List.mem_append.mp hp with hp | hp
    · have h := (List.all_eq_true.mp hlv) p hp
      simp only [Bool.and_eq_true, Bool.not_eq_true'] at h
      refine ⟨?_, h.1.2, h.2⟩
      cases e : p.2 with
      | loc =>
        have h1 : scope.names.lookup p.1 = some .local := by simpa [e] using h.1.1
        show (relabel scope Φ.env).names.lookup p.1 = some .local
        rw [relabel_lookup _ h1]; rfl
      | cel =>
        have h1 : scope.names.lookup p.1 = some .cell := by simpa [e] using h.1.1
        obtain ⟨a, ha⟩ := Option.isSome_iff_exists.mp (cellsFrom_some scope.names (C + 1) [] (.inl h1))
        refine ⟨?_, a, ?_, .inr ⟨_, mem_of_lookup ha⟩, Nat.ne_of_gt (newLt _ _ (mem_of_lookup ha))⟩
        · show (relabel scope Φ.env).names.lookup p.1 = some .cell
          rw [relabel_lookup _ h1]; rfl
        · rw [cellsEq, lookup_append, ha]; rfl
      | fre => simp [e] at h
    · obtain ⟨q, hq, rfl⟩ := List.mem_map.mp hp
      have hqm : q.1 ∈ cap.map (·.1) := List.mem_map.mpr ⟨q, hq, rfl⟩
      have h := (List.all_eq_true.mp hcap) q.1 hqm
      simp only [Bool.and_eq_true, Bool.not_eq_true'] at h
      refine ⟨?_, h.1.2, h.2⟩
      have h1 : scope.names.lookup q.1 = some .free := by simpa using h.1.1.1
      obtain ⟨hk1, b, hb, hav⟩ := c.cell hw hqm
      obtain ⟨a, ha⟩ := capsOf_has (cells := Φ.env.cells) (acc := []) (mem_of_lookup h1)
      obtain ⟨a', ha', hm'⟩ := lookup_of_mem ha
      have hab := (c.oldMem hw hm').1
      have hnew : (cellsFrom (C + 1) scope.names []).lookup q.1 = none := by
        cases e : (cellsFrom (C + 1) scope.names []).lookup q.1 with
        | none => rfl
        | some z =>
          have := (cellsFrom_mem (mem_of_lookup e)).2
          have h3 := h.1.1.2
          rw [List.any_eq_false] at h3
          exact absurd (by simp) (h3 _ this)
      refine ⟨?_, a', ?_, .inl (c.oldMem hw hm').2⟩
      · show (relabel scope Φ.env).names.lookup q.1 = some .cell ∨ (relabel scope Φ.env).names.lookup q.1 = some .free
        rw [relabel_lookup _ h1]
        split
        · exact .inl rfl
        · exact .inr rfl
      · show (cellsFrom (C + 1) scope.names [] ++ capsOf Φ.env.cells scope.names []).lookup q.1 = some a'
        rw [lookup_append, hnew, ha']; rfl
  · intro x y a hx hy
    rw [cellsEq] at hx hy
    rcases lk x a hx with h | ⟨_, h, hav⟩ <;> rcases lk y a hy with h' | ⟨_, h', hav'⟩
    · exact name_of_addr newOK.apart h h'
    · exact absurd (avLt a hav') (Nat.not_lt.mpr (Nat.le_trans hC (Nat.le_of_lt (newLt _ _ h))))
    · exact absurd (avLt a hav) (Nat.not_lt.mpr (Nat.le_trans hC (Nat.le_of_lt (newLt _ _ h'))))
    · exact hw.apart x y a h h'
end
end Mine

namespace Mine

theorem newEnvAround {M : Model} {A : Around} {E : Value → Shared → Prop} {s : Shared} {scope : Scope} {globals : Addr} {cl : List (Str × Addr)} {qual : Str} {env : Env} {Q : Env → Shared → Prop}
    (hQ : Q (newEnv scope s.heap.objs.size globals (cellsFrom (s.heap.objs.size + 1) scope.names cl) qual none .none (some env) builtinsNs)
      { s with heap := pushCells (s.heap.push { cls := .type "dict", data := .dict #[] }) scope.names }) :
    wpAny M A (newFunctionEnv scope globals cl [] qual none .none (some env)) Q E s := by
  simp only [newFunctionEnv, Option.isSome_some, if_true]
  refine wpAny_bind (wpAny_alloc ?_)
  refine wpAny_bind (wpAny_layCells _ (fun name kind cells => by cases hkc : kind == NameKind.cell <;> simp [hkc]) _ _ _ _ ?_)
  rw [show ({ s with heap := s.heap.push { cls := .type "dict", data := .dict #[] } } : Shared).heap.objs.size = s.heap.objs.size + 1 from Heap.size_push ..]
  refine wpAny_bind ?_
  rw [List.forIn_nil]
  exact wpAny_pure (wpAny_pure hQ)

section
variable {w : World} {h₀ : Heap} {Φ : Fm} {vs : List (Option Vl)}

theorem Caps.lookup (hw : WF w h₀ Φ) {scope cap capv lv} (c : Caps Φ vs scope cap capv lv) {x : Str} (hx : x ∈ cap.map (·.1)) (n : Nat) :
    (cellsFrom n scope.names [] ++ capsOf Φ.env.cells scope.names []).lookup x = Φ.env.cells.lookup x := by
  have hok := c.ok
  unfold compOK at hok
  simp only [Bool.and_eq_true] at hok
  obtain ⟨⟨⟨⟨hlv, hcap⟩, hfr⟩, hloc⟩, hk⟩ := hok
  have h := (List.all_eq_true.mp hcap) x hx
  simp only [Bool.and_eq_true, Bool.not_eq_true'] at h
  have h1 : scope.names.lookup x = some .free := by simpa using h.1.1.1
  obtain ⟨a, ha⟩ := capsOf_has (cells := Φ.env.cells) (acc := []) (mem_of_lookup h1)
  obtain ⟨a', ha', hm'⟩ := lookup_of_mem ha
  have hnew : (cellsFrom n scope.names []).lookup x = none := by
    cases e : (cellsFrom n scope.names []).lookup x with
    | none => rfl
    | some z =>
      have := (cellsFrom_mem (mem_of_lookup e)).2
      have h3 := h.1.1.2
      rw [List.any_eq_false] at h3
      exact absurd (by simp) (h3 _ this)
  rw [lookup_append, hnew, ha', (c.oldMem hw hm').1]; rfl

/-- one object, no list and no dict of the frame's, has changed -/
theorem St.side (hw : WF w h₀ Φ) {C : Addr} (hC0 : h₀.get? C = none) (hL : Φ.env.locals ≠ C) {s : Shared} {h' : Heap} (x : St h₀ Φ vs s) {oC : Obj} {es ep} (hC : s.heap.get? C = some oC) (hd : oC.data = .dict es ep)
    (hl : ¬ Φ.av C) (k : ∀ b o, b ≠ C → s.heap.get? b = some o → h'.get? b = some o) : St h₀ Φ vs { s with heap := h' } := by
  refine ⟨fun b o e => k b o (fun q => by rw [q, hC0] at e; cases e) (x.base b o e), fun a ha => ?_, ?_⟩
  · by_cases q : a = C
    · exact absurd (q ▸ ha) hl
    · obtain ⟨o, e⟩ := x.live a ha; exact ⟨o, k a o q e⟩
  · obtain ⟨mc, h1, h2⟩ := x.ns
    refine ⟨mc, Heap.Ns.at' h1 fun o e => k _ o hL e, pairedMono h2 fun p ov y => ?_⟩
    have cellNe : ∀ c v, s.heap.IsCell c v → c ≠ C := fun c v q_1 q => by obtain ⟨o, e, d⟩ := q_1; subst q; rw [hC] at e; cases e; rw [hd] at d; cases d
    cases ov with
    | none =>
      intro e
      obtain ⟨c, v₀, g1, g2⟩ := y e
      exact ⟨c, v₀, g1, by obtain ⟨oc, g3, g4⟩ := id g2; exact ⟨oc, k c oc (cellNe _ _ g2) g3, g4⟩⟩
    | some v =>
      obtain ⟨val, g1, g2, g3⟩ := y
      refine ⟨val, g1.but hC (dictNoSeq hd) k, ?_, g3⟩
      by_cases hl' : p.2 = .loc
      · unfold At at g2 ⊢
        rw [hl'] at g2 ⊢; exact g2
      · obtain ⟨c, g5, g6⟩ := g2.of hl'
        exact At.mk' hl' ⟨c, g5, by obtain ⟨oc, g3, g4⟩ := id g6; exact ⟨oc, k c oc (cellNe _ _ g6) g3, g4⟩⟩

/-- what the block's loop must do, whatever the addresses are -/
noncomputable def BlockP (w : World) (h₀ : Heap) (Φ : Fm) (scope : Scope) (cap : List (Str × Nat)) (capv : List Vl) (lv : List (Str × VK)) (target : Expr) (n : Nat) (V : Nat → Value → Heap → Prop) (elt : Expr) (gens : List Comprehension) (pos : Pos) (out : List Sc) : Prop :=
  ∀ (C D : Addr) (it : Value) (X : Addr → Prop) (fp : List Addr) (St' : Nat → Heap → Prop) (Φc : Fm), Φc = compFm scope C D Φ (lv ++ cap.map fun p => (p.1, VK.fre)) → WF w h₀ Φc → Φc.av D → ¬ Φc.mu D → h₀.get? D = none → Tn w Φ.A it target n X fp St' V →
    (∀ b ∈ fp, ¬ Φc.av b) → (∀ b, X b → h₀.get? b = none) →
    ∀ s, St h₀ (Φc.more X) (lv.map (fun _ => none) ++ capv.map some) s → St' 0 s.heap → AccL s.heap D [] →
      codeAny (MD w) Φ.A (.compLoop (.ListComp elt gens scope pos) 0 it (.ref D) Φc.env) (LoopEnd h₀ Φc D X (fun _ zs => zs = out) s) s

theorem Kp.trans' {s s' : Shared} {C : Addr} {h' : Heap} (kp : Kp s s') (hC : s.heap.get? C = none) (hsb : Heap.SameBut C s'.heap h') : Kp s { s' with heap := h' } := by
  obtain ⟨h1, tk1, rfl, k1⟩ := kp
  exact ⟨h', tk1, rfl, fun b o e => hsb.extBut b o (fun q => by rw [q, hC] at e; cases e) (k1 b o e)⟩

theorem compCore (hw : WF w h₀ Φ) {scope : Scope} {cap : List (Str × Nat)} {capv : List Vl} {lv : List (Str × VK)} {elt iter target : Expr} {ifs : List Expr} {grest : List Comprehension} {pos : Pos} {n : Nat} {V} {out : List Sc}
    (c : Caps Φ vs scope cap capv lv) (hit : ItX w h₀ Φ vs iter target n V) (hb : BlockP w h₀ Φ scope cap capv lv target n V elt (⟨target, iter, ifs, 0⟩ :: grest) pos out)
    {use : Option (Value → Sem Unit)} {Q : Value → Shared → Prop} {s : Shared} (hs : St h₀ Φ vs s)
    (hQ : ∀ D C s', C ≠ D → s.heap.get? C = none → Kp s s' → ¬ Φ.av D → AccL s'.heap D out → (∃ m, s'.heap.Ns C m) → compPost (MD w) Φ.A NoE use Q (.ref D) C (.ok .next) s')
    (hsi : ∀ x, foldedSetIterable iter Φ.env x = pure x) :
    wpAny (MD w) Φ.A (comprehension (.ListComp elt (⟨target, iter, ifs, 0⟩ :: grest) scope pos) scope Φ.env (firstIterPos (⟨target, iter, ifs, 0⟩ :: grest) pos) (newList []) false (eval iter Φ.env) use) Q NoE s := by
  have hok := c.ok
  unfold compOK at hok
  simp only [Bool.and_eq_true] at hok
  obtain ⟨⟨⟨⟨hlv, hcap⟩, hfr⟩, hloc⟩, hk⟩ := hok
  have hk' : scope.kind = .function := by simpa using hk
  refine wpAny_comprehension_free (cl := capsOf Φ.env.cells scope.names []) rfl hsi (closureFor_caps fun p hp e => by
      obtain ⟨_, b, hb, _⟩ := c.cell hw (c.frees hw p hp e); rw [hb]; rfl) hk' (fun p hp e => ?_) ?_
  · have := (List.all_eq_true.mp hloc) p hp
    rw [e] at this
    simpa using this
  refine wpAny_mono (hit s hs) (fun xv s₁ h1 => wpAny_mono h1 (fun it s₂ h2 => ?_) fun _ _ x => x.elim) fun _ _ x => x.elim
  obtain ⟨kp, X, fp, St', T, hst, hfp, hX⟩ := h2
  have hs₂ := hs.kept kp
  refine wpAny_newObj_type (newEnvAround ?_)
  generalize hD : s₂.heap.objs.size = D
  have hCD : (s₂.heap.push { cls := .type "list", dict := none, data := .seq ([] : List Value).toArray }).objs.size = D + 1 := by rw [Heap.size_push, hD]
  dsimp only
  rw [hCD, cellsFrom_append]
  generalize hH : pushCells ((s₂.heap.push { cls := .type "list", dict := none, data := .seq ([] : List Value).toArray }).push { cls := .type "dict", data := .dict #[] }) scope.names = H
  have old : ∀ b o, s₂.heap.get? b = some o → H.get? b = some o := fun b o e => by
    rw [← hH]; exact pushCells_keeps _ _ b o (Heap.get?_push_of_some _ (Heap.get?_push_of_some _ e))
  have lt2 : ∀ b o, s₂.heap.get? b = some o → b < D := fun b o e => hD ▸ Heap.lt_size e
  have avLt : ∀ b, Φ.av b → b < D := fun b hb => by obtain ⟨o, e⟩ := hs₂.live b hb; exact lt2 b o e
  have wfc := compWF hw c hs₂ (D := D) (C := D + 1) (Nat.le_of_eq hD) (by omega)
  have newGt : ∀ x a, (x, a) ∈ cellsFrom (D + 1 + 1) scope.names [] → D + 1 < a := fun x a h => (cellsFrom_mem h).1
  have hN : ∀ b, D ≤ b → s.heap.get? b = none := fun b hb => by
    cases e : s.heap.get? b with
    | none => rfl
    | some o => exact absurd (lt2 b o (kp.heap b o e)) (Nat.not_lt.mpr hb)
  have hDmu : ¬ (compFm scope (D + 1) D Φ (lv ++ cap.map fun p => (p.1, VK.fre))).mu D := by
    rintro (e | ⟨x, hx⟩)
    · exact absurd e (Nat.ne_of_lt (Nat.lt_succ_self D))
    · exact absurd (newGt _ _ hx) (by (first | exact om27 | omega))
  have cavNew : ∀ b, (compFm scope (D + 1) D Φ (lv ++ cap.map fun p => (p.1, VK.fre))).av b → Φ.av b ∨ D ≤ b := by
    rintro b (h | h | h | ⟨x, h⟩)
    · exact .inl h
    · exact .inr (Nat.le_of_eq h.symm)
    · exact .inr (by rw [h]; exact Nat.le_succ D)
    · exact .inr (by have := newGt _ _ h; (first | exact om28 this | omega))
  have hfpc : ∀ b ∈ fp, ¬ (compFm scope (D + 1) D Φ (lv ++ cap.map fun p => (p.1, VK.fre))).av b := fun b hb q => by
    rcases cavNew b q with q | q
    · exact (hfp b hb).2 q
    · exact absurd (hD ▸ (hfp b hb).1) (Nat.not_lt.mpr q)
  have hXh : ∀ b, X b → h₀.get? b = none := fun b hb => h0None hs (hX b hb)
  have hacc : H.PlainList D #[] := ⟨_, by
    rw [← hH]
    exact pushCells_keeps _ _ _ _ (Heap.get?_push_of_some _ (by rw [← hD]; exact Heap.get?_push_size _ rfl))⟩
  have hns : H.Ns (D + 1) fun _ => none := by
    have := Heap.Ns.new (s₂.heap.push { cls := .type "list", dict := none, data := .seq ([] : List Value).toArray }) (.type "dict")
    rw [hCD] at this
    rw [← hH]
    exact this.keeps (pushCells_keeps _ _)
  have cellsOK := cellsFrom_ok scope.names ((s₂.heap.push { cls := .type "list", dict := none, data := .seq ([] : List Value).toArray }).push { cls := .type "dict", data := .dict #[] }) (D + 1 + 1) [] ⟨fun _ _ hm => (nomatch hm), List.Pairwise.nil⟩ (by rw [Heap.size_push, hCD]; exact Nat.le_refl _)
  rw [show ((s₂.heap.push { cls := .type "list", dict := none, data := .seq ([] : List Value).toArray }).push { cls := .type "dict", data := .dict #[] }).objs.size = D + 1 + 1 by rw [Heap.size_push, hCD], hH] at cellsOK
  have stc : St h₀ ((compFm scope (D + 1) D Φ (lv ++ cap.map fun p => (p.1, VK.fre))).more X) (lv.map (fun _ => none) ++ capv.map some) { s₂ with heap := H } := {
    base := fun b o e => old b o (hs₂.base b o e)
    live := fun a ha => by
      rcases ha with (ha | ha | ha | ⟨x, ha⟩) | ha
      · obtain ⟨o, e⟩ := hs₂.live a ha; exact ⟨o, old a o e⟩
      · subst ha; obtain ⟨n, e⟩ := hacc; exact ⟨_, e⟩
      · subst ha; obtain ⟨o, _, _, e, _⟩ := hns; exact ⟨o, e⟩
      · obtain ⟨⟨o, e, _⟩, _⟩ := cellsOK.empty x a ha; exact ⟨o, e⟩
      · obtain ⟨o, e⟩ := T.live 0 _ hst a ha; exact ⟨o, old a o e⟩
    ns := by
      refine ⟨fun _ => none, hns, ?_⟩
      have first : ∀ (l : List (Str × VK)), (∀ p ∈ l, p ∈ lv) → Paired (VOK ((compFm scope (D + 1) D Φ (lv ++ cap.map fun p => (p.1, VK.fre))).more X) (fun _ => none) H) l (l.map fun _ => none) := by
        intro l
        induction l with
        | nil => intro _; exact .nil
        | cons p l ih =>
          intro hin
          refine .cons (fun e => ?_) (ih fun q hq => hin q (List.mem_cons_of_mem _ hq))
          obtain ⟨kq, _⟩ := wfc.kinds p (List.mem_append.mpr (.inl (hin p List.mem_cons_self)))
          rw [e] at kq
          obtain ⟨k1, a, k2, k3, _⟩ := kq
          refine ⟨a, none, k2, ?_⟩
          rcases k3 with rfl | ⟨x, hx⟩
          · rename_i h5; exact absurd rfl h5
          · exact (cellsOK.empty x a hx).1
      have second : ∀ (l : List (Str × Nat)) (lv' : List Vl), (∀ p ∈ l, p ∈ cap) → Paired (CapP Φ vs) l lv' →
          Paired (VOK ((compFm scope (D + 1) D Φ (lv ++ cap.map fun p => (p.1, VK.fre))).more X) (fun _ => none) H) (l.map fun p => (p.1, VK.fre)) (lv'.map some) := by
        intro l
        induction l with
        | nil => intro lv' _ h; cases h; exact .nil
        | cons p l ih =>
          intro lv' hin h
          cases h with
          | cons h1 t =>
            refine .cons ?_ (ih _ (fun q hq => hin q (List.mem_cons_of_mem _ hq)) t)
            obtain ⟨⟨k, hk, hnm⟩, hv, hpu⟩ := h1
            obtain ⟨mc, g1, g2⟩ := hs.ns
            obtain ⟨val, g3, g4, g5⟩ := pairedGet g2 hnm hv
            have hmem : (p.1, VK.fre) ∈ lv ++ cap.map fun p => (p.1, VK.fre) := List.mem_append.mpr (.inr (List.mem_map.mpr ⟨p, hin p List.mem_cons_self, rfl⟩))
            obtain ⟨⟨kq, a, k2, k3⟩, _⟩ := wfc.kinds _ hmem
            obtain ⟨a', k4, k5⟩ := At.of hk g4
            refine ⟨val, ?_, At.mk' (by simp) ⟨a, k2, ?_⟩, Vl.okPure hpu⟩
            · refine Rep.move (fun b o e n => ⟨fun q => ?_, old b o (kp.heap b o e)⟩) hpu g3
              rcases q with q | q
              · rcases cavNew b q with q | q
                · exact n q
                · exact absurd (lt2 b o (kp.heap b o e)) (Nat.not_lt.mpr q)
              · rw [hX b q] at e; cases e
            · have hmp : p.1 ∈ cap.map (·.1) := List.mem_map.mpr ⟨p, hin p List.mem_cons_self, rfl⟩
              have k2' : (cellsFrom (D + 1 + 1) scope.names [] ++ capsOf Φ.env.cells scope.names []).lookup p.1 = some a := k2
              rw [c.lookup hw hmp, k4] at k2'
              cases k2'
              obtain ⟨oc, k6, k7⟩ := k5
              exact ⟨oc, old _ _ (kp.heap _ _ k6), k7⟩
      exact pairedAppend (first lv fun _ h => h) (second cap capv (fun _ h => h) c.cp) }
  have avD : (compFm scope (D + 1) D Φ (lv ++ cap.map fun p => (p.1, VK.fre))).av D := .inr (.inl rfl)
  have hD0 : h₀.get? D = none := h0None hs (hN D (Nat.le_refl _))
  have run : ∀ s₃ : Shared, s₃ = { s₂ with heap := H } → codeAny (MD w) Φ.A (.compLoop (.ListComp elt (⟨target, iter, ifs, 0⟩ :: grest) scope pos) 0 it (.ref D) (compEnvC scope (compCells scope (D + 1) Φ.env) (D + 1) Φ.env))
      (compPost (MD w) Φ.A NoE use Q (.ref D) (D + 1)) s₃ := by
    rintro s₃ rfl
    refine codeAny_mono (hb (D + 1) D it X fp St' _ rfl wfc avD hDmu hD0 T hfpc hXh _ stc (T.frame _ _ _ hst fun b _ o e => old b o e) ⟨#[], hacc, .nil⟩) fun r s₄ h4 => ?_
    obtain ⟨rfl, k4, vs', zs', rfl, hs₄, hacc₄⟩ := h4
    refine hQ D (D + 1) s₄ (Nat.succ_ne_self D) (hN _ (Nat.le_succ D)) ?_ (fun q => absurd (avLt D q) (Nat.lt_irrefl _)) hacc₄ (by obtain ⟨mc, h1, _⟩ := hs₄.ns; exact ⟨mc, h1⟩)
    obtain ⟨h1, tk1, rfl, k1⟩ := kp
    obtain ⟨h2, tk2, rfl, k2⟩ := k4
    refine ⟨h2, tk2, rfl, fun b o e => k2 b o (fun q => ?_) (old b o (k1 b o e))⟩
    have hb' : ¬ D ≤ b := fun q => by rw [hN b q] at e; cases e
    rcases q with (q | ⟨x, q⟩) | q | q
    · exact hb' (by rw [q]; exact Nat.le_succ D)
    · exact hb' (by have := newGt _ _ q; (first | exact om28 this | omega))
    · exact hb' (Nat.le_of_eq q.symm)
    · rw [hX b q] at e; cases e
  exact codeAny_compStart_list (run _ rfl) (T.self 0 _ _ _ (T.frame _ _ _ hst fun b _ o e => old b o e) (run _ rfl))

theorem EvP.comp (hw : WF w h₀ Φ) {scope : Scope} {cap : List (Str × Nat)} {capv : List Vl} {lv : List (Str × VK)} {elt iter target : Expr} {ifs : List Expr} {grest : List Comprehension} {pos : Pos} {n : Nat} {V} {out : List Sc}
    (c : Caps Φ vs scope cap capv lv) (hit : ItX w h₀ Φ vs iter target n V) (hb : BlockP w h₀ Φ scope cap capv lv target n V elt (⟨target, iter, ifs, 0⟩ :: grest) pos out)
    (hsi : ∀ x, foldedSetIterable iter Φ.env x = pure x := by intro _; rfl) : EvP w h₀ Φ vs (.ListComp elt (⟨target, iter, ifs, 0⟩ :: grest) scope pos) (.list out) := by
  intro s hs
  rw [eval_ListComp]
  refine compCore (use := none) hw c hit hb hs (fun D C s' hCD hC kp hD hacc hns => ?_) hsi
  obtain ⟨m, hm⟩ := hns
  obtain ⟨ys, hpl, hpr⟩ := hacc
  refine ⟨m, hm, fun h' hsb => ⟨kp.trans' hC hsb, D, ys, rfl, hpl.extBut hsb.extBut (Ne.symm hCD), hD, hpr⟩⟩

theorem ExS.comp (hw : WF w h₀ Φ) (i : Nat) {x : Str} {k : VK} {scope : Scope} {cap : List (Str × Nat)} {capv : List Vl} {lv : List (Str × VK)} {elt iter target : Expr} {ifs : List Expr} {grest : List Comprehension} {pos px spos : Pos} {n : Nat} {V} {out : List Sc} {R : Out → Prop}
    (c : Caps Φ vs scope cap capv lv) (hit : ItX w h₀ Φ vs iter target n V) (hb : BlockP w h₀ Φ scope cap capv lv target n V elt (⟨target, iter, ifs, 0⟩ :: grest) pos out)
    (hx : Φ.nm[i]? = some (x, k)) (hk : k ≠ .fre) (hsw : swapsWith (.ListComp elt (⟨target, iter, ifs, 0⟩ :: grest) scope pos) (some (.Name x px)) spos.line Φ.env = pure true) (hR : R (.nxt (vs.set i (some (.list out)))))
    (hsi : ∀ x, foldedSetIterable iter Φ.env x = pure x := by intro _; rfl) : ExS w h₀ Φ vs (.Assign [.Name x px] (.ListComp elt (⟨target, iter, ifs, 0⟩ :: grest) scope pos) spos) R := by
  intro s hs
  rw [exec_Assign_Name_used _ _ _ _ hsw]
  refine wpAny_bind (wpAny_standAt (wpAny_bind ?_))
  show wpAny _ Φ.A (do let _ ← comprehension (.ListComp elt (⟨target, iter, ifs, 0⟩ :: grest) scope pos) scope Φ.env _ (newList []) false (eval iter Φ.env) (some (PySem.assign (.Name x px) Φ.env))) _ _ s
  refine wpAny_bind (wpAny_mono (compCore (use := some (PySem.assign (.Name x px) Φ.env)) (Q := fun _ s' => SPost h₀ Φ R s .next s') hw c hit hb hs (fun D C s' hCD hC kp hD hacc hns => ?_) hsi) (fun _ s' hq => wpAny_pure (wpAny_pure hq)) fun _ _ e => e)
  obtain ⟨m, hm⟩ := hns
  obtain ⟨ys, hpl, hpr⟩ := hacc
  have hC0 := h0None hs hC
  have hCav : ¬ Φ.av C := fun q => by obtain ⟨o, e⟩ := hs.live C q; rw [hC] at e; cases e
  have hCmu : ¬ Φ.mu C := fun q => hCav (hw.muav C q)
  show wpAny _ Φ.A (PySem.assign (.Name x px) Φ.env (.ref D)) _ _ _
  refine PyProof.Rows.assign_Name (storeP hw hx hk (hs.kept kp) (v := .list out) ⟨D, ys, rfl, hpl, hD, hpr⟩ trivial fun s₂ k2 hs₂ => ?_)
  have hm₂ : s₂.heap.Ns C m := Heap.Ns.at' hm fun o e => k2.heap C o hCmu e
  obtain ⟨oC, es, ep, hoC, hdC, _⟩ := id hm₂
  refine ⟨m, hm₂, fun h' hsb => ⟨?_, _, hR, rfl, St.side hw hC0 (fun q => hCmu (q ▸ hw.loc)) hs₂ hoC hdC hCav hsb.extBut⟩⟩
  have kb := kp.kb (mu := Φ.mu) |>.trans k2
  obtain ⟨h2, tk2, rfl, k3⟩ := kb
  exact ⟨h', tk2, rfl, fun b o n e => hsb.extBut b o (fun q => by rw [q, hC] at e; cases e) (k3 b o n e)⟩
end
end Mine

namespace Mine

theorem compTurn_one (elt target iter : Expr) (ifs : List Expr) (scope : Scope) (pos : Pos) (it acc : Value) (env : Env) :
    compTurn (.ListComp elt [⟨target, iter, ifs, 0⟩] scope pos) 0 it acc env = (standAt iter.pos >>= fun _ => pyNext it >>= fun r => match r with
      | none => pure (.done .next)
      | some v => letOwnedTupleGo target it v >>= fun _ => assign target env v >>= fun _ =>
        (forIn ifs true fun c r => if r = true then do let ok ← isTrue c env (eval c env); pure (ForInStep.yield ok) else pure (ForInStep.yield r)) >>= fun ok =>
        if ok = true then (do let _ ← call (.builtin "list.append") [acc, ← eval elt env]) >>= fun _ => again (.compLoop (.ListComp elt [⟨target, iter, ifs, 0⟩] scope pos) 0 it acc env)
        else again (.compLoop (.ListComp elt [⟨target, iter, ifs, 0⟩] scope pos) 0 it acc env)) := by rfl

noncomputable def innerRun (elt : Expr) (g₁ g₂ : Comprehension) (scope : Scope) (pos : Pos) (acc : Value) (env : Env) : Sem Unit := do
  let x ← eval g₂.iter env
  standAt g₂.iter.pos
  let x ← foldedSetIterable g₂.iter env x
  let _ ← runOwn (.compStart (.ListComp elt [g₁, g₂] scope pos) 1 (← holding [x] (pyIter x)) acc env) env

theorem compTurn_outer (elt target iter target₂ iter₂ : Expr) (ifs₂ : List Expr) (scope : Scope) (pos : Pos) (it acc : Value) (env : Env) :
    compTurn (.ListComp elt [⟨target, iter, [], 0⟩, ⟨target₂, iter₂, ifs₂, 0⟩] scope pos) 0 it acc env = (standAt iter.pos >>= fun _ => pyNext it >>= fun r => match r with
      | none => pure (.done .next)
      | some v => letOwnedTupleGo target it v >>= fun _ => assign target env v >>= fun _ =>
        (forIn ([] : List Expr) true fun c r => if r = true then do let ok ← isTrue c env (eval c env); pure (ForInStep.yield ok) else pure (ForInStep.yield r)) >>= fun ok =>
        if ok = true then innerRun elt ⟨target, iter, [], 0⟩ ⟨target₂, iter₂, ifs₂, 0⟩ scope pos acc env >>= fun _ => again (.compLoop (.ListComp elt [⟨target, iter, [], 0⟩, ⟨target₂, iter₂, ifs₂, 0⟩] scope pos) 0 it acc env)
        else again (.compLoop (.ListComp elt [⟨target, iter, [], 0⟩, ⟨target₂, iter₂, ifs₂, 0⟩] scope pos) 0 it acc env)) := by
  simp only [innerRun, bind_assoc, pure_bind]
  rfl

theorem compTurn_inner (elt target target₁ iter iter₁ : Expr) (ifs ifs₁ : List Expr) (scope : Scope) (pos : Pos) (it acc : Value) (env : Env) :
    compTurn (.ListComp elt [⟨target₁, iter₁, ifs₁, 0⟩, ⟨target, iter, ifs, 0⟩] scope pos) 1 it acc env = (standAt iter.pos >>= fun _ => pyNext it >>= fun r => match r with
      | none => pure (.done .next)
      | some v => letOwnedTupleGo target it v >>= fun _ => assign target env v >>= fun _ =>
        (forIn ifs true fun c r => if r = true then do let ok ← isTrue c env (eval c env); pure (ForInStep.yield ok) else pure (ForInStep.yield r)) >>= fun ok =>
        if ok = true then (do let _ ← call (.builtin "list.append") [acc, ← eval elt env]) >>= fun _ => again (.compLoop (.ListComp elt [⟨target₁, iter₁, ifs₁, 0⟩, ⟨target, iter, ifs, 0⟩] scope pos) 1 it acc env)
        else again (.compLoop (.ListComp elt [⟨target₁, iter₁, ifs₁, 0⟩, ⟨target, iter, ifs, 0⟩] scope pos) 1 it acc env)) := by rfl

theorem codeAny_compStart_list' {w : World} {A : Around} {R : Result → Shared → Prop} {s : Shared} {elt target iter ifs g₁ scope pos it acc env}
    (h0 : codeAny (MD w) A (.compLoop (.ListComp elt [g₁, ⟨target, iter, ifs, 0⟩] scope pos) 1 it acc env) R s)
    (h : wpAny (MD w) A (pyIter it) (fun it' s' => codeAny (MD w) A (.compLoop (.ListComp elt [g₁, ⟨target, iter, ifs, 0⟩] scope pos) 1 it' acc env) R s')
      (notedBy (MD w) A env fun x s' => R (.error x) s') s) :
    codeAny (MD w) A (.compStart (.ListComp elt [g₁, ⟨target, iter, ifs, 0⟩] scope pos) 1 it acc env) R s := by
  refine codeAny_of_tree ?_
  show wpAny _ _ ((compStart (.ListComp elt [g₁, ⟨target, iter, ifs, 0⟩] scope pos) 1 it acc env).onRaise (fun x => do noteFrame x env; standAt theWindowsPlace)) _ _ s
  refine wpAny_notedAt ?_
  unfold compStart
  show wpAny _ _ (ask >>= _) _ _ s
  refine wpAny_bind (wpAny_askSetting (wpAny_ite ?_))
  split
  · first
      | exact wpAny_bind (wpAny_pure (wpAny_pure (And.intro rfl h0)))
      | exact wpAny_pure (And.intro rfl h0)
  · first
      | exact wpAny_bind (wpAny_rule (wpAny_bind (wpAny_standAt (wpAny_bind (wpAny_mono h (fun it' s' h' => wpAny_pure (And.intro rfl h')) fun _ _ x => x)))))
      | (refine wpAny_bind (wpAny_rule ?_); show wpAny _ _ (standAt iter.pos >>= _) _ _ s; exact wpAny_bind (wpAny_standAt (wpAny_bind (wpAny_mono h (fun it' s' h' => wpAny_pure (And.intro rfl h')) fun _ _ x => x))))

noncomputable def outN (G : Nat → List Sc) (n : Nat) : List Sc := (List.range n).flatMap G
theorem outN_zero {G} : outN G 0 = [] := rfl
theorem outN_succ {G n} : outN G (n + 1) = outN G n ++ G n := by simp [outN, List.range_succ]
theorem outN_le {G : Nat → List Sc} (n : Nat) (h : ∀ j, j < n → (G j).length ≤ 1) : (outN G n).length ≤ n := by
  induction n with
  | zero => simp [outN]
  | succ n ih => rw [outN_succ, List.length_append]; have := ih fun j hj => h j (by (first | exact om29 hj | omega)); have := h n (by (first | exact om30 | omega)); omega
theorem outN_list {g : Sc → List Sc} : ∀ (items : List Sc), outN (fun j => (items[j]?).elim [] g) items.length = items.flatMap g := by
  intro items
  have : ∀ n, n ≤ items.length → outN (fun j => (items[j]?).elim [] g) n = (items.take n).flatMap g := by
    intro n
    induction n with
    | zero => intro _; rfl
    | succ n ih =>
      intro h
      rw [outN_succ, ih (by (first | exact om31 h | omega)), List.take_add_one, List.flatMap_append]
      have hn : items[n]? = some items[n] := by simp
      rw [hn]; simp
  rw [this _ (Nat.le_refl _), List.take_length]

section
variable {w : World} {h₀ : Heap} {Φ : Fm} {vs : List (Option Vl)}

theorem BlockP.one {scope : Scope} {cap : List (Str × Nat)} {capv : List Vl} {lv : List (Str × VK)} {elt iter target : Expr} {ifs : List Expr} {pos : Pos} {n : Nat} {V} {G : Nat → List Sc}
    (upd : Nat → List (Option Vl) → List (Option Vl)) (U : Nat → List (Option Vl)) (hcp : capv.all Vl.pure = true)
    (ha : ∀ Φ', Φ'.nm = lv ++ cap.map (fun p => (p.1, VK.fre)) → WF w h₀ Φ' → AssignP w h₀ Φ' target V upd)
    (hupd : ∀ j us, j < n → us.length = lv.length → upd j (us ++ capv.map some) = U j ++ capv.map some) (hU : ∀ j, j < n → (U j).length = lv.length ∧ (U j).all (fun o => o.all Vl.pure) = true) (hn : n ≤ 1000)
    (step : ∀ C D X j, j < n → WF w h₀ ((compFm scope C D Φ (lv ++ cap.map fun p => (p.1, VK.fre))).more X) → ∃ b, TsP w h₀ ((compFm scope C D Φ (lv ++ cap.map fun p => (p.1, VK.fre))).more X) (U j ++ capv.map some) ifs b ∧
      (b = true → ∃ y, G j = [y] ∧ EvP w h₀ ((compFm scope C D Φ (lv ++ cap.map fun p => (p.1, VK.fre))).more X) (U j ++ capv.map some) elt (.sc y)) ∧ (b = false → G j = [])) :
    BlockP w h₀ Φ scope cap capv lv target n V elt [⟨target, iter, ifs, 0⟩] pos (outN G n) := by
  intro C D it X fp St' Φc hΦc wfc hD hDm hD0 T hfp hX s hs hst hacc
  subst hΦc
  refine codeAny_mono (compLoopP wfc hD hDm T hfp hX upd (ha _ rfl (wfc.more X)) _ _ (compTurn_one ..)
    (fun j vs' zs' => (∃ us, vs' = us ++ capv.map some ∧ us.length = lv.length) ∧ zs' = outN G j ∧ zs'.length ≤ j) ?_ s hs hst ⟨⟨_, rfl, by simp⟩, rfl, Nat.le_refl _⟩ hacc) fun r s' h => ?_
  · rintro j vs' zs' hj ⟨⟨us, rfl, hus⟩, rfl, hlen⟩ wf'
    obtain ⟨b, h1, h2, h3⟩ := step C D X j hj wf'
    rw [hupd j us hj hus]
    refine ⟨b, h1, fun hb => ?_, fun hb => ⟨⟨_, rfl, (hU j hj).1⟩, by rw [outN_succ, h3 hb, List.append_nil], by (first | exact om32 hlen | omega)⟩⟩
    obtain ⟨y, hy, he⟩ := h2 hb
    refine AccP.emit wf' (.inl hD) hDm hD0 ?_ he (by (first | exact om33 hlen hj hn | omega)) ⟨⟨_, rfl, (hU j hj).1⟩, by rw [outN_succ, hy], by rw [List.length_append]; simp; omega⟩
    rw [List.all_append, (hU j hj).2, Bool.true_and, List.all_map]; exact hcp
  · obtain ⟨hr, hk, vs', zs', ⟨_, hz, _⟩, h4⟩ := h
    exact ⟨hr, hk, vs', zs', hz, h4⟩

theorem caps_pure {scope cap capv lv} (c : Caps Φ vs scope cap capv lv) : capv.all Vl.pure = true := by
  have h := c.cp
  clear c
  induction h with
  | nil => rfl
  | cons h _ ih => rw [List.all_cons, h.2.2, ih]; rfl

noncomputable abbrev compFr (scope : Scope) (C D : Addr) (X : Addr → Prop) (Φ : Fm) (lv : List (Str × VK)) (cap : List (Str × Nat)) : Fm := (compFm scope C D Φ (lv ++ cap.map fun p => (p.1, VK.fre))).more X

/-- [elt for x in items if ..] -/
theorem block1 {scope : Scope} {cap : List (Str × Nat)} {capv : List Vl} {x : Str} {kx : VK} {elt iter : Expr} {ifs : List Expr} {pos px : Pos} {items : List Sc} (c : Caps Φ vs scope cap capv [(x, kx)]) (hk : kx ≠ .fre) (hn : items.length ≤ 1000) (g : Sc → List Sc)
    (step : ∀ C D X item, item ∈ items → WF w h₀ (compFr scope C D X Φ [(x, kx)] cap) → ∃ b, TsP w h₀ (compFr scope C D X Φ [(x, kx)] cap) (some (.sc item) :: capv.map some) ifs b ∧
      (b = true → ∃ y, g item = [y] ∧ EvP w h₀ (compFr scope C D X Φ [(x, kx)] cap) (some (.sc item) :: capv.map some) elt (.sc y)) ∧ (b = false → g item = [])) :
    BlockP w h₀ Φ scope cap capv [(x, kx)] (.Name x px) items.length (VN items) elt [⟨.Name x px, iter, ifs, 0⟩] pos (items.flatMap g) := by
  rw [← outN_list]
  refine BlockP.one (fun i vs => vs.set 0 ((items[i]?).map .sc)) (fun i => [(items[i]?).map .sc]) (caps_pure c) (fun Φ' hnm hw' => AssignP.name hw' 0 (by rw [hnm]; rfl) hk) (fun j us hj hl => ?_) (fun j hj => ⟨rfl, ?_⟩) hn ?_
  · obtain ⟨u, rfl⟩ := List.length_eq_one_iff.mp hl
    rfl
  · cases items[j]? <;> rfl
  · intro C D X j hj hw'
    have hj' : items[j]? = some items[j] := by simp
    rw [hj']
    exact step C D X items[j] (List.getElem_mem hj) hw'

theorem EvP.comp1 (hw : WF w h₀ Φ) {scope : Scope} {cap : List (Str × Nat)} {capv : List Vl} {x : Str} {kx : VK} {elt iter : Expr} {ifs : List Expr} {pos px : Pos} {items : List Sc} (c : Caps Φ vs scope cap capv [(x, kx)]) (hk : kx ≠ .fre)
    (hit : ItP w h₀ Φ vs iter items) (hn : items.length ≤ 1000) (g : Sc → List Sc)
    (step : ∀ C D X item, item ∈ items → WF w h₀ (compFr scope C D X Φ [(x, kx)] cap) → ∃ b, TsP w h₀ (compFr scope C D X Φ [(x, kx)] cap) (some (.sc item) :: capv.map some) ifs b ∧
      (b = true → ∃ y, g item = [y] ∧ EvP w h₀ (compFr scope C D X Φ [(x, kx)] cap) (some (.sc item) :: capv.map some) elt (.sc y)) ∧ (b = false → g item = []))
    (hsi : ∀ x, foldedSetIterable iter Φ.env x = pure x := by intro _; rfl) :
    EvP w h₀ Φ vs (.ListComp elt [⟨.Name x px, iter, ifs, 0⟩] scope pos) (.list (items.flatMap g)) :=
  EvP.comp hw c (ItX.name hit) (block1 c hk hn g step) hsi

theorem ExS.comp1 (hw : WF w h₀ Φ) (i : Nat) {z : Str} {kz : VK} {scope : Scope} {cap : List (Str × Nat)} {capv : List Vl} {x : Str} {kx : VK} {elt iter : Expr} {ifs : List Expr} {pos px pz spos : Pos} {items : List Sc} {R : Out → Prop} (c : Caps Φ vs scope cap capv [(x, kx)]) (hk : kx ≠ .fre)
    (hit : ItP w h₀ Φ vs iter items) (hn : items.length ≤ 1000) (g : Sc → List Sc)
    (step : ∀ C D X item, item ∈ items → WF w h₀ (compFr scope C D X Φ [(x, kx)] cap) → ∃ b, TsP w h₀ (compFr scope C D X Φ [(x, kx)] cap) (some (.sc item) :: capv.map some) ifs b ∧
      (b = true → ∃ y, g item = [y] ∧ EvP w h₀ (compFr scope C D X Φ [(x, kx)] cap) (some (.sc item) :: capv.map some) elt (.sc y)) ∧ (b = false → g item = []))
    (hz : Φ.nm[i]? = some (z, kz)) (hkz : kz ≠ .fre) (hsw : swapsWith (.ListComp elt [⟨.Name x px, iter, ifs, 0⟩] scope pos) (some (.Name z pz)) spos.line Φ.env = pure true) (hR : R (.nxt (vs.set i (some (.list (items.flatMap g))))))
    (hsi : ∀ x, foldedSetIterable iter Φ.env x = pure x := by intro _; rfl) :
    ExS w h₀ Φ vs (.Assign [.Name z pz] (.ListComp elt [⟨.Name x px, iter, ifs, 0⟩] scope pos) spos) R :=
  ExS.comp hw i c (ItX.name hit) (block1 c hk hn g step) hz hkz hsw hR hsi

theorem twoOf {α : Type} {us : List α} (h : us.length = 2) : ∃ u v, us = [u, v] := by
  rcases us with _ | ⟨u, _ | ⟨v, _ | ⟨x, us⟩⟩⟩
  · exact absurd h (by simp)
  · exact absurd h (by simp)
  · exact ⟨u, v, rfl⟩
  · exact absurd h (by simp)
/-- [elt for x, y in enumerate(items) if ..] -/
theorem blockE {scope : Scope} {cap : List (Str × Nat)} {capv : List Vl} {x y : Str} {kx ky : VK} {elt iter : Expr} {ifs : List Expr} {pos px py tp : Pos} {tk} {items : List Sc} (c : Caps Φ vs scope cap capv [(x, kx), (y, ky)]) (hk : kx ≠ .fre) (hky : ky ≠ .fre) (hn : items.length ≤ 1000) (G : Nat → List Sc)
    (step : ∀ C D X (j : Nat) item, items[j]? = some item → WF w h₀ (compFr scope C D X Φ [(x, kx), (y, ky)] cap) → ∃ b, TsP w h₀ (compFr scope C D X Φ [(x, kx), (y, ky)] cap) (some (iV (j : Nat)) :: some (.sc item) :: capv.map some) ifs b ∧
      (b = true → ∃ z, G j = [z] ∧ EvP w h₀ (compFr scope C D X Φ [(x, kx), (y, ky)] cap) (some (iV (j : Nat)) :: some (.sc item) :: capv.map some) elt (.sc z)) ∧ (b = false → G j = [])) :
    BlockP w h₀ Φ scope cap capv [(x, kx), (y, ky)] (.Tuple [.Name x px, .Name y py] tk tp) items.length (VP items) elt [⟨.Tuple [.Name x px, .Name y py] tk tp, iter, ifs, 0⟩] pos (outN G items.length) := by
  refine BlockP.one (fun i vs => (vs.set 0 (some (iV i))).set 1 ((items[i]?).map .sc)) (fun i => [some (iV i), (items[i]?).map .sc]) (caps_pure c) (fun Φ' hnm hw' => AssignP.pair hw' 0 1 (by rw [hnm]; rfl) hk (by rw [hnm]; rfl) hky) (fun j us hj hl => ?_) (fun j hj => ⟨rfl, ?_⟩) hn ?_
  · obtain ⟨u, v, rfl⟩ := twoOf hl
    rfl
  · cases items[j]? <;> rfl
  · intro C D X j hj hw'
    have hj' : items[j]? = some items[j] := by simp
    rw [hj']
    exact step C D X j items[j] hj' hw'

theorem KB.afterKp {mu : Addr → Prop} {D : Addr} {X : Addr → Prop} {s₁ s₃ s' : Shared} (kp : Kp s₁ s₃) (hX : ∀ b, X b → s₁.heap.get? b = none) (hk : KB (fun b => mu b ∨ b = D ∨ X b) s₃ s') : KB (fun b => mu b ∨ b = D) s₁ s' := by
  obtain ⟨h1, tk1, rfl, k1⟩ := kp
  obtain ⟨h2, tk2, rfl, k2⟩ := hk
  exact ⟨h2, tk2, rfl, fun b o n e => k2 b o (fun q => by
    rcases q with q | q | q
    · exact n (.inl q)
    · exact n (.inr q)
    · rw [hX b q] at e; cases e) (k1 b o e)⟩

/-- [elt for x in items for y in items₂] -/
theorem block2 {scope : Scope} {cap : List (Str × Nat)} {capv : List Vl} {x y : Str} {kx ky : VK} {elt iter iter₂ : Expr} {pos px py : Pos} {items items₂ : List Sc} (c : Caps Φ vs scope cap capv [(x, kx), (y, ky)]) (hk : kx ≠ .fre) (hky : ky ≠ .fre)
    (hn : items.length * items₂.length + items₂.length ≤ 1000) (hn1 : items.length ≤ 1000) (g : Sc → Sc → Sc)
    (hit₂ : ∀ C D X item u, item ∈ items → WF w h₀ (compFr scope C D X Φ [(x, kx), (y, ky)] cap) → ItP w h₀ (compFr scope C D X Φ [(x, kx), (y, ky)] cap) (some (.sc item) :: u :: capv.map some) iter₂ items₂)
    (step : ∀ C D X item item₂, item ∈ items → item₂ ∈ items₂ → WF w h₀ (compFr scope C D X Φ [(x, kx), (y, ky)] cap) → EvP w h₀ (compFr scope C D X Φ [(x, kx), (y, ky)] cap) (some (.sc item) :: some (.sc item₂) :: capv.map some) elt (.sc (g item item₂)))
    (hsi₂ : ∀ env x, foldedSetIterable iter₂ env x = pure x := by intro _ _; rfl) :
    BlockP w h₀ Φ scope cap capv [(x, kx), (y, ky)] (.Name x px) items.length (VN items) elt [⟨.Name x px, iter, [], 0⟩, ⟨.Name y py, iter₂, [], 0⟩] pos (items.flatMap fun a => items₂.map (g a)) := by
  intro C D it X fp St' Φc hΦc wfc hD hDm hD0 T hfp hX s hs hst hacc
  subst hΦc
  have hpc : (capv.map some).all (fun o => o.all Vl.pure) = true := by rw [List.all_map]; exact caps_pure c
  refine codeAny_mono (compLoopP wfc hD hDm T hfp hX (fun i vs => vs.set 0 ((items[i]?).map .sc)) (AssignP.name (wfc.more X) 0 rfl hk) _ _ (compTurn_outer ..)
    (fun j vs' zs' => (∃ u v : Option Vl, vs' = u :: v :: capv.map some ∧ v.all Vl.pure = true) ∧ zs' = (items.take j).flatMap (fun a => items₂.map (g a)) ∧ zs'.length ≤ j * items₂.length) ?_ s hs hst ⟨⟨_, _, rfl, rfl⟩, rfl, Nat.zero_le _⟩ hacc) fun r s' h => ?_
  · rintro j vs' zs' hj ⟨⟨u, v, rfl, hvp⟩, hz, hlen⟩ wf'
    have hj' : items[j]? = some items[j] := by simp
    simp only [hj']
    refine ⟨true, TsP.nil, fun _ => ?_, fun q => by cases q⟩
    show AccP w h₀ _ D (some (.sc items[j]) :: v :: capv.map some) _ _ _
    intro s₁ hs₁ hacc₁
    have hmem : items[j] ∈ items := List.getElem_mem hj
    have hle : j * items₂.length ≤ items.length * items₂.length := Nat.mul_le_mul_right _ (Nat.le_of_lt hj)
    unfold innerRun
    refine wpAny_bind (wpAny_mono (ItX.name (px := py) (x := y) (hit₂ C D X items[j] v hmem wf') s₁ hs₁) (fun xv s₂ h2 => ?_) fun _ _ x => x.elim)
    refine wpAny_bind (wpAny_standAt (wpAny_bind (wpAny_of_eq (hsi₂ _ xv) (wpAny_bind (wpAny_holding (wpAny_mono h2 (fun it₂ s₃ h3 => ?_) fun _ _ x => x.elim))))))
    obtain ⟨kp, X₂, fp₂, St₂, T₂, hst₂, hfp₂, hX₂⟩ := h3
    have hX₂0 : ∀ b, X₂ b → h₀.get? b = none := fun b hb => h0None hs₁ (hX₂ b hb)
    have hs₃ : St h₀ ((compFr scope C D X Φ [(x, kx), (y, ky)] cap).more X₂) (some (.sc items[j]) :: v :: capv.map some) s₃ := St.enter hs₁ kp hX₂ fun b hb => T₂.live 0 _ hst₂ b hb
    have hacc₃ : AccL s₃.heap D zs' := hacc₁.keeps fun o e => kp.heap D o e
    have hlp : ∀ s₄ : Shared, s₄ = s₃ → codeAny (MD w) Φ.A (.compLoop (.ListComp elt [⟨.Name x px, iter, [], 0⟩, ⟨.Name y py, iter₂, [], 0⟩] scope pos) 1 it₂ (.ref D) (compFr scope C D X Φ [(x, kx), (y, ky)] cap).env)
        (fun r s' => r = .ok .next ∧ KD (compFr scope C D X Φ [(x, kx), (y, ky)] cap) D s₁ s' ∧ ∃ vs' zs'', ((∃ u v : Option Vl, vs' = u :: v :: capv.map some ∧ v.all Vl.pure = true) ∧ zs'' = (items.take (j + 1)).flatMap (fun a => items₂.map (g a)) ∧ zs''.length ≤ (j + 1) * items₂.length) ∧
          St h₀ (compFr scope C D X Φ [(x, kx), (y, ky)] cap) vs' s' ∧ AccL s'.heap D zs'') s₄ := by
      rintro s₄ rfl
      refine codeAny_mono (compLoopP (Φ := compFr scope C D X Φ [(x, kx), (y, ky)] cap) wf' (.inl hD) hDm T₂ (fun b hb => (hfp₂ b hb).2) hX₂0 (fun i vs => vs.set 1 ((items₂[i]?).map .sc)) (AssignP.name (wf'.more X₂) 1 rfl hky) _ _ (compTurn_inner ..)
        (fun i vs' zs'' => (∃ v : Option Vl, vs' = some (.sc items[j]) :: v :: capv.map some ∧ v.all Vl.pure = true) ∧ zs'' = zs' ++ (items₂.take i).map (g items[j]) ∧ zs''.length ≤ j * items₂.length + i) ?_ _ hs₃ hst₂ ⟨⟨_, rfl, hvp⟩, by simp, hlen⟩ hacc₃) fun r s' h => ?_
      · rintro i vs₂ zs₂ hi ⟨⟨v₂, rfl, hv₂⟩, hz₂, hlen₂⟩ wf₂
        have hi' : items₂[i]? = some items₂[i] := by simp
        simp only [hi']
        refine ⟨true, TsP.nil, fun _ => ?_, fun q => by cases q⟩
        show AccP w h₀ _ D (some (.sc items[j]) :: some (.sc items₂[i]) :: capv.map some) _ _ _
        refine AccP.emit wf₂ (.inl (.inl hD)) hDm hD0 (by simpa [Vl.pure] using hpc) ?_ (by (first | exact om34 hlen₂ hi hle hn | omega)) (x := g items[j] items₂[i]) ⟨⟨_, rfl, rfl⟩, ?_, by rw [List.length_append]; simp; (first | exact om35 hlen₂ | omega)⟩
        · have := step C D (fun b => X b ∨ X₂ b) items[j] items₂[i] hmem (List.getElem_mem hi)
          have e : (compFr scope C D X Φ [(x, kx), (y, ky)] cap).more X₂ = compFr scope C D (fun b => X b ∨ X₂ b) Φ [(x, kx), (y, ky)] cap := by
            unfold compFr Fm.more
            congr 1
            funext b
            exact propext or_assoc
          rw [e] at wf₂ ⊢
          exact this wf₂
        · rw [hz₂, List.take_add_one, hi', List.map_append, List.append_assoc]; rfl
      · obtain ⟨hr, hk₂, vs₂, zs₂, ⟨⟨v₂, rfl, hv₂⟩, hz₂, hlen₂⟩, hs₄, hacc₄⟩ := h
        refine ⟨hr, ?_, _, _, ⟨⟨_, _, rfl, hv₂⟩, ?_, ?_⟩, hs₄, hacc₄⟩
        · exact KB.afterKp kp hX₂ hk₂
        · rw [hz₂, hz, List.take_length, List.take_add_one, hj', List.flatMap_append]; simp
        · rw [Nat.add_mul]; (first | exact om36 hlen₂ | omega)
    refine wpAny_bind (wpAny_runOwn (codeAny_mono (codeAny_compStart_list' (hlp _ rfl) (T₂.self 0 _ _ _ hst₂ (hlp _ rfl))) fun r s' h => ?_))
    obtain ⟨rfl, h⟩ := h
    exact wpAny_pure h
  · obtain ⟨hr, hk, vs', zs', ⟨_, hz, _⟩, h4⟩ := h
    exact ⟨hr, hk, vs', zs', by rw [hz, List.take_length], h4⟩
end
end Mine

namespace Mine

/-! equal values -/
noncomputable def eqS (x y : Sc) : Option Bool :=
  match x with
  | .int a => match y with | .int b => some (a == b) | _ => none
  | .bool a => match y with | .bool b => some (a == b) | _ => none
  | .str a => match y with | .str b => some (a == b) | _ => none
  | .flt u => match y with | .int n => some (Float64.cmpInt u n == some .eq) | _ => none
  | _ => none

theorem noneSome {P : Prop} {b : Bool} (h : (none : Option Bool) = some b) : P := by cases h
theorem eqSAt {A : Around} {s : Shared} {x y : Sc} {v u : Value} {b : Bool} (hx : SR x v) (hy : SR y u) (h : eqS x y = some b) : SeqAt.EqAt A s v u b := by
  cases x <;> cases y <;> first | exact noneSome h | replace h := Option.some.inj h
  · subst h; simp only [SR] at hx hy; subst hx; subst hy; exact SeqAt.EqAt.bool_bool _ _
  · subst h; obtain ⟨t, rfl⟩ := hx; obtain ⟨t', rfl⟩ := hy; exact SeqAt.EqAt.int_int _ _ _ _
  · subst h
    obtain ⟨t, rfl⟩ := hx
    obtain ⟨t', rfl⟩ := hy
    intro prog w E Q hQ
    unfold eqBool
    refine wpAny_holding ?_
    refine wpAny_ite_split (fun hab => absurd (eq_of_beq hab) nofun) (fun _ => ?_)
    refine wpAny_bind ?_
    show wpAny _ _ (compareOp .Eq _ _) _ _ _
    exact PyProof.Rows.eq_fi (wpAny_truthy_bool hQ)
  · subst h; obtain ⟨t, rfl⟩ := hx; obtain ⟨t', rfl⟩ := hy; exact SeqAt.EqAt.str_str _ _ _ _

noncomputable def eqB (x y : Sc) : Bool := (eqS x y).getD false
noncomputable def eqL : List Sc → List Sc → Bool
  | [], ys => ys.isEmpty
  | x :: xs, ys => match ys with | [] => false | y :: ys => eqB x y && eqL xs ys
theorem eqL_c {x y : Sc} {xs ys : List Sc} : eqL (x :: xs) (y :: ys) = (eqB x y && eqL xs ys) := rfl

theorem eqL_len {xs ys : List Sc} (h : xs.length ≠ ys.length) : eqL xs ys = false := by
  induction xs generalizing ys with
  | nil => cases ys with
    | nil => simp at h
    | cons y ys => rfl
  | cons x xs ih => cases ys with
    | nil => rfl
    | cons y ys => rw [eqL_c, ih (by simpa using h), Bool.and_false]

theorem eqL_all {xs ys : List Sc} (h : xs.length = ys.length) : (List.range xs.length).all (fun j => match xs[j]?, ys[j]? with | some x, some y => eqB x y | _, _ => false) = eqL xs ys := by
  induction xs generalizing ys with
  | nil => cases ys with
    | nil => rfl
    | cons y ys => simp at h
  | cons x xs ih => cases ys with
    | nil => simp at h
    | cons y ys =>
      rw [eqL_c, ← ih (by simpa using h), List.length_cons, List.range_succ_eq_map, List.all_cons, List.all_map]
      rfl

section
variable {w : World} {h₀ : Heap} {Φ : Fm} {vs : List (Option Vl)}

theorem roomUnits (hw : WF w h₀ Φ) : Φ.A.units < cLine := by have := hw.room.2.2; (first | exact om37 this | omega)

theorem pairedAt {xs : List Sc} {items : Array Value} (hp : Paired SR xs items.toList) {j : Nat} (hj : j < items.size) : ∃ x, xs[j]? = some x ∧ SR x items[j] := by
  have hl : xs.length = items.size := by rw [Paired.length hp]; simp
  have hx : xs[j]? = some (xs[j]'(by (first | exact om38 hl hj | omega))) := by simp
  exact ⟨_, hx, pairedGet hp hx (by simp [hj])⟩

theorem listsEq (hw : WF w h₀ Φ) {xs ys : List Sc} {items items2 : Array Value} {s : Shared} {A : Around} (hp : Paired SR xs items.toList) (hq : Paired SR ys items2.toList) (hc : ∀ x ∈ xs, ∀ y ∈ ys, (eqS x y).isSome = true) :
    ∀ j (h1 : j < items.size) (h2 : j < items2.size), SeqAt.EqAt A s items[j] items2[j] (match xs[j]?, ys[j]? with | some x, some y => eqB x y | _, _ => false) := by
  intro j h1 h2
  obtain ⟨x, hx, hsx⟩ := pairedAt hp h1
  obtain ⟨y, hy, hsy⟩ := pairedAt hq h2
  rw [hx, hy]
  obtain ⟨b, hb⟩ := Option.isSome_iff_exists.mp (hc x (List.mem_of_getElem? hx) y (List.mem_of_getElem? hy))
  refine eqSAt hsx hsy (b := eqB x y) ?_
  unfold eqB; rw [hb]; rfl

theorem CmpP.eqLs (hw : WF w h₀ Φ) {xs ys : List Sc} (hc : ∀ x ∈ xs, ∀ y ∈ ys, (eqS x y).isSome = true) : CmpP w h₀ Φ vs .Eq (.list xs) (.list ys) (eqL xs ys) := by
  intro s va vb hs q_1 q_2
  obtain ⟨a, items, e, hl, _, hp⟩ := q_1
  obtain ⟨b, items2, e', hb, _, hq⟩ := q_2
  subst e; subst e'
  have l1 : items.size = xs.length := by rw [Paired.length hp]; simp
  have l2 : items2.size = ys.length := by rw [Paired.length hq]; simp
  by_cases h : xs.length = ys.length
  · refine SeqAt.eq_listAt hl.isList hb.isList (by (first | exact om39 h l2 l1 | omega)) (roomUnits hw) (listsEq hw hp hq hc) ?_
    rw [l1, eqL_all h]
    exact ⟨Kp.refl s, rfl⟩
  · refine SeqAt.eq_list_lengthsAt hl.isList hb.isList (by simp; (first | exact om40 h l2 l1 | omega)) (roomUnits hw) ?_
    rw [eqL_len h]
    exact ⟨Kp.refl s, rfl⟩
theorem CmpP.neLs (hw : WF w h₀ Φ) {xs ys : List Sc} (hc : ∀ x ∈ xs, ∀ y ∈ ys, (eqS x y).isSome = true) : CmpP w h₀ Φ vs .NotEq (.list xs) (.list ys) (!eqL xs ys) := by
  intro s va vb hs q_1 q_2
  obtain ⟨a, items, e, hl, _, hp⟩ := q_1
  obtain ⟨b, items2, e', hb, _, hq⟩ := q_2
  subst e; subst e'
  have l1 : items.size = xs.length := by rw [Paired.length hp]; simp
  have l2 : items2.size = ys.length := by rw [Paired.length hq]; simp
  by_cases h : xs.length = ys.length
  · refine SeqAt.RcNeAt.lists hl.isList hb.isList (by (first | exact om39 h l2 l1 | omega)) (roomUnits hw) (listsEq hw hp hq hc) _ w _ _ ?_
    rw [l1, eqL_all h]
    exact ⟨Kp.refl s, rfl⟩
  · refine SeqAt.RcNeAt.lists_lengths hl.isList hb.isList (by simp; (first | exact om40 h l2 l1 | omega)) (roomUnits hw) _ w _ _ ?_
    rw [eqL_len h]
    exact ⟨Kp.refl s, rfl⟩

/-- a value read back from a list's place (for the rules that take a test on values) -/
noncomputable def readB (x : Sc) (v : Value) : Bool := by
  classical
  exact if h : ∃ y, SR y v ∧ eqB y x = true then true else false

theorem srInj {x y : Sc} {v : Value} (hx : SR x v) (hy : SR y v) : x = y := by
  cases x <;> cases y <;> simp only [SR] at hx hy <;> first
    | rfl
    | (obtain ⟨t, rfl⟩ := hx; obtain ⟨t', e⟩ := hy; cases e; rfl)
    | (obtain ⟨t, rfl⟩ := hx; cases hy; done)
    | (subst hx; obtain ⟨t', e⟩ := hy; cases e; done)
    | (subst hx; cases hy; rfl)
    | (subst hx; cases hy; done)
    | (obtain ⟨t, rfl⟩ := hx; obtain ⟨t', e⟩ := hy; cases e; done)

theorem readB_eq {x y : Sc} {v : Value} (h : SR y v) : readB x v = eqB y x := by
  unfold readB
  split
  · rename_i hh
    obtain ⟨z, h1, h2⟩ := hh
    rw [srInj h h1, h2]
  · rename_i hh
    cases e : eqB y x with
    | false => rfl
    | true => exact absurd ⟨y, h, e⟩ hh

theorem readAny {x : Sc} {ys : List Sc} {l : List Value} (hp : Paired SR ys l) : l.any (readB x) = ys.any fun y => eqB y x := by
  induction hp with
  | nil => rfl
  | cons h _ ih => rw [List.any_cons, List.any_cons, ih, readB_eq h]
theorem readCount {x : Sc} {ys : List Sc} {l : List Value} (hp : Paired SR ys l) : l.countP (readB x) = ys.countP fun y => eqB y x := by
  induction hp with
  | nil => rfl
  | cons h _ ih => rw [List.countP_cons, List.countP_cons, ih, readB_eq h]

theorem readAt {A : Around} {s : Shared} {x : Sc} {v : Value} {ys : List Sc} {items : Array Value} (hx : SR x v) (hp : Paired SR ys items.toList) (hc : ∀ y ∈ ys, (eqS y x).isSome = true) : ∀ y, y ∈ items → SeqAt.EqAt A s y v (readB x y) := by
  intro u hu
  obtain ⟨j, hj, rfl⟩ := Array.getElem_of_mem hu
  obtain ⟨y, hy, hsy⟩ := pairedAt hp hj
  obtain ⟨b, hb⟩ := Option.isSome_iff_exists.mp (hc y (List.mem_of_getElem? hy))
  rw [readB_eq hsy]
  refine eqSAt hsy hx (b := eqB y x) ?_
  unfold eqB; rw [hb]; rfl

theorem CmpP.isIn {x : Sc} {ys : List Sc} (hc : ∀ y ∈ ys, (eqS y x).isSome = true) : CmpP w h₀ Φ vs .In (.sc x) (.list ys) (ys.any fun y => eqB y x) := by
  intro s va vb hs hx q_1
  obtain ⟨b, items, e', hb, _, hq⟩ := q_1
  subst e'
  refine SeqAt.in_listAt (readB x) hb.isList (readAt hx hq hc) ?_
  rw [← Array.any_toList, readAny hq]
  exact ⟨Kp.refl s, rfl⟩
theorem CmpP.notIn {x : Sc} {ys : List Sc} (hc : ∀ y ∈ ys, (eqS y x).isSome = true) : CmpP w h₀ Φ vs .NotIn (.sc x) (.list ys) (!ys.any fun y => eqB y x) := by
  intro s va vb hs hx q_1
  obtain ⟨b, items, e', hb, _, hq⟩ := q_1
  subst e'
  refine SeqAt.notIn_listAt (readB x) hb.isList (readAt hx hq hc) ?_
  rw [← Array.any_toList, readAny hq]
  exact ⟨Kp.refl s, rfl⟩

/-! methods -/
noncomputable def ofT (Φ : Fm) (v : Vl) (T : String) : Prop := ∀ (s : Shared) val, Rep Φ.av s.heap v val → s.TypeIs val T ∧ ∀ a, val = .ref a → ∃ ob, s.heap.get? a = some ob ∧ ob.dict = none
theorem ofT.int {i : Int} : ofT Φ (iV i) "int" := fun s val ⟨t, e⟩ => by subst e; exact ⟨typeIs_int _ _ _, fun _ e => nomatch e⟩
theorem ofT.str {i : Str} : ofT Φ (sV i) "str" := fun s val ⟨t, e⟩ => by subst e; exact ⟨typeIs_str _ _ _, fun _ e => nomatch e⟩
theorem ofT.list {xs} : ofT Φ (.list xs) "list" := fun s val q_1 => by
  obtain ⟨a, items, e, hl, _⟩ := q_1
  subst e
  obtain ⟨n, ho⟩ := hl
  exact ⟨⟨_, ho, rfl⟩, fun _ e => by cases e; exact ⟨_, ho, rfl⟩⟩

theorem EvP.meth0 {o : Expr} {name : Str} {apos pos : Pos} {T id : String} {ov r : Vl} (ho : EvP w h₀ Φ vs o ov) (hT : ofT Φ ov T) (pa : PlainAttrs T) (slot : Slot T name id)
    (hty : typeOf (.builtin id) = pure (.type "method_descriptor")) (hf : CalP w h₀ Φ vs (.builtin id) [ov] r)
    (hline : (apos.endLine == pos.line) = true) (hbase : attributeBase o name Φ.env (eval o Φ.env) = eval o Φ.env := by first | kernel_rfl! | rfl)
    (hfew : ((backTo pos (starEach [] Φ.env)).all (fun x => !x.1) && (backToKw pos (keywordEach [] Φ.env)).all (fun x => x.1.isSome)
      && decide (([] : List Expr).length + ([] : List Keyword).length + (if ([] : List Keyword).isEmpty then 0 else 1) < 30)) = true := by first | kernel_rfl! | rfl)
    (hplain : (backTo pos (starEach [] Φ.env)).any (·.1) = false := by first | kernel_rfl! | rfl) : EvP w h₀ Φ vs (.Call (.Attribute o name apos) [] [] pos) r := by
  intro s hs
  refine wpAny_Call_method_lateS hbase hfew hline (wpAny_mono (ho s hs) (fun val s₁ h1 => ?_) fun _ _ x => x)
  have hs₁ := hs.kept h1.1
  obtain ⟨t1, t2⟩ := hT s₁ val h1.2
  refine ⟨T, id, pa, slot, hty, t1, t2, ?_⟩
  refine Calls.callWith_builtin hplain (PyProof.Rows.evalArgs_none ?_)
  refine wpAny_mono (hf s₁ [val] hs₁ (.cons h1.2 .nil)) (fun v s₃ h3 => ⟨h1.1.trans h3.1, h3.2⟩) fun _ _ x => x

theorem EvP.meth1 {o : Expr} {name : Str} {apos pos : Pos} {e₁ : Expr} {es : List Expr} {T id : String} {ov r : Vl} {vl : List Vl} (ho : EvP w h₀ Φ vs o ov) (hT : ofT Φ ov T) (pa : PlainAttrs T) (slot : Slot T name id)
    (hty : typeOf (.builtin id) = pure (.type "method_descriptor")) (hl : EvL w h₀ Φ vs (e₁ :: es) vl) (hf : CalP w h₀ Φ vs (.builtin id) (ov :: vl) r)
    (hline : (apos.endLine == pos.line) = true) (hbase : attributeBase o name Φ.env (eval o Φ.env) = eval o Φ.env := by first | kernel_rfl! | rfl)
    (hfew : ((backTo pos (starEach (e₁ :: es) Φ.env)).all (fun x => !x.1) && (backToKw pos (keywordEach [] Φ.env)).all (fun x => x.1.isSome)
      && decide ((e₁ :: es).length + ([] : List Keyword).length + (if ([] : List Keyword).isEmpty then 0 else 1) < 30)) = true := by first | kernel_rfl! | rfl)
    (he : starEach (e₁ :: es) Φ.env = (false, eval e₁ Φ.env) :: starEach es Φ.env := by first | kernel_rfl! | rfl)
    (hplain : (backTo pos (starEach (e₁ :: es) Φ.env)).any (·.1) = false := by first | kernel_rfl! | rfl) : EvP w h₀ Φ vs (.Call (.Attribute o name apos) (e₁ :: es) [] pos) r := by
  intro s hs
  refine wpAny_Call_method_lateS hbase hfew hline (wpAny_mono (ho s hs) (fun val s₁ h1 => ?_) fun _ _ x => x)
  have hs₁ := hs.kept h1.1
  obtain ⟨t1, t2⟩ := hT s₁ val h1.2
  refine ⟨T, id, pa, slot, hty, t1, t2, ?_⟩
  have hl' := hl pos s₁ hs₁
  rw [he] at hl' hplain ⊢
  refine Calls.callWith_builtin hplain (Calls.evalArgs_plain (wpAny_mono hl' (fun vals s₂ h2 => ?_) fun _ _ x => x))
  refine wpAny_mono (hf s₂ (val :: vals) (hs₁.kept h2.1) (.cons (h1.2.keeps h2.1.heap) h2.2)) (fun v s₃ h3 => ⟨(h1.1.trans h2.1).trans h3.1, h3.2⟩) fun _ _ x => x

theorem CalP.bits {i : Int} : CalP w h₀ Φ vs (.builtin "int.bit_length") [iV i] (iV (Builtin.Int.intBits i : Nat)) := by
  intro s vals hs hp
  cases hp with | cons h1 t =>
  cases t
  obtain ⟨t, rfl⟩ := h1
  exact PyProof.Rows.call_int_bit_length ⟨Kp.tok s _, ⟨_, rfl⟩⟩

theorem CalP.count {xs : List Sc} {x : Sc} (hc : ∀ y ∈ xs, (eqS y x).isSome = true) : CalP w h₀ Φ vs (.builtin "list.count") [.list xs, .sc x] (iV ((xs.countP fun y => eqB y x : Nat))) := by
  intro s vals hs hp
  cases hp with | cons h1 t => cases t with | cons h2 t =>
  cases t
  obtain ⟨a, items, rfl, ⟨n, ho⟩, _, hq⟩ := h1
  refine call_meets F.slot_list_count ⟨_, ho, rfl⟩ F.entry_list_count (F.args_list_count_2 _ _) (SeqAt.list_countAt a items n none #[] _ (readB x)) ⟨ho, readAt h2 hq hc, ?_⟩
  rw [readCount hq]
  exact ⟨Kp.tok s _, ⟨_, rfl⟩⟩

theorem timesList (xs : Array Value) : ∀ (k : Nat) (acc : Array Value), (List.foldl (fun x1 x2 => x1 ++ x2) acc (List.replicate k xs)).toList = acc.toList ++ (List.replicate k xs.toList).flatten
  | 0, acc => by simp
  | k + 1, acc => by
    rw [List.replicate_succ, List.foldl_cons, timesList xs k, List.replicate_succ, List.flatten_cons, Array.toList_append, List.append_assoc]
theorem pairedTimes {xs : List Sc} {l : List Value} (h : Paired SR xs l) : ∀ k : Nat, Paired SR (List.replicate k xs).flatten (List.replicate k l).flatten
  | 0 => .nil
  | k + 1 => by
    rw [List.replicate_succ, List.replicate_succ, List.flatten_cons, List.flatten_cons]
    exact pairedAppend h (pairedTimes h k)

theorem BinP.times {xs : List Sc} {x : Int} (hx : x < 2 ^ 62) (hx0 : -(2 ^ 62) < x) (h0 : xs ≠ []) (hz : xs.length * x.toNat ≤ 1000) : BinP w h₀ Φ vs .Mult (.list xs) (iV x) (.list (List.replicate x.toNat xs).flatten) := by
  intro s va vb hs q_1 q_2
  obtain ⟨l, items, e, ⟨n, hl⟩, _, hp⟩ := q_1
  obtain ⟨u, e'⟩ := q_2
  subst e; subst e'
  have l1 : items.size = xs.length := by rw [Paired.length hp]; simp
  have hne : items.isEmpty = false := by
    have : 0 < xs.length := List.length_pos_iff.mpr h0
    rw [Array.isEmpty_eq_false_iff]; intro q; rw [q] at l1; simp at l1; (first | exact om41 l1 this | omega)
  refine wpAny_binaryOp_repeat_ref (T := "list") (U := "int") (by decide) ⟨_, hl, rfl⟩ (fun s' => typeIs_int s' x u) noFill_list_mul F.fills_int_mul F.slot_int_rmul repeat_list F.slot_int_index.lookup
    (call_meets F.slot_int_rmul (typeIs_int s x u) F.entry_int_rmul (F.args_int_rmul_2 _ _) (int___rmul___int_list x u l items n)
      ⟨hl, rfl, ⟨_, hl, rfl⟩, call_meets F.slot_list_mul ⟨_, hl, rfl⟩ F.entry_list_mul (F.args_list_mul_2 _ _)
        (AutoListH.list___mul___list_int_3 l items n x u (by simp [Builtin.List.listFitsIndex]; (first | exact om42 hx0 hx | omega)) (by rw [l1]; (first | exact om43 hz | omega)) (by rw [l1]; simp [Builtin.List.listTooLong, sizeLine_eq]; (first | exact om44 hz | omega)))
        ⟨hl, ?_⟩⟩)
  refine ⟨kpPush _ _, _, _, rfl, ⟨_, Heap.get?_push_size _ rfl⟩, freshNotAv hs, ?_⟩
  rw [hne, timesList]
  exact pairedTimes hp _
end
end Mine

namespace Mine
section
variable {w : World} {h₀ : Heap} {Φ : Fm} {vs : List (Option Vl)}

/-! changes of the frame's own list -/
theorem St.ownChange (hw : WF w h₀ Φ) {i : Nat} {a : Addr} {xs xs' : List Sc} (hv : vs[i]? = some (some (.own a xs))) (ha : Φ.mu a) (hoth : ((vs.set i none).all fun o => o.all Vl.pure) = true) {s : Shared} {h' : Heap} (x : St h₀ Φ vs s)
    {items items' : Array Value} (hl : s.heap.PlainList a items) (hl' : h'.PlainList a items') (hp : Paired SR xs' items'.toList) (k : Heap.SameBut a s.heap h') : St h₀ Φ (vs.set i (some (.own a xs'))) { s with heap := h' } := by
  obtain ⟨n, hDo⟩ := hl
  have keep : ∀ b o, b ≠ a → s.heap.get? b = some o → h'.get? b = some o := k.extBut
  have ha0 := hw.mufresh a ha
  refine ⟨fun b o e => keep b o (fun q => by rw [q, ha0] at e; cases e) (x.base b o e), fun b hb => ?_, ?_⟩
  · by_cases q : b = a
    · rw [q]; obtain ⟨n, e⟩ := hl'; exact ⟨_, e⟩
    · obtain ⟨o, e⟩ := x.live b hb; exact ⟨o, keep b o q e⟩
  · obtain ⟨mc, h1, h2⟩ := x.ns
    have hL : Φ.env.locals ≠ a := fun q => by obtain ⟨o, _, _, e, d, _⟩ := h1; rw [q, hDo] at e; cases e; cases d
    refine ⟨mc, Heap.Ns.at' h1 fun o e => keep _ o hL e, ?_⟩
    have cellNe : ∀ c v, s.heap.IsCell c v → c ≠ a := fun c v q_1 q => by obtain ⟨o, e, d⟩ := q_1; subst q; rw [hDo] at e; cases e; cases d
    have hlt : i < Φ.nm.length := by
      have e1 : Φ.nm.length = vs.length := Paired.length h2
      by_cases q : i < vs.length
      · (first | exact om17 q e1 | omega)
      · rw [List.getElem?_eq_none (by (first | exact om4 q | omega))] at hv; cases hv
    have hx : Φ.nm[i]? = some Φ.nm[i] := by simp [hlt]
    have atKeep : ∀ (p : Str × VK) val, At Φ mc s.heap p val → At Φ mc h' p val := fun p val g2 => by
      by_cases hl' : p.2 = .loc
      · unfold At at g2 ⊢
        rw [hl'] at g2 ⊢; exact g2
      · obtain ⟨c, g5, g6⟩ := g2.of hl'
        exact At.mk' hl' ⟨c, g5, by obtain ⟨oc, g3, g4⟩ := id g6; exact ⟨oc, keep c oc (cellNe _ _ g6) g3, g4⟩⟩
    obtain ⟨val, hr, hat, hok⟩ := pairedGet h2 hx hv
    obtain ⟨rfl, _⟩ := hr
    refine pairedSet h2 hx ⟨.ref a, ⟨rfl, items', hl', hp⟩, atKeep _ _ hat, ha⟩ fun j p ov hj hp' hov y => ?_
    cases ov with
    | none => intro e; obtain ⟨c, v₀, g1, g2⟩ := y e; exact ⟨c, v₀, g1, by obtain ⟨oc, g3, g4⟩ := id g2; exact ⟨oc, keep c oc (cellNe _ _ g2) g3, g4⟩⟩
    | some v =>
      obtain ⟨val', g1, g2, g3⟩ := y
      have hmem : some v ∈ vs.set i none := by
        have : (vs.set i none)[j]? = some (some v) := by rw [List.getElem?_set_ne (Ne.symm hj)]; exact hov
        exact List.mem_of_getElem? this
      have hpure : v.pure = true := by simpa using (List.all_eq_true.mp hoth) _ hmem
      exact ⟨val', Rep.move (fun b o e n => ⟨n, keep b o (fun q => n (q ▸ hw.muav a ha)) e⟩) hpure g1, atKeep _ _ g2, g3⟩

theorem ownMu {i : Nat} {a xs} (hv : vs[i]? = some (some (.own a xs))) {s : Shared} (hs : St h₀ Φ vs s) : Φ.mu a := by
  obtain ⟨mc, h1, h2⟩ := hs.ns
  have hlt : i < Φ.nm.length := by
    have e1 : Φ.nm.length = vs.length := Paired.length h2
    by_cases q : i < vs.length
    · (first | exact om17 q e1 | omega)
    · rw [List.getElem?_eq_none (by (first | exact om4 q | omega))] at hv; cases hv
  obtain ⟨val, hr, hat, hok⟩ := pairedGet h2 (show Φ.nm[i]? = some Φ.nm[i] by simp [hlt]) hv
  exact hok

/-- x.append(e) -/
theorem ExS.append (hw : WF w h₀ Φ) (i : Nat) {x : Str} {k : VK} {a : Addr} {xs : List Sc} {y : Sc} {e : Expr} {px apos cpos pos : Pos} {R : Out → Prop} (hx : Φ.nm[i]? = some (x, k)) (hv : vs[i]? = some (some (.own a xs)))
    (hoth : ((vs.set i none).all fun o => o.all Vl.pure) = true) (he : EvP w h₀ Φ vs e (.sc y)) (hz : xs.length ≤ 1000) (hR : R (.nxt (vs.set i (some (.own a (xs ++ [y])))))) (hline : (apos.endLine == cpos.line) = true)
    (hse : starEach [e] Φ.env = [(false, eval e Φ.env)] := by first | kernel_rfl! | rfl) (hbase : attributeBase (.Name x px) "append" Φ.env (eval (.Name x px) Φ.env) = eval (.Name x px) Φ.env := by first | kernel_rfl! | rfl)
    (hi : interactive Φ.env = false := by first | kernel_rfl! | rfl) : ExS w h₀ Φ vs (.Expr (.Call (.Attribute (.Name x px) "append" apos) [e] [] cpos) pos) R := by
  intro s hs
  refine wpAny_Expr (Call_method1 hbase hse hline ?_) hi rfl
  refine wpAny_mono (EvP.name hw i hx hv s hs) (fun val s₁ h1 => ?_) fun _ _ x => x
  have hs₁ := hs.kept h1.1
  obtain ⟨rfl, items, hl, hp⟩ := h1.2
  obtain ⟨n, ho⟩ := id hl
  refine ⟨"list", "list.append", F.plainAttrs_list, F.slot_list_append, F.type_list_append, ⟨_, ho, rfl⟩, fun b q => by cases q; exact ⟨_, ho, rfl⟩, ?_⟩
  refine Calls.callWith_builtin rfl (Calls.evalArgs_plain (Calls.spliced_cons (wpAny_mono (he s₁ hs₁) (fun v s₂ h2 => Calls.spliced_nil ?_) fun _ _ x => x)))
  have hs₂ := hs₁.kept h2.1
  have hl₂ := hl.at fun o e => h2.1.heap a o e
  have hys : items.size ≤ sizeLine := by
    have := Paired.length hp
    rw [sizeLine_eq]
    simp at this; (first | exact om6 this hz | omega)
  refine wpAny_list_append_plain (hsz := hys) hl₂ fun h' hl' hsb => ?_
  have ha := ownMu hv hs
  have k3 : KB Φ.mu s₂ { s₂ with heap := h' } := ⟨h', s₂.toks, rfl, fun b o nb e => hsb.extBut b o (fun q => nb (q ▸ ha)) e⟩
  refine ⟨((h1.1.trans h2.1).kb).trans k3, _, hR, rfl, St.ownChange hw hv ha hoth hs₂ hl₂ hl' ?_ hsb⟩
  rw [Array.toList_push]
  exact Paired.snoc hp h2.2

/-- x.reverse() -/
theorem ExS.reverse (hw : WF w h₀ Φ) (i : Nat) {x : Str} {k : VK} {a : Addr} {xs : List Sc} {px apos cpos pos : Pos} {R : Out → Prop} (hx : Φ.nm[i]? = some (x, k)) (hv : vs[i]? = some (some (.own a xs)))
    (hoth : ((vs.set i none).all fun o => o.all Vl.pure) = true) (hz : xs.length ≤ 1000) (hR : R (.nxt (vs.set i (some (.own a xs.reverse))))) (hline : (apos.endLine == cpos.line) = true)
    (hbase : attributeBase (.Name x px) "reverse" Φ.env (eval (.Name x px) Φ.env) = eval (.Name x px) Φ.env := by first | kernel_rfl! | rfl)
    (hi : interactive Φ.env = false := by first | kernel_rfl! | rfl) : ExS w h₀ Φ vs (.Expr (.Call (.Attribute (.Name x px) "reverse" apos) [] [] cpos) pos) R := by
  intro s hs
  refine wpAny_Expr (Call_method0 hbase hline ?_) hi rfl
  refine wpAny_mono (EvP.name hw i hx hv s hs) (fun val s₁ h1 => ?_) fun _ _ x => x
  have hs₁ := hs.kept h1.1
  obtain ⟨rfl, items, hl, hp⟩ := h1.2
  obtain ⟨n, ho⟩ := id hl
  have hys : items.size ≤ sizeLine := by
    have := Paired.length hp
    rw [sizeLine_eq]
    simp at this; (first | exact om6 this hz | omega)
  refine ⟨"list", "list.reverse", F.plainAttrs_list, F.slot_list_reverse, F.type_list_reverse, ⟨_, ho, rfl⟩, fun b q => by cases q; exact ⟨_, ho, rfl⟩, ?_⟩
  refine Calls.callWith_builtin rfl (PyProof.Rows.evalArgs_none ?_)
  refine call_meets F.slot_list_reverse ⟨_, ho, rfl⟩ F.entry_list_reverse (F.args_list_reverse_1 _) (AutoListH.list_reverse_list_0 a items n hys) ⟨ho, ?_⟩
  have ha := ownMu hv hs
  have hsb : Heap.SameBut a s₁.heap (s₁.heap.update a (Obj.mapSeq fun x => x.reverse)) := Heap.SameBut.update ..
  have k3 : KB Φ.mu s₁ { s₁ with heap := s₁.heap.update a (Obj.mapSeq fun x => x.reverse) } := ⟨_, s₁.toks, rfl, fun b o nb e => hsb.extBut b o (fun q => nb (q ▸ ha)) e⟩
  refine ⟨(h1.1.kb).trans k3, _, hR, rfl, St.ownChange hw hv ha hoth hs₁ hl (items' := items.reverse) ?_ ?_ hsb⟩
  · have e : Obj.mapSeq (fun x => x.reverse) { cls := Value.type "list", data := Data.seq items n } = { cls := Value.type "list", data := Data.seq items.reverse (if items.reverse.size = items.size then n else n + 1) } := by simp [Obj.mapSeq]
    exact ⟨_, (Heap.get?_update_self _ ho (by rw [e]; rfl)).trans (by rw [e])⟩
  · rw [Array.toList_reverse]
    clear hR hv hys ho hl hz hs hs₁ hsb k3 h1
    generalize items.toList = l at hp
    induction hp with
    | nil => exact .nil
    | cons h _ ih => rw [List.reverse_cons, List.reverse_cons]; exact Paired.snoc ih h

/-! while -/
theorem ExS.whileL (hw : WF w h₀ Φ) {test body orelse pos} {R : Out → Prop} (J : Nat → List (Option Vl) → Prop) (n : Nat) (h0 : J n vs)
    (turn : ∀ n vs', J n vs' → ∃ b, TrP w h₀ Φ vs' test b ∧ (b = true → ExP w h₀ Φ vs' body (fun o => ∃ vs'' m, o = .nxt vs'' ∧ m < n ∧ J m vs'')) ∧ (b = false → ExP w h₀ Φ vs' orelse R)) :
    ExS w h₀ Φ vs (.While test body orelse pos) R := by
  intro s hst
  refine wpAny_While (codeAny_whileLoop (fun k s' => ∃ vs', KB Φ.mu s s' ∧ St h₀ Φ vs' s' ∧ J k vs') ?_ n ⟨vs, KB.refl _ s, hst, h0⟩)
  rintro k s' ⟨vs', kb, hs', hJ⟩
  obtain ⟨b, h1, h2, h3⟩ := turn k vs' hJ
  refine wpAny_mono (h1 s' hs') (fun b' s₁ hb => ?_) fun _ _ x => x.elim
  obtain ⟨k1, rfl⟩ := hb
  have hs₁ := hs'.kept k1
  cases b' with
  | true =>
    refine wpAny_mono (h2 rfl s₁ hs₁) (fun f s₂ hf => ?_) fun _ _ x => x.elim
    obtain ⟨k2, o, ⟨vs'', m, rfl, hm, hJm⟩, rfl, hs₂⟩ := hf
    exact ⟨m, hm, vs'', (kb.trans k1.kb).trans k2, hs₂, hJm⟩
  | false =>
    refine wpAny_mono (h3 rfl s₁ hs₁) (fun f s₂ hf => ?_) fun _ _ x => x.elim
    exact ⟨(kb.trans k1.kb).trans hf.1, hf.2⟩

/-! iterators -/
theorem boot_enumerate : bootBuiltins "enumerate" = some (.type "enumerate") := by decide +kernel
theorem boot_reversed : bootBuiltins "reversed" = some (.type "reversed") := by decide +kernel

theorem ItX.enum (hw : WF w h₀ Φ) {x : Str} {np pos e} {elts tk tp} {items : List Sc} (hx0 : x = "enumerate") (hx : Φ.env.kindOf x = some .globalImplicit) (hg : nsIn (KK w) mainGlobals x = some none)
    (he : EvP w h₀ Φ vs e (.list items)) (hse : starEach [e] Φ.env = [(false, eval e Φ.env)] := by first | kernel_rfl! | rfl)
    (hee : eval (.Call (.Name x np) [e] [] pos) Φ.env = (do callWith pos (← eval (.Name x np) Φ.env) [] (backTo pos (starEach [e] Φ.env)) (backToKw pos (keywordEach [] Φ.env))) := by first | kernel_rfl! | rfl) :
    ItX w h₀ Φ vs (.Call (.Name x np) [e] [] pos) (.Tuple elts tk tp) items.length (VP items) := by
  subst hx0
  intro s hs
  refine Call_ (builtinP hw hx hg boot_enumerate (by decide) (by decide) hs ?_) hee
  refine PyProof.Rows.callWith_type1 (wpAny_mono (EvL.one he hse pos s hs) (fun vals s₁ h1 => ?_) fun _ _ x => x) hse rfl
  obtain ⟨k1, hp⟩ := h1
  cases hp with | cons ha hp =>
  cases hp
  obtain ⟨l, its, rfl, hl, hav, hpr⟩ := ha
  have hlen : its.size = items.length := by rw [Paired.length hpr]; simp
  have hlt : l < s₁.heap.objs.size := by obtain ⟨n, e⟩ := hl; exact Heap.lt_size e
  refine call_enumerate_list hl.isList fun h' hE hI hsz hk => ?_
  have k2 : Kp s₁ { s₁ with heap := h' } := ⟨h', s₁.toks, rfl, hk⟩
  refine wpAny_pyIter_enum hE ⟨k1.trans k2, fun b => b ∈ [s₁.heap.objs.size + 1, s₁.heap.objs.size], [s₁.heap.objs.size + 1, s₁.heap.objs.size, l], (fun i h => (∃ old, IsEnum h (s₁.heap.objs.size + 1) s₁.heap.objs.size i old) ∧ h.IsListIter s₁.heap.objs.size l i ∧ h.IsList l its), ?_, ⟨⟨.none, hE⟩, hI, hl.isList.at fun o e => hk l o e⟩, fun b hb => ?_, fun b hb => ?_⟩
  · have W := WalksT.enumerate (prog := PW) (w := w) (A := Φ.A) hw.room.1 (s₁.heap.objs.size + 1) s₁.heap.objs.size l (Nat.succ_ne_self _) (Nat.ne_of_lt (Nat.lt_succ_of_lt hlt)) (Nat.ne_of_lt hlt) its
    rw [hlen] at W
    refine ⟨?_, ?_, ?_, W.frame, W.sub, fun i h hh b hb => ?_⟩
    · intro i s Q hi hst hQ
      refine W.item i s _ _ hi hst fun T vals h₁ tk₁ hP hT hTup hM hk₁ => ⟨_, rfl, ?_⟩
      refine W.go elts tk tp i T _ _ _ hM fun h₂ hst₂ hk₂ => ?_
      obtain ⟨t, x, hx, rfl⟩ := hP
      have hx' : its.toList[i]? = some x := by simpa using hx
      have hxi : items[i]? = some items[i] := by simp
      have hTup₂ : h₂.IsTuple T #[.int i t, x] := by
        obtain ⟨o, ho, r⟩ := hTup
        exact ⟨o, hk₂ T o (W.apart _ _ _ hM) ho, r⟩
      refine hQ _ h₂ tk₁ ⟨items[i], T, _, hxi, rfl, hTup₂, ?_⟩ hst₂ fun b o nb e => hk₂ b o nb (hk₁ b o nb e)
      exact .cons ⟨t, rfl⟩ (.cons (pairedGet hpr hxi hx') .nil)
    · intro s Q hst hQ
      exact W.done s _ _ hst fun h' tk hk => ⟨rfl, hQ h' tk hk⟩
    · exact fun i s Q E hst hQ => W.self i s Q E hst hQ
    · obtain ⟨⟨old, h1⟩, ⟨o, h2, _⟩, _⟩ := hh
      rcases List.mem_cons.mp hb with rfl | hb
      · exact ⟨_, h1⟩
      · rw [List.mem_singleton.mp hb]; exact ⟨o, h2⟩
  · have hn1 : ¬ Φ.av s₁.heap.objs.size := newNotAv hs k1
    have hn2 : ¬ Φ.av (s₁.heap.objs.size + 1) := fun q => by
      obtain ⟨o, e⟩ := (hs.kept k1).live _ q
      exact absurd (Nat.lt_of_succ_lt (Heap.lt_size e)) (Nat.lt_irrefl _)
    show b < h'.objs.size ∧ _
    rw [hsz]
    rcases List.mem_cons.mp hb with rfl | hb
    · exact ⟨Nat.lt_succ_self _, hn2⟩
    · rcases List.mem_cons.mp hb with rfl | hb
      · exact ⟨Nat.lt_succ_of_lt (Nat.lt_succ_self _), hn1⟩
      · rw [List.mem_singleton.mp hb]; exact ⟨Nat.lt_succ_of_lt (Nat.lt_succ_of_lt hlt), hav⟩
  · cases e : s.heap.get? b with
    | none => rfl
    | some o =>
      have := Heap.lt_size (k1.heap b o e)
      rcases List.mem_cons.mp hb with rfl | hb
      · exact absurd (Nat.lt_of_succ_lt this) (Nat.lt_irrefl _)
      · rw [List.mem_singleton.mp hb] at this; exact absurd this (Nat.lt_irrefl _)

theorem ItP.rev (hw : WF w h₀ Φ) {x : Str} {np pos e} {items : List Sc} (hx0 : x = "reversed") (hx : Φ.env.kindOf x = some .globalImplicit) (hg : nsIn (KK w) mainGlobals x = some none)
    (he : EvP w h₀ Φ vs e (.list items)) (hse : starEach [e] Φ.env = [(false, eval e Φ.env)] := by first | kernel_rfl! | rfl)
    (hee : eval (.Call (.Name x np) [e] [] pos) Φ.env = (do callWith pos (← eval (.Name x np) Φ.env) [] (backTo pos (starEach [e] Φ.env)) (backToKw pos (keywordEach [] Φ.env))) := by first | kernel_rfl! | rfl) :
    ItP w h₀ Φ vs (.Call (.Name x np) [e] [] pos) items.reverse := by
  subst hx0
  intro s hs
  refine Call_ (builtinP hw hx hg boot_reversed (by decide) (by decide) hs ?_) hee
  refine PyProof.Rows.callWith_type1 (wpAny_mono (EvL.one he hse pos s hs) (fun vals s₁ h1 => ?_) fun _ _ x => x) hse rfl
  obtain ⟨k1, hp⟩ := h1
  cases hp with | cons ha hp =>
  cases hp
  obtain ⟨l, its, rfl, hl, hav, hpr⟩ := ha
  have hlen0 : its.size = items.length := by rw [Paired.length hpr]; simp
  have hlen : its.size = items.reverse.length := by rw [List.length_reverse, hlen0]
  have hlt : l < s₁.heap.objs.size := by obtain ⟨n, e⟩ := hl; exact Heap.lt_size e
  refine call_reversed_list hl.isList ?_
  have k2 : Kp s₁ { s₁ with heap := s₁.heap.push (revObj l ((its.size : Int) - 1)) } := kpPush _ _
  have hrev : (s₁.heap.push (revObj l ((its.size : Int) - 1))).IsRevIter s₁.heap.objs.size l ((its.size : Int) - 1) := by
    first
      | exact Heap.get?_push_size _ rfl
      | exact ⟨_, Heap.get?_push_size _ rfl, rfl, rfl⟩
  refine wpAny_pyIter_revIter hrev ⟨k1.trans k2, s₁.heap.objs.size, [_, l], [_], _, _, rfl, hlen ▸ (Walks.listRev hw.room.1 s₁.heap.objs.size l (Nat.ne_of_lt hlt) its).bound, ⟨Nat.zero_le _, by simpa [← hlen0] using hrev, hl.isList.push _⟩, fun b hb => ?_, fun i v hv => ?_, fun b hb => ?_, fun b hb => ?_, fun i h hh b hb => ?_⟩
  · show b < (s₁.heap.push _).objs.size
    rw [Heap.size_push]
    rcases List.mem_cons.mp hb with rfl | hb
    · exact Nat.lt_succ_self _
    · rw [List.mem_singleton.mp hb]; exact Nat.lt_succ_of_lt hlt
  · obtain ⟨hi, hv⟩ := hv
    rw [← hlen] at hv hi
    have hv' : its.toList[its.size - 1 - i]? = some v := by simpa using hv
    have hi2 : its.size - 1 - i < items.length := by (first | exact om45 hi hlen0 | omega)
    refine ⟨items[its.size - 1 - i], ?_, pairedGet hpr (by simp [hi2]) hv'⟩
    rw [List.getElem?_reverse (by (first | exact om5 hi hlen0 | omega)), ← hlen0]
    simp [hi2]
  · rw [List.mem_singleton.mp hb]; exact newNone k1
  · rcases List.mem_cons.mp hb with rfl | hb
    · exact newNotAv hs k1
    · rw [List.mem_singleton.mp hb]; exact hav
  · rw [List.mem_singleton.mp hb]
    obtain ⟨_, h2, _⟩ := hh
    first
      | exact ⟨_, h2⟩
      | (obtain ⟨o, e, _⟩ := h2; exact ⟨o, e⟩)
end
end Mine

namespace Mine
section
variable {w : World} {h₀ : Heap} {Φ : Fm} {vs : List (Option Vl)}

theorem CalP.divmod {a b : Int} (hb : b ≠ 0) (hl : b.natAbs.log2 < 9000) : CalP w h₀ Φ vs (.builtin "divmod") [iV a, iV b] (.tup [.sc (.int (a.fdiv b)), .sc (.int (a.fmod b))]) := by
  intro s vals hs hp
  cases hp with | cons h1 t => cases t with | cons h2 t =>
  cases t
  obtain ⟨ta, rfl⟩ := h1
  obtain ⟨tb, rfl⟩ := h2
  refine PyProof.Rows.divmod_int hb ⟨⟨_, _, rfl, fun _ _ e => Heap.get?_push_of_some _ e⟩, _, _, rfl, ⟨_, Heap.get?_push_size _ rfl, rfl, _, rfl⟩, freshNotAv hs, .cons ⟨_, rfl⟩ (.cons ⟨_, rfl⟩ .nil)⟩ (.inl (PyProof.noPylong_of_log2 hl))

noncomputable def refOf : Value → Addr
  | .ref a => a
  | _ => 0
/-- a walk over a list given to a built-in -/
theorem walkArg (hw : WF w h₀ Φ) {xs : List Sc} {s : Shared} {v : Value} (hr : LR Φ.av s.heap xs v) {Q : Value → Shared → Prop}
    (h : ∀ I items, items.size = xs.length → Paired SR xs items.toList → Walks PW w Φ.A.in1 I [I, (refOf v)] [I] items.size (fun i v => items[i]? = some v) (fun i h => h.IsListIter I (refOf v) i ∧ h.IsList (refOf v) items) →
      ∀ s₂ : Shared, Kp s s₂ → I ∉ ([] : List Addr) → s.heap.get? I = none → (s₂.heap.IsListIter I (refOf v) 0 ∧ s₂.heap.IsList (refOf v) items) → (∀ b ∈ [I, (refOf v)], b < s₂.heap.objs.size) → Q (.ref I) s₂) :
    wpAny (MD w) Φ.A.in1 (pyIter v) Q NoE s := by
  obtain ⟨a, items, rfl, hl, _, hp⟩ := hr
  have hlen : items.size = xs.length := by rw [Paired.length hp]; simp
  have hlt : a < s.heap.objs.size := by obtain ⟨n, e⟩ := hl; exact Heap.lt_size e
  refine wpAny_pyIter_list hl.isList ?_
  refine h s.heap.objs.size items hlen hp (Walks.list (A := Φ.A.in1) hw.room.1 _ _ (Nat.ne_of_lt hlt) items) _ (kpPush _ _) (by simp) (freshNone s) ⟨⟨_, Heap.get?_push_size _ rfl, rfl, rfl⟩, hl.isList.push _⟩ fun b hb => ?_
  show b < (s.heap.push _).objs.size
  rw [Heap.size_push]
  rcases List.mem_cons.mp hb with rfl | hb
  · exact Nat.lt_succ_self _
  · rw [List.mem_singleton.mp hb]; exact Nat.lt_succ_of_lt hlt

theorem kpIter {s s₂ : Shared} {I : Addr} (kp : Kp s s₂) (hI : s.heap.get? I = none) {h' : Heap} {tk : Nat} (k : ∀ b o, b ∉ [I] → s₂.heap.get? b = some o → h'.get? b = some o) : Kp s { s₂ with heap := h', toks := tk } := by
  obtain ⟨h1, tk1, rfl, k1⟩ := kp
  exact ⟨h', tk, rfl, fun b o e => k b o (fun q => by rw [List.mem_singleton.mp q, hI] at e; cases e) (k1 b o e)⟩

theorem intAt {xs : List Int} {items : Array Value} (hp : Paired SR (xs.map .int) items.toList) {i : Nat} {v : Value} (h : items[i]? = some v) : ∃ t, v = .int (xs.getD i 0) t := by
  have hlen : items.size = xs.length := by have := Paired.length hp; simp at this; (first | exact om18 this | omega)
  have hi : i < items.size := (Array.getElem?_eq_some_iff.mp h).1
  have hx : (xs.map Sc.int)[i]? = some (.int (xs.getD i 0)) := by
    have : i < xs.length := by (first | exact om5 hi hlen | omega)
    simp [this, List.getD]
  exact pairedGet hp hx (by simpa using h)

theorem preSum_eq (xs : List Int) : ∀ n, n ≤ xs.length → preSum (fun i => xs.getD i 0) n = (xs.take n).sum := by
  intro n
  induction n with
  | zero => intro _; rfl
  | succ n ih =>
    intro h
    have hn : xs[n]? = some xs[n] := by simp
    unfold preSum
    rw [ih (by (first | exact om31 h | omega)), List.take_add_one, hn, List.sum_append]
    simp only [List.getD, hn, Option.getD_some, Option.toList_some, List.sum_cons, List.sum_nil, Int.add_zero]

theorem CalP.sum (hw : WF w h₀ Φ) {xs : List Int} (h : ∀ x ∈ xs, 0 ≤ x ∧ x < 2 ^ 40) (hn : xs.length ≤ 1000) : CalP w h₀ Φ vs (.builtin "sum") [isV xs] (iV xs.sum) := by
  intro s vals hs hp
  cases hp with | cons h1 t =>
  cases t
  refine call_sum_walk (walkArg hw h1 fun I items hlen hpr W s₂ kp _ hI hst hlt => ?_)
  have hlen' : items.size = xs.length := by simpa using hlen
  refine ⟨I, _, _, items.size, _, _, fun i => xs.getD i 0, rfl, W, hst, hlt, fun i v hv => intAt hpr hv, fun j hj => ?_, fun h' tk t' hk => ⟨kpIter kp hI hk, t', ?_⟩⟩
  · have hj' : j < xs.length := by (first | exact om5 hj hlen' | omega)
    have hx : xs.getD j 0 ∈ xs := by
      have : xs.getD j 0 = xs[j] := by simp [List.getD, hj']
      rw [this]; exact List.getElem_mem hj'
    have hb := h _ hx
    refine ⟨⟨by dsimp only; (first | exact om46 hb | omega), by dsimp only; (first | exact om47 hb | omega)⟩, ?_⟩
    rw [preSum_eq xs (j + 1) (by (first | exact om48 hj' | omega))]
    have bound : ∀ l : List Int, (∀ x ∈ l, 0 ≤ x ∧ x < 2 ^ 40) → 0 ≤ l.sum ∧ l.sum ≤ 2 ^ 40 * (l.length : Int) := by
      intro l
      induction l with
      | nil => intro _; simp
      | cons x l ih =>
        intro hl
        have h1 := hl x List.mem_cons_self
        have h2 := ih fun y hy => hl y (List.mem_cons_of_mem _ hy)
        rw [List.sum_cons, List.length_cons]
        push_cast
        (first | exact om49 h2 h1 | omega)
    have hb2 := bound (xs.take (j + 1)) fun x hx => h x (List.mem_of_mem_take hx)
    have hl2 : ((xs.take (j + 1)).length : Int) ≤ 1000 := by
      have : (xs.take (j + 1)).length ≤ xs.length := by simp; (first | exact om50 | omega)
      (first | exact om51 this hn | omega)
    exact ⟨by (first | exact om52 hb2 | omega), by (first | exact om53 hl2 hb2 | omega)⟩
  · rw [hlen', preSum_eq xs _ (Nat.le_refl _), List.take_length]

theorem CalP.max (hw : WF w h₀ Φ) {xs : List Int} {m : Int} (hm : m ∈ xs) (h : ∀ x ∈ xs, x ≤ m) : CalP w h₀ Φ vs (.builtin "max") [isV xs] (iV m) := by
  intro s vals hs hp
  cases hp with | cons h1 t =>
  cases t
  refine call_max_walk (walkArg hw h1 fun I items hlen hpr W s₂ kp _ hI hst hlt => ?_)
  have hlen' : items.size = xs.length := by simpa using hlen
  have hpos : 0 < xs.length := List.length_pos_of_mem hm
  have best : ∀ k, k < xs.length → argBest (fun i j => decide (xs.getD j 0 < xs.getD i 0)) k ≤ k ∧ ∀ i, i ≤ k → xs.getD i 0 ≤ xs.getD (argBest (fun i j => decide (xs.getD j 0 < xs.getD i 0)) k) 0 := by
    intro k
    induction k with
    | zero => intro _; exact ⟨Nat.le_refl _, fun i hi => by
        have : i = 0 := by (first | exact om54 hi | omega)
        rw [this]; exact Int.le_refl _⟩
    | succ k ih =>
      intro hk
      obtain ⟨i1, i2⟩ := ih (by (first | exact om55 hk | omega))
      unfold argBest
      split
      · rename_i hh
        have hh' : xs.getD (argBest (fun i j => decide (xs.getD j 0 < xs.getD i 0)) k) 0 < xs.getD (k + 1) 0 := by simpa using hh
        refine ⟨Nat.le_refl _, fun i hi => ?_⟩
        by_cases q : i = k + 1
        · subst q; exact Int.le_refl _
        · have := i2 i (by (first | exact om56 q hi | omega)); (first | exact om57 this hh' | omega)
      · rename_i hh
        have hh' : ¬ xs.getD (argBest (fun i j => decide (xs.getD j 0 < xs.getD i 0)) k) 0 < xs.getD (k + 1) 0 := by simpa using hh
        refine ⟨by (first | exact om32 i1 | omega), fun i hi => ?_⟩
        by_cases q : i = k + 1
        · subst q; (first | exact om58 hh' | omega)
        · exact i2 i (by (first | exact om56 q hi | omega))
  refine ⟨I, _, _, items.size, _, _, fun i j => decide (xs.getD j 0 < xs.getD i 0), rfl, W, hst, hlt, by (first | exact om59 hpos hlen' | omega), ?_, fun v h' tk hv hk => ⟨kpIter kp hI hk, ?_⟩⟩
  · intro i j vi vj s Q E hi hj hQ
    obtain ⟨t, rfl⟩ := intAt hpr hi
    obtain ⟨t', rfl⟩ := intAt hpr hj
    show wpAny _ _ (compareOp .Gt _ _) _ _ _
    exact PyProof.Rows.gt_int hQ
  · obtain ⟨t, rfl⟩ := intAt hpr hv
    obtain ⟨b1, b2⟩ := best (items.size - 1) (by (first | exact om60 hpos hlen' | omega))
    generalize argBest (fun i j => decide (xs.getD j 0 < xs.getD i 0)) (items.size - 1) = k at b1 b2
    have hk : k < xs.length := by (first | exact om61 b1 hpos hlen' | omega)
    have hx : xs.getD k 0 = xs[k] := by simp [List.getD, hk]
    have h1 := h _ (List.getElem_mem hk)
    obtain ⟨j, hj, hjm⟩ := List.getElem_of_mem hm
    have h2 := b2 j (by (first | exact om62 hj hlen' | omega))
    have hx2 : xs.getD j 0 = xs[j] := by simp [List.getD, hj]
    have : xs.getD k 0 = m := by (first | exact om63 hx2 h2 hjm h1 hx | omega)
    rw [this]
    exact ⟨t, rfl⟩

/-! texts -/
theorem strsOf {xs : List Str} {l : List Value} (h : Paired SR (xs.map .str) l) : ∃ l' : List (Str × Tok), l = strValues l' ∧ l'.map (·.1) = xs := by
  induction xs generalizing l with
  | nil => cases h; exact ⟨[], rfl, rfl⟩
  | cons x xs ih =>
    cases h with
    | cons h1 t =>
      obtain ⟨tk, rfl⟩ := h1
      obtain ⟨l', rfl, h2⟩ := ih t
      exact ⟨(x, tk) :: l', rfl, by rw [List.map_cons, h2]⟩
theorem ofStrs : ∀ (l : List (Str × Tok)), Paired SR ((l.map (·.1)).map .str) (strValues l)
  | [] => .nil
  | (x, t) :: l => .cons ⟨t, rfl⟩ (ofStrs l)

theorem CalP.join {sep : Str} {xs : List Str} (hok : JoinOk sep xs = true) : CalP w h₀ Φ vs (.builtin "str.join") [sV sep, .list (xs.map .str)] (sV (Txt.join sep xs)) := by
  intro s vals hs hp
  cases hp with | cons h1 t => cases t with | cons h2 t =>
  cases t
  obtain ⟨ts, rfl⟩ := h1
  obtain ⟨a, items, rfl, hl, _, hp⟩ := h2
  obtain ⟨l', e, ht⟩ := strsOf hp
  have hl' : s.heap.IsList a (strValues l').toArray := by
    have : items = (strValues l').toArray := by rw [← e]
    rw [← this]; exact hl.isList
  exact PySem.SC.join hl' ht hok fun t' k => ⟨Kp.tok s k, ⟨_, rfl⟩⟩

theorem CalP.split {x y : Str} (hy : (y.length == 0) = false) (hsz : x.length ≤ sizeLine) (hsz2 : (Builtin.Str.partsBetween x (Builtin.Str.occurrences x y 0 x.length (x.length + 1)) y.length).length ≤ sizeLine) :
    CalP w h₀ Φ vs (.builtin "str.split") [sV x, sV y] (.list ((Txt.split x y).map .str)) := by
  intro s vals hs hp
  cases hp with | cons h1 t => cases t with | cons h2 t =>
  cases t
  obtain ⟨t, rfl⟩ := h1
  obtain ⟨u, rfl⟩ := h2
  have fin : ∀ (l : List (Str × Tok)) (tk : Nat), l.map (·.1) = Txt.split x y → Post Φ (.list ((Txt.split x y).map .str)) s (.ref s.heap.objs.size) { s with heap := s.heap.push { cls := .type "list", data := .seq (strValues l).toArray }, toks := tk } := by
    intro l tk hl
    refine ⟨⟨_, tk, rfl, fun _ _ e => Heap.get?_push_of_some _ e⟩, _, _, rfl, ⟨_, Heap.get?_push_size _ rfl⟩, freshNotAv hs, ?_⟩
    rw [← hl]
    exact ofStrs l
  cases h1 : (decide (x.length < y.length) || decide (Builtin.Str.strKind x < Builtin.Str.strKind y))
  · cases hf : (Builtin.Str.occurrences x y 0 x.length (x.length + 1)).isEmpty
    · refine call_meets F.slot_str_split (typeIs_str _ _ _) F.entry_str_split (F.args_str_split_2 _ _) (meets_str_split_sep x y t u h1 hy hf hsz hsz2) ?_
      rw [strsFrom_eq]
      exact fin (numbered s.toks _) _ ((numbered_texts _ _).trans ((if_neg (ne_true_of_eq_false h1)).trans (if_neg (ne_true_of_eq_false hf))).symm)
    · exact call_meets F.slot_str_split (typeIs_str _ _ _) F.entry_str_split (F.args_str_split_2 _ _) (meets_str_split_not_found x y t u h1 hy hf) (fin [(x, t)] s.toks ((if_neg (ne_true_of_eq_false h1)).trans (if_pos hf)).symm)
  · exact call_meets F.slot_str_split (typeIs_str _ _ _) F.entry_str_split (F.args_str_split_2 _ _) (meets_str_split_cannot_occur x y t u h1) (fin [(x, t)] s.toks (if_pos h1).symm)

theorem boot_hex : bootBuiltins "hex" = some (.builtin "hex") := by decide +kernel
theorem CalP.hex {i : Int} (hsz : (baseText "0x" 16 i).length ≤ sizeLine) : CalP w h₀ Φ vs (.builtin "hex") [iV i] (sV (baseText "0x" 16 i)) := by
  intro s vals hs hp
  cases hp with | cons h1 t =>
  cases t
  obtain ⟨t, rfl⟩ := h1
  exact PySem.P.hex_of_int ⟨Kp.tok s _, ⟨_, rfl⟩⟩ hsz

/-! the dictionary of the flags' names -/
noncomputable def esOf (o : Option Obj) : Array DictEntry := match o with | some ⟨_, _, .dict es _, _⟩ => es | _ => #[]
noncomputable def flagEs (w : World) : Array DictEntry := esOf ((KK w).lookup 15)
theorem flag_lookup (w : World) : (KK w).lookup 15 = some ⟨.type "dict", none, .dict (flagEs w) 10, #[]⟩ := by kernel_rfl!
noncomputable def keyInt (e : DictEntry) : Bool := match e.key with | .int i _ => e.hash == hashInt i | _ => false
theorem flag_keys0 (w : World) : (flagEs w).toList.all keyInt = true := by kernel_rfl!
theorem flag_keys (w : World) : KeysOf (intKind PW w) (flagEs w) := by
  intro e he
  have h := (List.all_eq_true.mp (flag_keys0 w)) e (by simpa using he)
  unfold keyInt at h
  split at h
  · rename_i i t hk
    exact ⟨i, by rw [hk]; simp [intKind, Value.isInt], by simpa [intKind] using h⟩
  · cases h
noncomputable def flagF (w : World) (k : Int) : Option Value := findBy (intKind PW w).is (flagEs w) k
theorem flag_map {h : Heap} (hK : (KK w).In h) : h.MapOf (intKind PW w) 15 (flagF w) := ⟨_, _, _, hK _ _ (flag_lookup w), ⟨rfl, rfl, rfl⟩, rfl, flag_keys w, fun _ => rfl⟩

theorem EvP.flagGet (hw : WF w h₀ Φ) {x : Str} {np apos pos : Pos} {e₁ e₂ : Expr} {k : Int} {name : Str} {v₂ : Vl} (hx : Φ.env.kindOf x = some .globalImplicit) (hg : nsIn (KK w) mainGlobals x = some (some (.ref 15))) (hd : (x == ("__debug__" : Str)) = false)
    (h1 : EvP w h₀ Φ vs e₁ (iV k)) (h2 : EvP w h₀ Φ vs e₂ v₂) (hf : ∃ t, flagF w k = some (.str name t)) (hline : (apos.endLine == pos.line) = true)
    (hse : starEach [e₁, e₂] Φ.env = [(false, eval e₁ Φ.env), (false, eval e₂ Φ.env)] := by first | kernel_rfl! | rfl) (hbase : attributeBase (.Name x np) "get" Φ.env (eval (.Name x np) Φ.env) = eval (.Name x np) Φ.env := by first | kernel_rfl! | rfl) :
    EvP w h₀ Φ vs (.Call (.Attribute (.Name x np) "get" apos) [e₁, e₂] [] pos) (sV name) := by
  intro s hs
  refine Call_method2 hbase hse hline (globalP hw hx hg hd hs ?_)
  have hm : ∀ s', St h₀ Φ vs s' → s'.heap.MapOf (intKind PW w) 15 (flagF w) := fun s' hs' => flag_map (inKeeps hw.gd.K hs'.base)
  refine ⟨"dict", "dict.get", F.plainAttrs_dict, F.slot_dict_get, F.type_dict_get, (hm s hs).typeIs, (hm s hs).noDict, ?_⟩
  refine wpAny_dict_get2 (knd := intKind PW w) (by decide +kernel) (wpAny_mono (h1 s hs) (fun kv s₁ g1 => ?_) fun _ _ x => x)
  have hs₁ := hs.kept g1.1
  refine wpAny_mono (h2 s₁ hs₁) (fun dv s₂ g2 => ?_) fun _ _ x => x
  have hs₂ := hs₁.kept g2.1
  obtain ⟨t, rfl⟩ := g1.2
  obtain ⟨t', ht'⟩ := hf
  refine ⟨k, flagF w, by simp [intKind, Value.isInt], hm s₂ hs₂, ?_⟩
  rw [ht']
  exact ⟨(g1.1.trans g2.1).trans (Kp.tok _ _), ⟨t', rfl⟩⟩
end
end Mine

namespace Mine
theorem nfL : VK.loc ≠ VK.fre := fun h => nomatch h
theorem nfC : VK.cel ≠ VK.fre := fun h => nomatch h
theorem nlC : VK.cel ≠ VK.loc := fun h => nomatch h
theorem nlF : VK.fre ≠ VK.loc := fun h => nomatch h
theorem boot_int : bootBuiltins "int" = some (.type "int") := by decide +kernel
theorem boot_max : bootBuiltins "max" = some (.builtin "max") := by decide +kernel
theorem boot_min : bootBuiltins "min" = some (.builtin "min") := by decide +kernel
theorem boot_len : bootBuiltins "len" = some (.builtin "len") := by decide +kernel
theorem boot_sum : bootBuiltins "sum" = some (.builtin "sum") := by decide +kernel
theorem boot_divmod : bootBuiltins "divmod" = some (.builtin "divmod") := by decide +kernel
theorem retOnly {r : Vl} : OnlyRet (fun o => o = .ret r) := fun o e => ⟨r, e⟩
section
variable {w : World} {h₀ : Heap} {Φ : Fm} {vs : List (Option Vl)}
theorem EvP.bcall (hw : WF w h₀ Φ) {x : Str} {id : String} {np pos e es vl r} (hf : CalP w h₀ Φ vs (.builtin id) vl r) (hb : bootBuiltins x = some (.builtin id)) (hl : EvL w h₀ Φ vs (e :: es) vl) (hx : Φ.env.kindOf x = some .globalImplicit := by kernel_rfl!) (hg : nsIn (KK w) mainGlobals x = some none := by kernel_rfl!) (hn : x ≠ "__name__" := by decide) (hd : (x == ("__debug__" : Str)) = false := by decide)
    (he : starEach (e :: es) Φ.env = (false, eval e Φ.env) :: starEach es Φ.env := by first | kernel_rfl! | rfl)
    (hpl : (backTo pos (starEach es Φ.env)).any (·.1) = false := by first | kernel_rfl! | rfl)
    (hee : eval (.Call (.Name x np) (e :: es) [] pos) Φ.env = (do callWith pos (← eval (.Name x np) Φ.env) [] (backTo pos (starEach (e :: es) Φ.env)) (backToKw pos (keywordEach [] Φ.env))) := by first | kernel_rfl! | rfl) :
    EvP w h₀ Φ vs (.Call (.Name x np) (e :: es) [] pos) r := EvP.callB hw hx hg hb hn hd hl hf he hpl hee
theorem EvP.tcall (hw : WF w h₀ Φ) {x : Str} {id : String} {np pos e es vl r} (hf : CalP w h₀ Φ vs (.type id) vl r) (hb : bootBuiltins x = some (.type id)) (hl : EvL w h₀ Φ vs (e :: es) vl) (hx : Φ.env.kindOf x = some .globalImplicit := by kernel_rfl!) (hg : nsIn (KK w) mainGlobals x = some none := by kernel_rfl!) (hn : x ≠ "__name__" := by decide) (hd : (x == ("__debug__" : Str)) = false := by decide)
    (he : starEach (e :: es) Φ.env = (false, eval e Φ.env) :: starEach es Φ.env := by first | kernel_rfl! | rfl)
    (hpl : (backTo pos (starEach es Φ.env)).any (·.1) = false := by first | kernel_rfl! | rfl)
    (hee : eval (.Call (.Name x np) (e :: es) [] pos) Φ.env = (do callWith pos (← eval (.Name x np) Φ.env) [] (backTo pos (starEach (e :: es) Φ.env)) (backToKw pos (keywordEach [] Φ.env))) := by first | kernel_rfl! | rfl) :
    EvP w h₀ Φ vs (.Call (.Name x np) (e :: es) [] pos) r := EvP.callT hw hx hg hb hn hd hl hf he hpl hee
theorem EvP.fcall (hw : WF w h₀ Φ) {x : Str} {f : Addr} {np pos e es vl r} (d : Nat) (hf : Fn w h₀ d f vl r) (hg : nsIn (KK w) mainGlobals x = some (some (.ref f))) (hkp : keepIn (KK w) (.ref f) = true) (hdd : d ≤ Φ.d) (hl : EvL w h₀ Φ vs (e :: es) vl)
    (hx : Φ.env.kindOf x = some .globalImplicit := by kernel_rfl!) (hd : (x == ("__debug__" : Str)) = false := by decide)
    (he : starEach (e :: es) Φ.env = (false, eval e Φ.env) :: starEach es Φ.env := by first | kernel_rfl! | rfl)
    (hpl : (backTo pos (starEach (e :: es) Φ.env)).any (·.1) = false := by first | kernel_rfl! | rfl)
    (hee : eval (.Call (.Name x np) (e :: es) [] pos) Φ.env = (do callWith pos (← eval (.Name x np) Φ.env) [] (backTo pos (starEach (e :: es) Φ.env)) (backToKw pos (keywordEach [] Φ.env))) := by first | kernel_rfl! | rfl) :
    EvP w h₀ Φ vs (.Call (.Name x np) (e :: es) [] pos) r := EvP.call hw d hx hg hd hkp hl hf hdd he hpl hee
theorem EvP.mcall {o : Expr} {name : Str} {apos pos : Pos} {e₁ : Expr} {es : List Expr} {T id : String} {ov r : Vl} {vl : List Vl} (hf : CalP w h₀ Φ vs (.builtin id) (ov :: vl) r) (hT : ofT Φ ov T) (pa : PlainAttrs T) (slot : Slot T name id)
    (hty : typeOf (.builtin id) = pure (.type "method_descriptor")) (ho : EvP w h₀ Φ vs o ov) (hl : EvL w h₀ Φ vs (e₁ :: es) vl)
    (hline : (apos.endLine == pos.line) = true := by kernel_rfl!) (hbase : attributeBase o name Φ.env (eval o Φ.env) = eval o Φ.env := by first | kernel_rfl! | rfl)
    (hfew : ((backTo pos (starEach (e₁ :: es) Φ.env)).all (fun x => !x.1) && (backToKw pos (keywordEach [] Φ.env)).all (fun x => x.1.isSome)
      && decide ((e₁ :: es).length + ([] : List Keyword).length + (if ([] : List Keyword).isEmpty then 0 else 1) < 30)) = true := by first | kernel_rfl! | rfl)
    (he : starEach (e₁ :: es) Φ.env = (false, eval e₁ Φ.env) :: starEach es Φ.env := by first | kernel_rfl! | rfl)
    (hplain : (backTo pos (starEach (e₁ :: es) Φ.env)).any (·.1) = false := by first | kernel_rfl! | rfl) : EvP w h₀ Φ vs (.Call (.Attribute o name apos) (e₁ :: es) [] pos) r :=
  EvP.meth1 ho hT pa slot hty hl hf hline hbase hfew he hplain
theorem EvP.mcall0 {o : Expr} {name : Str} {apos pos : Pos} {T id : String} {ov r : Vl} (hf : CalP w h₀ Φ vs (.builtin id) [ov] r) (hT : ofT Φ ov T) (pa : PlainAttrs T) (slot : Slot T name id)
    (hty : typeOf (.builtin id) = pure (.type "method_descriptor")) (ho : EvP w h₀ Φ vs o ov)
    (hline : (apos.endLine == pos.line) = true := by kernel_rfl!) (hbase : attributeBase o name Φ.env (eval o Φ.env) = eval o Φ.env := by first | kernel_rfl! | rfl)
    (hfew : ((backTo pos (starEach [] Φ.env)).all (fun x => !x.1) && (backToKw pos (keywordEach [] Φ.env)).all (fun x => x.1.isSome)
      && decide (([] : List Expr).length + ([] : List Keyword).length + (if ([] : List Keyword).isEmpty then 0 else 1) < 30)) = true := by first | kernel_rfl! | rfl)
    (hplain : (backTo pos (starEach [] Φ.env)).any (·.1) = false := by first | kernel_rfl! | rfl) : EvP w h₀ Φ vs (.Call (.Attribute o name apos) [] [] pos) r :=
  EvP.meth0 ho hT pa slot hty hf hline hbase hfew hplain
theorem ItP.rng (hw : WF w h₀ Φ) {np pos e} (n : Nat) (he : EvP w h₀ Φ vs e (iV (n : Nat))) (hn : n ≤ 1000) {x : Str} (hx0 : x = "range") (hx : Φ.env.kindOf x = some .globalImplicit := by kernel_rfl!) (hg : nsIn (KK w) mainGlobals x = some none := by kernel_rfl!)
    (hse : starEach [e] Φ.env = [(false, eval e Φ.env)] := by first | kernel_rfl! | rfl)
    (hee : eval (.Call (.Name x np) [e] [] pos) Φ.env = (do callWith pos (← eval (.Name x np) Φ.env) [] (backTo pos (starEach [e] Φ.env)) (backToKw pos (keywordEach [] Φ.env))) := by first | kernel_rfl! | rfl) :
    ItP w h₀ Φ vs (.Call (.Name x np) [e] [] pos) (upTo n) := ItP.range hw hx0 hx hg he hn hse hee
theorem thenN {R : Out → Prop} {rest} (h : ExP w h₀ Φ vs rest R) : thenP w h₀ Φ rest R (.nxt vs) := h
/-- an assignment whose value is known ahead -/
theorem ExS.set (hw : WF w h₀ Φ) (i : Nat) (v : Vl) {x : Str} {k : VK} {e px pos} {R : Out → Prop} (he : EvP w h₀ Φ vs e v) (hR : R (.nxt (vs.set i (some v)))) (hk : k ≠ .fre) (hx : Φ.nm[i]? = some (x, k) := by rfl)
    (hp : v.pure = true := by rfl) (hs : swapsWith e (some (.Name x px)) pos.line Φ.env = pure false := by first | kernel_rfl! | rfl) : ExS w h₀ Φ vs (.Assign [.Name x px] e pos) R := ExS.assign hw i he hx hk hp hs hR
end
end Mine

namespace Mine

noncomputable abbrev f0 : UInt64 := 0
noncomputable abbrev f1 : UInt64 := 0x3FF0000000000000
noncomputable abbrev f6 : UInt64 := 0x4018000000000000

noncomputable def hsvI (h : UInt64) : Int := PySem.Flt.toInt Float64.truncOf (Float64.mul h f6)
noncomputable def hsvF (h : UInt64) : UInt64 := Float64.sub (Float64.mul h f6) (Float64.ofInt (hsvI h))
noncomputable def hsvOut (h s v : UInt64) : List It :=
  let f := hsvF h
  let p := Float64.mul v (Float64.sub f1 s)
  let q := Float64.mul v (Float64.sub f1 (Float64.mul s f))
  let t := Float64.mul v (Float64.sub f1 (Float64.mul s (Float64.sub f1 f)))
  let i := (hsvI h).fmod 6
  if i == 0 then [.sc (.flt v), .sc (.flt t), .sc (.flt p)] else
  if i == 1 then [.sc (.flt q), .sc (.flt v), .sc (.flt p)] else
  if i == 2 then [.sc (.flt p), .sc (.flt v), .sc (.flt t)] else
  if i == 3 then [.sc (.flt p), .sc (.flt q), .sc (.flt v)] else
  if i == 4 then [.sc (.flt t), .sc (.flt p), .sc (.flt v)] else [.sc (.flt v), .sc (.flt p), .sc (.flt q)]



variable {w : World} {h₀ : Heap}
theorem hsv_fn (gd : Gd w h₀) {h s v : UInt64} (hs : (Float64.cmp s f0 == some .eq) = false) (hf : Float64.isFinite (Float64.mul h f6) = true) (hi : (hsvI h).natAbs < 2 ^ 1023) :
    Fn w h₀ 1 78 [fV h, fV s, fV v] (.tup (hsvOut h s v)) := by
  refine Fn.of gd (D_hsv w) [("h", .loc), ("s", .loc), ("v", .loc)] [("i", .loc), ("f", .loc), ("p", .loc), ("q", .loc), ("t", .loc)] rfl rfl (by decide +kernel) (by decide +kernel) rfl fun L A av hw => ?_
  refine ExP.cons (ExS.ite (TrP.cmp (EvP.name hw 1 rfl rfl) EvP.flt CmpP.eqF) (fun q => ?_) fun _ => ExP.nil ?_)
  · rw [hs] at q; cases q
  refine ExP.cons (ExS.assign (v := iV (hsvI h)) hw 3 (EvP.callT hw (by kernel_rfl!) (by kernel_rfl!) boot_int (by decide) (by decide) (EvL.one (EvP.bin (EvP.name hw 0 rfl rfl) EvP.flt BinP.mulF)) (CalP.intF hw hf)) rfl nfL rfl rfl ?_)
  refine ExP.cons (ExS.assign (v := fV (hsvF h)) hw 4 (EvP.bin (EvP.bin (EvP.name hw 0 rfl rfl) EvP.flt BinP.mulF) (EvP.name hw 3 rfl rfl) (BinP.subFI hi)) rfl nfL rfl rfl ?_)
  refine ExP.cons (ExS.assign hw 5 (EvP.bin (EvP.name hw 2 rfl rfl) (EvP.bin EvP.flt (EvP.name hw 1 rfl rfl) BinP.subF) BinP.mulF) rfl nfL rfl rfl ?_)
  refine ExP.cons (ExS.assign hw 6 (EvP.bin (EvP.name hw 2 rfl rfl) (EvP.bin EvP.flt (EvP.bin (EvP.name hw 1 rfl rfl) (EvP.name hw 4 rfl rfl) BinP.mulF) BinP.subF) BinP.mulF) rfl nfL rfl rfl ?_)
  refine ExP.cons (ExS.assign hw 7 (EvP.bin (EvP.name hw 2 rfl rfl) (EvP.bin EvP.flt (EvP.bin (EvP.name hw 1 rfl rfl) (EvP.bin EvP.flt (EvP.name hw 4 rfl rfl) BinP.subF) BinP.mulF) BinP.subF) BinP.mulF) rfl nfL rfl rfl ?_)
  refine ExP.cons (ExS.assign (v := iV ((hsvI h).fmod 6)) hw 3 (EvP.bin (EvP.name hw 3 rfl rfl) EvP.int (BinP.fmod (by decide))) rfl nfL rfl rfl ?_)
  have hr : 0 ≤ (hsvI h).fmod 6 ∧ (hsvI h).fmod 6 < 6 := ⟨Int.fmod_nonneg_of_pos _ (by decide), Int.fmod_lt_of_pos _ (by decide)⟩
  refine ExP.cons (ExS.ite (TrP.cmp (EvP.name hw 3 rfl rfl) EvP.int CmpP.eqI) (fun q0 => ExP.cons (ExS.ret hw (EvP.tup (ws := [.sc (.flt _), .sc (.flt _), .sc (.flt _)]) (EvL.cons (EvP.name hw 2 rfl rfl) (EvL.cons (EvP.name hw 7 rfl rfl) (EvL.cons (EvP.name hw 5 rfl rfl) EvL.nil))) (by simp)) ?_)) fun q0 => ExP.nil ?_)
  · show Out.ret _ = Out.ret _
    unfold hsvOut; simp only [q0, if_true, if_false, Bool.false_eq_true]
  refine id ?_
  refine ExP.cons (ExS.ite (TrP.cmp (EvP.name hw 3 rfl rfl) EvP.int CmpP.eqI) (fun q1 => ExP.cons (ExS.ret hw (EvP.tup (ws := [.sc (.flt _), .sc (.flt _), .sc (.flt _)]) (EvL.cons (EvP.name hw 6 rfl rfl) (EvL.cons (EvP.name hw 2 rfl rfl) (EvL.cons (EvP.name hw 5 rfl rfl) EvL.nil))) (by simp)) ?_)) fun q1 => ExP.nil ?_)
  · show Out.ret _ = Out.ret _
    unfold hsvOut; simp only [q0, q1, if_true, if_false, Bool.false_eq_true]
  refine id ?_
  refine ExP.cons (ExS.ite (TrP.cmp (EvP.name hw 3 rfl rfl) EvP.int CmpP.eqI) (fun q2 => ExP.cons (ExS.ret hw (EvP.tup (ws := [.sc (.flt _), .sc (.flt _), .sc (.flt _)]) (EvL.cons (EvP.name hw 5 rfl rfl) (EvL.cons (EvP.name hw 2 rfl rfl) (EvL.cons (EvP.name hw 7 rfl rfl) EvL.nil))) (by simp)) ?_)) fun q2 => ExP.nil ?_)
  · show Out.ret _ = Out.ret _
    unfold hsvOut; simp only [q0, q1, q2, if_true, if_false, Bool.false_eq_true]
  refine id ?_
  refine ExP.cons (ExS.ite (TrP.cmp (EvP.name hw 3 rfl rfl) EvP.int CmpP.eqI) (fun q3 => ExP.cons (ExS.ret hw (EvP.tup (ws := [.sc (.flt _), .sc (.flt _), .sc (.flt _)]) (EvL.cons (EvP.name hw 5 rfl rfl) (EvL.cons (EvP.name hw 6 rfl rfl) (EvL.cons (EvP.name hw 2 rfl rfl) EvL.nil))) (by simp)) ?_)) fun q3 => ExP.nil ?_)
  · show Out.ret _ = Out.ret _
    unfold hsvOut; simp only [q0, q1, q2, q3, if_true, if_false, Bool.false_eq_true]
  refine id ?_
  refine ExP.cons (ExS.ite (TrP.cmp (EvP.name hw 3 rfl rfl) EvP.int CmpP.eqI) (fun q4 => ExP.cons (ExS.ret hw (EvP.tup (ws := [.sc (.flt _), .sc (.flt _), .sc (.flt _)]) (EvL.cons (EvP.name hw 7 rfl rfl) (EvL.cons (EvP.name hw 5 rfl rfl) (EvL.cons (EvP.name hw 2 rfl rfl) EvL.nil))) (by simp)) ?_)) fun q4 => ExP.nil ?_)
  · show Out.ret _ = Out.ret _
    unfold hsvOut; simp only [q0, q1, q2, q3, q4, if_true, if_false, Bool.false_eq_true]
  refine id ?_
  refine ExP.cons (ExS.ite (TrP.cmp (EvP.name hw 3 rfl rfl) EvP.int CmpP.eqI) (fun q5 => ExP.cons (ExS.ret hw (EvP.tup (ws := [.sc (.flt _), .sc (.flt _), .sc (.flt _)]) (EvL.cons (EvP.name hw 2 rfl rfl) (EvL.cons (EvP.name hw 5 rfl rfl) (EvL.cons (EvP.name hw 6 rfl rfl) EvL.nil))) (by simp)) ?_)) fun q5 => ExP.nil ?_)
  · show Out.ret _ = Out.ret _
    unfold hsvOut; simp only [q0, q1, q2, q3, q4, if_true, if_false, Bool.false_eq_true]
  refine id ?_
  exfalso
  simp only [beq_eq_false_iff_ne, ne_eq] at q0 q1 q2 q3 q4 q5
  (first | exact om65 q5 q4 q3 q2 q1 q0 hr | omega)
end Mine

namespace Mine

noncomputable abbrev f2 : UInt64 := 0x4000000000000000
noncomputable abbrev f4 : UInt64 := 0x4010000000000000
noncomputable abbrev f16 : UInt64 := 0x4030000000000000

noncomputable def feq (a b : UInt64) : Bool := Float64.cmp a b == some .eq
noncomputable def rgbH0 (r g b : UInt64) : UInt64 :=
  let m := max3 r g b
  let d := Float64.sub m (min3 r g b)
  let rc := Float64.div (Float64.sub m r) d
  let gc := Float64.div (Float64.sub m g) d
  let bc := Float64.div (Float64.sub m b) d
  if feq r m then Float64.sub bc gc else if feq g m then Float64.sub (Float64.add f2 rc) bc else Float64.sub (Float64.add f4 gc) rc
noncomputable def rgbH (r g b : UInt64) : UInt64 := (Float64.divmod (Float64.div (rgbH0 r g b) f6) f1).2
noncomputable def rgbS (r g b : UInt64) : UInt64 := Float64.div (Float64.sub (max3 r g b) (min3 r g b)) (max3 r g b)
noncomputable def rgbOK (r g b : UInt64) : Bool := !feq (min3 r g b) (max3 r g b) && !Float64.isZero (max3 r g b) && !Float64.isZero (Float64.sub (max3 r g b) (min3 r g b))


variable {w : World} {h₀ : Heap}
theorem rgb_fn (gd : Gd w h₀) {r g b : UInt64} (ok : rgbOK r g b = true) :
    Fn w h₀ 1 71 [fV r, fV g, fV b] (.tup [.sc (.flt (rgbH r g b)), .sc (.flt (rgbS r g b)), .sc (.flt (max3 r g b))]) := by
  refine Fn.of gd (D_rgb w) [("r", .loc), ("g", .loc), ("b", .loc)] [("maxc", .loc), ("minc", .loc), ("rangec", .loc), ("v", .loc), ("s", .loc), ("rc", .loc), ("gc", .loc), ("bc", .loc), ("h", .loc)] rfl rfl (by decide +kernel) (by decide +kernel) rfl fun L A av hw => ?_
  unfold rgbOK at ok
  simp only [Bool.and_eq_true, Bool.not_eq_true'] at ok
  obtain ⟨⟨ok1, ok2⟩, ok3⟩ := ok
  generalize hm : max3 r g b = m at *
  generalize hn : min3 r g b = n at *
  refine ExP.cons (ExS.assign (v := fV m) hw 3 (EvP.callB hw (by kernel_rfl!) (by kernel_rfl!) boot_max (by decide) (by decide) (EvL.cons (EvP.name hw 0 rfl rfl) (EvL.cons (EvP.name hw 1 rfl rfl) (EvL.cons (EvP.name hw 2 rfl rfl) EvL.nil))) (hm ▸ CalP.maxF hw)) rfl nfL rfl rfl ?_)
  refine ExP.cons (ExS.assign (v := fV n) hw 4 (EvP.callB hw (by kernel_rfl!) (by kernel_rfl!) boot_min (by decide) (by decide) (EvL.cons (EvP.name hw 0 rfl rfl) (EvL.cons (EvP.name hw 1 rfl rfl) (EvL.cons (EvP.name hw 2 rfl rfl) EvL.nil))) (hn ▸ CalP.minF hw)) rfl nfL rfl rfl ?_)
  refine ExP.cons (ExS.assign (v := fV (Float64.sub m n)) hw 5 (EvP.bin (EvP.name hw 3 rfl rfl) (EvP.name hw 4 rfl rfl) BinP.subF) rfl nfL rfl rfl ?_)
  refine ExP.cons (ExS.assign hw 6 (EvP.name hw 3 rfl rfl) rfl nfL rfl rfl ?_)
  refine ExP.cons (ExS.ite (TrP.cmp (EvP.name hw 4 rfl rfl) (EvP.name hw 3 rfl rfl) CmpP.eqF) (fun q => ?_) fun _ => ExP.nil ?_)
  · unfold feq at ok1; rw [ok1] at q; cases q
  show ExP w h₀ _ _ _ _
  refine ExP.cons (ExS.assign hw 7 (EvP.bin (EvP.name hw 5 rfl rfl) (EvP.name hw 3 rfl rfl) (BinP.divF hw ok2)) rfl nfL rfl rfl ?_)
  refine ExP.cons (ExS.assign hw 8 (EvP.bin (EvP.bin (EvP.name hw 3 rfl rfl) (EvP.name hw 0 rfl rfl) BinP.subF) (EvP.name hw 5 rfl rfl) (BinP.divF hw ok3)) rfl nfL rfl rfl ?_)
  refine ExP.cons (ExS.assign hw 9 (EvP.bin (EvP.bin (EvP.name hw 3 rfl rfl) (EvP.name hw 1 rfl rfl) BinP.subF) (EvP.name hw 5 rfl rfl) (BinP.divF hw ok3)) rfl nfL rfl rfl ?_)
  refine ExP.cons (ExS.assign hw 10 (EvP.bin (EvP.bin (EvP.name hw 3 rfl rfl) (EvP.name hw 2 rfl rfl) BinP.subF) (EvP.name hw 5 rfl rfl) (BinP.divF hw ok3)) rfl nfL rfl rfl ?_)
  have e6 : Float64.isZero f6 = false := by decide +kernel
  have e1 : Float64.isZero f1 = false := by decide +kernel
  have hres : ∀ h0, rgbH0 r g b = h0 → (Float64.divmod (Float64.div h0 f6) f1).2 = rgbH r g b := fun h0 e => by rw [← e]; rfl
  refine ExP.cons (ExS.mono (R := fun o => o = .nxt _) (ExS.ite (TrP.cmp (EvP.name hw 0 rfl rfl) (EvP.name hw 3 rfl rfl) CmpP.eqF) (fun q => ExP.cons (ExS.assign (v := fV (rgbH0 r g b)) hw 11 ?_ rfl nfL rfl rfl (ExP.nil rfl))) fun q => ?_) fun o e => ?_)
  · have e : rgbH0 r g b = Float64.sub (Float64.div (Float64.sub m b) (Float64.sub m n)) (Float64.div (Float64.sub m g) (Float64.sub m n)) := by
      unfold rgbH0 feq; simp only [hm, hn, q, if_true]
    rw [e]
    exact EvP.bin (EvP.name hw 10 rfl rfl) (EvP.name hw 9 rfl rfl) BinP.subF
  · refine ExP.cons (ExS.ite (TrP.cmp (EvP.name hw 1 rfl rfl) (EvP.name hw 3 rfl rfl) CmpP.eqF) (fun q2 => ExP.cons (ExS.assign (v := fV (rgbH0 r g b)) hw 11 ?_ rfl nfL rfl rfl (ExP.nil (ExP.nil rfl)))) fun q2 => ExP.cons (ExS.assign (v := fV (rgbH0 r g b)) hw 11 ?_ rfl nfL rfl rfl (ExP.nil (ExP.nil rfl))))
    · have e : rgbH0 r g b = Float64.sub (Float64.add f2 (Float64.div (Float64.sub m r) (Float64.sub m n))) (Float64.div (Float64.sub m b) (Float64.sub m n)) := by
        unfold rgbH0 feq; simp only [hm, hn, q, q2, if_true, if_false, Bool.false_eq_true]
      rw [e]
      exact EvP.bin (EvP.bin EvP.flt (EvP.name hw 8 rfl rfl) BinP.addF) (EvP.name hw 10 rfl rfl) BinP.subF
    · have e : rgbH0 r g b = Float64.sub (Float64.add f4 (Float64.div (Float64.sub m g) (Float64.sub m n))) (Float64.div (Float64.sub m r) (Float64.sub m n)) := by
        unfold rgbH0 feq; simp only [hm, hn, q, q2, if_true, if_false, Bool.false_eq_true]
      rw [e]
      exact EvP.bin (EvP.bin EvP.flt (EvP.name hw 9 rfl rfl) BinP.addF) (EvP.name hw 8 rfl rfl) BinP.subF
  · subst e
    refine ExP.cons (ExS.assign (v := fV (rgbH r g b)) hw 11 (EvP.bin (EvP.bin (EvP.name hw 11 rfl rfl) EvP.flt (BinP.divF hw e6)) EvP.flt (BinP.modF e1)) rfl nfL rfl rfl ?_)
    refine ExP.cons (ExS.ret hw (EvP.tup (ws := [.sc (.flt _), .sc (.flt _), .sc (.flt _)]) (EvL.cons (EvP.name hw 11 rfl rfl) (EvL.cons (EvP.name hw 7 rfl rfl) (EvL.cons (EvP.name hw 6 rfl rfl) EvL.nil))) (by simp)) ?_)
    show Out.ret _ = Out.ret _
    unfold rgbS
    rw [hm, hn]

noncomputable def toldQ (n : Nat) : UInt64 := Float64.div (Float64.ofInt n) f16
noncomputable def hsv3 (h s v : UInt64) : UInt64 × UInt64 × UInt64 := match hsvOut h s v with | [.sc (.flt a), .sc (.flt b), .sc (.flt c)] => (a, b, c) | _ => (0, 0, 0)
theorem hsv3_eq (h s v : UInt64) : hsvOut h s v = [.sc (.flt (hsv3 h s v).1), .sc (.flt (hsv3 h s v).2.1), .sc (.flt (hsv3 h s v).2.2)] := by
  unfold hsv3
  have : ∃ a b c, hsvOut h s v = [.sc (.flt a), .sc (.flt b), .sc (.flt c)] := by
    unfold hsvOut; dsimp only
    split
    · exact ⟨_, _, _, rfl⟩
    split
    · exact ⟨_, _, _, rfl⟩
    split
    · exact ⟨_, _, _, rfl⟩
    split
    · exact ⟨_, _, _, rfl⟩
    split
    · exact ⟨_, _, _, rfl⟩
    · exact ⟨_, _, _, rfl⟩
  obtain ⟨a, b, c, e⟩ := this
  rw [e]
noncomputable def toldV (n : Nat) (s v : UInt64) : UInt64 := let x := hsv3 (toldQ n) s v; Float64.mul (rgbH x.1 x.2.1 x.2.2) f16
noncomputable def toldOK (n : Nat) (s v : UInt64) : Bool := let x := hsv3 (toldQ n) s v
  !feq s f0 && Float64.isFinite (Float64.mul (toldQ n) f6) && decide ((hsvI (toldQ n)).natAbs < 1000) && rgbOK x.1 x.2.1 x.2.2

theorem told_fn0 (gd : Gd w h₀) {n : Nat} {s v : UInt64} (hn : n < 100) (ok : toldOK n s v = true) : Fn w h₀ 2 97 [iV n, fV s, fV v] (fV (toldV n s v)) := by
  unfold toldOK at ok
  simp only [Bool.and_eq_true, Bool.not_eq_true', decide_eq_true_eq] at ok
  obtain ⟨⟨⟨ok1, ok2⟩, ok3⟩, ok4⟩ := ok
  refine Fn.of gd (D_told w) [("steps", .loc), ("share", .loc), ("level", .loc)] [("red", .loc), ("green", .loc), ("blue", .loc)] rfl rfl (by decide +kernel) (by decide +kernel) rfl fun L A av hw => ?_
  have e16 : Float64.isZero f16 = false := by decide +kernel
  have hsv := hsv_fn gd (h := toldQ n) (s := s) (v := v) ok1 ok2 (Nat.lt_of_lt_of_le ok3 (by decide +kernel))
  rw [hsv3_eq] at hsv
  refine ExP.cons (ExS.unpack3 hw 3 4 5 (EvP.fcall hw 1 hsv (g_hsv w) (D_hsv w).keep (Nat.le_refl _) (EvL.cons (EvP.bin (EvP.name hw 0 rfl rfl) EvP.flt (BinP.divIF (by (first | exact om66 hn | omega)) e16)) (EvL.cons (EvP.name hw 1 rfl rfl) (EvL.cons (EvP.name hw 2 rfl rfl) EvL.nil))))
    rfl rfl rfl nfL nfL nfL rfl rfl ?_)
  refine ExP.cons (ExS.ret hw (EvP.bin (EvP.itemT (x := .sc (.flt _)) (EvP.fcall hw 1 (rgb_fn gd ok4) (g_rgb w) (D_rgb w).keep (Nat.le_refl _) (EvL.cons (EvP.name hw 3 rfl rfl) (EvL.cons (EvP.name hw 4 rfl rfl) (EvL.cons (EvP.name hw 5 rfl rfl) EvL.nil)))) EvP.int (by decide) (by decide) rfl) EvP.flt BinP.mulF) ?_)
  rfl
end Mine

namespace Mine
noncomputable def quarter (a : Nat) : UInt64 := [0x3FD0000000000000, 0x3FE0000000000000, 0x3FE8000000000000, 0x3FF0000000000000].getD a 0
noncomputable def toldGood (n a b : Nat) : Bool := toldOK n (quarter a) (quarter b) && toldV n (quarter a) (quarter b) == Float64.ofInt ((n % 16 : Nat) : Int)
theorem told_aa : ((List.range 32).all fun n => toldGood n 0 0) = true := by decide +kernel
theorem told_ab : ((List.range 32).all fun n => toldGood n 0 1) = true := by decide +kernel
theorem told_ac : ((List.range 32).all fun n => toldGood n 0 2) = true := by decide +kernel
theorem told_ad : ((List.range 32).all fun n => toldGood n 0 3) = true := by decide +kernel
theorem told_ba : ((List.range 32).all fun n => toldGood n 1 0) = true := by decide +kernel
theorem told_bb : ((List.range 32).all fun n => toldGood n 1 1) = true := by decide +kernel
theorem told_bc : ((List.range 32).all fun n => toldGood n 1 2) = true := by decide +kernel
theorem told_bd : ((List.range 32).all fun n => toldGood n 1 3) = true := by decide +kernel
theorem told_ca : ((List.range 32).all fun n => toldGood n 2 0) = true := by decide +kernel
theorem told_cb : ((List.range 32).all fun n => toldGood n 2 1) = true := by decide +kernel
theorem told_cc : ((List.range 32).all fun n => toldGood n 2 2) = true := by decide +kernel
theorem told_cd : ((List.range 32).all fun n => toldGood n 2 3) = true := by decide +kernel
theorem told_da : ((List.range 32).all fun n => toldGood n 3 0) = true := by decide +kernel
theorem told_db : ((List.range 32).all fun n => toldGood n 3 1) = true := by decide +kernel
theorem told_dc : ((List.range 32).all fun n => toldGood n 3 2) = true := by decide +kernel
theorem told_dd : ((List.range 32).all fun n => toldGood n 3 3) = true := by decide +kernel
theorem told_all {a b : Nat} (ha : a < 4) (hb : b < 4) : ((List.range 32).all fun n => toldGood n a b) = true := by
  have h1 : a = 0 ∨ a = 1 ∨ a = 2 ∨ a = 3 := by (first | exact om67 ha | omega)
  have h2 : b = 0 ∨ b = 1 ∨ b = 2 ∨ b = 3 := by (first | exact om67 hb | omega)
  rcases h1 with rfl | rfl | rfl | rfl <;> rcases h2 with rfl | rfl | rfl | rfl
  · exact told_aa
  · exact told_ab
  · exact told_ac
  · exact told_ad
  · exact told_ba
  · exact told_bb
  · exact told_bc
  · exact told_bd
  · exact told_ca
  · exact told_cb
  · exact told_cc
  · exact told_cd
  · exact told_da
  · exact told_db
  · exact told_dc
  · exact told_dd

variable {w : World} {h₀ : Heap}
theorem told_fn (gd : Gd w h₀) {n a b : Nat} (hn : n < 32) (ha : a < 4) (hb : b < 4) : Fn w h₀ 2 97 [iV n, fV (quarter a), fV (quarter b)] (fV (Float64.ofInt ((n % 16 : Nat) : Int))) := by
  have h := (List.all_eq_true.mp (told_all ha hb)) n (List.mem_range.mpr hn)
  unfold toldGood at h
  simp only [Bool.and_eq_true, beq_iff_eq] at h
  have := told_fn0 gd (n := n) (s := quarter a) (v := quarter b) (by (first | exact om68 hn | omega)) h.1
  rw [h.2] at this
  exact this
end Mine

namespace Mine

noncomputable def flagNm (j : Nat) : Str := [("OPTIMIZED" : Str), "NEWLOCALS", "VARARGS", "VARKEYWORDS"].getD j "VARKEYWORDS"
noncomputable def nmUpto (d j : Nat) : List Str := ((List.range j).filter d.testBit).map flagNm
noncomputable def flagNames (d : Nat) : List Str := nmUpto d 4
noncomputable def flagTxt (d : Nat) : Str := Txt.join ", " (flagNames d)
noncomputable def lowCut (d j : Nat) : Nat := d / 2 ^ j * 2 ^ j

theorem fin_test : ∀ d, d < 16 → ∀ j, j < 4 → (Builtin.bitAnd ((lowCut d j : Nat) : Int) ((2 ^ j : Nat) : Int) != 0) = d.testBit j := by decide +kernel
theorem fin_xor : ∀ d, d < 16 → ∀ j, j < 4 → d.testBit j = true → Builtin.bitXor ((lowCut d j : Nat) : Int) ((2 ^ j : Nat) : Int) = ((lowCut d (j + 1) : Nat) : Int) := by decide +kernel
theorem fin_same : ∀ d, d < 16 → ∀ j, j < 4 → d.testBit j = false → lowCut d j = lowCut d (j + 1) := by decide +kernel
theorem fin_end : ∀ d, d < 16 → ∀ j, j < 4 → lowCut d (j + 1) = 0 → nmUpto d (j + 1) = flagNames d := by decide +kernel
theorem fin_go : ∀ d, d < 16 → ∀ j, j < 4 → lowCut d (j + 1) ≠ 0 → 2 ^ (j + 1) ≤ d := by decide +kernel
theorem fin_pos : ∀ d, d < 16 → ∀ j, j < 4 → d.testBit j = false → 2 ^ j ≤ d → 2 ^ (j + 1) ≤ d := by decide +kernel
theorem fin_join : ∀ d, d < 16 → JoinOk ", " (flagNames d) = true := by decide +kernel
theorem nmUpto_succ (d j : Nat) : nmUpto d (j + 1) = nmUpto d j ++ (if d.testBit j then [flagNm j] else []) := by
  unfold nmUpto
  rw [List.range_succ, List.filter_append, List.map_append]
  by_cases h : d.testBit j = true
  · simp [h]
  · simp [h]

theorem flag_at (w : World) : ∀ j, j < 4 → ∃ t, flagF w ((2 ^ j : Nat) : Int) = some (.str (flagNm j) t) := by
  intro j hj
  rcases j with _ | _ | _ | _ | j
  · exact ⟨190, by kernel_rfl!⟩
  · exact ⟨192, by kernel_rfl!⟩
  · exact ⟨194, by kernel_rfl!⟩
  · exact ⟨196, by kernel_rfl!⟩
  · exact absurd hj (Nat.not_lt.mpr (Nat.le_add_left 4 j))
theorem hexOk : ∀ j, j < 4 → (baseText "0x" 16 ((2 ^ j : Nat) : Int)).length ≤ sizeLine := by decide +kernel
theorem g_flags (w : World) : nsIn (KK w) mainGlobals "COMPILER_FLAG_NAMES" = some (some (.ref 15)) := by kernel_rfl!

variable {w : World} {h₀ : Heap}
theorem pretty_fn (gd : Gd w h₀) {d : Nat} (h1 : 1 ≤ d) (h16 : d < 16) : Fn w h₀ 1 22 [iV d] (sV (flagTxt d)) := by
  refine Fn.of gd (D_pretty w) [("flags", .loc)] [("names", .loc), ("i", .loc), ("flag", .loc)] rfl rfl (by decide +kernel) (by decide +kernel) rfl fun L A av hw => ?_
  refine ExP.newOwn hw 1 rfl nfL retOnly fun a ha hw' => ?_
  refine ExP.cons (ExS.forL hw' 2 rfl nfL (ItP.range hw' (n := 32) rfl (by kernel_rfl!) (by kernel_rfl!) EvP.int (by decide))
    (fun j vs => ∃ o1 o2 : Option Vl, vs = [some (iV (lowCut d j)), some (.own a ((nmUpto d j).map .str)), o1, o2] ∧ o1.all Vl.pure = true ∧ o2.all Vl.pure = true ∧ 2 ^ j ≤ d) ?_ ?_ ?_)
  · refine ⟨none, none, ?_, rfl, rfl, by simpa using h1⟩
    show [some (iV d), some (Vl.own a []), none, none] = _
    simp [lowCut, nmUpto]
  · rintro j item vs' X hitem ⟨o1, o2, rfl, p1, p2, hj⟩ hwX
    have hj4 : j < 4 := by
      by_cases q : j < 4
      · exact q
      · have : 2 ^ 4 ≤ 2 ^ j := Nat.pow_le_pow_right (by decide) (by (first | exact om69 q | omega))
        (first | exact om70 this hj h16 | omega)
    have hit : item = .int (j : Nat) := by
      unfold upTo at hitem
      rw [List.getElem?_map, List.getElem?_range (by (first | exact om71 hj4 | omega))] at hitem
      simpa using hitem.symm
    subst hit
    have e2 : (1 : Int) * 2 ^ ((j : Nat) : Int).toNat = ((2 ^ j : Nat) : Int) := by simp
    have hsh : (Builtin.Int.intBits 1 : Int) + ((j : Nat) : Int) ≤ 2 ^ 27 := by
      have : Builtin.Int.intBits 1 = 1 := by decide +kernel
      rw [this]; (first | exact om72 hj4 | omega)
    refine ExP.cons (ExS.assign (v := iV ((2 ^ j : Nat) : Int)) hwX 3 (e2 ▸ EvP.bin EvP.int (EvP.name hwX 2 rfl rfl) (BinP.shl (by (first | exact om73 | omega)) hsh)) rfl nfL rfl rfl ?_)
    have and_ := fin_test d h16 j hj4
    have hlen : ((nmUpto d j).map Sc.str).length ≤ 1000 := by
      have := List.length_filter_le d.testBit (List.range j)
      simp [nmUpto] at this ⊢; (first | exact om74 this hj4 | omega)
    refine ExP.cons (ExS.ite (TrP.ofInt (EvP.bin (EvP.name hwX 0 rfl rfl) (EvP.name hwX 3 rfl rfl) BinP.and)) (fun q => ?_) fun q => ExP.nil ?_)
    · rw [and_] at q
      refine ExP.cons (ExS.append hwX 1 rfl rfl rfl (EvP.flagGet hwX (by kernel_rfl!) (g_flags w) (by decide) (EvP.name hwX 3 rfl rfl) (EvP.callB hwX (by kernel_rfl!) (by kernel_rfl!) boot_hex (by decide) (by decide) (EvL.one (EvP.name hwX 3 rfl rfl)) (CalP.hex (hexOk j hj4))) (flag_at w j hj4) rfl) hlen ?_ rfl)
      refine ExP.cons (ExS.aug (a := iV (lowCut d j)) (b := iV ((2 ^ j : Nat) : Int)) (v := iV (lowCut d (j + 1))) hwX 0 rfl nfL rfl (EvP.name hwX 3 rfl rfl) (fin_xor d h16 j hj4 q ▸ InpP.xor) rfl ?_)
      have hn : (nmUpto d j).map Sc.str ++ [Sc.str (flagNm j)] = (nmUpto d (j + 1)).map Sc.str := by rw [nmUpto_succ, q]; simp
      rw [hn]
      refine ExP.cons (ExS.ite (TrP.not (TrP.ofInt (EvP.name hwX 0 rfl rfl))) (fun q2 => ?_) fun q2 => ExP.nil ?_)
      · refine ExP.cons (ExS.brk ?_)
        have hz : lowCut d (j + 1) = 0 := by simpa using q2
        show thenP w h₀ _ _ _ (.nxt [some (iV (lowCut d (j + 1))), some (.own a ((nmUpto d (j + 1)).map .str)), some (iV j), some (iV ((2 ^ j : Nat) : Int))])
        rw [fin_end d h16 j hj4 hz]
        refine thenN ?_
        refine ExP.freeze ha 1 rfl retOnly rfl ?_
        refine ExP.cons (ExS.ret hw (EvP.mcall (CalP.join (fin_join d h16)) ofT.str F.plainAttrs_str F.slot_str_join F.type_str_join EvP.str (EvL.one (EvP.name hw 1 rfl rfl))) rfl)
      · have hz : lowCut d (j + 1) ≠ 0 := by simpa using q2
        refine ExP.nil (ExP.nil ?_)
        exact ⟨_, _, rfl, rfl, rfl, fin_go d h16 j hj4 hz⟩
    · rw [and_] at q
      refine ExP.nil ?_
      refine ⟨some (iV j), some (iV ((2 ^ j : Nat) : Int)), ?_, rfl, rfl, fin_pos d h16 j hj4 q hj⟩
      have hn : nmUpto d (j + 1) = nmUpto d j := by rw [nmUpto_succ, q]; simp
      rw [← fin_same d h16 j hj4 q, hn]
      rfl
  · rintro vs' ⟨o1, o2, rfl, p1, p2, hj⟩
    exfalso
    have : (upTo 32).length = 32 := by simp [upTo]
    rw [this] at hj
    (first | exact om75 hj h16 | omega)
end Mine

namespace Mine
end Mine

namespace Mine

/-! a def that closes over cells -/
noncomputable def frameC (fd : FuncData) (f L : Addr) (A : Around) (d : Nat) (av : Addr → Prop) (nm : List (Str × VK)) : Fm where
  env := callEnv fd L f
  A := A.deeper (callEnv fd L f)
  d := d
  av := fun a => av a ∨ a = L
  mu := fun a => a = L
  rv := av
  nm := nm

theorem lookupZip : ∀ {ks : List Str} {vals : List Value} {j : Nat} {x : Str} {u : Value}, ks.Nodup → ks[j]? = some x → vals[j]? = some u → ((ks.zip vals).reverse).lookup x = some u := by
  intro ks vals j x u hn hk hv
  have hmem : (x, u) ∈ ks.zip vals := by
    refine List.mem_of_getElem? (i := j) ?_
    rw [List.getElem?_zip_eq_some]; exact ⟨hk, hv⟩
  obtain ⟨u', h1, h2⟩ := lookup_of_mem (show (x, u) ∈ (ks.zip vals).reverse from List.mem_reverse.mpr hmem)
  rw [h1]
  have h3 : (x, u') ∈ ks.zip vals := List.mem_reverse.mp h2
  obtain ⟨i, hi⟩ := List.getElem?_of_mem h3
  rw [List.getElem?_zip_eq_some] at hi
  have : i = j := by
    have hi' : i < ks.length := by
      by_cases q : i < ks.length
      · exact q
      · rw [List.getElem?_eq_none (by (first | exact om4 q | omega))] at hi; cases hi.1
    exact (List.getElem?_inj hi' hn).mp (hi.1.trans hk.symm)
  subst this
  rw [hv] at hi
  exact congrArg some (Option.some.inj hi.2).symm

theorem Fn.enterC {w : World} {h₀ : Heap} (gd : Gd w h₀) {f : Addr} {o : Obj} {fd : FuncData} {body : List Stmt} {d : Nat} {args : List Vl}
    (ps rest : List Str) {A : Around} {s : Shared} {av : Addr → Prop} {vals : List Value} {Q : Value → Shared → Prop}
    (ho : s.heap.get? f = some o) (hdata : o.data = .func fd) (hcd : s.heap.CodeRec fd.code fd.qualname) (hbody : fd.body = .stmts body)
    (hgl : fd.globals = mainGlobals) (hbu : fd.builtins = builtinsNs) (hco : fd.scope.isCoroutine = false) (hgen : fd.scope.isGenerator = false) (hk : fd.scope.kind = .function)
    (hcell : ∀ x ∈ fd.scope.names, x.2 ≠ .cell) (hap : ∀ x y c, fd.closure.lookup x = some c → fd.closure.lookup y = some c → x = y)
    (hbind : bindArgs fd ⟨vals, []⟩ = pure (ps.zip vals))
    (hnm : (ps ++ rest).all (fun x => fd.scope.names.lookup x == some .local && !(x == ("__debug__" : Str)) && !(x == ("__classdict__" : Str))) = true) (hnd : (ps ++ rest).Nodup)
    (hlen : args.length = ps.length) (hpure : args.all Vl.pure = true)
    (hroom : Room (d + 1) A) (hbase : ∀ b o, h₀.get? b = some o → s.heap.get? b = some o) (hlive : ∀ a, av a → ∃ o, s.heap.get? a = some o) (hargs : Paired (Rep av s.heap) args vals)
    (h : ∀ (L : Addr) (s₁ : Shared), WF w h₀ (frameC fd f L A d av ((ps ++ rest).map fun x => (x, VK.loc))) → St h₀ (frameC fd f L A d av ((ps ++ rest).map fun x => (x, VK.loc))) (args.map some ++ rest.map fun _ => none) s₁ →
      Kp s s₁ → s.heap.get? L = none →
      wpAny (MD w) (frameC fd f L A d av ((ps ++ rest).map fun x => (x, VK.loc))).A (execs body (frameC fd f L A d av ((ps ++ rest).map fun x => (x, VK.loc))).env) (fun fl s₂ => Q (match fl with | .ret v => v | _ => .none) s₂) NoE s₁) :
    wpAny (MD w) A (call (.ref f) vals) Q NoE s := by
  have hvl : vals.length = ps.length := by rw [← Paired.length hargs, hlen]
  obtain ⟨p, loose, mg, mb, T⟩ := gd.T
  have hnms := List.all_eq_true.mp hnm
  refine wpAny_call (codeAny_call_def (fd := fd) (body := body) (binds := ps.zip vals) (by have := hroom.2.1; (first | exact om7 this | omega)) ho hdata (T.nolimit.keeps hbase) hcd hbody (.of_eq hbind) hcell (fun x hx => ?_) (fun h₁ hns hkp => ?_) hco hgen hk)
  · have hx1 : x.1 ∈ ps := (List.of_mem_zip (show (x.1, x.2) ∈ _ from hx)).1
    have := hnms x.1 (List.mem_append.mpr (.inl hx1))
    simp only [Bool.and_eq_true] at this
    simpa using this.1.1
  · have hLn : s.heap.get? s.heap.objs.size = none := freshNone s
    have ltL : ∀ b o, s.heap.get? b = some o → b ≠ s.heap.objs.size := fun b o e q => by rw [q, hLn] at e; cases e
    have wf : WF w h₀ (frameC fd f s.heap.objs.size A d av ((ps ++ rest).map fun x => (x, VK.loc))) := {
      gd := gd
      fn := hk
      gl := hgl
      bu := hbu
      room := hroom.deeper
      mufresh := fun a ha => by
        cases e : h₀.get? a with
        | none => rfl
        | some o => exact absurd ha (ltL a o (hbase a o e))
      muav := fun a ha => .inr ha
      rvav := fun a ha => .inl ha
      loc := rfl
      kinds := fun q hq => by
        obtain ⟨x, hx, rfl⟩ := List.mem_map.mp hq
        have := hnms x hx
        simp only [Bool.and_eq_true, Bool.not_eq_true'] at this
        have h1 : fd.scope.names.lookup x = some .local := by simpa using this.1.1
        exact ⟨h1, this.1.2, this.2⟩
      nodup := by
        have e : ((ps ++ rest).map fun x => (x, VK.loc)).map (·.1) = ps ++ rest := by rw [List.map_map]; exact List.map_id _
        show (((ps ++ rest).map fun x => (x, VK.loc)).map (·.1)).Nodup
        rw [e]; exact hnd
      apart := hap }
    refine wpAny_mono (h s.heap.objs.size _ wf ?_ ⟨h₁, _, rfl, hkp⟩ hLn) (fun fl s₂ h2 => h2) fun _ _ x => x.elim
    refine ⟨fun b o e => hkp b o (hbase b o e), fun a ha => ?_, ⟨_, hns, ?_⟩⟩
    · rcases ha with ha | rfl
      · obtain ⟨o, e⟩ := hlive a ha; exact ⟨o, hkp a o e⟩
      · obtain ⟨o, _, _, e, _⟩ := hns; exact ⟨o, e⟩
    · rw [List.map_append]
      have hnps : ps.Nodup := (List.nodup_append.mp hnd).1
      refine pairedAppend ?_ ?_
      · have first : ∀ (qs : List Str) (as : List Vl) (us : List Value) (k : Nat), Paired (Rep av s.heap) as us → (∀ a ∈ as, a.pure = true) → qs.length = us.length → (∀ j x, qs[j]? = some x → ps[k + j]? = some x) → (∀ j u, us[j]? = some u → vals[k + j]? = some u) →
            Paired (VOK (frameC fd f s.heap.objs.size A d av ((ps ++ rest).map fun x => (x, VK.loc))) (fun x => (ps.zip vals).reverse.lookup x) h₁) (qs.map fun x => (x, VK.loc)) (as.map some) := by
          intro qs
          induction qs with
          | nil => intro as us k h1 _ h2 _ _; cases h1 with
            | nil => exact .nil
            | cons _ _ => simp at h2
          | cons q qs ih =>
            intro as us k h1 hp h2 h3 h4
            cases h1 with
            | nil => simp at h2
            | cons ha ht =>
              rename_i a u as us
              refine .cons ⟨u, Rep.move (fun b o e n => ⟨fun q => q.elim n (ltL b o e), hkp b o e⟩) (hp a List.mem_cons_self) ha, ?_, Vl.okPure (hp a List.mem_cons_self)⟩ (ih as us (k + 1) ht (fun b hb => hp b (List.mem_cons_of_mem _ hb)) (by simpa using h2)
                (fun j x e => by have := h3 (j + 1) x (by simpa using e); rwa [show k + (j + 1) = k + 1 + j by (first | exact om64 | omega)] at this) fun j x e => by have := h4 (j + 1) x (by simpa using e); rwa [show k + (j + 1) = k + 1 + j by (first | exact om64 | omega)] at this)
              show (ps.zip vals).reverse.lookup q = some u
              exact lookupZip hnps (h3 0 q (by simp)) (h4 0 u (by simp))
        exact first ps args vals 0 hargs (List.all_eq_true.mp hpure) hvl.symm (fun j x e => by simpa using e) fun j x e => by simpa using e
      · have second : ∀ (qs : List Str), Paired (VOK (frameC fd f s.heap.objs.size A d av ((ps ++ rest).map fun x => (x, VK.loc))) (fun x => (ps.zip vals).reverse.lookup x) h₁) (qs.map fun x => (x, VK.loc)) (qs.map fun _ => none) := by
          intro qs
          induction qs with
          | nil => exact .nil
          | cons q qs ih => exact .cons (fun e => nomatch e) ih
        exact second rest

section
variable {w : World} {h₀ : Heap} {Φ : Fm} {vs : List (Option Vl)}

theorem ExP.run {ss R} (h : ExP w h₀ Φ vs ss R) : ∀ s, St h₀ Φ vs s → wpAny (MD w) Φ.A (execs ss Φ.env) (SPost h₀ Φ R s) NoE s := h
theorem ExP.mk {ss R} (h : ∀ s, St h₀ Φ vs s → wpAny (MD w) Φ.A (execs ss Φ.env) (SPost h₀ Φ R s) NoE s) : ExP w h₀ Φ vs ss R := h
theorem ExS.run {st R} (h : ExS w h₀ Φ vs st R) : ∀ s, St h₀ Φ vs s → wpAny (MD w) Φ.A (exec st Φ.env) (SPost h₀ Φ R s) NoE s := h
theorem ExS.mk {st R} (h : ∀ s, St h₀ Φ vs s → wpAny (MD w) Φ.A (exec st Φ.env) (SPost h₀ Φ R s) NoE s) : ExS w h₀ Φ vs st R := h
theorem EvP.run {e v} (h : EvP w h₀ Φ vs e v) : ∀ s, St h₀ Φ vs s → wpAny (MD w) Φ.A (eval e Φ.env) (Post Φ v s) NoE s := h
theorem EvP.mk {e v} (h : ∀ s, St h₀ Φ vs s → wpAny (MD w) Φ.A (eval e Φ.env) (Post Φ v s) NoE s) : EvP w h₀ Φ vs e v := h
theorem TrP.run {e b} (h : TrP w h₀ Φ vs e b) : ∀ s, St h₀ Φ vs s → wpAny (MD w) Φ.A (isTrue e Φ.env (eval e Φ.env)) (fun b' s' => Kp s s' ∧ b' = b) NoE s := h
theorem EvL.run {es vl} (h : EvL w h₀ Φ vs es vl) : ∀ pos s, St h₀ Φ vs s → wpAny (MD w) Φ.A (spliced (backTo pos (starEach es Φ.env))) (fun vals s' => Kp s s' ∧ Paired (Rep Φ.av s'.heap) vl vals) NoE s := h
theorem CalP.mk {fv vl r} (h : ∀ s vals, St h₀ Φ vs s → Paired (Rep Φ.av s.heap) vl vals → wpAny (MD w) Φ.A (call fv vals) (Post Φ r s) NoE s) : CalP w h₀ Φ vs fv vl r := h
theorem Fn.run {d f args r} (h : Fn w h₀ d f args r) : ∀ (A : Around) (s : Shared) (av : Addr → Prop) (vals : List Value), Room d A → (∀ b o, h₀.get? b = some o → s.heap.get? b = some o) → (∀ a, av a → ∃ o, s.heap.get? a = some o) →
    Paired (Rep av s.heap) args vals → wpAny (MD w) A (call (.ref f) vals) (fun val s' => Kp s s' ∧ Rep av s'.heap r val) NoE s := h
theorem Fn.mk {d f args r} (h : ∀ (A : Around) (s : Shared) (av : Addr → Prop) (vals : List Value), Room d A → (∀ b o, h₀.get? b = some o → s.heap.get? b = some o) → (∀ a, av a → ∃ o, s.heap.get? a = some o) →
    Paired (Rep av s.heap) args vals → wpAny (MD w) A (call (.ref f) vals) (fun val s' => Kp s s' ∧ Rep av s'.heap r val) NoE s) : Fn w h₀ d f args r := h

/-! names that the ground's cells hold -/
theorem freeLoad (hw : WF w h₀ Φ) {x : Str} {c : Addr} {val : Value} {pos} (hk : Φ.env.kindOf x = some .free) (hc : Φ.env.cells.lookup x = some c) (hcell : h₀.IsCell c (some val)) (hd : (x == ("__debug__" : Str)) = false) (hcd : (x == ("__classdict__" : Str)) = false)
    {s : Shared} (hs : St h₀ Φ vs s) {Q : Value → Shared → Prop} {E} (h : Q val s) : wpAny (MD w) Φ.A (eval (.Name x pos) Φ.env) Q E s :=
  wpAny_Name (wpAny_loadName_free hw.fn hk hc (by obtain ⟨o, e, r⟩ := hcell; exact ⟨o, hs.base _ _ e, r⟩) h hcd) hd

theorem EvP.freeI (hw : WF w h₀ Φ) {x : Str} {c : Addr} {i : Int} {t : Tok} {pos} (hcell : h₀.IsCell c (some (.int i t))) (hc : Φ.env.cells.lookup x = some c) (hk : Φ.env.kindOf x = some .free := by kernel_rfl!) (hd : (x == ("__debug__" : Str)) = false := by decide) (hcd : (x == ("__classdict__" : Str)) = false := by decide) :
    EvP w h₀ Φ vs (.Name x pos) (iV i) := fun s hs => freeLoad hw hk hc hcell hd hcd hs ⟨Kp.refl s, ⟨t, rfl⟩⟩

theorem EvP.freeItem (hw : WF w h₀ Φ) {x : Str} {c a : Addr} {items : Array Value} {xs : List Sc} {y : Sc} {slice pos np} {k : Int} (hcell : h₀.IsCell c (some (.ref a))) (hl : h₀.PlainList a items) (hp : Paired SR xs items.toList) (hc : Φ.env.cells.lookup x = some c)
    (hi : EvP w h₀ Φ vs slice (iV k)) (h0 : 0 ≤ k) (hk : k < 2 ^ 63) (hx : xs[k.toNat]? = some y) (hkk : Φ.env.kindOf x = some .free := by kernel_rfl!) (hd : (x == ("__debug__" : Str)) = false := by decide) (hcd : (x == ("__classdict__" : Str)) = false := by decide) :
    EvP w h₀ Φ vs (.Subscript (.Name x np) slice pos) (.sc y) := by
  intro s hs
  refine Subscript_ (freeLoad hw hkk hc hcell hd hcd hs ?_)
  refine wpAny_mono (hi s hs) (fun i s₂ h2 => ?_) fun _ _ x => x
  have hs₂ := hs.kept h2.1
  have hl₂ : s₂.heap.IsList a items := hl.isList.at fun o e => hs₂.base a o e
  obtain ⟨t, rfl⟩ := h2.2
  obtain ⟨ops, hops⟩ := subs_ops slice (.ref a) (.int k t)
  obtain ⟨b, hb, hf⟩ := pairedGetR hp hx
  have hb' : items[k.toNat]? = some b := by simpa using hb
  exact PyProof.Rows.tail_any hl₂.typeIs slot_list_getitem.lookup (wpAny_getItem_list hl₂ h0 hk hb' ⟨h2.1, hf⟩) hops

theorem EvP.freeCall (hw : WF w h₀ Φ) {x : Str} {c f : Addr} {np pos e es vl r} (hcell : h₀.IsCell c (some (.ref f))) (hc : Φ.env.cells.lookup x = some c) (hfn : FnAt f h₀) (hf : CalP w h₀ Φ vs (.ref f) vl r) (hl : EvL w h₀ Φ vs (e :: es) vl)
    (hk : Φ.env.kindOf x = some .free := by kernel_rfl!) (hd : (x == ("__debug__" : Str)) = false := by decide) (hcd : (x == ("__classdict__" : Str)) = false := by decide)
    (he : starEach (e :: es) Φ.env = (false, eval e Φ.env) :: starEach es Φ.env := by first | kernel_rfl! | rfl)
    (hpl : (backTo pos (starEach es Φ.env)).any (·.1) = false := by first | kernel_rfl! | rfl)
    (hee : eval (.Call (.Name x np) (e :: es) [] pos) Φ.env = (do callWith pos (← eval (.Name x np) Φ.env) [] (backTo pos (starEach (e :: es) Φ.env)) (backToKw pos (keywordEach [] Φ.env))) := by first | kernel_rfl! | rfl) :
    EvP w h₀ Φ vs (.Call (.Name x np) (e :: es) [] pos) r := by
  intro s hs
  refine Call_ (freeLoad hw hk hc hcell hd hcd hs ?_) hee
  have fnAt : ∀ s' : Shared, St h₀ Φ vs s' → FnAt f s'.heap := fun s' hs' => by obtain ⟨oc, od, fd, sl, e⟩ := hfn; exact ⟨oc, od, fd, sl, hs'.base _ _ e⟩
  refine callWith_F (fnAt s hs) (wpAny_mono (hl pos s hs) (fun vals s₁ h1 => ⟨fnAt s₁ (hs.kept h1.1), ?_⟩) fun _ _ x => x) he hpl
  exact wpAny_mono (hf s₁ vals (hs.kept h1.1) h1.2) (fun v s₂ h2 => ⟨h1.1.trans h2.1, h2.2⟩) fun _ _ x => x

/-- an object that is none of the frame's has changed -/
theorem St.aside (hw : WF w h₀ Φ) {P : Addr} (hP0 : h₀.get? P = none) (hPav : ¬ Φ.av P) {s : Shared} {h' : Heap} {tk : Nat} (x : St h₀ Φ vs s) {oP : Obj} {fs : Array Value} (hP : s.heap.get? P = some oP) (hd : oP.data = .fields fs)
    (k : ∀ b o, b ≠ P → s.heap.get? b = some o → h'.get? b = some o) : St h₀ Φ vs { s with heap := h', toks := tk } := by
  refine ⟨fun b o e => k b o (fun q => by rw [q, hP0] at e; cases e) (x.base b o e), fun a ha => ?_, ?_⟩
  · by_cases q : a = P
    · exact absurd (q ▸ ha) hPav
    · obtain ⟨o, e⟩ := x.live a ha; exact ⟨o, k a o q e⟩
  · obtain ⟨mc, h1, h2⟩ := x.ns
    have hL : Φ.env.locals ≠ P := fun q => hPav (q ▸ hw.muav _ hw.loc)
    refine ⟨mc, Heap.Ns.at' h1 fun o e => k _ o hL e, pairedMono h2 fun p ov y => ?_⟩
    have cellNe : ∀ c v, s.heap.IsCell c v → c ≠ P := fun c v q_1 q => by obtain ⟨o, e, d⟩ := q_1; subst q; rw [hP] at e; cases e; rw [hd] at d; cases d
    cases ov with
    | none =>
      intro e
      obtain ⟨c, v₀, g1, g2⟩ := y e
      exact ⟨c, v₀, g1, by obtain ⟨oc, g3, g4⟩ := id g2; exact ⟨oc, k c oc (cellNe _ _ g2) g3, g4⟩⟩
    | some v =>
      obtain ⟨val, g1, g2, g3⟩ := y
      refine ⟨val, g1.but hP (fun items n q => by rw [hd] at q; cases q) k, ?_, g3⟩
      by_cases hl' : p.2 = .loc
      · unfold At at g2 ⊢
        rw [hl'] at g2 ⊢; exact g2
      · obtain ⟨c, g5, g6⟩ := g2.of hl'
        exact At.mk' hl' ⟨c, g5, by obtain ⟨oc, g3, g4⟩ := id g6; exact ⟨oc, k c oc (cellNe _ _ g6) g3, g4⟩⟩

/-! the table of the defs within a def -/
noncomputable def tabOne (ln col : Nat) (c' : Addr) : Array Value := #[rawInt ln, rawInt col, .ref c']
noncomputable def TabG (h : Heap) (P : Addr) (ln col : Nat) (q : Str) : Prop := ∃ c', h.get? P = some (tabObj (tabOne ln col c')) ∧ h.CodeRec (.ref c') q
noncomputable def TabE (h : Heap) (P : Addr) : Prop := h.get? P = some (tabObj #[])

/-- what making a def within a def reads of the ground -/
structure Gn (h₀ : Heap) (c P : Addr) : Prop where
  code : CodeHd h₀ c P
  bm : ∃ mg bm ob, h₀.Ns mainGlobals mg ∧ mg "__builtins__" = some (.ref bm) ∧ bm ≠ builtinsNs ∧ bm ≠ mainGlobals ∧ bm ≠ P ∧ h₀.get? bm = some ob ∧ ob.cls = .type "module" ∧ ob.dict = some builtinsNs ∧ ob.data = .plain
  ne : mainGlobals ≠ P
theorem Gn.keeps {h h' : Heap} {c P} (x : Gn h c P) (k : ∀ b o, h.get? b = some o → h'.get? b = some o) : Gn h' c P :=
  ⟨x.code.keeps k, by obtain ⟨mg, bm, ob, a, b, c, d, e, f, g⟩ := x.bm; exact ⟨mg, bm, ob, a.keeps k, b, c, d, e, k _ _ f, g⟩, x.ne⟩

/-- all but the table is kept, and the table is laid -/
noncomputable def TStep (P : Addr) (ln col : Nat) (q : Str) (s s' : Shared) : Prop :=
  ∃ h' tk, s' = { s with heap := h', toks := tk } ∧ (∀ b o, b ≠ P → s.heap.get? b = some o → h'.get? b = some o) ∧ TabG h' P ln col q ∧ (TabG s.heap P ln col q → ∀ o, s.heap.get? P = some o → h'.get? P = some o)

theorem makeInner {c P : Addr} {name q : Str} {params : Arguments} {body : List Stmt} {scope : Scope} {clos : List (Str × Addr)} {pos : Pos} {fl : Nat} {env : Env} {A : Around} {s : Shared} {Q : Value → Shared → Prop} {ln col : Nat}
    (G : Gn s.heap c P) (hcl : closureFor scope env = pure clos) (hge : env.globals = mainGlobals) (hcd : env.code = .ref c) (hT : TabE s.heap P ∨ TabG s.heap P ln col q) (hln : pos.line = ln) (hcol : pos.col = col)
    (h : ∀ s' f c' ctv doc pm, TStep P ln col q s s' → s.heap.get? f = none → s'.heap.get? f = some { cls := .type "function", data := .func (fnX name q params body scope clos .none .none doc pm none (.ref c') ctv) } → s'.heap.CodeRec (.ref c') q → Q (.ref f) s') :
    wpAny (MD w) A (makeFunction name q params (.stmts body) scope env [] [] [] pos fl) Q NoE s := by
  subst hln hcol
  obtain ⟨mg, bm, ob, g1, b1, b2, b3, b4, b5, b6, b7, b8⟩ := G.bm
  have fresh : ∀ (h' : Heap), s.heap.objs.size ≤ h'.objs.size → s.heap.get? h'.objs.size = none := fun h' hle => by
    cases e : s.heap.get? h'.objs.size with
    | none => rfl
    | some o => exact absurd (Nat.lt_of_lt_of_le (Heap.lt_size e) hle) (Nat.lt_irrefl _)
  rcases hT with hT | ⟨c₀, hT, hr⟩
  · refine makeFunction_K (mg := mg) hcl hge g1 hcd G.code hT True.intro rfl G.ne ⟨bm, ob, b1, b2, b3, b4, b5, b6, b7, b8⟩ fun c' ctv doc h' tk hx hge' hlt hrec htb => ?_
    refine h _ _ c' ctv doc _ ⟨_, tk, rfl, fun b o hb e => Heap.get?_push_of_some _ (hx b o hb e), ⟨c', Heap.get?_push_of_some _ (by simpa [tabOne] using htb), hrec.push _⟩, fun hg => ?_⟩ (fresh h' (Nat.le_trans hge' (Nat.le_of_lt hlt))) (Heap.get?_push_size _ rfl) (hrec.push _)
    obtain ⟨c₁, hg, _⟩ := hg
    have hT' : s.heap.get? P = some (tabObj #[]) := hT
    rw [hT'] at hg
    simp [tabObj, tabOne] at hg
  · refine makeFunction_hit (mg := mg) (cv := .ref c₀) hcl hge g1 hcd G.code hT (by simp [tabOne, rawInt, TriplesOk]) (by simp [tabOne, codeAmong, rawInt]) ⟨bm, ob, b1, b2, b3, b4, b5, b6, b7, b8⟩ fun ctv doc h' tk hk hsz => ?_
    exact h _ _ c₀ ctv doc _ ⟨_, tk, rfl, fun b o _ e => Heap.get?_push_of_some _ (hk b o e), ⟨c₀, Heap.get?_push_of_some _ (hk _ _ hT), (hr.keeps hk).push _⟩, fun _ o e => Heap.get?_push_of_some _ (hk _ o e)⟩ (fresh h' hsz) (Heap.get?_push_size _ rfl) ((hr.keeps hk).push _)
end
end Mine

namespace Mine

/-! figures, the lowest first -/
noncomputable def valOf (n : Nat) : List Int → Int
  | [] => 0
  | x :: xs => x + 2 ^ n * valOf n xs
theorem valOf_n {n : Nat} : valOf n [] = 0 := rfl
theorem valOf_c {n : Nat} {x : Int} {xs : List Int} : valOf n (x :: xs) = x + 2 ^ n * valOf n xs := rfl
theorem valOf_append (n : Nat) : ∀ (xs ys : List Int), valOf n (xs ++ ys) = valOf n xs + 2 ^ (n * xs.length) * valOf n ys
  | [], ys => by simp [valOf_n, valOf_c]
  | x :: xs, ys => by
    rw [List.cons_append, valOf_c, valOf_c, valOf_append n xs ys, List.length_cons, Nat.mul_add, Nat.mul_one, Int.pow_add]
    grind
theorem valOf_bound (n : Nat) : ∀ (xs : List Int), (∀ x ∈ xs, 0 ≤ x ∧ x < 2 ^ n) → 0 ≤ valOf n xs ∧ valOf n xs < 2 ^ (n * xs.length)
  | [], _ => by simp [valOf_n, valOf_c]
  | x :: xs, h => by
    have h1 := h x List.mem_cons_self
    have h2 := valOf_bound n xs fun y hy => h y (List.mem_cons_of_mem _ hy)
    have hp : (0 : Int) < 2 ^ n := Int.pow_pos (by decide)
    rw [valOf_c, List.length_cons, Nat.mul_add, Nat.mul_one, Int.pow_add]
    have h3 : 2 ^ n * valOf n xs ≤ 2 ^ n * (2 ^ (n * xs.length) - 1) := Int.mul_le_mul_of_nonneg_left (by (first | exact om76 h2 | omega)) (Int.le_of_lt hp)
    have h4 : 0 ≤ 2 ^ n * valOf n xs := Int.mul_nonneg (Int.le_of_lt hp) h2.1
    have h5 : (2 : Int) ^ n * (2 ^ (n * xs.length) - 1) = 2 ^ (n * xs.length) * 2 ^ n - 2 ^ n := by grind
    (first | exact om77 h5 h4 h3 h1 | omega)
noncomputable def seg (xs : List Int) (L R : Nat) : List Int := (xs.drop L).take (R - L)
theorem seg_split (xs : List Int) {L M R : Nat} (h1 : L ≤ M) (h2 : M ≤ R) : seg xs L R = seg xs L M ++ seg xs M R := by
  unfold seg
  have e : R - L = (M - L) + (R - M) := by (first | exact om78 h2 h1 | omega)
  rw [e, List.take_add, List.drop_drop, show L + (M - L) = M by (first | exact om79 h1 | omega)]
theorem seg_len (xs : List Int) {L R : Nat} (h : R ≤ xs.length) (hL : L ≤ R) : (seg xs L R).length = R - L := by unfold seg; simp; (first | exact om80 h | omega)
theorem seg_mem {xs : List Int} {L R : Nat} {x : Int} (h : x ∈ seg xs L R) : x ∈ xs := List.mem_of_mem_drop (List.mem_of_mem_take h)
theorem seg_one {xs : List Int} {L : Nat} (h : L < xs.length) : seg xs L (L + 1) = [xs[L]] := by
  unfold seg
  rw [show L + 1 - L = 1 by (first | exact om81 | omega), List.drop_eq_getElem_cons h]; rfl
theorem intBits_le {a : Int} {m : Nat} (h0 : 0 ≤ a) (h : a < 2 ^ m) : Builtin.Int.intBits a ≤ m := by
  unfold Builtin.Int.intBits
  split
  · (first | exact om82 | omega)
  · rename_i hz
    have hz' : a ≠ 0 := by simpa using hz
    have hn : a.natAbs ≠ 0 := by (first | exact om83 hz' | omega)
    have : a.natAbs < 2 ^ m := by
      have : ((a.natAbs : Nat) : Int) < ((2 ^ m : Nat) : Int) := by rw [Int.natCast_pow]; push_cast; (first | exact om84 h h0 | omega)
      exact_mod_cast this
    have := (Nat.log2_lt hn).mpr this
    (first | exact om48 this | omega)

/-! the def within a def -/
noncomputable def inAt (i j : Nat) : Stmt := ((bodyAt i)[j]?).getD (.Pass default)
noncomputable def inBody (i j : Nat) : List Stmt := (partsOf (inAt i j)).2.2.1
noncomputable def inPar (i j : Nat) : Arguments := (partsOf (inAt i j)).2.1
noncomputable def inScope (i j : Nat) : Scope := (partsOf (inAt i j)).2.2.2.1
noncomputable def inFd (i j : Nat) (q : Str) (clos : List (Str × Addr)) (doc pm : Value) (c' : Addr) (ctv : Value) : FuncData := fnX "inner" q (inPar i j) (inBody i j) (inScope i j) clos .none .none doc pm none (.ref c') ctv

structure InnerAt (i j : Nat) (q : Str) (h : Heap) (f : Addr) (clos : List (Str × Addr)) : Prop where
  fn : ∃ c' ctv doc pm, h.get? f = some { cls := .type "function", data := .func (inFd i j q clos doc pm c' ctv) } ∧ h.CodeRec (.ref c') q
  hap : ∀ x y c, clos.lookup x = some c → clos.lookup y = some c → x = y
theorem InnerAt.keeps {i j q h h' f clos} (x : InnerAt i j q h f clos) (k : ∀ b o, h.get? b = some o → h'.get? b = some o) : InnerAt i j q h' f clos :=
  ⟨by obtain ⟨c', ctv, doc, pm, a, b⟩ := x.fn; exact ⟨c', ctv, doc, pm, k _ _ a, b.keeps k⟩, x.hap⟩
theorem InnerAt.fnAt {i j q h f clos} (x : InnerAt i j q h f clos) : FnAt f h := by obtain ⟨_, _, _, _, a, _⟩ := x.fn; exact ⟨_, _, _, _, a⟩


structure DI (q : Str) (h : Heap) (f cN cI cD a : Addr) (clos : List (Str × Addr)) (n : Nat) (xs : List Int) : Prop where
  inn : InnerAt 8 0 q h f clos
  ln : clos.lookup ("n" : Str) = some cN
  li : clos.lookup ("inner" : Str) = some cI
  ld : clos.lookup ("digits" : Str) = some cD
  cn : ∃ t, h.IsCell cN (some (.int n t))
  ci : h.IsCell cI (some (.ref f))
  cd : h.IsCell cD (some (.ref a))
  pl : ∃ items, h.PlainList a items ∧ Paired SR (xs.map .int) items.toList

variable {w : World} {hB : Heap}
theorem d2i_inner (gd : Gd w hB) {q : Str} {f cN cI cD a : Addr} {clos : List (Str × Addr)} {n : Nat} {xs : List Int} (D : DI q hB f cN cI cD a clos n xs) (hn : n ≤ 2000) (hlen : xs.length ≤ 1000) (hxs : ∀ x ∈ xs, 0 ≤ x ∧ x < 2 ^ n) :
    ∀ k L R : Nat, R - L = k → L < R → R ≤ xs.length → ∀ (A : Around) (s : Shared) (av : Addr → Prop) (vals : List Value), Room k A → (∀ b o, hB.get? b = some o → s.heap.get? b = some o) → (∀ b, av b → ∃ o, s.heap.get? b = some o) →
      Paired (Rep av s.heap) [iV L, iV R] vals → wpAny (MD w) A (call (.ref f) vals) (fun val s' => Kp s s' ∧ SR (.int (valOf n (seg xs L R))) val) NoE s := by
  intro k
  induction k using Nat.strongRecOn with
  | ind k ih =>
  intro L R hk hLR hR A s av vals hroom hbase hlive hargs
  obtain ⟨k', rfl⟩ : ∃ k', k = k' + 1 := ⟨k - 1, by (first | exact om85 hLR hk | omega)⟩
  obtain ⟨c', ctv, doc, pm, hfo, hrec⟩ := D.inn.fn
  obtain ⟨tn, hcn⟩ := D.cn
  obtain ⟨items, hpl, hpr⟩ := D.pl
  have hv : ∃ x y, vals = [x, y] := by
    cases hargs with | cons _ t => cases t with | cons _ t => cases t; exact ⟨_, _, rfl⟩
  obtain ⟨vx, vy, rfl⟩ := hv
  refine Fn.enterC (d := k') gd ["L", "R"] ["mid", "shift"] (hbase _ _ hfo) rfl (hrec.keeps hbase) rfl rfl rfl (by kernel_rfl!) (by kernel_rfl!) (by kernel_rfl!) (show ∀ x ∈ (inScope 8 0).names, x.2 ≠ .cell from by decide +kernel) D.inn.hap (by kernel_rfl!)
    (show ([("L" : Str), "R", "mid", "shift"].all fun x => (inScope 8 0).names.lookup x == some .local && !(x == ("__debug__" : Str)) && !(x == ("__classdict__" : Str))) = true from by decide +kernel) (by decide +kernel) rfl rfl hroom hbase hlive hargs fun La s₁ hw st kp hL0 => ?_
  generalize hΦ : frameC (inFd 8 0 q clos doc pm c' ctv) f La A k' av _ = Φ at hw st ⊢
  have hcl : Φ.env.cells = clos := by rw [← hΦ]; rfl
  have body : ExP w hB Φ [some (iV L), some (iV R), none, none] (inBody 8 0) (fun o => o = .ret (iV (valOf n (seg xs L R)))) := by
    have hrm : Room k' Φ.A := by have := hw.room; rw [← hΦ] at this ⊢; exact this
    have recC : ∀ (vs : List (Option Vl)) (L' R' : Nat), R' - L' ≤ k' → L' < R' → R' ≤ xs.length → CalP w hB Φ vs (.ref f) [iV L', iV R'] (iV (valOf n (seg xs L' R'))) := fun vs L' R' h1 h2 h3 =>
      CalP.mk fun s vals hs hp => wpAny_mono (ih (R' - L') (by (first | exact om86 h1 | omega)) L' R' rfl h2 h3 Φ.A s Φ.av vals (hrm.le h1) hs.base hs.live hp) (fun v s' h => ⟨h.1, h.2⟩) fun _ _ x => x
    have hkN : Φ.env.cells.lookup ("n" : Str) = some cN := by rw [hcl]; exact D.ln
    have hkI : Φ.env.cells.lookup ("inner" : Str) = some cI := by rw [hcl]; exact D.li
    have hkD : Φ.env.cells.lookup ("digits" : Str) = some cD := by rw [hcl]; exact D.ld
    have kN : Φ.env.kindOf "n" = some .free := by rw [← hΦ]; kernel_rfl!
    have kI : Φ.env.kindOf "inner" = some .free := by rw [← hΦ]; kernel_rfl!
    have kD : Φ.env.kindOf "digits" = some .free := by rw [← hΦ]; kernel_rfl!
    have n0 : Φ.nm[0]? = some (("L" : Str), VK.loc) := by rw [← hΦ]; rfl
    have n1 : Φ.nm[1]? = some (("R" : Str), VK.loc) := by rw [← hΦ]; rfl
    have n2 : Φ.nm[2]? = some (("mid" : Str), VK.loc) := by rw [← hΦ]; rfl
    have n3 : Φ.nm[3]? = some (("shift" : Str), VK.loc) := by rw [← hΦ]; rfl
    refine ExP.cons ?_
    refine ExS.ite (TrP.cmp (EvP.bin (EvP.name hw 0 n0 rfl) EvP.int BinP.add) (EvP.name hw 1 n1 rfl) CmpP.eqI) (fun q => ?_) fun q => ?_
    · have e : L + 1 = R := by have : ((L : Int) + 1) = R := by simpa using q
                               (first | exact om87 this | omega)
      subst e
      have hL : L < xs.length := by (first | exact om88 hR | omega)
      refine ExP.cons ?_
      have hx : (xs.map Sc.int)[((L : Nat) : Int).toNat]? = some (.int xs[L]) := by simp [hL]
      refine ExS.ret hw (v := iV xs[L]) ?_ ?_
      · exact EvP.freeItem hw D.cd hpl hpr hkD (EvP.name hw 0 n0 rfl) (by (first | exact om73 | omega)) (by (first | exact om89 hL hlen | omega)) hx kD
      · show Out.ret _ = Out.ret _
        rw [seg_one hL]; simp [valOf_n, valOf_c]
    · refine ExP.nil ?_
      have hlt : L + 1 < R := by have : ((L : Int) + 1) ≠ R := by simpa using q
                                 (first | exact om90 this hk | omega)
      have hm1 : L < (L + R) / 2 := by (first | exact om91 hlt | omega)
      have hm2 : (L + R) / 2 < R := by (first | exact om92 hm1 | omega)
      generalize hM : (L + R) / 2 = M at hm1 hm2
      have eM : ((L : Int) + (R : Int)).fdiv (2 ^ (1 : Int).toNat) = (M : Nat) := by
        show ((L : Int) + (R : Int)).fdiv 2 = (M : Nat)
        rw [Int.fdiv_eq_ediv_of_nonneg _ (by decide)]; (first | exact om93 hM | omega)
      refine ExP.cons ?_
      refine ExS.set hw 2 (iV (M : Nat)) (eM ▸ EvP.bin (EvP.bin (EvP.name hw 0 n0 rfl) (EvP.name hw 1 n1 rfl) BinP.add) EvP.int (BinP.shr (by decide))) ?_ nfL n2 rfl (by rw [← hΦ]; kernel_rfl!)
      refine ExP.cons ?_
      have eS : ((M : Int) - (L : Int)) * (n : Int) = ((n * (M - L) : Nat) : Int) := by
        rw [Int.natCast_mul, Int.natCast_sub (by (first | exact om94 hm1 | omega)), Int.mul_comm]
      have hS : n * (M - L) ≤ 2000 * 1000 := Nat.mul_le_mul hn (by (first | exact om95 hm2 hR hlen | omega))
      refine ExS.set hw 3 (iV ((n * (M - L) : Nat) : Int)) (eS ▸ EvP.bin (EvP.bin (EvP.name hw 2 n2 rfl) (EvP.name hw 0 n0 rfl) BinP.sub) (EvP.freeI hw hcn hkN kN) (BinP.mul ?_)) ?_ nfL n3 rfl (by rw [← hΦ]; kernel_rfl!)
      · exact PySem.IntMulOk.of_left (intBits_le (m := 64) (by (first | exact om96 hm1 | omega)) (by (first | exact om97 hm2 hR hlen | omega)))
      refine ExP.cons ?_
      have b1 := valOf_bound n (seg xs M R) fun x hx => hxs x (seg_mem hx)
      rw [seg_len xs hR (by (first | exact om94 hm2 | omega))] at b1
      have hbits := intBits_le b1.1 b1.2
      have hS2 : n * (R - M) ≤ 2000 * 1000 := Nat.mul_le_mul hn (by (first | exact om98 hR hlen | omega))
      refine ExS.ret hw (v := iV (valOf n (seg xs L R))) ?_ rfl
      have eV : valOf n (seg xs M R) * 2 ^ (((n * (M - L) : Nat) : Int)).toNat + valOf n (seg xs L M) = valOf n (seg xs L R) := by
        rw [seg_split xs (Nat.le_of_lt hm1) (Nat.le_of_lt hm2), valOf_append, seg_len xs (by (first | exact om99 hm2 hR | omega)) (by (first | exact om94 hm1 | omega)), Int.toNat_natCast]
        grind
      rw [← eV]
      refine EvP.bin (EvP.bin (EvP.freeCall hw D.ci hkI D.inn.fnAt (recC _ M R (by (first | exact om100 hm1 hk | omega)) hm2 hR) ?_ kI) (EvP.name hw 3 n3 rfl) (BinP.shl (by (first | exact om73 | omega)) (by (first | exact om101 hS2 hbits hS | omega)))) (EvP.freeCall hw D.ci hkI D.inn.fnAt (recC _ L M (by (first | exact om102 hm2 hk | omega)) hm1 (by (first | exact om99 hm2 hR | omega))) ?_ kI) BinP.add
      · exact EvL.cons (EvP.name hw 2 n2 rfl) (EvL.cons (EvP.name hw 1 n1 rfl) EvL.nil)
      · exact EvL.cons (EvP.name hw 0 n0 rfl) (EvL.cons (EvP.name hw 2 n2 rfl) EvL.nil)
  refine wpAny_mono (ExP.run body s₁ st) (fun fl s₂ h2 => ?_) fun _ _ x => x.elim
  obtain ⟨kb, o, rfl, val, rfl, hv⟩ := h2
  refine ⟨?_, hv⟩
  obtain ⟨h1, tk1, rfl, k1⟩ := kp
  obtain ⟨h2, tk2, rfl, k2⟩ := kb
  refine ⟨h2, tk2, rfl, fun b o e => k2 b o (fun q => ?_) (k1 b o e)⟩
  subst hΦ
  have q' : b = La := q
  rw [q', hL0] at e; cases e
end Mine

namespace Mine

theorem capsOf_lookup {cells : List (Str × Addr)} {names : List (Str × NameKind)} (hf : ∀ p ∈ names, p.2 = .free → (cells.lookup p.1).isSome = true) {x : Str} (hx : (x, NameKind.free) ∈ names) : (capsOf cells names []).lookup x = cells.lookup x := by
  obtain ⟨c, hc⟩ := capsOf_has (cells := cells) (acc := []) hx
  obtain ⟨c', h1, h2⟩ := lookup_of_mem hc
  rcases capsOf_mem hf h2 with h | ⟨h, _⟩
  · cases h
  · rw [h1, h]
theorem capsOf_apart {cells : List (Str × Addr)} {names : List (Str × NameKind)} (hf : ∀ p ∈ names, p.2 = .free → (cells.lookup p.1).isSome = true) (hap : ∀ x y c, cells.lookup x = some c → cells.lookup y = some c → x = y) :
    ∀ x y c, (capsOf cells names []).lookup x = some c → (capsOf cells names []).lookup y = some c → x = y := fun x y c hx hy => by
  rcases capsOf_mem hf (mem_of_lookup hx) with h | ⟨h, _⟩
  · cases h
  · rcases capsOf_mem hf (mem_of_lookup hy) with h' | ⟨h', _⟩
    · cases h'
    · exact hap x y c h h'

section
variable {w : World} {h₀ : Heap} {Φ : Fm} {vs : List (Option Vl)}
theorem storeRaw (hw : WF w h₀ Φ) {i : Nat} {x : Str} {val : Value} (hx : Φ.nm[i]? = some (x, .cel)) {s : Shared} (hs : St h₀ Φ vs s) {Q : Unit → Shared → Prop} {E}
    (hQ : ∀ h' c, Φ.env.cells.lookup x = some c → Φ.mu c → (∃ v₀, s.heap.IsCell c v₀) → h'.IsCell c (some val) → Heap.SameBut c s.heap h' → St h₀ Φ (vs.set i none) { s with heap := h' } → Q () { s with heap := h' }) : wpAny (MD w) Φ.A (storeName Φ.env x val) Q E s := by
  obtain ⟨mc, hn, hp⟩ := hs.ns
  obtain ⟨hkk, hpl⟩ := hw.kinds _ (List.mem_of_getElem? hx)
  obtain ⟨hk1, c, hc, hcm, hcl⟩ := hkk
  have hcell : ∃ v₀, s.heap.IsCell c v₀ := by
    have hlt : i < vs.length := by
      have e1 := Paired.length hp
      have : i < Φ.nm.length := by
        by_cases q : i < Φ.nm.length
        · exact q
        · rw [List.getElem?_eq_none (by (first | exact om4 q | omega))] at hx; cases hx
      (first | exact om5 this e1 | omega)
    have hb : vs[i]? = some vs[i] := by simp [hlt]
    have hv := pairedGet hp hx hb
    generalize vs[i] = ov at hv
    cases ov with
    | none => obtain ⟨c', v₀, h1, h2⟩ := hv rfl; rw [hc] at h1; cases h1; exact ⟨v₀, h2⟩
    | some v' =>
      obtain ⟨val', _, h4, _⟩ := hv
      obtain ⟨c', h1, h2⟩ := h4.of (by simp)
      have h1' : Φ.env.cells.lookup x = some c' := h1
      rw [hc] at h1'; cases h1'; exact ⟨_, h2⟩
  obtain ⟨v₀, hcell⟩ := hcell
  obtain ⟨oc, hoc, hocd⟩ := id hcell
  have hns := cellNoSeq hocd
  refine wpAny_storeName_cell hw.fn hk1 hc hcell (fun h' hn' hsb => hQ h' c hc hcm ⟨v₀, hcell⟩ hn' hsb ⟨fun b o e => ?_, fun a ha => ?_, ⟨mc, hn.sameBut hsb (Ne.symm hcl), ?_⟩⟩)
  · exact hsb.extBut b o (fun q => by have := hw.mufresh _ hcm; rw [← q, e] at this; cases this) (hs.base b o e)
  · by_cases q : a = c
    · subst q; obtain ⟨o, e, _⟩ := hn'; exact ⟨o, e⟩
    · obtain ⟨o, e⟩ := hs.live a ha; exact ⟨o, hsb.extBut a o q e⟩
  · refine pairedSet hp hx (fun _ => ⟨c, _, hc, hn'⟩) ?_
    intro j p' ov hj h1 h2 hv
    have hne := nodupGet hw.nodup hx (y := p'.1) (k' := p'.2) h1 hj
    have apart : ∀ c', Φ.env.cells.lookup p'.1 = some c' → c' ≠ c := fun c' e q => hne (hw.apart _ _ c' e (q ▸ hc))
    cases ov with
    | none =>
      intro e
      obtain ⟨c', v₁, h3, h4⟩ := hv e
      exact ⟨c', v₁, h3, h4.sameBut hsb (apart c' h3)⟩
    | some v' =>
      obtain ⟨val', h3, h4, h9⟩ := hv
      refine ⟨val', h3.but hoc hns hsb.extBut, ?_, h9⟩
      by_cases hl : p'.2 = .loc
      · unfold At at h4 ⊢
        rw [hl] at h4 ⊢; exact h4
      · obtain ⟨c', h5, h6⟩ := h4.of hl
        exact At.mk' hl ⟨c', h5, h6.sameBut hsb (apart c' h5)⟩
end

noncomputable def Sm (s s' : Shared) : Prop := ∃ h tk, s' = { s with heap := h, toks := tk }
theorem Sm.trans {s s' s''} (x : Sm s s') (y : Sm s' s'') : Sm s s'' := by
  obtain ⟨h, tk, rfl⟩ := x
  obtain ⟨h', tk', rfl⟩ := y
  exact ⟨h', tk', rfl⟩
theorem Kp.sm {s s'} (x : Kp s s') : Sm s s' := by obtain ⟨h, tk, e, _⟩ := x; exact ⟨h, tk, e⟩
theorem KB.sm {mu s s'} (x : KB mu s s') : Sm s s' := by obtain ⟨h, tk, e, _⟩ := x; exact ⟨h, tk, e⟩
theorem Sm.heap (s : Shared) (h : Heap) : Sm s { s with heap := h } := ⟨h, s.toks, rfl⟩
theorem TStep.sm {P ln col q s s'} (x : TStep P ln col q s s') : Sm s s' := by obtain ⟨h, tk, e, _⟩ := x; exact ⟨h, tk, e⟩
theorem TStep.keep {P ln col q s s'} (x : TStep P ln col q s s') {b : Addr} {o : Obj} (hb : b ≠ P) (e : s.heap.get? b = some o) : s'.heap.get? b = some o := by
  obtain ⟨h, tk, rfl, k, _⟩ := x
  exact k b o hb e
theorem TStep.laid {P ln col q} {s s' : Shared} (ts : TStep P ln col q s s') : TabG s'.heap P ln col q := by
  obtain ⟨h', tk, rfl, k, hg, hsame⟩ := ts; exact hg
theorem TStep.same {P ln col q} {s s' : Shared} (ts : TStep P ln col q s s') : TabG s.heap P ln col q → ∀ o, s.heap.get? P = some o → s'.heap.get? P = some o := by
  obtain ⟨h', tk, rfl, k, hg, hsame⟩ := ts; exact hsame
theorem TStep.of {P ln col q} {s s' : Shared} (sm : Sm s s') (k : ∀ b o, b ≠ P → s.heap.get? b = some o → s'.heap.get? b = some o) (g : TabG s'.heap P ln col q) (same : TabG s.heap P ln col q → ∀ o, s.heap.get? P = some o → s'.heap.get? P = some o) : TStep P ln col q s s' := by
  obtain ⟨h, tk, rfl⟩ := sm
  exact ⟨h, tk, rfl, k, g, same⟩
theorem TabG.notCell {h h' : Heap} {P ln col q} (g : TabG h P ln col q) (k : ∀ b o fs, h.get? b = some o → o.data = .fields fs → h'.get? b = some o) : TabG h' P ln col q := by
  obtain ⟨c', g1, cc, oc, vsc, tq, g2, g3, g4, g5⟩ := g
  exact ⟨c', k _ _ _ g1 rfl, cc, oc, vsc, tq, g2, k _ _ _ g3 g4, g4, g5⟩
theorem codeRec_notCell {h h' : Heap} {v q} (g : h.CodeRec v q) (k : ∀ b o fs, h.get? b = some o → o.data = .fields fs → h'.get? b = some o) : h'.CodeRec v q := by
  obtain ⟨cc, oc, vsc, tq, g2, g3, g4, g5⟩ := g
  exact ⟨cc, oc, vsc, tq, g2, k _ _ _ g3 g4, g4, g5⟩
section
variable {w : World} {h₀ : Heap} {Φ : Fm} {vs : List (Option Vl)}
theorem storeRawAt (hw : WF w h₀ Φ) {i : Nat} {x : Str} {c : Addr} {val : Value} (hx : Φ.nm[i]? = some (x, .cel)) (hc : Φ.env.cells.lookup x = some c) {s : Shared} (hs : St h₀ Φ vs s) {Q : Unit → Shared → Prop} {E}
    (hQ : ∀ h', Φ.mu c → (∀ b o, s.heap.get? b = some o → (∀ v, o.data ≠ .cell v) → b ≠ c) → h'.IsCell c (some val) → Heap.SameBut c s.heap h' → St h₀ Φ (vs.set i none) { s with heap := h' } → Q () { s with heap := h' }) : wpAny (MD w) Φ.A (storeName Φ.env x val) Q E s :=
  storeRaw hw hx hs fun h' c' hc' hm hold h1 h2 h3 => by
    rw [hc] at hc'; cases hc'
    refine hQ h' hm (fun b o e hd q => ?_) h1 h2 h3
    obtain ⟨v, oc, e2, d2⟩ := hold
    subst q
    rw [e] at e2; cases e2; exact hd _ d2
theorem St.tstep (hw : WF w h₀ Φ) {P ln col q} {s s' : Shared} (hs : St h₀ Φ vs s) (hT : (TabE s.heap P ∧ ¬ Φ.av P ∧ h₀.get? P = none) ∨ TabG s.heap P ln col q) (ts : TStep P ln col q s s') : St h₀ Φ vs s' := by
  obtain ⟨h', tk, rfl, k, hg, hsame⟩ := ts
  rcases hT with ⟨hE, hnav, h0⟩ | hG
  · exact St.aside hw h0 hnav hs hE rfl k
  · refine hs.kept ⟨h', tk, rfl, fun b o e => ?_⟩
    by_cases hb : b = P
    · subst hb; exact hsame hG o e
    · exact k b o hb e
end

noncomputable def inPos (i j : Nat) : Pos := (partsOf (inAt i j)).2.2.2.2

theorem TabG.keeps {h h' : Heap} {P ln col q} (x : TabG h P ln col q) (k : ∀ b o, h.get? b = some o → h'.get? b = some o) : TabG h' P ln col q := by obtain ⟨c', a, b⟩ := x; exact ⟨c', k _ _ a, b.keeps k⟩


noncomputable abbrev q8 : Str := "_digits2int.<locals>.inner"
noncomputable abbrev ln8 : Nat := (inPos 8 0).line
noncomputable abbrev col8 : Nat := (inPos 8 0).col
theorem body8 : bodyAt 8 = .FunctionDef "inner" (inPar 8 0) (inBody 8 0) [] none [] (inScope 8 0) none "inner" (inPos 8 0) :: (bodyAt 8).tail := by kernel_rfl!

variable {w : World} {h₀ : Heap}
theorem d2i_T (gd : Gd w h₀) (G : Gn h₀ 49 45) {n : Nat} {xs : List Int} (hn : n ≤ 2000) (hlen : xs.length ≤ 900) (hxs : ∀ x ∈ xs, 0 ≤ x ∧ x < 2 ^ n) {A : Around} {s : Shared} {av : Addr → Prop} {vals : List Value}
    (hroom : Room (xs.length + 2) A) (hbase : ∀ b o, h₀.get? b = some o → s.heap.get? b = some o) (hlive : ∀ a, av a → ∃ o, s.heap.get? a = some o) (hT : (TabE s.heap 45 ∧ ¬ av 45 ∧ h₀.get? 45 = none) ∨ TabG s.heap 45 ln8 col8 q8)
    (hargs : Paired (Rep av s.heap) [isV xs, iV n] vals) : wpAny (MD w) A (call (.ref 50) vals) (fun val s' => TStep 45 ln8 col8 q8 s s' ∧ SR (.int (valOf n xs)) val) NoE s := by
  have D := D_d2i w
  refine Fn.enter (d := xs.length + 1) gd [("digits", .cel), ("n", .cel)] [("inner", .cel)] D.ho (by rw [D.hcode]; exact D.hcd) D.hbody D.hclo D.hgl D.hbu D.hco D.hgen D.hk (fun vals hv => D.hbind vals (hv.trans rfl)) (by decide +kernel) (by decide +kernel) rfl rfl hroom hbase hlive hargs fun L s₁ hw st kp hfresh => ?_
  have hav : ∀ b, (frameOf (fdAt 8 (.ref 49) (.str "cpy313._pylong" 230)) 50 L A (xs.length + 1) av ([(("digits" : Str), VK.cel), (("n" : Str), VK.cel)] ++ [(("inner" : Str), VK.cel)])).av b → av b ∨ (frameOf (fdAt 8 (.ref 49) (.str "cpy313._pylong" 230)) 50 L A (xs.length + 1) av ([(("digits" : Str), VK.cel), (("n" : Str), VK.cel)] ++ [(("inner" : Str), VK.cel)])).mu b := fun b h => h
  generalize hΦ : frameOf (fdAt 8 (.ref 49) (.str "cpy313._pylong" 230)) 50 L A (xs.length + 1) av ([(("digits" : Str), VK.cel), (("n" : Str), VK.cel)] ++ [(("inner" : Str), VK.cel)]) = Φ at hw st hfresh hav ⊢
  have n0 : Φ.nm[0]? = some (("digits" : Str), VK.cel) := by rw [← hΦ]; rfl
  have n1 : Φ.nm[1]? = some (("n" : Str), VK.cel) := by rw [← hΦ]; rfl
  have n2 : Φ.nm[2]? = some (("inner" : Str), VK.cel) := by rw [← hΦ]; rfl
  obtain ⟨⟨kD, cD, hcD, mD, _⟩, _⟩ := hw.kinds _ (List.mem_of_getElem? n0)
  obtain ⟨⟨kN, cN, hcN, mN, _⟩, _⟩ := hw.kinds _ (List.mem_of_getElem? n1)
  obtain ⟨⟨kI, cI, hcI, mI, _⟩, _⟩ := hw.kinds _ (List.mem_of_getElem? n2)
  have hfr : ∀ p ∈ (inScope 8 0).names, p.2 = .free → (Φ.env.cells.lookup p.1).isSome = true := by
    have : ∀ p ∈ (inScope 8 0).names, p.2 = .free → p.1 = "digits" ∨ p.1 = "n" ∨ p.1 = "inner" := by decide +kernel
    intro p hp e
    rcases this p hp e with h | h | h <;> rw [h]
    · rw [show List.lookup _ Φ.env.cells = some cD from hcD]; rfl
    · rw [show List.lookup _ Φ.env.cells = some cN from hcN]; rfl
    · rw [show List.lookup _ Φ.env.cells = some cI from hcI]; rfl
  rw [body8]
  refine wpAny_execs_cons (nestDef_K (by kernel_rfl!) (by kernel_rfl!) (by rw [← hΦ]; kernel_rfl!) ?_)
  have hcode : Φ.env.code = .ref 49 := by rw [← hΦ]; exact D.hcode
  have hq : qualnameIn Φ.env "inner" "inner" = q8 := by rw [← hΦ]; kernel_rfl!
  rw [hq]
  have hT₁ : TabE s₁.heap 45 ∨ TabG s₁.heap 45 ln8 col8 q8 := by
    rcases hT with ⟨h, _⟩ | h
    · exact .inl (kp.heap _ _ h)
    · exact .inr (h.keeps kp.heap)
  refine makeInner (ln := ln8) (col := col8) (G.keeps st.base) (closureFor_caps hfr) hw.gl hcode hT₁ rfl rfl fun s₂ f c' ctv doc pm ts hf0 hfo hrec => ?_
  have st₂ : St h₀ Φ ([isV xs, iV n].map some ++ [(("inner" : Str), VK.cel)].map fun _ => none) s₂ := by
    rcases hT with ⟨hE, hnav, h0⟩ | hG
    · refine St.tstep hw st (.inl ⟨kp.heap _ _ hE, fun q => ?_, h0⟩) ts
      rcases hav 45 q with q | q
      · exact hnav q
      · have := hfresh 45 q; rw [hE] at this; cases this
    · exact St.tstep hw st (.inr (hG.keeps kp.heap)) ts
  refine storeRawAt hw n2 hcI st₂ fun h₃ hmc₃ cellNe hcell₃ hsb₃ st₃ => ?_
  have hf₃ := hsb₃.extBut f _ (cellNe f _ hfo (fun v q => nomatch q)) hfo
  have hrec₃ : h₃.CodeRec (.ref c') q8 := codeRec_notCell hrec fun b o fs e d => hsb₃.extBut b o (cellNe b o e fun v q => by rw [d] at q; cases q) e
  obtain ⟨mc, hns, hvok⟩ := st₃.ns
  obtain ⟨valD, rD, aD, _⟩ := pairedGet hvok n0 (b := some (isV xs)) rfl
  obtain ⟨valN, rN, aN, _⟩ := pairedGet hvok n1 (b := some (iV n)) rfl
  obtain ⟨a, items, rfl, hpl, hnavA, hpr⟩ := rD
  obtain ⟨tN, rfl⟩ := rN
  obtain ⟨cD', e1, aD⟩ := aD.of (by simp)
  obtain ⟨cN', e2, aN⟩ := aN.of (by simp)
  have e1' : Φ.env.cells.lookup ("digits" : Str) = some cD' := e1
  have e2' : Φ.env.cells.lookup ("n" : Str) = some cN' := e2
  rw [hcD] at e1'; cases e1'
  rw [hcN] at e2'; cases e2'
  have memF : ∀ x : Str, (x, NameKind.free) ∈ (inScope 8 0).names → (capsOf Φ.env.cells (inScope 8 0).names []).lookup x = Φ.env.cells.lookup x := fun x hx => capsOf_lookup hfr hx
  have DIx : DI q8 h₃ f cN cI cD a (capsOf Φ.env.cells (inScope 8 0).names []) n xs := {
    inn := ⟨⟨c', ctv, doc, pm, hf₃, hrec₃⟩, capsOf_apart hfr hw.apart⟩
    ln := (memF "n" (by decide +kernel)).trans hcN
    li := (memF "inner" (by decide +kernel)).trans hcI
    ld := (memF "digits" (by decide +kernel)).trans hcD
    cn := ⟨tN, aN⟩
    ci := hcell₃
    cd := aD
    pl := ⟨items, hpl, hpr⟩ }
  have gd₃ : Gd w h₃ := ⟨inKeeps gd.K st₃.base, by obtain ⟨p, lo, mg, mb, T⟩ := gd.T; exact ⟨p, lo, mg, mb, T.keeps st₃.base⟩⟩
  have mu45 : ∀ b, Φ.mu b → s.heap.get? b = none := hfresh
  -- what is left of the body is one expression
  have ne : ∀ b o, s.heap.get? b = some o → b ≠ cI := fun b o e q => by have := mu45 cI mI; rw [← q, e] at this; cases this
  have fin : ∀ (val : Value) (s' : Shared), Kp { s₂ with heap := h₃ } s' → SR (.int (valOf n xs)) val → TStep 45 ln8 col8 q8 s s' ∧ SR (.int (valOf n xs)) val := fun val s' k hv =>
    ⟨TStep.of (((kp.sm.trans ts.sm).trans (Sm.heap _ _)).trans k.sm) (fun b o hb e => k.heap b o (hsb₃.extBut b o (ne b o e) (ts.keep hb (kp.heap b o e))))
      (ts.laid.notCell fun b o fs e d => k.heap b o (hsb₃.extBut b o (cellNe b o e fun v q => by rw [d] at q; cases q) e))
      (fun hg o e => k.heap _ _ (hsb₃.extBut 45 o (ne 45 o e) (ts.same (hg.keeps kp.heap) o (kp.heap _ _ e)))), hv⟩
  show wpAny (MD w) Φ.A (execs (bodyAt 8).tail Φ.env) _ NoE { s₂ with heap := h₃ }
  have hs₃ : St h₀ Φ [some (isV xs), some (iV n), none] { s₂ with heap := h₃ } := st₃
  refine wpAny_execs_cons (wpAny_Return_some (IfExp_ ?_))
  refine wpAny_mono (TrP.run (TrP.ofList (EvP.name hw 0 n0 rfl) (by simp; (first | exact om103 hlen | omega)) (by kernel_rfl!)) _ hs₃) (fun b s₄ h4 => ?_) fun _ _ x => x.elim
  obtain ⟨k4, rfl⟩ := h4
  have hs₄ := hs₃.kept k4
  cases hx : (!(xs.map Sc.int).isEmpty) with
  | false =>
    have hxs0 : xs = [] := by cases xs with
      | nil => rfl
      | cons x xs => simp at hx
    subst hxs0
    refine wpAny_mono (EvP.run EvP.int s₄ hs₄) (fun val s₅ h5 => ?_) fun _ _ x => x.elim
    exact fin val s₅ (k4.trans h5.1) h5.2
  | true =>
    have hpos : 0 < xs.length := by cases xs with
      | nil => simp at hx
      | cons x xs => simp
    have c4 : s₄.heap.IsCell cI (some (.ref f)) := hcell₃.keeps k4.heap
    refine Call_ (wpAny_Name (wpAny_loadName_cell hw.fn kI hcI c4 ?_) (by decide)) (by rw [← hΦ]; kernel_rfl!)
    have fnAt : ∀ s' : Shared, Kp { s₂ with heap := h₃ } s' → FnAt f s'.heap := fun s' k => ⟨_, _, _, _, k.heap f _ hf₃⟩
    refine callWith_F (fnAt _ k4) (wpAny_mono (EvL.run (EvL.cons EvP.int (EvL.cons (EvP.bcall hw (CalP.len (by simp; (first | exact om103 hlen | omega))) boot_len (EvL.one (EvP.name hw 0 n0 rfl) ?_) ?_) EvL.nil)) _ _ hs₄) (fun vals' s₅ h5 => ⟨fnAt _ (k4.trans h5.1), ?_⟩) fun _ _ x => x.elim) (by rw [← hΦ]; kernel_rfl!) (by rw [← hΦ]; kernel_rfl!)
    · rw [← hΦ]; kernel_rfl!
    · rw [← hΦ]; kernel_rfl!
    · have hrm : Room (xs.length + 1) Φ.A := by have := hw.room; rw [← hΦ] at this ⊢; exact this
      have hs₅ := hs₄.kept h5.1
      have hl : ((xs.map Sc.int).length : Int) = (xs.length : Nat) := by simp
      have harg : Paired (Rep Φ.av s₅.heap) [iV (0 : Nat), iV (xs.length : Nat)] vals' := by
        have := h5.2
        rw [hl] at this
        exact this
      refine wpAny_mono (d2i_inner gd₃ DIx hn (by (first | exact om103 hlen | omega)) hxs (xs.length - 0) 0 xs.length rfl hpos (Nat.le_refl _) Φ.A s₅ Φ.av vals' (hrm.le (by (first | exact om104 | omega))) (fun b o e => (k4.trans h5.1).heap b o e) hs₅.live harg) (fun val s₆ h6 => ?_) fun _ _ x => x.elim
      have e : seg xs 0 xs.length = xs := by unfold seg; simp
      rw [e] at h6
      exact fin val s₆ ((k4.trans h5.1).trans h6.1) h6.2

/-- where the table is laid already, all is kept -/
theorem d2i_fn (gd : Gd w h₀) (G : Gn h₀ 49 45) (h45 : TabG h₀ 45 ln8 col8 q8) {n : Nat} {xs : List Int} (hn : n ≤ 2000) (hlen : xs.length ≤ 900) (hxs : ∀ x ∈ xs, 0 ≤ x ∧ x < 2 ^ n) : Fn w h₀ (xs.length + 2) 50 [isV xs, iV n] (iV (valOf n xs)) :=
  Fn.mk fun A s av vals hroom hbase hlive hargs => wpAny_mono (d2i_T gd G hn hlen hxs hroom hbase hlive (.inr (h45.keeps hbase)) hargs) (fun val s' h => by
    obtain ⟨⟨h', tk, rfl, k, _, k45⟩, hv⟩ := h
    refine ⟨⟨h', tk, rfl, fun b o e => ?_⟩, hv⟩
    by_cases hb : b = 45
    · subst hb; exact k45 (h45.keeps hbase) o e
    · exact k b o hb e) fun _ _ x => x
end Mine

namespace Mine

/-! the figures of a number, the lowest first -/
noncomputable def digs (n : Nat) : Nat → Int → List Int
  | 0, _ => []
  | k + 1, x => x % 2 ^ n :: digs n k (x / 2 ^ n)
theorem digs_n {n : Nat} {x : Int} : digs n 0 x = [] := rfl
theorem digs_c {n k : Nat} {x : Int} : digs n (k + 1) x = x % 2 ^ n :: digs n k (x / 2 ^ n) := rfl
theorem digs_len (n : Nat) : ∀ k x, (digs n k x).length = k
  | 0, _ => rfl
  | k + 1, x => by rw [digs_c, List.length_cons, digs_len n k]
theorem digs_split (n : Nat) : ∀ (a b : Nat) (x : Int), 0 ≤ x → digs n (a + b) x = digs n a (x % 2 ^ (n * a)) ++ digs n b (x / 2 ^ (n * a))
  | 0, b, x, _ => by simp [digs_n, digs_c]
  | a + 1, b, x, hx => by
    have hp : (0 : Int) < 2 ^ n := Int.pow_pos (by decide)
    have hq : (0 : Int) < 2 ^ (n * a) := Int.pow_pos (by decide)
    rw [show a + 1 + b = (a + b) + 1 by (first | exact om105 | omega), digs_c, digs_c, digs_split n a b (x / 2 ^ n) (Int.ediv_nonneg hx (Int.le_of_lt hp)), List.cons_append]
    have e : (2 : Int) ^ (n * (a + 1)) = 2 ^ n * 2 ^ (n * a) := by rw [Nat.mul_add, Nat.mul_one, Int.pow_add, Int.mul_comm]
    rw [e]
    congr 1
    · rw [Int.emod_emod_of_dvd _ (Int.dvd_mul_right ..)]
    · congr 1
      · congr 1
        rw [Int.emod_def, Int.emod_def, ← Int.ediv_ediv_of_nonneg (Int.le_of_lt hp)]
        have : x - 2 ^ n * 2 ^ (n * a) * (x / 2 ^ n / 2 ^ (n * a)) = x + 2 ^ n * (-(2 ^ (n * a) * (x / 2 ^ n / 2 ^ (n * a)))) := by grind
        rw [this, Int.add_mul_ediv_left _ _ (by (first | exact om106 hp | omega))]
        (first | exact om107 | omega)
      · rw [Int.ediv_ediv_of_nonneg (Int.le_of_lt hp)]
theorem digs_mem (n : Nat) : ∀ (k : Nat) (x : Int), ∀ y ∈ digs n k x, 0 ≤ y ∧ y < 2 ^ n
  | 0, _, y, h => by cases h
  | k + 1, x, y, h => by
    have hp : (0 : Int) < 2 ^ n := Int.pow_pos (by decide)
    rcases List.mem_cons.mp h with rfl | h
    · exact ⟨Int.emod_nonneg _ (by (first | exact om106 hp | omega)), Int.emod_lt_of_pos _ hp⟩
    · exact digs_mem n k _ y h
theorem digs_val (n : Nat) : ∀ (k : Nat) (x : Int), 0 ≤ x → x < 2 ^ (n * k) → valOf n (digs n k x) = x
  | 0, x, h, h2 => by simp at h2; simp [digs_n, digs_c, valOf_n, valOf_c]; (first | exact om108 h2 h | omega)
  | k + 1, x, h, h2 => by
    have hp : (0 : Int) < 2 ^ n := Int.pow_pos (by decide)
    rw [digs_c, valOf_c, digs_val n k _ (Int.ediv_nonneg h (Int.le_of_lt hp)) ?_]
    · have := Int.emod_add_mul_ediv x (2 ^ n); omega
    · rw [Nat.mul_add, Nat.mul_one, Int.pow_add] at h2
      exact Int.ediv_lt_of_lt_mul hp h2

noncomputable def put (ys : List Int) (L : Nat) (ds : List Int) : List Int := ys.take L ++ ds ++ ys.drop (L + ds.length)
theorem put_put {ys : List Int} {L : Nat} {as bs : List Int} (h : L + as.length + bs.length ≤ ys.length) : put (put ys L as) (L + as.length) bs = put ys L (as ++ bs) := by
  unfold put
  have e1 : (List.take L ys ++ as ++ List.drop (L + as.length) ys).take (L + as.length) = List.take L ys ++ as := by
    rw [List.take_append_of_le_length (by simp; (first | exact om109 h | omega)), List.take_of_length_le (by simp; (first | exact om110 | omega))]
  have e2 : (List.take L ys ++ as ++ List.drop (L + as.length) ys).drop (L + as.length + bs.length) = ys.drop (L + as.length + bs.length) := by
    have hl : (List.take L ys ++ as).length = L + as.length := by simp; (first | exact om111 h | omega)
    rw [List.drop_append, hl, List.drop_of_length_le (by (first | exact om112 hl | omega)), List.nil_append, List.drop_drop]
    congr 1; (first | exact om113 | omega)
  rw [e1, e2, List.length_append]
  simp [Nat.add_assoc]
theorem put_len {ys : List Int} {L : Nat} {ds : List Int} (h : L + ds.length ≤ ys.length) : (put ys L ds).length = ys.length := by unfold put; simp; (first | exact om114 h | omega)
theorem put_one {ys : List Int} {L : Nat} {d : Int} (h : L < ys.length) : put ys L [d] = ys.set L d := by
  unfold put
  rw [List.set_eq_take_append_cons_drop, if_pos h]; simp

theorem xor_low (x s : Nat) : Builtin.bitXor (x : Int) (((x / 2 ^ s * 2 ^ s : Nat)) : Int) = ((x % 2 ^ s : Nat) : Int) := by
  have hand : x &&& (x / 2 ^ s * 2 ^ s) = x / 2 ^ s * 2 ^ s := by
    apply Nat.eq_of_testBit_eq
    intro i
    rw [Nat.testBit_and, Nat.mul_comm, Nat.testBit_two_pow_mul]
    by_cases h : s ≤ i
    · rw [Nat.testBit_div_two_pow, show i - s + s = i by (first | exact om115 h | omega)]; simp [h]
    · simp [h]
  have e : Builtin.bitAnd (x : Int) (((x / 2 ^ s * 2 ^ s : Nat)) : Int) = ((x / 2 ^ s * 2 ^ s : Nat) : Int) := by
    rw [bitAnd_pp (by (first | exact om73 | omega)) (by (first | exact om73 | omega)), Int.toNat_natCast, Int.toNat_natCast, hand]
  rw [bitXor_and, e]
  have := Nat.div_add_mod x (2 ^ s)
  have h2 : x / 2 ^ s * 2 ^ s = 2 ^ s * (x / 2 ^ s) := Nat.mul_comm ..
  (first | exact om116 h2 this | omega)

/-- one place of a plain list is written -/
theorem setItemPlain {w : World} {A : Around} {E : Value → Shared → Prop} {s : Shared} {l : Addr} {items : Array Value} {k : Int} {t : Tok} {v : Value} {Q : Unit → Shared → Prop} (hl : s.heap.PlainList l items) (h0 : 0 ≤ k) (hn : k < items.size) (hfit : k < 2 ^ 63)
    (hQ : ∀ h', h'.PlainList l (items.setIfInBounds k.toNat v) → Heap.SameBut l s.heap h' → Q () { s with heap := h' }) : wpAny (MD w) A (setItem (.ref l) (.int k t) v) Q E s := by
  obtain ⟨n, ho⟩ := id hl
  have hL := hl.isList
  unfold setItem
  try with_reducible refine wpAny_holding ?_
  first | refine wpAny_bind (wpAny_pure ?_) | skip
  refine wpAny_bind (wpAny_sequenceKey hL.typeIs (by decide) ?_)
  refine wpAny_bind (wpAny_callSpecial?_slot (name := Str.ofString "__setitem__") hL.typeIs slot_list_setitem
    (wpAny_call_entry slot_list_setitem hL.typeIs entry_list_setitem ?_ (args_list_setitem _ _ _)))
  show wpAny _ _ (Builtin.List.listSubscript? (.int k t) >>= _) _ _ s
  refine wpAny_bind (wpAny_listSubscript_int (fitsIndex_of h0 hfit) ?_)
  clear hfit
  obtain ⟨j, rfl⟩ := Int.eq_ofNat_of_zero_le h0
  have hj : j < items.size := by (first | exact om117 hn | omega)
  have hx' : items[j]? = some items[j] := Array.getElem?_eq_getElem hj
  show wpAny _ _ ((seqItemAt l j >>= fun r => pure (r.map (j, ·))) >>= _) _ _ s
  refine wpAny_bind (wpAny_bind (wpAny_seqItemAt ho rfl (wpAny_pure ?_)))
  rw [hx']
  show wpAny _ _ (setSeqItemAt l j v >>= _) _ _ s
  have e : Obj.mapSeq (·.setIfInBounds j v) { cls := Value.type "list", data := Data.seq items n } = { cls := Value.type "list", data := Data.seq (items.setIfInBounds j v) n } := by simp [Obj.mapSeq]
  have hfin : (s.heap.update l (Obj.mapSeq (·.setIfInBounds j v))).PlainList l (items.setIfInBounds j v) :=
    ⟨n, (Heap.get?_update_self _ ho (by rw [e]; rfl)).trans (by rw [e])⟩
  refine wpAny_bind (wpAny_setSeqItemAt ho rfl ?_)
  first
    | exact wpAny_bind (wpAny_pure (wpAny_pure ⟨.none, rfl, wpAny_pure (hQ _ hfin (Heap.SameBut.update ..))⟩))
    | exact wpAny_pure ⟨.none, rfl, wpAny_pure (hQ _ hfin (Heap.SameBut.update ..))⟩
end Mine

namespace Mine
section
variable {w : World} {h₀ : Heap} {Φ : Fm} {vs : List (Option Vl)}
theorem ExS.step {st rest} {vs'} (h : ExS w h₀ Φ vs st (fun o => o = .nxt vs')) {s : Shared} (hs : St h₀ Φ vs s) {Q : Flow → Shared → Prop} (k : ∀ s', KB Φ.mu s s' → St h₀ Φ vs' s' → wpAny (MD w) Φ.A (execs rest Φ.env) Q NoE s') :
    wpAny (MD w) Φ.A (execs (st :: rest) Φ.env) Q NoE s :=
  wpAny_execs_cons (wpAny_mono (h s hs) (fun f s' h1 => by
    obtain ⟨kb, o, rfl, rfl, hs'⟩ := h1
    exact k s' kb hs') fun _ _ x => x)
end


noncomputable abbrev q7 : Str := "_int2digits.<locals>.inner"
noncomputable abbrev ln7 : Nat := (inPos 7 1).line
noncomputable abbrev col7 : Nat := (inPos 7 1).col

noncomputable abbrev i7p : List Str := ["x", "L", "R"]
noncomputable abbrev i7r : List Str := ["mid", "shift", "upper", "lower"]
structure II (h : Heap) (f cN cI cA D : Addr) (clos : List (Str × Addr)) (n : Nat) : Prop where
  inn : InnerAt 7 1 q7 h f clos
  ln : clos.lookup ("n" : Str) = some cN
  li : clos.lookup ("inner" : Str) = some cI
  la : clos.lookup ("a_digits" : Str) = some cA
  cn : ∃ t, h.IsCell cN (some (.int n t))
  ci : h.IsCell cI (some (.ref f))
  ca : h.IsCell cA (some (.ref D))

noncomputable def DStep (D : Addr) (s s' : Shared) : Prop := ∃ h' tk, s' = { s with heap := h', toks := tk } ∧ ∀ b o, b ≠ D → s.heap.get? b = some o → h'.get? b = some o
theorem Kp.dstep {D s s'} (x : Kp s s') : DStep D s s' := by obtain ⟨h', tk, e, k⟩ := x; exact ⟨h', tk, e, fun b o _ g => k b o g⟩
theorem DStep.trans {D s s' s''} (x : DStep D s s') (y : DStep D s' s'') : DStep D s s'' := by
  obtain ⟨h', tk, rfl, k⟩ := x
  obtain ⟨h'', tk', rfl, k'⟩ := y
  exact ⟨h'', tk', rfl, fun b o n e => k' b o n (k b o n e)⟩
theorem DStep.keep {D s s'} (x : DStep D s s') {b : Addr} {o : Obj} (hb : b ≠ D) (e : s.heap.get? b = some o) : s'.heap.get? b = some o := by
  obtain ⟨h, tk, rfl, k⟩ := x
  exact k b o hb e
theorem DStep.sm {D s s'} (x : DStep D s s') : Sm s s' := by obtain ⟨h, tk, e, _⟩ := x; exact ⟨h, tk, e⟩
theorem DStep.of {D s s'} (sm : Sm s s') (k : ∀ b o, b ≠ D → s.heap.get? b = some o → s'.heap.get? b = some o) : DStep D s s' := by
  obtain ⟨h, tk, rfl⟩ := sm
  exact ⟨h, tk, rfl, k⟩
theorem DStep.kb {D s s'} {mu : Addr → Prop} (x : DStep D s s') : KB (fun b => mu b ∨ b = D) s s' := by obtain ⟨h', tk, e, kk⟩ := x; exact ⟨h', tk, e, fun b o nb g => kk b o (fun q => nb (.inr q)) g⟩
noncomputable def DHas (s : Shared) (D : Addr) (ys : List Int) : Prop := ∃ items, s.heap.PlainList D items ∧ Paired SR (ys.map .int) items.toList
theorem DHas.at {s s' : Shared} {D ys} (x : DHas s D ys) (k : ∀ o, s.heap.get? D = some o → s'.heap.get? D = some o) : DHas s' D ys := by obtain ⟨i, a, b⟩ := x; exact ⟨i, a.at k, b⟩
theorem pairedSetI {ys : List Int} {items : Array Value} (h : Paired SR (ys.map .int) items.toList) {j : Nat} {x : Int} {v : Value} (hv : SR (.int x) v) (hj : j < ys.length) : Paired SR ((ys.set j x).map .int) (items.setIfInBounds j v).toList := by
  rw [Array.toList_setIfInBounds, List.map_set]
  clear hj
  generalize ys.map Sc.int = l at h
  generalize items.toList = r at h
  induction h generalizing j with
  | nil => exact .nil
  | cons h1 t ih =>
    cases j with
    | zero => exact .cons hv t
    | succ j => exact .cons h1 ih

theorem St.dstep {w : World} {h₀ : Heap} {Φ : Fm} {vs : List (Option Vl)} (hw : WF w h₀ Φ) {D : Addr} (hD : Φ.av D) (hDm : ¬ Φ.mu D) (hD0 : h₀.get? D = none) (hp : vs.all (fun o => o.all Vl.pure) = true) {s s' : Shared} (hs : St h₀ Φ vs s) (d : DStep D s s') {ys zs : List Int} (h1 : DHas s D ys) (h2 : DHas s' D zs) : St h₀ Φ vs s' := by
  obtain ⟨h8, tk8, rfl, kk⟩ := d
  obtain ⟨i7, p7, _⟩ := h1
  obtain ⟨i8, ⟨nn, p8⟩, _⟩ := h2
  exact St.grown hw hD hDm hD0 hp hs p7 ⟨_, p8⟩ kk
variable {w : World} {h₀ : Heap}
theorem i2d_inner (gd : Gd w h₀) {f cN cI cA D : Addr} {clos : List (Str × Addr)} {n len : Nat} (hD0 : h₀.get? D = none) (I : II h₀ f cN cI cA D clos n) (hn : n ≤ 2000) (hlen : len ≤ 900) :
    ∀ k L R : Nat, R - L = k → L < R → R ≤ len → ∀ (x : Nat) (ys : List Int), x < 2 ^ (n * (R - L)) → ys.length = len → ∀ (A : Around) (s : Shared) (av : Addr → Prop) (vals : List Value), Room k A → (∀ b o, h₀.get? b = some o → s.heap.get? b = some o) →
      (∀ b, av b → ∃ o, s.heap.get? b = some o) → DHas s D ys → Paired (Rep av s.heap) [iV x, iV L, iV R] vals →
      wpAny (MD w) A (call (.ref f) vals) (fun val s' => val = .none ∧ DStep D s s' ∧ DHas s' D (put ys L (digs n (R - L) x))) NoE s := by
  intro k
  induction k using Nat.strongRecOn with
  | ind k ih =>
  intro L R hk hLR hR x ys hx hys A s av vals hroom hbase hlive hD hargs
  obtain ⟨k', rfl⟩ : ∃ k', k = k' + 1 := ⟨k - 1, by (first | exact om85 hLR hk | omega)⟩
  obtain ⟨c', ctv, doc, pm, hfo, hrec⟩ := I.inn.fn
  obtain ⟨tn, hcn⟩ := I.cn
  have hv : ∃ u v y, vals = [u, v, y] ∧ SR (.int x) u ∧ SR (.int L) v ∧ SR (.int R) y := by
    cases hargs with | cons h1 t => cases t with | cons h2 t => cases t with | cons h3 t => cases t; exact ⟨_, _, _, rfl, h1, h2, h3⟩
  obtain ⟨vx, vL, vR, rfl, sx, sL, sR⟩ := hv
  have liveD : ∃ o, s.heap.get? D = some o := by obtain ⟨_, ⟨_, e⟩, _⟩ := hD; exact ⟨_, e⟩
  refine Fn.enterC (d := k') (av := fun b => av b ∨ b = D) (args := [iV x, iV L, iV R]) gd i7p i7r (hbase _ _ hfo) rfl (hrec.keeps hbase) rfl rfl rfl (by kernel_rfl!) (by kernel_rfl!) (by kernel_rfl!) (show ∀ x ∈ (inScope 7 1).names, x.2 ≠ .cell from by decide +kernel) I.inn.hap (by kernel_rfl!)
    (show ([("x" : Str), "L", "R", "mid", "shift", "upper", "lower"].all fun x => (inScope 7 1).names.lookup x == some .local && !(x == ("__debug__" : Str)) && !(x == ("__classdict__" : Str))) = true from by decide +kernel) (by decide +kernel) rfl rfl hroom hbase
    (fun b hb => hb.elim (hlive b) fun q => q ▸ liveD) (.cons sx (.cons sL (.cons sR .nil))) fun La s₁ hw st kp hL0 => ?_
  have hmu : ∀ b, (frameC (inFd 7 1 q7 clos doc pm c' ctv) f La A k' (fun b => av b ∨ b = D) ((i7p ++ i7r).map fun x => ((x : Str), VK.loc))).mu b ↔ b = La := fun b => Iff.rfl
  have havD : (frameC (inFd 7 1 q7 clos doc pm c' ctv) f La A k' (fun b => av b ∨ b = D) ((i7p ++ i7r).map fun x => ((x : Str), VK.loc))).av D := .inl (.inr rfl)
  generalize hΦ : frameC (inFd 7 1 q7 clos doc pm c' ctv) f La A k' (fun b => av b ∨ b = D) ((i7p ++ i7r).map fun x => ((x : Str), VK.loc)) = Φ at hw st hmu havD ⊢
  have hcl : Φ.env.cells = clos := by rw [← hΦ]; rfl
  have hrm : Room k' Φ.A := by have := hw.room; rw [← hΦ] at this ⊢; exact this
  have hDL : D ≠ La := fun q => by obtain ⟨o, e⟩ := liveD; rw [q, hL0] at e; cases e
  have hDm : ¬ Φ.mu D := fun q => hDL ((hmu D).mp q)
  have hkN : Φ.env.cells.lookup ("n" : Str) = some cN := by rw [hcl]; exact I.ln
  have hkI : Φ.env.cells.lookup ("inner" : Str) = some cI := by rw [hcl]; exact I.li
  have hkA : Φ.env.cells.lookup ("a_digits" : Str) = some cA := by rw [hcl]; exact I.la
  have kN : Φ.env.kindOf "n" = some .free := by rw [← hΦ]; kernel_rfl!
  have kI : Φ.env.kindOf "inner" = some .free := by rw [← hΦ]; kernel_rfl!
  have kA : Φ.env.kindOf "a_digits" = some .free := by rw [← hΦ]; kernel_rfl!
  have n0 : Φ.nm[0]? = some (("x" : Str), VK.loc) := by rw [← hΦ]; rfl
  have n1 : Φ.nm[1]? = some (("L" : Str), VK.loc) := by rw [← hΦ]; rfl
  have n2 : Φ.nm[2]? = some (("R" : Str), VK.loc) := by rw [← hΦ]; rfl
  have n3 : Φ.nm[3]? = some (("mid" : Str), VK.loc) := by rw [← hΦ]; rfl
  have n4 : Φ.nm[4]? = some (("shift" : Str), VK.loc) := by rw [← hΦ]; rfl
  have n5 : Φ.nm[5]? = some (("upper" : Str), VK.loc) := by rw [← hΦ]; rfl
  have n6 : Φ.nm[6]? = some (("lower" : Str), VK.loc) := by rw [← hΦ]; rfl
  -- what is kept in the end
  have fin : ∀ s', KB (fun b => Φ.mu b ∨ b = D) s₁ s' → DStep D s s' := fun s' k => DStep.of (kp.sm.trans k.sm) fun b o nb e => k.heap b o (fun q => by
    rcases q with q | q
    · rw [(hmu b).mp q, hL0] at e; cases e
    · exact nb q) (kp.heap b o e)
  have up : ∀ {s s'}, KB Φ.mu s s' → KB (fun b => Φ.mu b ∨ b = D) s s' := fun k => k.mono fun _ _ _ q => .inl q
  have hD₁ : DHas s₁ D ys := hD.at fun o e => kp.heap D o e
  show wpAny (MD w) Φ.A (execs (inBody 7 1) Φ.env) _ NoE s₁
  have st' : St h₀ Φ [some (iV x), some (iV L), some (iV R), none, none, none, none] s₁ := st
  refine wpAny_execs_cons (wpAny_If (wpAny_mono (TrP.run (TrP.cmp (EvP.bin (EvP.name hw 1 n1 rfl) EvP.int BinP.add) (EvP.name hw 2 n2 rfl) CmpP.eqI) s₁ st') (fun b s₂ h2 => ?_) fun _ _ x => x.elim))
  obtain ⟨k2, hb⟩ := h2
  have hs₂ := st'.kept k2
  have hD₂ : DHas s₂ D ys := hD₁.at fun o e => k2.heap D o e
  cases b with
  | true =>
    have e : L + 1 = R := by have : ((L : Int) + 1) = R := by simpa using hb.symm
                             (first | exact om87 this | omega)
    subst e
    have hx1 : x < 2 ^ n := by rw [show L + 1 - L = 1 by (first | exact om81 | omega), Nat.mul_one] at hx; exact hx
    refine wpAny_execs_cons (wpAny_Assign_Subscript (wpAny_mono (EvP.run (EvP.name hw 0 n0 rfl) s₂ hs₂) (fun vx' s₃ h3 => ?_) fun _ _ x => x.elim) (by rw [← hΦ]; kernel_rfl!))
    have hs₃ := hs₂.kept h3.1
    refine freeLoad hw kA hkA I.ca (by decide) (by decide) hs₃ ?_
    refine wpAny_mono (EvP.run (EvP.name hw 1 n1 rfl) s₃ hs₃) (fun vi s₄ h4 => ?_) fun _ _ x => x.elim
    have hs₄ := hs₃.kept h4.1
    have hD₄ : DHas s₄ D ys := hD₂.at fun o e => (h3.1.trans h4.1).heap D o e
    obtain ⟨ti, rfl⟩ := h4.2
    obtain ⟨items, hpl, hpr⟩ := hD₄
    have hsz : items.size = ys.length := by have := Paired.length hpr; simp at this; (first | exact om18 this | omega)
    refine setItemPlain hpl (by (first | exact om73 | omega)) (by (first | exact om118 hsz hR hys | omega)) (by (first | exact om119 hR hlen | omega)) fun h' hpl' hsb => ?_
    refine wpAny_execs_cons (wpAny_Return_none ⟨rfl, ?_, ?_⟩)
    · refine fin _ ((k2.trans (h3.1.trans h4.1)).kb.trans ⟨h', s₄.toks, rfl, fun b o nb e => hsb.extBut b o (fun q => nb (.inr q)) e⟩)
    · refine ⟨_, hpl', ?_⟩
      have e1 : digs n (L + 1 - L) x = [(x : Int)] := by
        rw [show L + 1 - L = 1 by (first | exact om81 | omega)]
        show [(x : Int) % 2 ^ n] = _
        rw [Int.emod_eq_of_lt (by (first | exact om73 | omega)) (by exact_mod_cast hx1)]
      rw [e1, put_one (by (first | exact om120 hR hys | omega)), Int.toNat_natCast]
      exact pairedSetI hpr h3.2 (by (first | exact om120 hR hys | omega))
  | false =>
    have hlt : L + 1 < R := by have : ((L : Int) + 1) ≠ R := by simpa using hb.symm
                               (first | exact om90 this hk | omega)
    have hm1 : L < (L + R) / 2 := by (first | exact om91 hlt | omega)
    have hm2 : (L + R) / 2 < R := by (first | exact om92 hm1 | omega)
    generalize hM : (L + R) / 2 = M at hm1 hm2
    have eM : ((L : Int) + (R : Int)).fdiv (2 ^ (1 : Int).toNat) = (M : Nat) := by
      show ((L : Int) + (R : Int)).fdiv 2 = (M : Nat)
      rw [Int.fdiv_eq_ediv_of_nonneg _ (by decide)]; (first | exact om93 hM | omega)
    have hMn : ((M - L : Nat) : Int) = (M : Int) - L := by (first | exact om121 hm1 | omega)
    have eS : ((M : Int) - (L : Int)) * (n : Int) = ((n * (M - L) : Nat) : Int) := by
      rw [Int.natCast_mul, hMn, Int.mul_comm]
    have hS : n * (M - L) ≤ 2000 * 900 := Nat.mul_le_mul hn (by (first | exact om122 hm2 hR hlen | omega))
    generalize hsh : n * (M - L) = sh at eS hS
    have eU : (x : Int).fdiv (2 ^ ((sh : Nat) : Int).toNat) = ((x / 2 ^ sh : Nat) : Int) := by
      rw [Int.toNat_natCast, Int.fdiv_eq_ediv_of_nonneg _ (Int.le_of_lt (Int.pow_pos (by decide)))]
      norm_cast
    have eW : ((x / 2 ^ sh : Nat) : Int) * 2 ^ ((sh : Nat) : Int).toNat = ((x / 2 ^ sh * 2 ^ sh : Nat) : Int) := by
      rw [Int.toNat_natCast]; norm_cast
    have hU : x / 2 ^ sh < 2 ^ (n * (R - M)) := by
      rw [Nat.div_lt_iff_lt_mul (Nat.pow_pos (by decide)), ← Nat.pow_add, ← hsh, ← Nat.mul_add]
      rwa [show R - M + (M - L) = R - L by (first | exact om123 hMn hm2 | omega)]
    have hS2 : n * (R - M) ≤ 2000 * 900 := Nat.mul_le_mul hn (by (first | exact om124 hR hlen | omega))
    have hbits : Builtin.Int.intBits ((x / 2 ^ sh : Nat) : Int) ≤ n * (R - M) := intBits_le (Int.natCast_nonneg _) (by exact_mod_cast hU)
    refine wpAny_execs_nil ?_
    show wpAny _ _ _ _ _ _
    refine ExS.step (ExS.set hw 3 (iV (M : Nat)) (eM ▸ EvP.bin (EvP.bin (EvP.name hw 1 n1 rfl) (EvP.name hw 2 n2 rfl) BinP.add) EvP.int (BinP.shr (by decide))) rfl nfL n3 rfl (by rw [← hΦ]; kernel_rfl!)) hs₂ fun s₃ k3 hs₃ => ?_
    refine ExS.step (ExS.set hw 4 (iV (sh : Nat)) (eS ▸ EvP.bin (EvP.bin (EvP.name hw 3 n3 rfl) (EvP.name hw 1 n1 rfl) BinP.sub) (EvP.freeI hw hcn hkN kN) (BinP.mul (PySem.IntMulOk.of_left (intBits_le (m := 64) (by (first | exact om125 hMn | omega)) (by (first | exact om126 hm2 hR hlen | omega)))))) rfl nfL n4 rfl (by rw [← hΦ]; kernel_rfl!)) hs₃ fun s₄ k4 hs₄ => ?_
    refine ExS.step (ExS.set hw 5 (iV ((x / 2 ^ sh : Nat) : Int)) (eU ▸ EvP.bin (EvP.name hw 0 n0 rfl) (EvP.name hw 4 n4 rfl) (BinP.shr (by (first | exact om73 | omega)))) rfl nfL n5 rfl (by rw [← hΦ]; kernel_rfl!)) hs₄ fun s₅ k5 hs₅ => ?_
    refine ExS.step (ExS.set hw 6 (iV ((x % 2 ^ sh : Nat) : Int)) (xor_low x sh ▸ EvP.bin (EvP.name hw 0 n0 rfl) (eW ▸ EvP.bin (EvP.name hw 5 n5 rfl) (EvP.name hw 4 n4 rfl) (BinP.shl (by (first | exact om73 | omega)) (by (first | exact om127 hbits hS2 hS | omega)))) BinP.xor) rfl nfL n6 rfl (by rw [← hΦ]; kernel_rfl!)) hs₅ fun s₆ k6 hs₆ => ?_
    have kb6 : KB Φ.mu s₂ s₆ := ((k3.trans k4).trans k5).trans k6
    have hD₆ : DHas s₆ D ys := hD₂.at fun o e => kb6.heap D o hDm e
    have fnAt : ∀ s' : Shared, (∀ b o, h₀.get? b = some o → s'.heap.get? b = some o) → FnAt f s'.heap := fun s' k => ⟨_, _, _, _, k f _ hfo⟩
    have hlow : x % 2 ^ sh < 2 ^ (n * (M - L)) := by rw [hsh]; exact Nat.mod_lt _ (Nat.pow_pos (by decide))
    -- the lower half
    refine wpAny_execs_cons (wpAny_Expr (Call_ (freeLoad hw kI hkI I.ci (by decide) (by decide) hs₆ ?_) (by rw [← hΦ]; kernel_rfl!)) (by rw [← hΦ]; kernel_rfl!) (by rw [← hΦ]; kernel_rfl!))
    refine callWith_F (fnAt _ hs₆.base) (wpAny_mono (EvL.run (EvL.cons (EvP.name hw 6 n6 rfl) (EvL.cons (EvP.name hw 1 n1 rfl) (EvL.cons (EvP.name hw 3 n3 rfl) EvL.nil))) _ _ hs₆) (fun vals' s₇ h7 => ⟨fnAt _ (hs₆.kept h7.1).base, ?_⟩) fun _ _ x => x.elim) (by rw [← hΦ]; kernel_rfl!) (by rw [← hΦ]; kernel_rfl!)
    have hs₇ := hs₆.kept h7.1
    have hD₇ : DHas s₇ D ys := hD₆.at fun o e => h7.1.heap D o e
    refine wpAny_mono (ih (M - L) (by (first | exact om128 hm2 hk | omega)) L M rfl hm1 (by (first | exact om99 hm2 hR | omega)) (x % 2 ^ sh) ys hlow hys Φ.A s₇ Φ.av vals' (hrm.le (by (first | exact om102 hm2 hk | omega))) hs₇.base hs₇.live hD₇ h7.2) (fun val s₈ h8 => ?_) fun _ _ x => x.elim
    obtain ⟨rfl, d8, hD₈⟩ := h8
    show wpAny _ _ _ _ _ _
    have hs₈ : St h₀ Φ [some (iV x), some (iV L), some (iV R), some (iV (M : Nat)), some (iV (sh : Nat)), some (iV ((x / 2 ^ sh : Nat) : Int)), some (iV ((x % 2 ^ sh : Nat) : Int))] s₈ := St.dstep hw havD hDm hD0 rfl hs₇ d8 hD₇ hD₈
    -- the upper half
    refine wpAny_execs_cons (wpAny_Expr (Call_ (freeLoad hw kI hkI I.ci (by decide) (by decide) hs₈ ?_) (by rw [← hΦ]; kernel_rfl!)) (by rw [← hΦ]; kernel_rfl!) (by rw [← hΦ]; kernel_rfl!))
    refine callWith_F (fnAt _ hs₈.base) (wpAny_mono (EvL.run (EvL.cons (EvP.name hw 5 n5 rfl) (EvL.cons (EvP.name hw 3 n3 rfl) (EvL.cons (EvP.name hw 2 n2 rfl) EvL.nil))) _ _ hs₈) (fun vals' s₉ h9 => ⟨fnAt _ (hs₈.kept h9.1).base, ?_⟩) fun _ _ x => x.elim) (by rw [← hΦ]; kernel_rfl!) (by rw [← hΦ]; kernel_rfl!)
    have hs₉ := hs₈.kept h9.1
    have hD₉ := hD₈.at (s' := s₉) fun o e => h9.1.heap D o e
    have hpl : (put ys L (digs n (M - L) ((x % 2 ^ sh : Nat) : Int))).length = len := by rw [put_len (by rw [digs_len]; (first | exact om129 hMn hm2 hys hR | omega)), hys]
    refine wpAny_mono (ih (R - M) (by (first | exact om130 hm1 hk | omega)) M R rfl hm2 hR (x / 2 ^ sh) _ hU hpl Φ.A s₉ Φ.av vals' (hrm.le (by (first | exact om100 hm1 hk | omega))) hs₉.base hs₉.live hD₉ h9.2) (fun val s₁₀ h10 => ?_) fun _ _ x => x.elim
    obtain ⟨rfl, d10, hD₁₀⟩ := h10
    refine wpAny_execs_nil ⟨rfl, fin _ ?_, ?_⟩
    · exact (((((k2.kb.trans (up kb6)).trans h7.1.kb).trans d8.kb).trans h9.1.kb).trans d10.kb)
    · have e1 : digs n (R - L) x = digs n (M - L) ((x % 2 ^ sh : Nat) : Int) ++ digs n (R - M) ((x / 2 ^ sh : Nat) : Int) := by
        have := digs_split n (M - L) (R - M) (x : Int) (by (first | exact om73 | omega))
        rw [show M - L + (R - M) = R - L by (first | exact om131 hMn hm2 | omega), hsh] at this
        rw [this]; norm_cast
      rw [e1, ← put_put (by rw [digs_len, digs_len]; (first | exact om132 hMn hm2 hys hR | omega)), digs_len, show L + (M - L) = M by (first | exact om133 hMn | omega)]
      exact hD₁₀
end Mine

namespace Mine

theorem timesFresh {w : World} {A : Around} {s : Shared} {av : Addr → Prop} {xs : List Sc} {x : Int} {va vb : Value} (hx : x < 2 ^ 62) (hx0 : -(2 ^ 62) < x) (h0 : xs ≠ []) (hz : xs.length * x.toNat ≤ 1000) (ha : LR av s.heap xs va) (hb : SR (.int x) vb) :
    wpAny (MD w) A (binaryOp .Mult va vb) (fun v s' => ∃ D items, v = .ref D ∧ s.heap.get? D = none ∧ Kp s s' ∧ s'.heap.PlainList D items ∧ Paired SR (List.replicate x.toNat xs).flatten items.toList) NoE s := by
  obtain ⟨l, items, e, ⟨n, hl⟩, _, hp⟩ := ha
  obtain ⟨u, e'⟩ := hb
  subst e; subst e'
  have l1 : items.size = xs.length := by rw [Paired.length hp]; simp
  have hne : items.isEmpty = false := by
    have : 0 < xs.length := List.length_pos_iff.mpr h0
    rw [Array.isEmpty_eq_false_iff]; intro q; rw [q] at l1; simp at l1; (first | exact om41 l1 this | omega)
  refine wpAny_binaryOp_repeat_ref (T := "list") (U := "int") (by decide) ⟨_, hl, rfl⟩ (fun s' => typeIs_int s' x u) noFill_list_mul F.fills_int_mul F.slot_int_rmul repeat_list F.slot_int_index.lookup
    (call_meets F.slot_int_rmul (typeIs_int s x u) F.entry_int_rmul (F.args_int_rmul_2 _ _) (int___rmul___int_list x u l items n)
      ⟨hl, rfl, ⟨_, hl, rfl⟩, call_meets F.slot_list_mul ⟨_, hl, rfl⟩ F.entry_list_mul (F.args_list_mul_2 _ _)
        (AutoListH.list___mul___list_int_3 l items n x u (by simp [Builtin.List.listFitsIndex]; (first | exact om42 hx0 hx | omega)) (by rw [l1]; (first | exact om43 hz | omega)) (by rw [l1]; simp [Builtin.List.listTooLong, sizeLine_eq]; (first | exact om44 hz | omega)))
        ⟨hl, ?_⟩⟩)
  refine ⟨_, _, rfl, freshNone s, kpPush _ _, ⟨_, Heap.get?_push_size _ rfl⟩, ?_⟩
  rw [hne, timesList]
  exact pairedTimes hp _

noncomputable def figs (n a : Nat) : Nat := (Builtin.Int.intBits (a : Int) + n - 1) / n
theorem figs_lt {n a : Nat} (hn : 1 ≤ n) : a < 2 ^ (n * figs n a) := by
  have h1 : Builtin.Int.intBits (a : Int) ≤ n * figs n a := by
    unfold figs
    generalize Builtin.Int.intBits (a : Int) = b
    have := Nat.div_add_mod (b + n - 1) n
    have := Nat.mod_lt (b + n - 1) (show n > 0 by (first | exact om134 hn | omega))
    omega
  by_cases hz : a = 0
  · subst hz; exact Nat.pow_pos (by decide)
  · have : Builtin.Int.intBits (a : Int) = a.log2 + 1 := by
      unfold Builtin.Int.intBits
      rw [if_neg (by simpa using hz)]; simp
    refine Nat.lt_of_lt_of_le Nat.lt_log2_self (Nat.pow_le_pow_right (by decide) (by (first | exact om135 this h1 | omega)))
theorem figs_zero {n : Nat} (hn : 1 ≤ n) : figs n 0 = 0 := by
  unfold figs
  have : Builtin.Int.intBits ((0 : Nat) : Int) = 0 := by decide +kernel
  rw [this]; exact Nat.div_eq_of_lt (by (first | exact om136 hn | omega))
theorem figs_pos {n a : Nat} (hn : 1 ≤ n) (ha : a ≠ 0) : 0 < figs n a := by
  unfold figs
  have : 1 ≤ Builtin.Int.intBits (a : Int) := by
    unfold Builtin.Int.intBits
    rw [if_neg (by simpa using ha)]; (first | exact om137 | omega)
  exact Nat.div_pos (by (first | exact om138 this | omega)) (by (first | exact om139 hn | omega))
theorem put_all {ys ds : List Int} (h : ds.length = ys.length) : put ys 0 ds = ds := by unfold put; simp [h]


theorem body7 : (bodyAt 7).tail = .FunctionDef "inner" (inPar 7 1) (inBody 7 1) [] none [] (inScope 7 1) none "inner" (inPos 7 1) :: (bodyAt 7).tail.tail := by kernel_rfl!

variable {w : World} {h₀ : Heap}
theorem i2d_T (gd : Gd w h₀) (G : Gn h₀ 42 38) {n a : Nat} (hn1 : 1 ≤ n) (hn : n ≤ 2000) (hlen : figs n a ≤ 900) {A : Around} {s : Shared} {av : Addr → Prop} {vals : List Value}
    (hroom : Room (figs n a + 2) A) (hbase : ∀ b o, h₀.get? b = some o → s.heap.get? b = some o) (hlive : ∀ a, av a → ∃ o, s.heap.get? a = some o) (hT : (TabE s.heap 38 ∧ ¬ av 38 ∧ h₀.get? 38 = none) ∨ TabG s.heap 38 ln7 col7 q7)
    (hargs : Paired (Rep av s.heap) [iV a, iV n] vals) : wpAny (MD w) A (call (.ref 43) vals) (fun val s' => TStep 38 ln7 col7 q7 s s' ∧ LR av s'.heap ((digs n (figs n a) a).map .int) val) NoE s := by
  have D := D_i2d w
  refine Fn.enter (d := figs n a + 1) gd [("a", .loc), ("n", .cel)] [("a_digits", .cel), ("inner", .cel)] D.ho (by rw [D.hcode]; exact D.hcd) D.hbody D.hclo D.hgl D.hbu D.hco D.hgen D.hk (fun vals hv => D.hbind vals (hv.trans rfl)) (by decide +kernel) (by decide +kernel) rfl rfl hroom hbase hlive hargs fun L s₁ hw st kp hfresh => ?_
  have hav : ∀ b, (frameOf (fdAt 7 (.ref 42) (.str "cpy313._pylong" 230)) 43 L A (figs n a + 1) av ([(("a" : Str), VK.loc), (("n" : Str), VK.cel)] ++ [(("a_digits" : Str), VK.cel), (("inner" : Str), VK.cel)])).av b → av b ∨ (frameOf (fdAt 7 (.ref 42) (.str "cpy313._pylong" 230)) 43 L A (figs n a + 1) av ([(("a" : Str), VK.loc), (("n" : Str), VK.cel)] ++ [(("a_digits" : Str), VK.cel), (("inner" : Str), VK.cel)])).mu b := fun b h => h
  generalize hΦ : frameOf (fdAt 7 (.ref 42) (.str "cpy313._pylong" 230)) 43 L A (figs n a + 1) av ([(("a" : Str), VK.loc), (("n" : Str), VK.cel)] ++ [(("a_digits" : Str), VK.cel), (("inner" : Str), VK.cel)]) = Φ at hw st hfresh hav ⊢
  have n0 : Φ.nm[0]? = some (("a" : Str), VK.loc) := by rw [← hΦ]; rfl
  have n1 : Φ.nm[1]? = some (("n" : Str), VK.cel) := by rw [← hΦ]; rfl
  have n2 : Φ.nm[2]? = some (("a_digits" : Str), VK.cel) := by rw [← hΦ]; rfl
  have n3 : Φ.nm[3]? = some (("inner" : Str), VK.cel) := by rw [← hΦ]; rfl
  obtain ⟨⟨kN, cN, hcN, mN, _⟩, _⟩ := hw.kinds _ (List.mem_of_getElem? n1)
  obtain ⟨⟨kA, cA, hcA, mA, _⟩, _⟩ := hw.kinds _ (List.mem_of_getElem? n2)
  obtain ⟨⟨kI, cI, hcI, mI, _⟩, _⟩ := hw.kinds _ (List.mem_of_getElem? n3)
  have hfr : ∀ p ∈ (inScope 7 1).names, p.2 = .free → (Φ.env.cells.lookup p.1).isSome = true := by
    have : ∀ p ∈ (inScope 7 1).names, p.2 = .free → p.1 = "a_digits" ∨ p.1 = "n" ∨ p.1 = "inner" := by decide +kernel
    intro p hp e
    rcases this p hp e with h | h | h <;> rw [h]
    · rw [show List.lookup _ Φ.env.cells = some cA from hcA]; rfl
    · rw [show List.lookup _ Φ.env.cells = some cN from hcN]; rfl
    · rw [show List.lookup _ Φ.env.cells = some cI from hcI]; rfl
  have s0 : St h₀ Φ [some (iV a), some (iV n), none, none] s₁ := st
  show wpAny (MD w) Φ.A (execs (bodyAt 7) Φ.env) _ NoE s₁
  -- the list of noughts
  refine wpAny_execs_cons (wpAny_Assign_Name (wpAny_BinOp (wpAny_mono (EvP.run (EvP.list (xs := [.int 0]) (EvL.one EvP.int (by rw [← hΦ]; kernel_rfl!))) s₁ s0) (fun vz s₂ h2 => ?_) fun _ _ x => x.elim)) (by rw [← hΦ]; kernel_rfl!))
  have hs₂ := s0.kept h2.1
  have e : ((Builtin.Int.intBits (a : Int) : Nat) + (n : Int) - 1).fdiv (n : Int) = ((figs n a : Nat) : Int) := by
    rw [Int.fdiv_eq_ediv_of_nonneg _ (by (first | exact om73 | omega))]
    unfold figs
    have : ((Builtin.Int.intBits (a : Int) + n - 1 : Nat) : Int) = (Builtin.Int.intBits (a : Int) : Nat) + (n : Int) - 1 := by (first | exact om140 hn1 | omega)
    rw [Int.natCast_ediv, this]
  have hl : (n : Int).natAbs.log2 < 9000 := by
    have h3 : (n : Int).natAbs = n := by simp
    rw [h3]
    have h4 : n.log2 < 11 := (Nat.log2_lt (by (first | exact om141 hn1 | omega))).mpr (by (first | exact om142 hn | omega))
    (first | exact om143 h4 | omega)
  refine wpAny_mono (EvP.run (v := iV ((figs n a : Nat) : Int)) (e ▸ EvP.bin (EvP.bin (EvP.bin (EvP.mcall0 CalP.bits ofT.int F.plainAttrs_int F.slot_int_bit_length F.type_int_bit_length (EvP.name hw 0 n0 rfl) (by kernel_rfl!) (by rw [← hΦ]; kernel_rfl!) (by rw [← hΦ]; kernel_rfl!) (by rw [← hΦ]; kernel_rfl!)) (EvP.name hw 1 n1 rfl) BinP.add) EvP.int BinP.sub) (EvP.name hw 1 n1 rfl) (BinP.fdiv (by (first | exact om144 hn1 | omega)) hl)) s₂ hs₂) (fun vc s₃ h3 => ?_) fun _ _ x => x.elim
  have hs₃ := hs₂.kept h3.1
  refine wpAny_mono (timesFresh (av := Φ.av) (by (first | exact om145 hlen | omega)) (by (first | exact om146 | omega)) (by simp) (by simp; (first | exact om103 hlen | omega)) (h2.2.keeps h3.1.heap) h3.2) (fun vl s₄ h4 => ?_) fun _ _ x => x.elim
  obtain ⟨Dl, items, rfl, hDnew, k4, hpl, hpr⟩ := h4
  have hs₄ := hs₃.kept k4
  have hDs₁ : s₁.heap.get? Dl = none := by
    cases e : s₁.heap.get? Dl with
    | none => rfl
    | some o => rw [(h2.1.trans h3.1).heap _ _ e] at hDnew; cases hDnew
  have hDs : s.heap.get? Dl = none := by
    cases e : s.heap.get? Dl with
    | none => rfl
    | some o => rw [kp.heap _ _ e] at hDs₁; cases hDs₁
  have hDav : ¬ Φ.av Dl := fun q => by obtain ⟨o, e⟩ := s0.live _ q; rw [hDs₁] at e; cases e
  have hD0 : h₀.get? Dl = none := h0None s0 hDs₁
  have hzeros : Paired SR ((List.replicate (figs n a) (0 : Int)).map .int) items.toList := by
    have e : (List.replicate (((figs n a : Nat) : Int)).toNat [Sc.int 0]).flatten = (List.replicate (figs n a) (0 : Int)).map .int := by
      rw [Int.toNat_natCast, List.map_replicate]
      generalize figs n a = k
      induction k with
      | zero => rfl
      | succ k ih => rw [List.replicate_succ, List.flatten_cons, ih]; rfl
    rw [← e]; exact hpr
  refine storeRawAt hw n2 hcA hs₄ fun h₅ hmcA _ hcellA hsb₅ hs₅' => ?_
  obtain ⟨s₅, hs₅eq⟩ : ∃ s₅ : Shared, s₅ = { s₄ with heap := h₅ } := ⟨_, rfl⟩
  rw [← hs₅eq] at hs₅' ⊢
  have hs₅ : St h₀ Φ [some (iV a), some (iV n), none, none] s₅ := hs₅'
  have k5 : KB Φ.mu s₄ s₅ := ⟨h₅, s₄.toks, hs₅eq, fun b o nb e => hsb₅.extBut b o (fun q => nb (q ▸ hmcA)) e⟩
  have hcellA5 : s₅.heap.IsCell cA (some (.ref Dl)) := by rw [hs₅eq]; exact hcellA
  have kb5 : KB Φ.mu s₁ s₅ := (((h2.1.trans h3.1).trans k4).kb).trans k5
  have hDm : ¬ Φ.mu Dl := fun q => hDav (hw.muav _ q)
  have hD₅ : DHas s₅ Dl (List.replicate (figs n a) 0) := ⟨items, hpl.at fun o e => k5.heap Dl o hDm e, hzeros⟩
  -- the def within
  show wpAny (MD w) Φ.A (execs (bodyAt 7).tail Φ.env) _ NoE s₅
  rw [body7]
  refine wpAny_execs_cons (nestDef_K (by kernel_rfl!) (by kernel_rfl!) (by rw [← hΦ]; kernel_rfl!) ?_)
  have hcode : Φ.env.code = .ref 42 := by rw [← hΦ]; exact D.hcode
  have hq : qualnameIn Φ.env "inner" "inner" = q7 := by rw [← hΦ]; kernel_rfl!
  rw [hq]
  have ne38 : ∀ o, s.heap.get? 38 = some o → ¬ Φ.mu 38 := fun o e q => by have := hfresh 38 q; rw [e] at this; cases this
  have up5 : ∀ b o, s.heap.get? b = some o → s₅.heap.get? b = some o := fun b o e => kb5.heap b o (fun q => by have := hfresh b q; rw [e] at this; cases this) (kp.heap b o e)
  have hT₅ : TabE s₅.heap 38 ∨ TabG s₅.heap 38 ln7 col7 q7 := by
    rcases hT with ⟨h, _⟩ | h
    · exact .inl (up5 _ _ h)
    · exact .inr (h.keeps up5)
  refine makeInner (ln := ln7) (col := col7) (G.keeps hs₅.base) (closureFor_caps hfr) hw.gl hcode hT₅ rfl rfl fun s₆ f c' ctv doc pm ts hf0 hfo hrec => ?_
  have st₆ : St h₀ Φ [some (iV a), some (iV n), none, none] s₆ := by
    rcases hT with ⟨hE, hnav, h0⟩ | hG
    · refine St.tstep hw hs₅ (.inl ⟨up5 _ _ hE, fun q => ?_, h0⟩) ts
      rcases hav 38 q with q | q
      · exact hnav q
      · exact ne38 _ hE q
    · exact St.tstep hw hs₅ (.inr (hG.keeps up5)) ts
  have hne38 : Dl ≠ 38 := fun q => by
    rcases hT with ⟨hE, _⟩ | ⟨c, hG, _⟩
    · rw [q, hE] at hDs; cases hDs
    · rw [q, hG] at hDs; cases hDs
  have hD₆ : s₆.heap.get? Dl = s₅.heap.get? Dl := by
    obtain ⟨i, ⟨nn, p⟩, _⟩ := hD₅
    rw [p]; exact ts.keep hne38 p
  refine storeRawAt hw n3 hcI st₆ fun h₇ hmcI cellNe hcell₇ hsb₇ st₇ => ?_
  have hf₇ := hsb₇.extBut f _ (cellNe f _ hfo (fun v q => nomatch q)) hfo
  have hrecI : h₇.CodeRec (.ref c') q7 := codeRec_notCell hrec fun b o fs e d => hsb₇.extBut b o (cellNe b o e fun v q => by rw [d] at q; cases q) e
  obtain ⟨mc, hns, hvok⟩ := st₇.ns
  obtain ⟨valN, rN, aN, _⟩ := pairedGet hvok n1 (b := some (iV n)) rfl
  obtain ⟨tN, rfl⟩ := rN
  obtain ⟨cN', e2, aN⟩ := aN.of (by simp)
  have e2' : Φ.env.cells.lookup ("n" : Str) = some cN' := e2
  rw [hcN] at e2'; cases e2'
  have memF : ∀ x : Str, (x, NameKind.free) ∈ (inScope 7 1).names → (capsOf Φ.env.cells (inScope 7 1).names []).lookup x = Φ.env.cells.lookup x := fun x hx => capsOf_lookup hfr hx
  have hA₆ : s₆.heap.IsCell cA (some (.ref Dl)) := by
    obtain ⟨o, e1, e2⟩ := hcellA5
    refine ⟨o, ts.keep (fun q => ?_) e1, e2⟩
    have q' : cA = 38 := q
    rcases hT with ⟨hE, _⟩ | ⟨c, hG, _⟩
    · exact ne38 _ hE (q' ▸ mA)
    · exact ne38 _ hG (q' ▸ mA)
  have hAne : cA ≠ cI := fun q => by have := hw.apart _ _ cI (q ▸ hcA) hcI; revert this; decide
  have hA₇ : h₇.IsCell cA (some (.ref Dl)) := hA₆.sameBut hsb₇ hAne
  have hD₇ : DHas { s₆ with heap := h₇ } Dl (List.replicate (figs n a) 0) := by
    obtain ⟨i, ⟨nn, p⟩, pr⟩ := hD₅
    have p6 : s₆.heap.get? Dl = _ := hD₆.trans p
    exact ⟨i, ⟨nn, hsb₇.extBut Dl _ (cellNe Dl _ p6 (fun v q => nomatch q)) p6⟩, pr⟩
  -- the ground without the list
  have kH : ∀ b o, b ≠ Dl → h₇.get? b = some o → (hideAll h₇ [Dl]).get? b = some o := fun b o nb e => hideAll_get _ e (by simpa using nb)
  have cellH : ∀ c v, h₇.IsCell c v → (hideAll h₇ [Dl]).IsCell c v := fun c v ⟨o, e, d⟩ => ⟨o, kH c o (fun q => by
    obtain ⟨i, ⟨nn, p⟩, _⟩ := hD₇
    subst q
    have p' : h₇.get? c = _ := p
    rw [e] at p'; cases p'; cases d) e, d⟩
  have nodl : ∀ b o, h₇.get? b = some o → (∀ its nn, o.data ≠ .seq its nn) → b ≠ Dl := fun b o e hd q => by
    obtain ⟨i, ⟨nn, p⟩, _⟩ := hD₇
    subst q
    have p' : h₇.get? b = _ := p
    rw [e] at p'; cases p'; exact hd _ _ rfl
  have IIx : II (hideAll h₇ [Dl]) f cN cI cA Dl (capsOf Φ.env.cells (inScope 7 1).names []) n := {
    inn := ⟨⟨c', ctv, doc, pm, kH f _ (nodl f _ hf₇ (fun _ _ q => nomatch q)) hf₇, by
      obtain ⟨cc, oc, vsc, tq, e1, e2, e3, e4⟩ := hrecI
      exact ⟨cc, oc, vsc, tq, e1, kH cc _ (nodl cc oc e2 (fun _ _ q => by rw [e3] at q; cases q)) e2, e3, e4⟩⟩, capsOf_apart hfr hw.apart⟩
    ln := (memF "n" (by decide +kernel)).trans hcN
    li := (memF "inner" (by decide +kernel)).trans hcI
    la := (memF "a_digits" (by decide +kernel)).trans hcA
    cn := ⟨tN, cellH _ _ aN⟩
    ci := cellH _ _ hcell₇
    ca := cellH _ _ hA₇ }
  have sub7 : ∀ b o, h₀.get? b = some o → (hideAll h₇ [Dl]).get? b = some o := fun b o e => kH b o (fun q => by rw [q, hD0] at e; cases e) (st₇.base b o e)
  have gd₇ : Gd w (hideAll h₇ [Dl]) := ⟨inKeeps gd.K sub7, by obtain ⟨p, lo, mg, mb, T⟩ := gd.T; exact ⟨p, lo, mg, mb, T.keeps sub7⟩⟩
  have hs₇ : St h₀ Φ [some (iV a), some (iV n), none, none] { s₆ with heap := h₇ } := st₇
  have ne : ∀ b o, s.heap.get? b = some o → b ≠ cI := fun b o e q => by have := hfresh cI mI; rw [← q, e] at this; cases this
  have neD : ∀ b o, s.heap.get? b = some o → b ≠ Dl := fun b o e q => by rw [q, hDs] at e; cases e
  -- the return of the list
  have fin : ∀ (s' : Shared) (zs : List Int), DStep Dl { s₆ with heap := h₇ } s' → DHas s' Dl zs → zs = digs n (figs n a) a →
      wpAny (MD w) Φ.A (execs (bodyAt 7).tail.tail.tail Φ.env) (fun fl s₂ => TStep 38 ln7 col7 q7 s s₂ ∧ LR av s₂.heap ((digs n (figs n a) a).map .int) (match fl with | .ret v => v | _ => .none)) NoE s' := by
    intro s' zs d8 hD8 hz
    subst hz
    have c8 : s'.heap.IsCell cA (some (.ref Dl)) := by
      obtain ⟨o, e1, e2⟩ := hA₇
      exact ⟨o, d8.keep (nodl _ _ e1 (fun _ _ q => by rw [e2] at q; cases q)) e1, e2⟩
    refine wpAny_execs_cons (wpAny_Return_some (wpAny_Name (wpAny_loadName_cell hw.fn kA hcA c8 ?_) (by decide)))
    obtain ⟨i8, p8, r8⟩ := hD8
    have up8 : ∀ b o fs, s₆.heap.get? b = some o → o.data = .fields fs → s'.heap.get? b = some o := fun b o fs e d => by
      have e7 := hsb₇.extBut b o (cellNe b o e fun v q => by rw [d] at q; cases q) e
      exact d8.keep (nodl b o e7 fun _ _ q => by rw [d] at q; cases q) e7
    refine ⟨TStep.of (((((((kp.sm.trans h2.1.sm).trans h3.1.sm).trans k4.sm).trans k5.sm).trans ts.sm).trans (Sm.heap _ _)).trans d8.sm)
      (fun b o nb e => d8.keep (neD b o e) (hsb₇.extBut b o (ne b o e) (ts.keep nb (up5 b o e)))) (ts.laid.notCell up8)
      (fun hg o e => d8.keep (neD _ _ e) (hsb₇.extBut 38 o (ne 38 o e) (ts.same (hg.keeps up5) o (up5 _ _ e)))), Dl, i8, rfl, p8, fun q => ?_, r8⟩
    obtain ⟨o, e⟩ := hlive _ q; rw [hDs] at e; cases e
  show wpAny (MD w) Φ.A (execs (bodyAt 7).tail.tail Φ.env) _ NoE { s₆ with heap := h₇ }
  refine wpAny_execs_cons (wpAny_If (wpAny_mono (TrP.run (TrP.ofInt (EvP.name hw 0 n0 rfl) (by kernel_rfl!)) _ hs₇) (fun b s₈ h8 => ?_) fun _ _ x => x.elim))
  obtain ⟨k8, rfl⟩ := h8
  have hs₈ := hs₇.kept k8
  cases hz : ((a : Int) != 0) with
  | false =>
    have ha0 : a = 0 := by simpa using hz
    refine wpAny_execs_nil ?_
    refine fin s₈ _ k8.dstep (hD₇.at fun o e => k8.heap Dl o e) ?_
    subst ha0
    rw [figs_zero hn1]; rfl
  | true =>
    have ha0 : a ≠ 0 := by simpa using hz
    have hpos := figs_pos hn1 ha0
    have fnAt : ∀ s' : Shared, Kp { s₆ with heap := h₇ } s' → FnAt f s'.heap := fun s' k => ⟨_, _, _, _, k.heap f _ hf₇⟩
    have hA₈ : ∀ s' : Shared, Kp { s₆ with heap := h₇ } s' → s'.heap.IsCell cA (some (.ref Dl)) := fun s' k => hA₇.keeps k.heap
    have c8 : s₈.heap.IsCell cI (some (.ref f)) := hcell₇.keeps k8.heap
    refine wpAny_execs_cons (wpAny_Expr (Call_ (wpAny_Name (wpAny_loadName_cell hw.fn kI hcI c8 ?_) (by decide)) (by rw [← hΦ]; kernel_rfl!)) (by rw [← hΦ]; kernel_rfl!) (by rw [← hΦ]; kernel_rfl!))
    refine callWith_F (fnAt _ k8) ?_ (by rw [← hΦ]; kernel_rfl!) (by rw [← hΦ]; kernel_rfl!)
    refine wpAny_items_cons (wpAny_mono (EvP.run (EvP.name hw 0 n0 rfl) s₈ hs₈) (fun v1 s₉ h9 => ?_) fun _ _ x => x.elim) (by rw [← hΦ]; kernel_rfl!)
    have hs₉ := hs₈.kept h9.1
    refine wpAny_items_cons (wpAny_mono (EvP.run (EvP.int (i := 0)) s₉ hs₉) (fun v2 s₁₀ h10 => ?_) fun _ _ x => x.elim) (by rw [← hΦ]; kernel_rfl!)
    have hs₁₀ := hs₉.kept h10.1
    have k10 := (k8.trans h9.1).trans h10.1
    refine wpAny_items_cons ?_ (by rw [← hΦ]; kernel_rfl!)
    refine Call_ (builtinP hw (by rw [← hΦ]; kernel_rfl!) (by kernel_rfl!) boot_len (by decide) (by decide) hs₁₀ ?_) (by rw [← hΦ]; kernel_rfl!)
    refine PyProof.Rows.callWith_builtin1 (wpAny_items_cons (wpAny_Name (wpAny_loadName_cell hw.fn kA hcA (hA₈ _ k10) ?_) (by decide)) (by rw [← hΦ]; kernel_rfl!)) (by rw [← hΦ]; kernel_rfl!) (by rw [← hΦ]; kernel_rfl!)
    refine wpAny_items_nil ?_
    have hD₁₀ : DHas s₁₀ Dl (List.replicate (figs n a) 0) := hD₇.at fun o e => k10.heap Dl o e
    obtain ⟨i10, p10, r10⟩ := id hD₁₀
    have hsz : i10.size = figs n a := by have := Paired.length r10; simp at this; (first | exact om18 this | omega)
    refine PyProof.Rows.len_list p10.isList (by (first | exact om147 hsz hlen | omega)) ?_
    rw [hsz]
    refine wpAny_items_nil ⟨fnAt _ (k10.trans (Kp.tok _ _)), ?_⟩
    have hs₁₁ := hs₁₀.kept (Kp.tok s₁₀ (s₁₀.toks + 1))
    have k11 := k10.trans (Kp.tok s₁₀ (s₁₀.toks + 1))
    have hrm : Room (figs n a + 1) Φ.A := by have := hw.room; rw [← hΦ] at this ⊢; exact this
    have base11 : ∀ b o, (hideAll h₇ [Dl]).get? b = some o → s₁₀.heap.get? b = some o := fun b o e => k10.heap b o (of_hideAll _ e)
    refine wpAny_mono (i2d_inner gd₇ (hideAll_none _ (List.mem_singleton.mpr rfl)) IIx hn hlen (figs n a - 0) 0 (figs n a) rfl hpos (Nat.le_refl _) a (List.replicate (figs n a) 0) (figs_lt hn1) (by simp) Φ.A _ Φ.av _ (hrm.le (by (first | exact om104 | omega))) base11 hs₁₁.live hD₁₀
      (.cons h9.2 (.cons h10.2 (.cons ⟨_, rfl⟩ .nil)))) (fun val s₁₂ h12 => ?_) fun _ _ x => x.elim
    obtain ⟨rfl, d12, hD₁₂⟩ := h12
    refine wpAny_execs_nil ?_
    refine fin s₁₂ _ (k11.dstep.trans d12) hD₁₂ ?_
    rw [Nat.sub_zero, put_all (by rw [digs_len]; simp)]

/-- where the table is laid already, all is kept -/
theorem i2d_fn (gd : Gd w h₀) (G : Gn h₀ 42 38) (h38 : TabG h₀ 38 ln7 col7 q7) {n a : Nat} (hn1 : 1 ≤ n) (hn : n ≤ 2000) (hlen : figs n a ≤ 900) : Fn w h₀ (figs n a + 2) 43 [iV a, iV n] (isV (digs n (figs n a) a)) :=
  Fn.mk fun A s av vals hroom hbase hlive hargs => wpAny_mono (i2d_T gd G hn1 hn hlen hroom hbase hlive (.inr (h38.keeps hbase)) hargs) (fun val s' h => by
    obtain ⟨⟨h', tk, rfl, k, _, k38⟩, hv⟩ := h
    refine ⟨⟨h', tk, rfl, fun b o e => ?_⟩, hv⟩
    by_cases hb : b = 38
    · subst hb; exact k38 (h38.keeps hbase) o e
    · exact k b o hb e) fun _ _ x => x
end Mine

namespace Mine

section
variable {w : World} {h₀ : Heap} {Φ : Fm} {vs : List (Option Vl)}
theorem EvP.gint (hw : WF w h₀ Φ) {x : Str} {i : Int} {t : Tok} {pos} (hg : nsIn (KK w) mainGlobals x = some (some (.int i t))) (hx : Φ.env.kindOf x = some .globalImplicit := by kernel_rfl!) (hd : (x == ("__debug__" : Str)) = false := by decide) :
    EvP w h₀ Φ vs (.Name x pos) (iV i) := fun s hs => globalP hw hx hg hd hs ⟨Kp.refl s, ⟨t, rfl⟩⟩
end
noncomputable def tokOf (o : Option (Option Value)) : Tok := match o with | some (some (.int _ t)) => t | _ => 0
theorem g_lim (w : World) : nsIn (KK w) mainGlobals "_DIV_LIMIT" = some (some (.int 4000 (tokOf (nsIn (KK w) mainGlobals "_DIV_LIMIT")))) := by kernel_rfl!

/-! long division, figure by figure -/
noncomputable def ldRem (n : Nat) (b : Int) : List Int → Int
  | [] => 0
  | d :: ds => (ldRem n b ds * 2 ^ n + d) % b
noncomputable def ldQuo (n : Nat) (b : Int) : List Int → List Int
  | [] => []
  | d :: ds => (ldRem n b ds * 2 ^ n + d) / b :: ldQuo n b ds
theorem ldRem_n {n : Nat} {b : Int} : ldRem n b [] = 0 := rfl
theorem ldRem_c {n : Nat} {b d : Int} {ds : List Int} : ldRem n b (d :: ds) = (ldRem n b ds * 2 ^ n + d) % b := rfl
theorem ldQuo_c {n : Nat} {b d : Int} {ds : List Int} : ldQuo n b (d :: ds) = (ldRem n b ds * 2 ^ n + d) / b :: ldQuo n b ds := rfl
theorem ldRem_bound {n : Nat} {b : Int} (hb : 0 < b) (ds : List Int) : 0 ≤ ldRem n b ds ∧ ldRem n b ds < b := by
  cases ds with
  | nil => exact ⟨by simp [ldRem_n, ldRem_c], by simpa [ldRem_n, ldRem_c] using hb⟩
  | cons d ds => exact ⟨Int.emod_nonneg _ (by (first | exact om106 hb | omega)), Int.emod_lt_of_pos _ hb⟩
theorem ldRem_val {n : Nat} {b : Int} (hb : 0 < b) : ∀ ds, ldRem n b ds = valOf n ds % b
  | [] => by simp [ldRem_n, ldRem_c, valOf_n, valOf_c]
  | d :: ds => by
    rw [ldRem_c, ldRem_val hb ds, valOf_c, Int.add_comm d, Int.mul_comm (2 ^ n) (valOf n ds), Int.add_emod, Int.mul_emod, Int.emod_emod, ← Int.mul_emod, ← Int.add_emod]
theorem ldQuo_len {n b} : ∀ ds, (ldQuo n b ds).length = ds.length
  | [] => rfl
  | _ :: ds => by rw [ldQuo_c, List.length_cons, List.length_cons, ldQuo_len ds]
theorem ldQuo_mem {n : Nat} {b : Int} (hb : 0 < b) : ∀ ds, (∀ d ∈ ds, 0 ≤ d ∧ d < 2 ^ n) → ∀ q ∈ ldQuo n b ds, 0 ≤ q ∧ q < 2 ^ n
  | [], _, q, h => by cases h
  | d :: ds, hd, q, h => by
    have hp : (0 : Int) < 2 ^ n := Int.pow_pos (by decide)
    obtain ⟨r0, r1⟩ := ldRem_bound (n := n) hb ds
    have hd1 := hd d List.mem_cons_self
    rcases List.mem_cons.mp h with rfl | h
    · have h1 : 0 ≤ ldRem n b ds * 2 ^ n := Int.mul_nonneg r0 (Int.le_of_lt hp)
      refine ⟨Int.ediv_nonneg (by (first | exact om148 h1 hd1 | omega)) (by (first | exact om149 r1 r0 | omega)), Int.ediv_lt_of_lt_mul hb ?_⟩
      have h2 : ldRem n b ds * 2 ^ n ≤ (b - 1) * 2 ^ n := Int.mul_le_mul_of_nonneg_right (by (first | exact om150 r1 | omega)) (Int.le_of_lt hp)
      have h3 : (b - 1) * 2 ^ n = 2 ^ n * b - 2 ^ n := by grind
      (first | exact om151 h3 h2 hd1 | omega)
    · exact ldQuo_mem hb ds (fun d hd' => hd d (List.mem_cons_of_mem _ hd')) q h


variable {w : World} {h₀ : Heap}
theorem div2_fn (gd : Gd w h₀) {a b n : Int} (ha : (Builtin.Int.intBits a : Int) - n ≤ 4000) (hb : b ≠ 0) (hl : b.natAbs.log2 < 9000) : Fn w h₀ 1 29 [iV a, iV b, iV n] (.tup [.sc (.int (a.fdiv b)), .sc (.int (a.fmod b))]) := by
  refine Fn.of gd (D_div2 w) [("a", .loc), ("b", .loc), ("n", .loc)] [] rfl rfl (by decide +kernel) (by decide +kernel) rfl fun L A av hw => ?_
  refine ExP.cons ?_
  refine ExS.ite (TrP.cmp (EvP.bin (EvP.mcall0 CalP.bits ofT.int F.plainAttrs_int F.slot_int_bit_length F.type_int_bit_length (EvP.name hw 0 rfl rfl)) (EvP.name hw 2 rfl rfl) BinP.sub) (EvP.gint hw (g_lim w)) CmpP.leI) (fun _ => ?_) fun q => ?_
  · refine ExP.cons (ExS.ret hw ?_ rfl)
    exact EvP.bcall hw (CalP.divmod hb hl) boot_divmod (EvL.cons (EvP.name hw 0 rfl rfl) (EvL.cons (EvP.name hw 1 rfl rfl) EvL.nil))
  · rw [decide_eq_false_iff_not] at q
    exact absurd ha q
end Mine

namespace Mine

section
variable {w : World} {h₀ : Heap} {Φ : Fm} {vs : List (Option Vl)}
theorem BinP.shlN {a : Int} {n : Nat} (hz : (Builtin.Int.intBits a : Int) + n ≤ 2 ^ 27) : BinP w h₀ Φ vs .LShift (iV a) (iV (n : Nat)) (iV (a * 2 ^ n)) := by
  have := BinP.shl (w := w) (h₀ := h₀) (Φ := Φ) (vs := vs) (a := a) (b := (n : Int)) (by (first | exact om73 | omega)) hz
  rw [Int.toNat_natCast] at this
  exact this
/-- a larger ground, once the frame stands -/
theorem rebase (hw : WF w h₀ Φ) {s : Shared} (hs : St h₀ Φ vs s) {l : List Addr} (h1 : ∀ a, Φ.mu a → a ∈ l) (h2 : ∀ a ∈ l, h₀.get? a = none) : WF w (hideAll s.heap l) Φ ∧ St (hideAll s.heap l) Φ vs s ∧ ∀ b o, h₀.get? b = some o → (hideAll s.heap l).get? b = some o := by
  have sub : ∀ b o, h₀.get? b = some o → (hideAll s.heap l).get? b = some o := fun b o e => hideAll_get _ (hs.base b o e) fun q => by rw [h2 b q] at e; cases e
  have gd : Gd w (hideAll s.heap l) := ⟨inKeeps hw.gd.K sub, by obtain ⟨p, lo, mg, mb, T⟩ := hw.gd.T; exact ⟨p, lo, mg, mb, T.keeps sub⟩⟩
  exact ⟨⟨gd, hw.fn, hw.gl, hw.bu, hw.room, fun a ha => hideAll_none _ (h1 a ha), hw.muav, hw.rvav, hw.loc, hw.kinds, hw.nodup, hw.apart⟩, ⟨fun b o e => of_hideAll _ e, hs.live, hs.ns⟩, sub⟩
end


variable {w : World} {h₀ : Heap}

noncomputable abbrev dmpNm : List (Str × VK) := [("a", .loc), ("b", .loc), ("n", .loc), ("a_digits", .loc), ("r", .loc), ("q_digits", .loc), ("a_digit", .loc), ("q_digit", .loc), ("q", .loc)]

/-- the rest of _divmod_pos, its list of figures made -/
theorem dmp_rest {Φ : Fm} (hw : WF w h₀ Φ) (G : Gn h₀ 49 45) (h45 : TabG h₀ 45 ln8 col8 q8) {a b n : Nat} {ds : List Int} {A : Around} {L : Addr} {av : Addr → Prop}
    (hΦ : frAt 9 (.ref 56) (.str "cpy313._pylong" 230) 57 L A 25 av dmpNm = Φ)
    (hn : n ≤ 2000) (hb : 0 < b) (hbn : (b : Int) < 2 ^ n) (hlen : ds.length ≤ 20) (hds : ∀ d ∈ ds, 0 ≤ d ∧ d < 2 ^ n) :
    ExP w h₀ Φ [some (iV a), some (iV b), some (iV n), some (isV ds), none, none, none, none, none] (bodyAt 9).tail.tail
      (fun o => o = .ret (.tup [.sc (.int (valOf n (ldQuo n b ds))), .sc (.int (ldRem n b ds))])) := by
  subst hΦ
  have hb0 : (0 : Int) < b := by (first | exact om152 hb | omega)
  have hbl : (b : Int).natAbs.log2 < 9000 := by
    have h3 : (b : Int).natAbs = b := by simp
    rw [h3]
    have h4 : b < 2 ^ n := by exact_mod_cast hbn
    have := (Nat.log2_lt (show b ≠ 0 by (first | exact om153 hb0 | omega))).mpr h4
    (first | exact om154 this hn | omega)
  refine ExP.cons ?_
  refine ExS.set hw 4 (iV 0) EvP.int ?_ nfL
  refine ExP.newOwn hw 5 rfl nfL retOnly fun ad had hw' => ?_
  refine ExP.cons ?_
  refine ExS.forL hw' 6 rfl nfL (ItP.rev hw' (items := ds.map .int) rfl (by kernel_rfl!) (by kernel_rfl!) (EvP.name hw' 3 rfl rfl)) (fun j vs => ∃ o6 o7 : Option Vl, vs = [some (iV a), some (iV b), some (iV n), some (isV ds), some (iV (ldRem n b (ds.drop (ds.length - j)))), some (.own ad (((ldQuo n b (ds.drop (ds.length - j))).reverse).map .int)), o6, o7, none] ∧ o6.all Vl.pure = true ∧ o7.all Vl.pure = true) ?_ ?_ ?_
  · refine ⟨none, none, ?_, rfl, rfl⟩
    rw [Nat.sub_zero, List.drop_length]; rfl
  · rintro j item vs' X hitem ⟨o6, o7, rfl, p6, p7⟩ hwX
    have hj : j < ds.length := by
      by_cases q : j < ds.length
      · exact q
      · rw [List.getElem?_eq_none (by simp; (first | exact om4 q | omega))] at hitem; cases hitem
    have hk : ds.length - j - 1 < ds.length := by (first | exact om155 hj | omega)
    obtain ⟨d, hd⟩ : ∃ d, ds[ds.length - j - 1]'hk = d := ⟨_, rfl⟩
    have hit : item = .int d := by
      rw [List.getElem?_reverse (by simpa using hj)] at hitem
      simp only [List.length_map, List.getElem?_map] at hitem
      rw [show ds.length - 1 - j = ds.length - j - 1 by (first | exact om156 | omega), List.getElem?_eq_getElem hk, hd] at hitem
      simpa using hitem.symm
    subst hit
    have hdrop : ds.drop (ds.length - (j + 1)) = d :: ds.drop (ds.length - j) := by
      rw [show ds.length - (j + 1) = ds.length - j - 1 by (first | exact om157 | omega), List.drop_eq_getElem_cons hk, hd]
      congr 2; (first | exact om158 hj | omega)
    generalize hrest : ds.drop (ds.length - j) = rest at hdrop
    have hdm : d ∈ ds := by rw [← hd]; exact List.getElem_mem hk
    have hdb := hds d hdm
    have hrest20 : rest.length ≤ 20 := by rw [← hrest]; simp; (first | exact om159 hlen | omega)
    obtain ⟨r0, r1⟩ := ldRem_bound (n := n) hb0 rest
    have hp : (0 : Int) < 2 ^ n := Int.pow_pos (by decide)
    have hbits : Builtin.Int.intBits (ldRem n b rest) ≤ n := intBits_le r0 (by (first | exact om160 r1 hbn | omega))
    have hnum0 : 0 ≤ ldRem n b rest * 2 ^ n + d := by have := Int.mul_nonneg r0 (Int.le_of_lt hp); (first | exact om148 this hdb | omega)
    have hnum1 : ldRem n b rest * 2 ^ n + d < 2 ^ (n + n) := by
      rw [Int.pow_add]
      have h2 : ldRem n b rest * 2 ^ n ≤ (2 ^ n - 1) * 2 ^ n := Int.mul_le_mul_of_nonneg_right (by (first | exact om161 r1 hbn | omega)) (Int.le_of_lt hp)
      have h3 : ((2 : Int) ^ n - 1) * 2 ^ n = 2 ^ n * 2 ^ n - 2 ^ n := by grind
      (first | exact om151 h3 h2 hdb | omega)
    have hnb : Builtin.Int.intBits (ldRem n b rest * 2 ^ n + d) ≤ n + n := intBits_le hnum0 hnum1
    have hf1 : (ldRem n b rest * 2 ^ n + d).fdiv b = (ldRem n b rest * 2 ^ n + d) / b := Int.fdiv_eq_ediv_of_nonneg _ (by (first | exact om73 | omega))
    have hf2 : (ldRem n b rest * 2 ^ n + d).fmod b = (ldRem n b rest * 2 ^ n + d) % b := Int.fmod_eq_emod_of_nonneg _ (by (first | exact om73 | omega))
    have hdiv := div2_fn hw.gd (a := ldRem n b rest * 2 ^ n + d) (b := b) (n := n) (by (first | exact om162 hnb hn | omega)) (by (first | exact om163 r1 r0 | omega)) hbl
    rw [hf1, hf2] at hdiv
    refine ExP.cons ?_
    refine ExS.unpack2 hwX 7 4 (EvP.fcall hwX 1 hdiv (g_div2 w) (D_div2 w).keep (by show 1 ≤ 25; decide) ?_) rfl rfl nfL nfL (by kernel_rfl!) (by kernel_rfl!) ?_
    · refine EvL.cons ?_ (EvL.cons (EvP.name hwX 1 rfl rfl) (EvL.cons (EvP.name hwX 2 rfl rfl) EvL.nil))
      exact EvP.bin (EvP.bin (EvP.name hwX 4 rfl rfl) (EvP.name hwX 2 rfl rfl) (BinP.shlN (by (first | exact om164 hbits hn | omega)))) (EvP.name hwX 6 rfl rfl) BinP.add
    · refine ExP.cons ?_
      refine ExS.append hwX 5 rfl rfl rfl (EvP.name hwX 7 rfl rfl) (by rw [List.length_map, List.length_reverse, ldQuo_len]; (first | exact om165 hrest20 | omega)) ?_ (by kernel_rfl!)
      refine ExP.nil ?_
      refine ⟨some (iV d), some (iV ((ldRem n b rest * 2 ^ n + d) / b)), ?_, rfl, rfl⟩
      rw [hdrop, ldRem_c, ldQuo_c, List.reverse_cons, List.map_append]
      rfl
  · rintro vs' ⟨o6, o7, rfl, p6, p7⟩
    have e0 : ds.drop (ds.length - (ds.map Sc.int).reverse.length) = ds := by simp
    rw [e0]
    refine ExP.nil ?_
    refine ExP.cons ?_
    refine ExS.reverse hw' 5 rfl rfl (by simp [p6, p7, Vl.pure]) (by rw [List.length_map, List.length_reverse, ldQuo_len]; (first | exact om165 hlen | omega)) ?_ (by kernel_rfl!)
    rw [← List.map_reverse, List.reverse_reverse]
    refine thenN ?_
    refine ExP.freeze had 5 rfl retOnly (by simp [p6, p7, Vl.pure]) ?_
    refine ExP.cons ?_
    refine ExS.set hw 8 (iV (valOf n (ldQuo n b ds))) ?_ ?_ nfL
    · refine EvP.fcall hw _ (d2i_fn hw.gd G h45 hn (by rw [ldQuo_len]; (first | exact om166 hlen | omega)) (ldQuo_mem hb0 ds hds)) (g_d2i w) (D_d2i w).keep (by show _ ≤ 25; rw [ldQuo_len]; (first | exact om167 hlen | omega)) (EvL.cons (EvP.name hw 5 rfl rfl) (EvL.cons (EvP.name hw 2 rfl rfl) EvL.nil))
    · refine ExP.cons (ExS.ret hw (EvP.tup (ws := [.sc (.int _), .sc (.int _)]) (EvL.cons (EvP.name hw 8 rfl rfl) (EvL.cons (EvP.name hw 4 rfl rfl) EvL.nil)) (by simp)) rfl)
end Mine

namespace Mine

noncomputable abbrev T7 (s s' : Shared) : Prop := TStep 38 ln7 col7 q7 s s'
noncomputable def TOK (h₀ : Heap) (av : Addr → Prop) (s : Shared) : Prop := (TabE s.heap 38 ∧ ¬ av 38 ∧ h₀.get? 38 = none) ∨ TabG s.heap 38 ln7 col7 q7
theorem TOK.keeps {h₀ av s s'} (x : TOK h₀ av s) (k : ∀ b o, s.heap.get? b = some o → s'.heap.get? b = some o) : TOK h₀ av s' := x.imp (fun ⟨a, b, c⟩ => ⟨k _ _ a, b, c⟩) fun a => a.keeps k
theorem T7.pre {s s₁ s₂} (k : Kp s s₁) (t : T7 s₁ s₂) : T7 s s₂ := by
  obtain ⟨h1, tk1, rfl, k1⟩ := k
  obtain ⟨h2, tk2, rfl, k2, g, sm⟩ := t
  exact ⟨h2, tk2, rfl, fun b o nb e => k2 b o nb (k1 b o e), g, fun hg o e => sm (hg.keeps k1) o (k1 _ _ e)⟩
theorem T7.post {s s₁ s₂} (t : T7 s s₁) (k : Kp s₁ s₂) : T7 s s₂ := by
  obtain ⟨h1, tk1, rfl, k1, g, sm⟩ := t
  obtain ⟨h2, tk2, rfl, k2⟩ := k
  exact ⟨h2, tk2, rfl, fun b o nb e => k2 b o (k1 b o nb e), g.keeps k2, fun hg o e => k2 _ _ (sm hg o e)⟩

noncomputable def TFn (w : World) (h₀ : Heap) (d : Nat) (f : Addr) (args : List Vl) (r : Vl) : Prop :=
  ∀ (A : Around) (s : Shared) (av : Addr → Prop) (vals : List Value), Room d A → (∀ b o, h₀.get? b = some o → s.heap.get? b = some o) → (∀ a, av a → ∃ o, s.heap.get? a = some o) → TOK h₀ av s →
    Paired (Rep av s.heap) args vals → wpAny (MD w) A (call (.ref f) vals) (fun val s' => T7 s s' ∧ Rep av s'.heap r val) NoE s
theorem TFn.fn {w h₀ d f args r} (h : TFn w h₀ d f args r) (hg : TabG h₀ 38 ln7 col7 q7) : Fn w h₀ d f args r :=
  Fn.mk fun A s av vals hroom hbase hlive hargs => wpAny_mono (h A s av vals hroom hbase hlive (.inr (hg.keeps hbase)) hargs) (fun val s' hh => by
    obtain ⟨⟨h', tk, rfl, k, _, k38⟩, hv⟩ := hh
    refine ⟨⟨h', tk, rfl, fun b o e => ?_⟩, hv⟩
    by_cases hb : b = 38
    · subst hb; exact k38 (hg.keeps hbase) o e
    · exact k b o hb e) fun _ _ x => x

section
variable {w : World} {h₀ : Heap} {Φ : Fm} {vs : List (Option Vl)}
/-- a call that may lay the table -/
theorem evT (hw : WF w h₀ Φ) {x : Str} {f : Addr} {np pos e es vl r} (d : Nat) (hf : TFn w h₀ d f vl r) (hg : nsIn (KK w) mainGlobals x = some (some (.ref f))) (hkp : keepIn (KK w) (.ref f) = true) (hdd : d ≤ Φ.d) (hl : EvL w h₀ Φ vs (e :: es) vl)
    {s : Shared} (hs : St h₀ Φ vs s) (ht : TOK h₀ Φ.av s)
    (hx : Φ.env.kindOf x = some .globalImplicit) (hd : (x == ("__debug__" : Str)) = false)
    (he : starEach (e :: es) Φ.env = (false, eval e Φ.env) :: starEach es Φ.env)
    (hpl : (backTo pos (starEach (e :: es) Φ.env)).any (·.1) = false)
    (hee : eval (.Call (.Name x np) (e :: es) [] pos) Φ.env = (do callWith pos (← eval (.Name x np) Φ.env) [] (backTo pos (starEach (e :: es) Φ.env)) (backToKw pos (keywordEach [] Φ.env)))) :
    wpAny (MD w) Φ.A (eval (.Call (.Name x np) (e :: es) [] pos) Φ.env) (fun val s' => T7 s s' ∧ Rep Φ.av s'.heap r val) NoE s := by
  refine Call_ (globalP hw hx hg hd hs ?_) hee
  refine callWith_of (P := (KK w).In) (by show (_ || false) = false; rw [hpl]; rfl) (keeps_K hkp) ?_
  have hl' := hl pos s hs
  rw [he] at hl' ⊢
  refine Calls.evalArgs_plain (wpAny_mono hl' (fun vals s₁ h1 => ⟨inKeeps hw.gd.K (hs.kept h1.1).base, ?_⟩) fun _ _ x => x)
  have hs₁ := hs.kept h1.1
  refine wpAny_mono (hf Φ.A s₁ Φ.av vals (hw.room.le hdd) hs₁.base hs₁.live (ht.keeps h1.1.heap) h1.2) (fun val s₂ h2 => ⟨T7.pre h1.1 h2.1, h2.2⟩) fun _ _ x => x
end


variable {w : World} {h₀ : Heap}
theorem i2d_TFn (gd : Gd w h₀) (G : Gn h₀ 42 38) {n a : Nat} (hn1 : 1 ≤ n) (hn : n ≤ 2000) (hlen : figs n a ≤ 900) : TFn w h₀ (figs n a + 2) 43 [iV a, iV n] (isV (digs n (figs n a) a)) :=
  fun A s av vals hroom hbase hlive hT hargs => i2d_T gd G hn1 hn hlen hroom hbase hlive hT hargs

noncomputable def dmpQ (a b : Nat) : Int := valOf (Builtin.Int.intBits (b : Int)) (ldQuo (Builtin.Int.intBits (b : Int)) b (digs (Builtin.Int.intBits (b : Int)) (figs (Builtin.Int.intBits (b : Int)) a) a))
theorem bits_pos {b : Nat} (hb : 0 < b) : 1 ≤ Builtin.Int.intBits (b : Int) ∧ (b : Int) < 2 ^ Builtin.Int.intBits (b : Int) := by
  have : Builtin.Int.intBits (b : Int) = b.log2 + 1 := by
    unfold Builtin.Int.intBits
    rw [if_neg (by simp; (first | exact om168 hb | omega))]; simp
  rw [this]
  refine ⟨by (first | exact om137 | omega), ?_⟩
  have := @Nat.lt_log2_self b
  exact_mod_cast this
theorem dmp_rem {a b : Nat} (hb : 0 < b) : ldRem (Builtin.Int.intBits (b : Int)) b (digs (Builtin.Int.intBits (b : Int)) (figs (Builtin.Int.intBits (b : Int)) a) a) = ((a % b : Nat) : Int) := by
  obtain ⟨h1, h2⟩ := bits_pos hb
  rw [ldRem_val (by (first | exact om152 hb | omega)), digs_val _ _ _ (by (first | exact om73 | omega)) (by exact_mod_cast figs_lt h1)]
  rfl

noncomputable abbrev dmpP : List (Str × VK) := [("a", .loc), ("b", .loc)]
noncomputable abbrev dmpR : List (Str × VK) := [("n", .loc), ("a_digits", .loc), ("r", .loc), ("q_digits", .loc), ("a_digit", .loc), ("q_digit", .loc), ("q", .loc)]

theorem dmp_TFn (gd : Gd w h₀) (G8 : Gn h₀ 49 45) (h45 : TabG h₀ 45 ln8 col8 q8) (G7 : Gn h₀ 42 38) {a b : Nat} (hb : 0 < b) (hn : Builtin.Int.intBits (b : Int) ≤ 2000) (hlen : figs (Builtin.Int.intBits (b : Int)) a ≤ 20) :
    TFn w h₀ 26 57 [iV a, iV b] (.tup [.sc (.int (dmpQ a b)), .sc (.int ((a % b : Nat) : Int))]) := by
  intro A s av vals hroom hbase hlive hT hargs
  have D := D_dmp w
  obtain ⟨hn1, hbn⟩ := bits_pos hb
  refine Fn.enter (d := 25) gd dmpP dmpR D.ho (by rw [D.hcode]; exact D.hcd) D.hbody D.hclo D.hgl D.hbu D.hco D.hgen D.hk (fun vals hv => D.hbind vals (hv.trans rfl)) (by decide +kernel) (by decide +kernel) rfl rfl hroom hbase hlive hargs fun L s₁ hw st kp hfresh => ?_
  have hav : ∀ b, (frameOf (fdAt 9 (.ref 56) (.str "cpy313._pylong" 230)) 57 L A 25 av dmpNm).av b → av b ∨ (frameOf (fdAt 9 (.ref 56) (.str "cpy313._pylong" 230)) 57 L A 25 av dmpNm).mu b := fun b h => h
  have hrv : (frameOf (fdAt 9 (.ref 56) (.str "cpy313._pylong" 230)) 57 L A 25 av dmpNm).rv = av := rfl
  have hmu : ∀ b, (frameOf (fdAt 9 (.ref 56) (.str "cpy313._pylong" 230)) 57 L A 25 av dmpNm).mu b → b = L := by
    rintro b (h | ⟨x, h⟩)
    · exact h
    · have e : cellsFrom (L + 1) (fdAt 9 (.ref 56) (.str "cpy313._pylong" 230)).scope.names [] = [] := by kernel_rfl!
      rw [e] at h; cases h
  have hwD : dmpP ++ dmpR = dmpNm := rfl
  rw [hwD] at hw st hfresh ⊢
  generalize hΦ : frameOf (fdAt 9 (.ref 56) (.str "cpy313._pylong" 230)) 57 L A 25 av dmpNm = Φ at hw st hfresh hav hmu hrv ⊢
  have n2 : Φ.nm[2]? = some (("n" : Str), VK.loc) := by rw [← hΦ]; rfl
  have n1 : Φ.nm[1]? = some (("b" : Str), VK.loc) := by rw [← hΦ]; rfl
  have n0 : Φ.nm[0]? = some (("a" : Str), VK.loc) := by rw [← hΦ]; rfl
  have n3 : Φ.nm[3]? = some (("a_digits" : Str), VK.loc) := by rw [← hΦ]; rfl
  have s0 : St h₀ Φ [some (iV a), some (iV b), none, none, none, none, none, none, none] s₁ := st
  generalize hnn : Builtin.Int.intBits (b : Int) = n at hn hlen hn1 hbn
  show wpAny (MD w) Φ.A (execs (bodyAt 9) Φ.env) _ NoE s₁
  refine ExS.step (ExS.set hw 2 (iV (n : Nat)) (hnn ▸ EvP.mcall0 CalP.bits ofT.int F.plainAttrs_int F.slot_int_bit_length F.type_int_bit_length (EvP.name hw 1 n1 rfl) (by kernel_rfl!) (by rw [← hΦ]; kernel_rfl!) (by rw [← hΦ]; kernel_rfl!) (by rw [← hΦ]; kernel_rfl!)) rfl nfL n2 rfl (by rw [← hΦ]; kernel_rfl!)) s0 fun s₂ k2 hs₂ => ?_
  have up2 : ∀ b o, s.heap.get? b = some o → s₂.heap.get? b = some o := fun b o e => k2.heap b o (fun q => by have := hfresh b q; rw [e] at this; cases this) (kp.heap b o e)
  have tok₂ : TOK h₀ Φ.av s₂ := by
    rcases hT with ⟨hE, hnav, h0⟩ | hG
    · exact .inl ⟨up2 _ _ hE, fun q => (hav 38 q).elim hnav (fun q => (by have := hfresh 38 q; rw [hE] at this; cases this)), h0⟩
    · exact .inr (hG.keeps up2)
  refine wpAny_execs_cons (wpAny_Assign_Name (wpAny_mono (evT hw (figs n a + 2) (i2d_TFn gd G7 hn1 hn (by (first | exact om166 hlen | omega))) (g_i2d w) (D_i2d w).keep (by rw [← hΦ]; show figs n a + 2 ≤ 25; (first | exact om167 hlen | omega)) (EvL.cons (EvP.name hw 0 n0 rfl) (EvL.cons (EvP.name hw 2 n2 rfl) EvL.nil)) hs₂ tok₂ (by rw [← hΦ]; kernel_rfl!) (by decide) (by rw [← hΦ]; kernel_rfl!) (by rw [← hΦ]; kernel_rfl!) (by rw [← hΦ]; kernel_rfl!)) (fun vd s₃ h3 => ?_) fun _ _ x => x.elim) (by rw [← hΦ]; kernel_rfl!))
  obtain ⟨t3, hr3⟩ := h3
  have hs₃ := St.tstep hw hs₂ tok₂ t3
  refine storeP hw n3 nfL hs₃ hr3 trivial fun s₄ k4 hs₄ => ?_
  show wpAny (MD w) Φ.A (execs (bodyAt 9).tail.tail Φ.env) _ NoE s₄
  -- a larger ground
  have hL0 : ∀ x ∈ [L], h₀.get? x = none := fun x hx => by
    rw [List.mem_singleton.mp hx]
    exact hw.mufresh L (by have := hw.loc; rw [← hΦ] at this ⊢; exact this)
  obtain ⟨hw', hs', sub⟩ := rebase hw hs₄ (l := [L]) (fun x hx => List.mem_singleton.mpr (hmu x hx)) hL0
  have hds := digs_mem n (figs n a) (a : Int)
  have hdl : (digs n (figs n a) (a : Int)).length ≤ 20 := by rw [digs_len]; exact hlen
  refine wpAny_mono (ExP.run (dmp_rest hw' (G8.keeps sub) (h45.keeps sub) hΦ hn hb hbn hdl hds) s₄ hs') (fun fl s₅ h5 => ?_) fun _ _ x => x.elim
  obtain ⟨k5, o, rfl, val, rfl, hv⟩ := h5
  -- what is kept in the end
  have muL : Φ.mu L := by have := hw.loc; rw [← hΦ] at this ⊢; exact this
  have hLs : s.heap.get? L = none := hfresh L muL
  obtain ⟨mc, hnsL, _⟩ := hs₃.ns
  have locL : Φ.env.locals = L := hmu _ hw.loc
  rw [locL] at hnsL
  have notL : ∀ b o, s₃.heap.get? b = some o → (∀ es ep, o.data ≠ .dict es ep) → ¬ Φ.mu b := fun b o e hd q => by
    obtain ⟨oL, es, ep, e2, d2, _⟩ := hnsL
    rw [hmu b q, e2] at e; cases e; exact hd _ _ d2
  have up5 : ∀ b o, ¬ Φ.mu b → s₃.heap.get? b = some o → s₅.heap.get? b = some o := fun b o nb e => k5.heap b o nb (k4.heap b o nb e)
  refine ⟨?_, ?_⟩
  · have nmu : ∀ b o, s.heap.get? b = some o → ¬ Φ.mu b := fun b o e q => by have := hfresh b q; rw [e] at this; cases this
    exact TStep.of ((((kp.sm.trans k2.sm).trans t3.sm).trans k4.sm).trans k5.sm) (fun b o nb e => up5 b o (nmu b o e) (t3.keep nb (up2 b o e)))
      (t3.laid.notCell fun b o fs e d => up5 b o (notL b o e fun es ep q => by rw [d] at q; cases q) e) (fun hg o e => up5 38 o (nmu 38 o e) (t3.same (hg.keeps up2) o (up2 _ _ e)))
  · rw [hrv] at hv
    rw [← dmp_rem hb]
    unfold dmpQ
    rw [hnn]
    exact hv
end Mine

namespace Mine

section
variable {w : World} {h₀ : Heap} {Φ : Fm} {vs : List (Option Vl)}

noncomputable def intG (b : Int → Bool) (f : Int → Int) : Sc → List Sc
  | .int i => if b i then [.int (f i)] else []
  | _ => []
theorem intG_flat (b : Int → Bool) (f : Int → Int) : ∀ xs : List Int, (xs.map Sc.int).flatMap (intG b f) = ((xs.filter b).map f).map Sc.int
  | [] => rfl
  | x :: xs => by
    rw [List.map_cons, List.flatMap_cons, intG_flat b f xs, List.filter_cons]
    have e : intG b f (.int x) = if b x then [.int (f x)] else [] := rfl
    rw [e]
    by_cases h : b x = true
    · rw [if_pos h, if_pos h]; rfl
    · rw [if_neg h, if_neg h]; rfl
theorem filterT {α : Type} (xs : List α) : xs.filter (fun _ => true) = xs := List.filter_eq_self.mpr fun _ _ => rfl
theorem mem_intmap {xs : List Int} {item : Sc} (h : item ∈ xs.map Sc.int) : ∃ i, i ∈ xs ∧ item = .int i := by
  obtain ⟨i, hi, e⟩ := List.mem_map.mp h
  exact ⟨i, hi, e.symm⟩

theorem EvP.compI (hw : WF w h₀ Φ) {scope : Scope} {cap : List (Str × Nat)} {capv : List Vl} {x : Str} {kx : VK} {elt iter : Expr} {ifs : List Expr} {pos px : Pos} {xs zs : List Int} (b : Int → Bool) (f : Int → Int) (c : Caps Φ vs scope cap capv [(x, kx)]) (hk : kx ≠ .fre)
    (hit : ItP w h₀ Φ vs iter (xs.map .int)) (hn : xs.length ≤ 1000)
    (step : ∀ C D X i, i ∈ xs → WF w h₀ (compFr scope C D X Φ [(x, kx)] cap) → TsP w h₀ (compFr scope C D X Φ [(x, kx)] cap) (some (iV i) :: capv.map some) ifs (b i) ∧
      (b i = true → EvP w h₀ (compFr scope C D X Φ [(x, kx)] cap) (some (iV i) :: capv.map some) elt (iV (f i))))
    (hzs : (xs.filter b).map f = zs)
    (hsi : ∀ x, foldedSetIterable iter Φ.env x = pure x := by intro _; rfl) :
    EvP w h₀ Φ vs (.ListComp elt [⟨.Name x px, iter, ifs, 0⟩] scope pos) (isV zs) := by
  subst hzs
  have h := EvP.comp1 (elt := elt) (ifs := ifs) (pos := pos) (px := px) hw c hk hit (by simpa using hn) (intG b f) (fun C D X item hm wf' => by
    obtain ⟨i, hi, rfl⟩ := mem_intmap hm
    obtain ⟨h1, h2⟩ := step C D X i hi wf'
    refine ⟨b i, h1, fun hb => ⟨.int (f i), ?_, h2 hb⟩, fun hb => ?_⟩
    · simp [intG, hb]
    · simp [intG, hb]) hsi
  rw [intG_flat] at h
  exact h

theorem ExS.compI (hw : WF w h₀ Φ) (i₀ : Nat) {z : Str} {kz : VK} {scope : Scope} {cap : List (Str × Nat)} {capv : List Vl} {x : Str} {kx : VK} {elt iter : Expr} {ifs : List Expr} {pos px pz spos : Pos} {xs : List Int} (zs : List Int) {R : Out → Prop} (b : Int → Bool) (f : Int → Int) (c : Caps Φ vs scope cap capv [(x, kx)]) (hk : kx ≠ .fre)
    (hit : ItP w h₀ Φ vs iter (xs.map .int)) (hn : xs.length ≤ 1000)
    (step : ∀ C D X i, i ∈ xs → WF w h₀ (compFr scope C D X Φ [(x, kx)] cap) → TsP w h₀ (compFr scope C D X Φ [(x, kx)] cap) (some (iV i) :: capv.map some) ifs (b i) ∧
      (b i = true → EvP w h₀ (compFr scope C D X Φ [(x, kx)] cap) (some (iV i) :: capv.map some) elt (iV (f i))))
    (hzs : (xs.filter b).map f = zs) (hR : R (.nxt (vs.set i₀ (some (isV zs))))) (hz : Φ.nm[i₀]? = some (z, kz)) (hkz : kz ≠ .fre) 
    (hsw : swapsWith (.ListComp elt [⟨.Name x px, iter, ifs, 0⟩] scope pos) (some (.Name z pz)) spos.line Φ.env = pure true := by first | kernel_rfl! | rfl) 
    (hsi : ∀ x, foldedSetIterable iter Φ.env x = pure x := by intro _; rfl) :
    ExS w h₀ Φ vs (.Assign [.Name z pz] (.ListComp elt [⟨.Name x px, iter, ifs, 0⟩] scope pos) spos) R := by
  subst hzs
  refine ExS.comp1 (elt := elt) (ifs := ifs) (pos := pos) (px := px) hw i₀ c hk hit (by simpa using hn) (intG b f) (fun C D X item hm wf' => ?_) hz hkz hsw (by rw [intG_flat]; exact hR) hsi
  obtain ⟨i, hi, rfl⟩ := mem_intmap hm
  obtain ⟨h1, h2⟩ := step C D X i hi wf'
  refine ⟨b i, h1, fun hb => ⟨.int (f i), ?_, h2 hb⟩, fun hb => ?_⟩
  · simp [intG, hb]
  · simp [intG, hb]

theorem capsNil {scope : Scope} {lv : List (Str × VK)} (ok : compOK scope [] lv = true) (nd : (lv.map (·.1)).Nodup) : Caps Φ vs scope [] [] lv := ⟨ok, by simpa using nd, .nil⟩
theorem caps1 {scope : Scope} {lv : List (Str × VK)} {x : Str} {i : Nat} {v : Vl} {k : VK} (hx : Φ.nm[i]? = some (x, k)) (hk : k ≠ .loc) (hv : vs[i]? = some (some v)) (hp : v.pure = true) (ok : compOK scope [x] lv = true) (nd : ((lv ++ [(x, VK.fre)]).map (·.1)).Nodup) : Caps Φ vs scope [(x, i)] [v] lv :=
  ⟨ok, by simpa using nd, .cons ⟨⟨k, hk, hx⟩, hv, hp⟩ .nil⟩
theorem caps2 {scope : Scope} {lv : List (Str × VK)} {x y : Str} {i j : Nat} {v u : Vl} {k k' : VK} (hx : Φ.nm[i]? = some (x, k)) (hk : k ≠ .loc) (hv : vs[i]? = some (some v)) (hp : v.pure = true) (hx' : Φ.nm[j]? = some (y, k')) (hk' : k' ≠ .loc) (hv' : vs[j]? = some (some u)) (hp' : u.pure = true)
    (ok : compOK scope [x, y] lv = true) (nd : ((lv ++ [(x, VK.fre), (y, VK.fre)]).map (·.1)).Nodup) : Caps Φ vs scope [(x, i), (y, j)] [v, u] lv :=
  ⟨ok, by simpa using nd, .cons ⟨⟨k, hk, hx⟩, hv, hp⟩ (.cons ⟨⟨k', hk', hx'⟩, hv', hp'⟩ .nil)⟩

theorem eqInts {xs : List Int} {x : Int} : ∀ y ∈ xs.map Sc.int, (eqS y (.int x)).isSome = true := fun y hy => by obtain ⟨i, _, rfl⟩ := mem_intmap hy; rfl
theorem anyInts {xs : List Int} {x : Int} : ((xs.map Sc.int).any fun y => eqB y (.int x)) = xs.contains x := by
  induction xs with
  | nil => rfl
  | cons a xs ih =>
    rw [List.map_cons, List.any_cons, ih, List.contains_cons]
    congr 1
    exact (show (a == x) = (x == a) from BEq.comm)
theorem CmpP.isInI {x : Int} {ys : List Int} : CmpP w h₀ Φ vs .In (iV x) (isV ys) (ys.contains x) := anyInts ▸ CmpP.isIn eqInts
theorem CmpP.notInI {x : Int} {ys : List Int} : CmpP w h₀ Φ vs .NotIn (iV x) (isV ys) (!ys.contains x) := anyInts ▸ CmpP.notIn eqInts
theorem upTo_int (n : Nat) : upTo n = ((List.range n).map fun i : Nat => (i : Int)).map Sc.int := by unfold upTo; rw [List.map_map]; rfl
theorem BinP.catI {xs ys : List Int} (hz : xs.length + ys.length ≤ 1000) : BinP w h₀ Φ vs .Add (isV xs) (isV ys) (isV (xs ++ ys)) := by
  have := BinP.cat (w := w) (h₀ := h₀) (Φ := Φ) (vs := vs) (xs := xs.map .int) (ys := ys.map .int) (by simpa using hz)
  rw [← List.map_append] at this
  exact this
end


/-- the partner's sums -/
noncomputable def partTo (fs : List Int) : List Int → List Int → List Int
  | sums, [] => sums
  | sums, p :: ps => partTo fs (if fs.contains p then sums else sums ++ sums.map fun x => x + p) ps
theorem partTo_c {fs sums : List Int} {p : Int} {ps : List Int} : partTo fs sums (p :: ps) = partTo fs (if fs.contains p then sums else sums ++ sums.map fun x => x + p) ps := rfl
noncomputable def partV (fs : List Int) : List Int := partTo fs [0] [1, 2, 4, 8]

variable {w : World} {h₀ : Heap}
theorem partAt {j : Nat} {item : Sc} (hj : j < 4) (h : ([.int 1, .int 2, .int 4, .int 8] : List Sc)[j]? = some item) : ∃ (p : Int) (rest : List Int), ([1, 2, 4, 8] : List Int).drop j = p :: rest ∧ item = .int p ∧ ([1, 2, 4, 8] : List Int).drop (j + 1) = rest := by
  rcases j with _ | _ | _ | _ | j
  · cases h; exact ⟨1, [2, 4, 8], rfl, rfl, rfl⟩
  · cases h; exact ⟨2, [4, 8], rfl, rfl, rfl⟩
  · cases h; exact ⟨4, [8], rfl, rfl, rfl⟩
  · cases h; exact ⟨8, [], rfl, rfl, rfl⟩
  · exact absurd hj (Nat.not_lt.mpr (Nat.le_add_left 4 j))
theorem partner_fn (gd : Gd w h₀) {fs : List Int} : Fn w h₀ 1 107 [isV fs] (isV (partV fs)) := by
  refine Fn.of gd (D_partner w) [("firsts", .loc)] [("sums", .loc), ("power", .cel)] rfl rfl (by decide +kernel) (by decide +kernel) rfl fun L A av hw => ?_
  refine ExP.cons (ExS.set hw 1 (isV [0]) (EvP.list (EvL.one EvP.int)) ?_ nfL)
  refine ExP.cons (ExS.forL hw 2 rfl nfC (ItP.tup hw (xs := [.int 1, .int 2, .int 4, .int 8]) (EvP.tup (EvL.cons EvP.int (EvL.cons EvP.int (EvL.cons EvP.int (EvL.cons EvP.int EvL.nil))))))
    (fun j vs => ∃ (o : Option Vl) (sums : List Int), vs = [some (isV fs), some (isV sums), o] ∧ partTo fs sums (([1, 2, 4, 8] : List Int).drop j) = partV fs ∧ sums.length = sums.length ∧ sums.length ≤ 2 ^ j) ?_ ?_ ?_)
  · exact ⟨none, [0], rfl, rfl, rfl, by simp⟩
  · rintro j item vs' X hitem ⟨o, sums, rfl, hp, _, hl⟩ hwX
    have hj : j < 4 := by
      by_cases q : j < 4
      · exact q
      · rw [List.getElem?_eq_none (by simp; (first | exact om69 q | omega))] at hitem; cases hitem
    obtain ⟨p, rest, hd, hit, hd1⟩ : ∃ (p : Int) (rest : List Int), ([1, 2, 4, 8] : List Int).drop j = p :: rest ∧ item = .int p ∧ ([1, 2, 4, 8] : List Int).drop (j + 1) = rest := partAt hj hitem
    subst hit
    rw [hd, partTo_c] at hp
    have hl8 : sums.length ≤ 8 := Nat.le_trans hl (Nat.le_trans (Nat.pow_le_pow_right (by decide) (show j ≤ 3 by (first | exact om169 hj | omega))) (by decide))
    refine ExP.cons (ExS.ite (TrP.cmp (EvP.name hwX 2 rfl rfl) (EvP.name hwX 0 rfl rfl) CmpP.notInI) (fun q => ?_) fun q => ExP.nil ?_)
    · have q' : fs.contains p = false := by simpa using q
      rw [q'] at hp
      refine ExP.cons (ExS.set hwX 1 (isV (sums ++ sums.map fun x => x + p)) (EvP.bin (EvP.name hwX 1 rfl rfl) (v := isV (sums ++ sums.map fun x => x + p)) (b := isV (sums.map fun x => x + p)) ?_ (BinP.catI (by simp; (first | exact om170 hl8 | omega)))) ?_ nfL)
      · refine EvP.compI (xs := sums) hwX (fun _ => true) (fun x => x + p) (caps1 (x := "power") (i := 2) (v := iV p) (k := .cel) rfl nlC rfl rfl (by decide +kernel) (by decide +kernel)) nfL (ItP.list hwX (EvP.name hwX 1 rfl rfl)) (by (first | exact om171 hl8 | omega)) ?_ ?_
        rotate_left
        · rw [filterT]
        exact fun C D X' i hi wf' => ⟨TsP.nil, fun _ => EvP.bin (EvP.name wf' 0 rfl rfl) (EvP.name wf' 1 rfl rfl) BinP.add⟩
      · refine ExP.nil (ExP.nil ?_)
        exact ⟨_, _, rfl, by rw [hd1]; exact hp, rfl, by rw [List.length_append, List.length_map, Nat.pow_succ]; (first | exact om172 hl | omega)⟩
    · have q' : fs.contains p = true := by simpa using q
      rw [q'] at hp
      refine ExP.nil ?_
      exact ⟨_, _, rfl, by rw [hd1]; exact hp, rfl, by rw [Nat.pow_succ]; (first | exact om173 hl | omega)⟩
  · rintro vs' ⟨o, sums, rfl, hp, _, hl⟩
    have e : partV fs = sums := by rw [← hp]; rfl
    rw [e]
    refine ExP.nil ?_
    exact ExP.cons (ExS.ret hw (EvP.name hw 1 rfl rfl) rfl)
end Mine

namespace Mine

noncomputable def r16 : List Int := (List.range 16).map fun i : Nat => (i : Int)
theorem mem_r16 {x : Int} : x ∈ r16 ↔ 0 ≤ x ∧ x < 16 := by
  unfold r16
  rw [List.mem_map]
  constructor
  · rintro ⟨i, hi, rfl⟩
    rw [List.mem_range] at hi; (first | exact om174 hi | omega)
  · rintro ⟨h0, h1⟩
    exact ⟨x.toNat, List.mem_range.mpr (by (first | exact om175 h1 | omega)), by (first | exact om176 h0 | omega)⟩
noncomputable def cutI (xs : List Int) (lo hi : Option Int) : List Int := (xs.drop (lo.elim 0 (clipAt xs.length))).take (hi.elim xs.length (clipAt xs.length) - lo.elim 0 (clipAt xs.length))
theorem cut_map (xs : List Int) (lo hi : Option Int) : cut (xs.map .int) lo hi = (cutI xs lo hi).map .int := by
  unfold cut cutI
  rw [List.length_map, List.map_take, List.map_drop]
theorem cutI_mem {xs : List Int} {lo hi} {x : Int} (h : x ∈ cutI xs lo hi) : x ∈ xs := List.mem_of_mem_drop (List.mem_of_mem_take h)
theorem cutI_len (xs : List Int) (lo hi) : (cutI xs lo hi).length ≤ xs.length := by unfold cutI; simp; (first | exact om177 | omega)

section
variable {w : World} {h₀ : Heap} {Φ : Fm} {vs : List (Option Vl)}
theorem EvP.sliceI {value lower upper p pos} {xs : List Int} {lo hi : Option Int} (hv : EvP w h₀ Φ vs value (isV xs)) (hl : PartP w h₀ Φ vs lower lo) (hu : PartP w h₀ Φ vs upper hi) (hz : xs.length ≤ 1000) :
    EvP w h₀ Φ vs (.Subscript value (.Slice lower upper none p) pos) (isV (cutI xs lo hi)) := by
  have := EvP.slice (p := p) (pos := pos) hv hl hu (by simpa using hz)
  rw [cut_map] at this
  exact this
theorem EvP.itemI {value slice pos} {xs : List Int} {k x : Int} (hv : EvP w h₀ Φ vs value (isV xs)) (hi : EvP w h₀ Φ vs slice (iV k)) (h0 : 0 ≤ k) (hk : k < 2 ^ 63) (hx : xs[k.toNat]? = some x) : EvP w h₀ Φ vs (.Subscript value slice pos) (iV x) :=
  EvP.item (x := .int x) hv hi h0 hk (by rw [List.getElem?_map, hx]; rfl)
theorem ItP.r16 (hw : WF w h₀ Φ) {np pos cp ck} {x : Str} (hx0 : x = "range") (hx : Φ.env.kindOf x = some .globalImplicit := by kernel_rfl!) (hg : nsIn (KK w) mainGlobals x = some none := by kernel_rfl!)
    (hse : starEach [Expr.Constant (.int 16) ck cp] Φ.env = [(false, eval (Expr.Constant (.int 16) ck cp) Φ.env)] := by first | kernel_rfl! | rfl)
    (hee : eval (.Call (.Name x np) [Expr.Constant (.int 16) ck cp] [] pos) Φ.env = (do callWith pos (← eval (.Name x np) Φ.env) [] (backTo pos (starEach [Expr.Constant (.int 16) ck cp] Φ.env)) (backToKw pos (keywordEach [] Φ.env))) := by first | kernel_rfl! | rfl) :
    ItP w h₀ Φ vs (.Call (.Name x np) [Expr.Constant (.int 16) ck cp] [] pos) (Mine.r16.map .int) := by
  have := ItP.rng (vs := vs) (np := np) (pos := pos) hw 16 (EvP.int (i := 16)) (by decide) hx0 hx hg hse hee
  rw [upTo_int] at this
  exact this
theorem CalP.lenI {xs : List Int} (hz : xs.length ≤ 1000) : CalP w h₀ Φ vs (.builtin "len") [isV xs] (iV (xs.length : Nat)) := by
  have := CalP.len (w := w) (h₀ := h₀) (Φ := Φ) (vs := vs) (xs := xs.map .int) (by simpa using hz)
  rw [List.length_map] at this
  exact this
end


noncomputable def moreV (ps : List Int) (n : Int) : List Int := ps.map fun p => (p + 1 + n.fmod 15).fmod 16
noncomputable def joinV (ps ms : List Int) : List Int := r16.filter fun s => ps.contains s || (ms.contains s || false)
noncomputable def placesLp : List Int → List Int → List Int
  | ps, [] => ps
  | ps, n :: ns => placesLp (joinV ps (moreV ps n)) ns
theorem placesLp_c {ps : List Int} {n : Int} {ns : List Int} : placesLp ps (n :: ns) = placesLp (joinV ps (moreV ps n)) ns := rfl
noncomputable def chosenV (last : Int) (ps : List Int) : Int := (last.fdiv 3).fmod (ps.length : Nat)
noncomputable def movedV (last : Int) (ps : List Int) : Int := (ps.getD (chosenV last ps).toNat 0 + 1 + (last.fdiv 24).fmod 15).fmod 16
noncomputable def keptV (last : Int) (ps : List Int) : List Int := cutI ps none (some (chosenV last ps)) ++ cutI ps (some (chosenV last ps + 1)) none
noncomputable def moveV (last : Int) (ps : List Int) : List Int := r16.filter fun s => (keptV last ps).contains s || (s == movedV last ps || false)
noncomputable def places0 (n0 : Int) (ns : List Int) : List Int := placesLp [(n0.fdiv 3).fmod 16] (cutI ns (some 1) (some (2 + n0.fmod 3)))
noncomputable def placesV (n0 n4 : Int) (ns : List Int) : List Int := if n4.fmod 3 == 1 then moveV n4 (places0 n0 ns) else places0 n0 ns

noncomputable def Pls (ps : List Int) : Prop := ∃ b : Int → Bool, ps = r16.filter b
theorem Pls.len {ps} (h : Pls ps) : ps.length ≤ 16 := by obtain ⟨b, rfl⟩ := h; exact List.length_filter_le _ _
theorem mem_joinV {ps ms : List Int} {x} (hx : 0 ≤ x ∧ x < 16) (h : x ∈ ps) : x ∈ joinV ps ms := by
  unfold joinV
  rw [List.mem_filter]
  exact ⟨mem_r16.mpr hx, by simp [h]⟩

theorem log3 : (3 : Int).natAbs.log2 < 9000 := by decide
theorem log24 : (24 : Int).natAbs.log2 < 9000 := by decide

variable {w : World} {h₀ : Heap}
theorem places_fn (gd : Gd w h₀) {n0 n1 n2 n3 n4 : Int} {ns : List Int} (hns : ns = [n0, n1, n2, n3, n4]) : Fn w h₀ 1 90 [isV ns] (isV (placesV n0 n4 ns)) ∧ Pls (placesV n0 n4 ns) ∧ placesV n0 n4 ns ≠ [] := by
  have hlen : ns.length ≤ 1000 := by rw [hns]; simp
  have hfin : ∀ ps : List Int, Pls ps → ps ≠ [] → Pls (if n4.fmod 3 == 1 then moveV n4 ps else ps) ∧ (if n4.fmod 3 == 1 then moveV n4 ps else ps) ≠ [] := by
    intro ps h1 h2
    split
    · refine ⟨⟨_, rfl⟩, ?_⟩
      have hm : movedV n4 ps ∈ moveV n4 ps := by
        unfold moveV
        rw [List.mem_filter]
        refine ⟨mem_r16.mpr ⟨Int.fmod_nonneg_of_pos _ (by decide), Int.fmod_lt_of_pos _ (by decide)⟩, by simp⟩
      intro q; rw [q] at hm; cases hm
    · exact ⟨h1, h2⟩
  have hlp : ∀ (xs ps : List Int), ((∃ p, ps = [p] ∧ 0 ≤ p ∧ p < 16) ∨ Pls ps) → ps ≠ [] → xs ≠ [] → Pls (placesLp ps xs) ∧ placesLp ps xs ≠ [] := by
    intro xs
    induction xs with
    | nil => intro _ _ _ h; exact absurd rfl h
    | cons x xs ih =>
      intro ps hps hne _
      rw [placesLp_c]
      have hj : Pls (joinV ps (moreV ps x)) := ⟨_, rfl⟩
      have hjne : joinV ps (moreV ps x) ≠ [] := by
        obtain ⟨y, hy⟩ := List.exists_mem_of_ne_nil _ hne
        have hb : 0 ≤ y ∧ y < 16 := by
          rcases hps with ⟨p, rfl, h⟩ | ⟨b, rfl⟩
          · rw [List.mem_singleton.mp hy]; exact h
          · exact mem_r16.mp (List.mem_filter.mp hy).1
        intro q
        have := mem_joinV (ms := moreV ps x) hb hy
        rw [q] at this; cases this
      cases xs with
      | nil => exact ⟨hj, hjne⟩
      | cons z zs => exact ih _ (.inr hj) hjne (by simp)
  have h3 : 0 ≤ n0.fmod 3 ∧ n0.fmod 3 < 3 := ⟨Int.fmod_nonneg_of_pos _ (by decide), Int.fmod_lt_of_pos _ (by decide)⟩
  have h16 : 0 ≤ (n0.fdiv 3).fmod 16 ∧ (n0.fdiv 3).fmod 16 < 16 := ⟨Int.fmod_nonneg_of_pos _ (by decide), Int.fmod_lt_of_pos _ (by decide)⟩
  have hcut : cutI ns (some 1) (some (2 + n0.fmod 3)) ≠ [] := by
    have : n0.fmod 3 = 0 ∨ n0.fmod 3 = 1 ∨ n0.fmod 3 = 2 := by (first | exact om178 h3 | omega)
    rw [hns]
    rcases this with h | h | h <;> rw [h] <;> simp [cutI, clipAt] <;> decide
  have hp0 := hlp _ _ (.inl ⟨_, rfl, h16⟩) (by simp) hcut
  refine ⟨?_, hfin _ hp0.1 hp0.2⟩
  refine Fn.of gd (D_places w) [("numbers", .loc)] [("shape", .loc), ("last", .loc), ("places", .cel), ("number", .cel), ("more", .cel), ("chosen", .loc), ("moved", .cel), ("kept", .cel)] rfl rfl (by decide +kernel) (by decide +kernel) rfl fun L A av hw => ?_
  refine ExP.cons (ExS.swap2 (a := .sc (.int n0)) (b := .sc (.int n4)) hw 1 2 (EvP.tup (ws := [.sc (.int n0), .sc (.int n4)]) (EvL.cons (EvP.itemI (EvP.name hw 0 rfl rfl) EvP.int (by decide) (by decide) (by rw [hns]; rfl)) (EvL.cons (EvP.itemI (EvP.name hw 0 rfl rfl) EvP.int (by decide) (by decide) (by rw [hns]; rfl)) EvL.nil)) (by simp))
    rfl rfl nfL nfL (by kernel_rfl!) (by kernel_rfl!) ?_)
  refine ExP.cons (ExS.set hw 3 (isV [(n0.fdiv 3).fmod 16]) (EvP.list (EvL.one (EvP.bin (EvP.bin (EvP.name hw 1 rfl rfl) EvP.int (BinP.fdiv (by decide) log3)) EvP.int (BinP.fmod (by decide)))) (by simp)) ?_ nfC)
  refine ExP.cons (ExS.forL hw 4 rfl nfC (ItP.list hw (xs := (cutI ns (some 1) (some (2 + n0.fmod 3))).map .int) (EvP.sliceI (EvP.name hw 0 rfl rfl) (PartP.some EvP.int) (PartP.some (EvP.bin EvP.int (EvP.bin (EvP.name hw 1 rfl rfl) EvP.int (BinP.fmod (by decide))) BinP.add)) hlen))
    (fun j vs => ∃ (o4 o5 : Option Vl) (ps : List Int), vs = [some (isV ns), some (iV n0), some (iV n4), some (isV ps), o4, o5, none, none, none] ∧ o4.all Vl.pure = true ∧ o5.all Vl.pure = true ∧ placesLp ps ((cutI ns (some 1) (some (2 + n0.fmod 3))).drop j) = places0 n0 ns ∧ ps.length ≤ 16) ?_ ?_ ?_)
  · exact ⟨none, none, _, rfl, rfl, rfl, rfl, by simp⟩
  · rintro j item vs' X hitem ⟨o4, o5, ps, rfl, q4, q5, hp, hl⟩ hwX
    obtain ⟨n, hn, rfl⟩ : ∃ n, (cutI ns (some 1) (some (2 + n0.fmod 3)))[j]? = some n ∧ item = .int n := by
      rw [List.getElem?_map] at hitem
      cases e : (cutI ns (some 1) (some (2 + n0.fmod 3)))[j]? with
      | none => rw [e] at hitem; cases hitem
      | some n => rw [e] at hitem; exact ⟨n, rfl, by simpa using hitem.symm⟩
    have hd : (cutI ns (some 1) (some (2 + n0.fmod 3))).drop j = n :: (cutI ns (some 1) (some (2 + n0.fmod 3))).drop (j + 1) := by
      obtain ⟨hj, e⟩ := List.getElem?_eq_some_iff.mp hn
      rw [List.drop_eq_getElem_cons hj, e]
    rw [hd, placesLp_c] at hp
    refine ExP.cons (ExS.set hwX 5 (isV (moreV ps n)) (EvP.compI (xs := ps) hwX (fun _ => true) (fun p => (p + 1 + n.fmod 15).fmod 16) (caps1 (x := "number") (i := 4) (v := iV n) (k := .cel) rfl nlC rfl rfl (by decide +kernel) (by decide +kernel)) nfL (ItP.list hwX (EvP.name hwX 3 rfl rfl)) (by (first | exact om179 hl | omega))
      ?_ (by rw [filterT]; rfl)) ?_ nfC)
    · exact fun C D X' i hi wf' => ⟨TsP.nil, fun _ => EvP.bin (EvP.bin (EvP.bin (EvP.name wf' 0 rfl rfl) EvP.int BinP.add) (EvP.bin (EvP.name wf' 1 rfl rfl) EvP.int (BinP.fmod (by decide))) BinP.add) EvP.int (BinP.fmod (by decide))⟩
    refine ExP.cons (ExS.set hwX 3 (isV (joinV ps (moreV ps n))) (EvP.compI (xs := r16) hwX (fun s => ps.contains s || ((moreV ps n).contains s || false)) (fun s => s) (caps2 (x := "places") (i := 3) (y := "more") (j := 5) (v := isV ps) (u := isV (moreV ps n)) (k := .cel) (k' := .cel) rfl nlC rfl rfl rfl nlC rfl rfl (by decide +kernel) (by decide +kernel)) nfL (ItP.r16 hwX rfl) (by decide)
      ?_ (List.map_id _)) ?_ nfC)
    · exact fun C D X' i hi wf' => ⟨TsP.one (TrP.or (TrP.cmp (EvP.name wf' 0 rfl rfl) (EvP.name wf' 1 rfl rfl) CmpP.isInI) fun _ => TrP.or (TrP.cmp (EvP.name wf' 0 rfl rfl) (EvP.name wf' 2 rfl rfl) CmpP.isInI) fun _ => TrP.orNil), fun _ => EvP.name wf' 0 rfl rfl⟩
    refine ExP.nil ?_
    exact ⟨_, _, _, rfl, rfl, rfl, hp, Pls.len ⟨_, rfl⟩⟩
  · rintro vs' ⟨o4, o5, ps, rfl, q4, q5, hp, hl⟩
    have e : ps = places0 n0 ns := by
      rw [← hp, List.length_map, List.drop_length]; rfl
    subst e
    generalize hps : places0 n0 ns = ps at *
    have hpl : Pls ps := by have := hp0.1; unfold places0 at hps; rw [hps] at this; exact this
    have hpn : ps ≠ [] := by have := hp0.2; unfold places0 at hps; rw [hps] at this; exact this
    have hl0 : 0 < ps.length := List.length_pos_iff.mpr hpn
    have hc : 0 ≤ chosenV n4 ps ∧ chosenV n4 ps < (ps.length : Nat) := ⟨Int.fmod_nonneg_of_pos _ (by (first | exact om152 hl0 | omega)), Int.fmod_lt_of_pos _ (by (first | exact om152 hl0 | omega))⟩
    refine ExP.nil (ExP.cons (ExS.ite (TrP.cmp (EvP.bin (EvP.name hw 2 rfl rfl) EvP.int (BinP.fmod (by decide))) EvP.int CmpP.eqI) (fun q => ?_) fun q => ExP.nil ?_))
    · refine ExP.cons (ExS.set hw 6 (iV (chosenV n4 ps)) (EvP.bin (EvP.bin (EvP.name hw 2 rfl rfl) EvP.int (BinP.fdiv (by decide) log3)) (EvP.bcall hw (CalP.lenI (by (first | exact om179 hl | omega))) boot_len (EvL.one (EvP.name hw 3 rfl rfl))) (BinP.fmod (by (first | exact om180 hc | omega)))) ?_ nfL)
      have hx : ps[(chosenV n4 ps).toNat]? = some (ps.getD (chosenV n4 ps).toNat 0) := by
        have : (chosenV n4 ps).toNat < ps.length := by (first | exact om181 hc | omega)
        simp [List.getD, this]
      refine ExP.cons (ExS.set hw 7 (iV (movedV n4 ps)) (EvP.bin (EvP.bin (EvP.bin (EvP.itemI (EvP.name hw 3 rfl rfl) (EvP.name hw 6 rfl rfl) hc.1 (by (first | exact om182 hc hl | omega)) hx) EvP.int BinP.add) (EvP.bin (EvP.bin (EvP.name hw 2 rfl rfl) EvP.int (BinP.fdiv (by decide) log24)) EvP.int (BinP.fmod (by decide))) BinP.add) EvP.int (BinP.fmod (by decide))) ?_ nfC)
      refine ExP.cons (ExS.set hw 8 (isV (keptV n4 ps)) (EvP.bin (EvP.sliceI (EvP.name hw 3 rfl rfl) PartP.none (PartP.some (EvP.name hw 6 rfl rfl)) (by (first | exact om179 hl | omega))) (EvP.sliceI (EvP.name hw 3 rfl rfl) (PartP.some (EvP.bin (EvP.name hw 6 rfl rfl) EvP.int BinP.add)) PartP.none (by (first | exact om179 hl | omega))) (BinP.catI ?_)) ?_ nfC)
      · have h1 := cutI_len ps none (some (chosenV n4 ps))
        have h2 := cutI_len ps (some (chosenV n4 ps + 1)) none
        (first | exact om183 h2 h1 hl | omega)
      refine ExP.cons (ExS.set hw 3 (isV (moveV n4 ps)) (EvP.compI (xs := r16) hw (fun s => (keptV n4 ps).contains s || (s == movedV n4 ps || false)) (fun s => s) (caps2 (x := "kept") (i := 8) (y := "moved") (j := 7) (v := isV (keptV n4 ps)) (u := iV (movedV n4 ps)) (k := .cel) (k' := .cel) rfl nlC rfl rfl rfl nlC rfl rfl (by decide +kernel) (by decide +kernel)) nfL (ItP.r16 hw rfl) (by decide)
        ?_ (List.map_id _)) ?_ nfC)
      · exact fun C D X' i hi wf' => ⟨TsP.one (TrP.or (TrP.cmp (EvP.name wf' 0 rfl rfl) (EvP.name wf' 1 rfl rfl) CmpP.isInI) fun _ => TrP.or (TrP.cmp (EvP.name wf' 0 rfl rfl) (EvP.name wf' 2 rfl rfl) CmpP.eqI) fun _ => TrP.orNil), fun _ => EvP.name wf' 0 rfl rfl⟩
      refine ExP.nil ?_
      refine thenN (ExP.cons (ExS.ret hw (EvP.name hw 3 rfl rfl) ?_))
      show Out.ret _ = Out.ret _
      unfold placesV; rw [hps, q]; rfl
    · refine thenN (ExP.cons (ExS.ret hw (EvP.name hw 3 rfl rfl) ?_))
      show Out.ret _ = Out.ret _
      unfold placesV; rw [hps, q]; rfl
end Mine

namespace Mine

noncomputable abbrev T8 (s s' : Shared) : Prop := TStep 45 ln8 col8 q8 s s'
noncomputable def TOK8 (h₀ : Heap) (av : Addr → Prop) (s : Shared) : Prop := (TabE s.heap 45 ∧ ¬ av 45 ∧ h₀.get? 45 = none) ∨ TabG s.heap 45 ln8 col8 q8
theorem TOK8.keeps {h₀ av s s'} (x : TOK8 h₀ av s) (k : ∀ b o, s.heap.get? b = some o → s'.heap.get? b = some o) : TOK8 h₀ av s' := x.imp (fun ⟨a, b, c⟩ => ⟨k _ _ a, b, c⟩) fun a => a.keeps k
theorem T8.pre {s s₁ s₂} (k : Kp s s₁) (t : T8 s₁ s₂) : T8 s s₂ := by
  obtain ⟨h1, tk1, rfl, k1⟩ := k
  obtain ⟨h2, tk2, rfl, k2, g, sm⟩ := t
  exact ⟨h2, tk2, rfl, fun b o nb e => k2 b o nb (k1 b o e), g, fun hg o e => sm (hg.keeps k1) o (k1 _ _ e)⟩

noncomputable def TFn8 (w : World) (h₀ : Heap) (d : Nat) (f : Addr) (args : List Vl) (r : Vl) : Prop :=
  ∀ (A : Around) (s : Shared) (av : Addr → Prop) (vals : List Value), Room d A → (∀ b o, h₀.get? b = some o → s.heap.get? b = some o) → (∀ a, av a → ∃ o, s.heap.get? a = some o) → TOK8 h₀ av s →
    Paired (Rep av s.heap) args vals → wpAny (MD w) A (call (.ref f) vals) (fun val s' => T8 s s' ∧ Rep av s'.heap r val) NoE s
theorem TFn8.fn {w h₀ d f args r} (h : TFn8 w h₀ d f args r) (hg : TabG h₀ 45 ln8 col8 q8) : Fn w h₀ d f args r :=
  Fn.mk fun A s av vals hroom hbase hlive hargs => wpAny_mono (h A s av vals hroom hbase hlive (.inr (hg.keeps hbase)) hargs) (fun val s' hh => by
    obtain ⟨⟨h', tk, rfl, k, _, k38⟩, hv⟩ := hh
    refine ⟨⟨h', tk, rfl, fun b o e => ?_⟩, hv⟩
    by_cases hb : b = 45
    · subst hb; exact k38 (hg.keeps hbase) o e
    · exact k b o hb e) fun _ _ x => x

section
variable {w : World} {h₀ : Heap} {Φ : Fm} {vs : List (Option Vl)}
theorem evT8 (hw : WF w h₀ Φ) {x : Str} {f : Addr} {np pos e es vl r} (d : Nat) (hf : TFn8 w h₀ d f vl r) (hg : nsIn (KK w) mainGlobals x = some (some (.ref f))) (hkp : keepIn (KK w) (.ref f) = true) (hdd : d ≤ Φ.d) (hl : EvL w h₀ Φ vs (e :: es) vl)
    {s : Shared} (hs : St h₀ Φ vs s) (ht : TOK8 h₀ Φ.av s)
    (hx : Φ.env.kindOf x = some .globalImplicit) (hd : (x == ("__debug__" : Str)) = false)
    (he : starEach (e :: es) Φ.env = (false, eval e Φ.env) :: starEach es Φ.env)
    (hpl : (backTo pos (starEach (e :: es) Φ.env)).any (·.1) = false)
    (hee : eval (.Call (.Name x np) (e :: es) [] pos) Φ.env = (do callWith pos (← eval (.Name x np) Φ.env) [] (backTo pos (starEach (e :: es) Φ.env)) (backToKw pos (keywordEach [] Φ.env)))) :
    wpAny (MD w) Φ.A (eval (.Call (.Name x np) (e :: es) [] pos) Φ.env) (fun val s' => T8 s s' ∧ Rep Φ.av s'.heap r val) NoE s := by
  refine Call_ (globalP hw hx hg hd hs ?_) hee
  refine callWith_of (P := (KK w).In) (by show (_ || false) = false; rw [hpl]; rfl) (keeps_K hkp) ?_
  have hl' := hl pos s hs
  rw [he] at hl' ⊢
  refine Calls.evalArgs_plain (wpAny_mono hl' (fun vals s₁ h1 => ⟨inKeeps hw.gd.K (hs.kept h1.1).base, ?_⟩) fun _ _ x => x)
  have hs₁ := hs.kept h1.1
  refine wpAny_mono (hf Φ.A s₁ Φ.av vals (hw.room.le hdd) hs₁.base hs₁.live (ht.keeps h1.1.heap) h1.2) (fun val s₂ h2 => ⟨T8.pre h1.1 h2.1, h2.2⟩) fun _ _ x => x
end


theorem two_le_pow {n : Nat} (h : 1 ≤ n) : (2 : Int) ≤ 2 ^ n := by
  have : 2 ^ 1 ≤ 2 ^ n := Nat.pow_le_pow_right (by decide) h
  exact_mod_cast this
noncomputable def bitV (ps : List Int) : List Int := r16.map fun s => if ps.contains s then 1 else 0
theorem bitV_len (ps) : (bitV ps).length = 16 := by unfold bitV; rw [List.length_map]; rfl
theorem bitV_mem {ps} {x : Int} (h : x ∈ bitV ps) : x = 0 ∨ x = 1 := by
  obtain ⟨s, _, rfl⟩ := List.mem_map.mp h
  split
  · exact .inr rfl
  · exact .inl rfl

variable {w : World} {h₀ : Heap}
theorem d2i_TFn (gd : Gd w h₀) (G : Gn h₀ 49 45) {n : Nat} {xs : List Int} (hn : n ≤ 2000) (hlen : xs.length ≤ 900) (hxs : ∀ x ∈ xs, 0 ≤ x ∧ x < 2 ^ n) : TFn8 w h₀ (xs.length + 2) 50 [isV xs, iV n] (iV (valOf n xs)) :=
  fun A s av vals hroom hbase hlive hT hargs => d2i_T gd G hn hlen hxs hroom hbase hlive hT hargs

theorem number_TFn (gd : Gd w h₀) (G : Gn h₀ 49 45) {n : Nat} {ps : List Int} (hn : 1 ≤ n) (hn2 : n ≤ 2000) : TFn8 w h₀ 19 112 [isV ps, iV n] (iV (valOf n (bitV ps))) := by
  intro A s av vals hroom hbase hlive hT hargs
  have D := D_number w
  refine Fn.enter (d := 18) gd [("places", .cel), ("width", .loc)] [] D.ho (by rw [D.hcode]; exact D.hcd) D.hbody D.hclo D.hgl D.hbu D.hco D.hgen D.hk (fun vals hv => D.hbind vals (hv.trans rfl)) (by decide +kernel) (by decide +kernel) rfl rfl hroom hbase hlive hargs fun L s₁ hw st kp hfresh => ?_
  have hav : ∀ b, (frameOf (fdAt 20 (.ref 111) (.str "law_wf0051_01" 346)) 112 L A 18 av ([(("places" : Str), VK.cel), (("width" : Str), VK.loc)] ++ [])).av b → av b ∨ (frameOf (fdAt 20 (.ref 111) (.str "law_wf0051_01" 346)) 112 L A 18 av ([(("places" : Str), VK.cel), (("width" : Str), VK.loc)] ++ [])).mu b := fun b h => h
  have hrv : (frameOf (fdAt 20 (.ref 111) (.str "law_wf0051_01" 346)) 112 L A 18 av ([(("places" : Str), VK.cel), (("width" : Str), VK.loc)] ++ [])).rv = av := rfl
  have tok₁ : TOK8 h₀ (frameOf (fdAt 20 (.ref 111) (.str "law_wf0051_01" 346)) 112 L A 18 av ([(("places" : Str), VK.cel), (("width" : Str), VK.loc)] ++ [])).av s₁ := by
    rcases hT with ⟨hE, hnav, h0⟩ | hG
    · exact .inl ⟨kp.heap _ _ hE, fun q => (hav 45 q).elim hnav (fun q => (by have := hfresh 45 q; rw [hE] at this; cases this)), h0⟩
    · exact .inr (hG.keeps kp.heap)
  show wpAny (MD w) _ (execs (bodyAt 20) _) _ NoE s₁
  have hb : ∀ x ∈ bitV ps, 0 ≤ x ∧ x < 2 ^ n := fun x hx => by
    have h2 : (2 : Int) ≤ 2 ^ n := two_le_pow hn
    rcases bitV_mem hx with rfl | rfl <;> (first | exact om184 h2 | exact om185 h2 | omega)
  have hd := d2i_TFn gd G (n := n) (xs := bitV ps) hn2 (by rw [bitV_len]; decide) hb
  rw [bitV_len] at hd
  refine wpAny_execs_cons (wpAny_Return_some (wpAny_mono (evT8 hw 18 hd (g_d2i w) (D_d2i w).keep (by show 18 ≤ 18; decide) (EvL.cons (EvP.compI (xs := r16) hw (fun _ => true) (fun s => if ps.contains s then 1 else 0) (caps1 (x := "places") (i := 0) (v := isV ps) (k := .cel) rfl nlC rfl rfl (by decide +kernel) (by decide +kernel)) nfL (ItP.r16 hw rfl) (by decide) ?_ (by rw [filterT]; rfl)) (EvL.cons (EvP.name hw 1 rfl rfl) EvL.nil)) st tok₁ (by kernel_rfl!) (by decide) (by kernel_rfl!) (by kernel_rfl!) (by kernel_rfl!)) (fun v s₂ h => ?_) fun _ _ x => x.elim))
  · refine fun C D' X' i hi wf' => ⟨TsP.nil, fun _ => EvP.ifexp (TrP.cmp (EvP.name wf' 0 rfl rfl) (EvP.name wf' 1 rfl rfl) CmpP.isInI) (fun q => ?_) fun q => ?_⟩
    · rw [q]; exact EvP.int
    · rw [q]; exact EvP.int
  · exact ⟨T8.pre kp h.1, h.2.weaken (fun a ha => .inl ha)⟩
end Mine

namespace Mine


variable {w : World} {h₀ : Heap}
theorem divmod_TFn (gd : Gd w h₀) (G8 : Gn h₀ 49 45) (h45 : TabG h₀ 45 ln8 col8 q8) (G7 : Gn h₀ 42 38) {a b : Nat} (hb : 0 < b) (hn : Builtin.Int.intBits (b : Int) ≤ 2000) (hlen : figs (Builtin.Int.intBits (b : Int)) a ≤ 20) :
    TFn w h₀ 27 64 [iV a, iV b] (.tup [.sc (.int (dmpQ a b)), .sc (.int ((a % b : Nat) : Int))]) := by
  intro A s av vals hroom hbase hlive hT hargs
  have D := D_divmod w
  refine Fn.enter (d := 26) gd [("a", .loc), ("b", .loc)] [("q", .loc), ("r", .loc)] D.ho (by rw [D.hcode]; exact D.hcd) D.hbody D.hclo D.hgl D.hbu D.hco D.hgen D.hk (fun vals hv => D.hbind vals (hv.trans rfl)) (by decide +kernel) (by decide +kernel) rfl rfl hroom hbase hlive hargs fun L s₁ hw st kp hfresh => ?_
  have tok₁ : TOK h₀ (frameOf (fdAt 10 (.ref 63) (.str "cpy313._pylong" 230)) 64 L A 26 av ([(("a" : Str), VK.loc), (("b" : Str), VK.loc)] ++ [(("q" : Str), VK.loc), (("r" : Str), VK.loc)])).av s₁ := by
    rcases hT with ⟨hE, hnav, h0⟩ | hG
    · refine .inl ⟨kp.heap _ _ hE, fun q => ?_, h0⟩
      have q' : av 38 ∨ (frameOf (fdAt 10 (.ref 63) (.str "cpy313._pylong" 230)) 64 L A 26 av ([(("a" : Str), VK.loc), (("b" : Str), VK.loc)] ++ [(("q" : Str), VK.loc), (("r" : Str), VK.loc)])).mu 38 := q
      exact q'.elim hnav (fun q => (by have := hfresh 38 q; rw [hE] at this; cases this))
    · exact .inr (hG.keeps kp.heap)
  show wpAny (MD w) _ (execs (bodyAt 10) _) _ NoE s₁
  have s0 : St h₀ _ [some (iV a), some (iV b), none, none] s₁ := st
  refine wpAny_execs_cons (wpAny_If (wpAny_mono (TrP.run (TrP.cmp (EvP.name hw 1 rfl rfl) EvP.int CmpP.eqI) s₁ s0) (fun b₁ s₂ h2 => ?_) fun _ _ x => x.elim))
  obtain ⟨k2, rfl⟩ := h2
  have s2 := s0.kept k2
  cases q1 : ((b : Int) == 0) with
  | true => have : (b : Int) = 0 := by simpa using q1
            omega
  | false =>
  refine wpAny_execs_cons (wpAny_If (wpAny_mono (TrP.run (TrP.cmp (EvP.name hw 1 rfl rfl) EvP.int CmpP.ltI) s₂ s2) (fun b₂ s₃ h3 => ?_) fun _ _ x => x.elim))
  obtain ⟨k3, rfl⟩ := h3
  have s3 := s2.kept k3
  cases q2 : (decide ((b : Int) < 0)) with
  | true => have : (b : Int) < 0 := by simpa using q2
            omega
  | false =>
  refine wpAny_execs_cons (wpAny_If (wpAny_mono (TrP.run (TrP.cmp (EvP.name hw 0 rfl rfl) EvP.int CmpP.ltI) s₃ s3) (fun b₃ s₄ h4 => ?_) fun _ _ x => x.elim))
  obtain ⟨k4, rfl⟩ := h4
  have s4 := s3.kept k4
  cases q3 : (decide ((a : Int) < 0)) with
  | true => have : (a : Int) < 0 := by simpa using q3
            omega
  | false =>
  have tok₄ := ((tok₁.keeps k2.heap).keeps k3.heap).keeps k4.heap
  refine wpAny_execs_cons (wpAny_Return_some (wpAny_mono (evT hw 26 (dmp_TFn gd G8 h45 G7 hb hn hlen) (g_dmp w) (D_dmp w).keep (by show 26 ≤ 26; decide) (EvL.cons (EvP.name hw 0 rfl rfl) (EvL.cons (EvP.name hw 1 rfl rfl) EvL.nil)) s4 tok₄ (by kernel_rfl!) (by decide) (by kernel_rfl!) (by kernel_rfl!) (by kernel_rfl!)) (fun v s₅ h => ?_) fun _ _ x => x.elim))
  exact ⟨T7.pre (((kp.trans k2).trans k3).trans k4) h.1, h.2.weaken (fun a ha => .inl ha)⟩

theorem bits_pow1 {m : Nat} (hm : 1 ≤ m) : Builtin.Int.intBits ((2 ^ m + 1 : Nat) : Int) = m + 1 := by
  have h2 : 2 ≤ 2 ^ m := by have := Nat.pow_le_pow_right (show 2 > 0 by decide) hm; omega
  have h1 := bits_pos (b := 2 ^ m + 1) (by (first | exact om186 | omega))
  have hle : Builtin.Int.intBits ((2 ^ m + 1 : Nat) : Int) ≤ m + 1 := intBits_le (by (first | exact om187 | omega)) (by
    have : 2 ^ m + 1 < 2 ^ (m + 1) := by rw [Nat.pow_succ]; (first | exact om188 h2 | omega)
    exact_mod_cast this)
  have hge : ¬ Builtin.Int.intBits ((2 ^ m + 1 : Nat) : Int) ≤ m := fun q => by
    have h3 : 2 ^ Builtin.Int.intBits ((2 ^ m + 1 : Nat) : Int) ≤ 2 ^ m := Nat.pow_le_pow_right (by decide) q
    have h4 : 2 ^ m + 1 < 2 ^ Builtin.Int.intBits ((2 ^ m + 1 : Nat) : Int) := by exact_mod_cast h1.2
    (first | exact om189 h4 h3 | omega)
  (first | exact om190 hge hle | omega)

noncomputable def evenB (N n : Nat) (i : Int) : Bool := N % (2 ^ (i.toNat * n) + 1) == 0
noncomputable def evenV (N n : Nat) : List Int := ([1, 2, 4, 8] : List Int).filter (evenB N n)

theorem even_fn (gd : Gd w h₀) (G8 : Gn h₀ 49 45) (h45 : TabG h₀ 45 ln8 col8 q8) (G7 : Gn h₀ 42 38) (h38 : TabG h₀ 38 ln7 col7 q7) {N n : Nat} (hn : 5 ≤ n) (hn2 : n ≤ 44) (hN : N < 2 ^ (n * 16)) : Fn w h₀ 28 124 [iV N, iV n] (isV (evenV N n)) := by
  refine Fn.of gd (D_even w) [("number", .cel), ("width", .cel)] [] rfl rfl (by decide +kernel) (by decide +kernel) rfl fun L A av hw => ?_
  refine ExP.cons (ExS.ret hw (EvP.compI (xs := [1, 2, 4, 8]) hw (evenB N n) (fun s => s) (caps2 (x := "number") (i := 0) (y := "width") (j := 1) (v := iV N) (u := iV n) (k := .cel) (k' := .cel) rfl nlC rfl rfl rfl nlC rfl rfl (by decide +kernel) (by decide +kernel)) nfL
    (ItP.tup hw (xs := [.int 1, .int 2, .int 4, .int 8]) (EvP.tup (EvL.cons EvP.int (EvL.cons EvP.int (EvL.cons EvP.int (EvL.cons EvP.int EvL.nil)))))) (by decide) ?_ (List.map_id _)) rfl)
  intro C D X i hi wf'
  obtain ⟨k, rfl, hk1, hk8⟩ : ∃ k : Nat, i = (k : Nat) ∧ 1 ≤ k ∧ k ≤ 8 := by
    simp only [List.mem_cons, List.not_mem_nil, or_false] at hi
    rcases hi with rfl | rfl | rfl | rfl
    · exact ⟨1, rfl, by decide, by decide⟩
    · exact ⟨2, rfl, by decide, by decide⟩
    · exact ⟨4, rfl, by decide, by decide⟩
    · exact ⟨8, rfl, by decide, by decide⟩
  have hkn : k * n ≤ 8 * 44 := Nat.mul_le_mul hk8 hn2
  have hkn1 : 1 ≤ k * n := Nat.mul_pos (by (first | exact om139 hk1 | omega)) (by (first | exact om191 hn | omega))
  have hb := bits_pow1 hkn1
  have hNb : Builtin.Int.intBits (N : Int) ≤ n * 16 := intBits_le (by (first | exact om73 | omega)) (by exact_mod_cast hN)
  have hfig : figs (k * n + 1) N ≤ 20 := by
    unfold figs
    have hnk : n ≤ k * n := Nat.le_mul_of_pos_left n (by (first | exact om139 hk1 | omega))
    have : (Builtin.Int.intBits (N : Int) + (k * n + 1) - 1) / (k * n + 1) < 21 := (Nat.div_lt_iff_lt_mul (by (first | exact om186 | omega))).mpr (by (first | exact om192 hnk hNb | omega))
    (first | exact om193 this | omega)
  have hdm := (divmod_TFn gd G8 h45 G7 (a := N) (b := 2 ^ (k * n) + 1) (Nat.succ_pos _) (by rw [hb]; (first | exact om194 hkn | omega)) (by rw [hb]; exact hfig)).fn h38
  refine ⟨TsP.one ?_, fun _ => EvP.name wf' 0 rfl rfl⟩
  have hcmp : evenB N n (k : Nat) = (((N % (2 ^ (k * n) + 1) : Nat) : Int) == 0) := by
    unfold evenB
    rw [Int.toNat_natCast]
    exact Bool.eq_iff_iff.mpr (by simp only [beq_iff_eq]; (first | exact om195 | omega))
  rw [hcmp]
  refine TrP.cmp (EvP.itemT (x := .sc (.int _)) (EvP.fcall wf' 27 hdm (g_divmod w) (D_divmod w).keep (by show 27 ≤ 27; decide) (EvL.cons (EvP.name wf' 1 rfl rfl) (EvL.cons ?_ EvL.nil))) EvP.int (by decide) (by decide) rfl) EvP.int CmpP.eqI
  have e1 : ((k : Nat) : Int) * ((n : Nat) : Int) = ((k * n : Nat) : Int) := by push_cast; rfl
  have e2 : (2 : Int) ^ (((k * n : Nat) : Int)).toNat + 1 = ((2 ^ (k * n) + 1 : Nat) : Int) := by rw [Int.toNat_natCast]; push_cast; rfl
  rw [← e2, ← e1]
  have hbits : Builtin.Int.intBits 2 = 2 := by decide +kernel
  refine EvP.bin (EvP.bin EvP.int (EvP.bin (EvP.name wf' 0 rfl rfl) (EvP.name wf' 2 rfl rfl) (BinP.mul (PySem.IntMulOk.of_left (intBits_le (m := 64) (by (first | exact om73 | omega)) (by (first | exact om196 hk8 | omega)))))) (BinP.pow (by rw [e1]; (first | exact om73 | omega)) ?_)) EvP.int BinP.add
  rw [e1, hbits]; (first | exact om197 hkn | omega)
end Mine

namespace Mine

noncomputable def nI (A : List Nat) : List Int := A.map fun n : Nat => (n : Int)
theorem nI_len (A) : (nI A).length = A.length := List.length_map ..
theorem nI_get (A : List Nat) (i : Nat) : (nI A)[i]? = (A[i]?).map fun n : Nat => (n : Int) := by unfold nI; rw [List.getElem?_map]

theorem add_or {x y n : Nat} (hx : x < 2 ^ n) (hy : y < 2 ^ n) (h : x &&& y = 0) : x + y = x ||| y := by
  have hx' : x < 2 ^ (n + 1) := by rw [Nat.pow_succ]; (first | exact om198 hx | omega)
  have hy' : y < 2 ^ (n + 1) := by rw [Nat.pow_succ]; (first | exact om198 hy | omega)
  have e := BitVec.add_eq_or_of_and_eq_zero (w := n + 1) (BitVec.ofNat _ x) (BitVec.ofNat _ y) (by
    apply BitVec.eq_of_toNat_eq
    rw [BitVec.toNat_and, BitVec.toNat_ofNat, BitVec.toNat_ofNat, Nat.mod_eq_of_lt hx', Nat.mod_eq_of_lt hy', h]; simp)
  have e2 := congrArg BitVec.toNat e
  rw [BitVec.toNat_add, BitVec.toNat_or, BitVec.toNat_ofNat, BitVec.toNat_ofNat, Nat.mod_eq_of_lt hx', Nat.mod_eq_of_lt hy', Nat.mod_eq_of_lt (by rw [Nat.pow_succ]; (first | exact om199 hy hx | omega))] at e2
  exact e2

theorem fin_ix : ∀ f, f < 16 → ∀ p, p < 16 → (((f : Nat) : Int) - ((p : Nat) : Int)).fmod 16 = (((f + 16 - p) % 16 : Nat) : Int) := by decide +kernel
/-! tries -/
noncomputable def skipV (done : Nat) : Nat → Nat → Nat
  | 0, f => f
  | k + 1, f => if done.testBit f then skipV done k (f + 1) else f
noncomputable def copyAt (cs : List Nat) (f p : Nat) : Nat := cs.getD ((f + 16 - p) % 16) 0
noncomputable def triedV (A cs : List Nat) : Nat → Nat → Nat → Bool
  | 0, _, _ => false
  | k + 1, done, free => if done = 65535 then true else
    A.any fun p => (done &&& copyAt cs (skipV done (16 - free) free) p == 0) && triedV A cs k (done + copyAt cs (skipV done (16 - free) free) p) (skipV done (16 - free) free + 1)

theorem skipV_c {done k f : Nat} : skipV done (k + 1) f = if done.testBit f then skipV done k (f + 1) else f := rfl
theorem triedV_c {A cs : List Nat} {k done free : Nat} : triedV A cs (k + 1) done free = if done = 65535 then true else
    A.any fun p => (done &&& copyAt cs (skipV done (16 - free) free) p == 0) && triedV A cs k (done + copyAt cs (skipV done (16 - free) free) p) (skipV done (16 - free) free + 1) := rfl
structure TrOk (done free : Nat) : Prop where
  lt : done < 2 ^ 16
  le : free ≤ 16
  low : ∀ i, i < free → done.testBit i = true
structure CsOk (A cs : List Nat) : Prop where
  len : cs.length = 16
  lt : ∀ c ∈ cs, c < 2 ^ 16
  hit : ∀ f p, f < 16 → p ∈ A → (copyAt cs f p).testBit f = true

theorem full_of {done : Nat} (h : done < 2 ^ 16) (hl : ∀ i, i < 16 → done.testBit i = true) : done = 65535 := by
  show done = 2 ^ 16 - 1
  apply Nat.eq_of_testBit_eq
  intro i
  rw [Nat.testBit_two_pow_sub_one]
  by_cases q : i < 16
  · rw [hl i q]; simp [q]
  · rw [Nat.testBit_lt_two_pow (Nat.lt_of_lt_of_le h (Nat.pow_le_pow_right (by decide) (by (first | exact om200 q | omega))))]; simp [q]
theorem TrOk.lt16 {done free} (t : TrOk done free) (hne : done ≠ 65535) : free < 16 := by
  have := t.le
  by_cases q : free < 16
  · exact q
  · exact absurd (full_of t.lt fun i hi => t.low i (by (first | exact om201 hi q | omega))) hne
theorem copyAt_lt {A cs} (c : CsOk A cs) (f p : Nat) : copyAt cs f p < 2 ^ 16 := by
  unfold copyAt
  have h : (f + 16 - p) % 16 < cs.length := by rw [c.len]; exact Nat.mod_lt _ (by decide)
  have e : cs.getD ((f + 16 - p) % 16) 0 = cs[(f + 16 - p) % 16] := by simp [List.getD, h]
  rw [e]; exact c.lt _ (List.getElem_mem h)
theorem TrOk.next {A cs done free p} (c : CsOk A cs) (t : TrOk done free) (hf : free < 16) (hp : p ∈ A) (h0 : done &&& copyAt cs free p = 0) : TrOk (done + copyAt cs free p) (free + 1) := by
  have hlt := copyAt_lt c free p
  rw [add_or t.lt hlt h0]
  refine ⟨Nat.or_lt_two_pow t.lt hlt, by (first | exact om202 hf | omega), fun i hi => ?_⟩
  rw [Nat.testBit_or]
  by_cases q : i < free
  · rw [t.low i q]; rfl
  · have : i = free := by (first | exact om203 q hi | omega)
    subst this
    rw [c.hit i p hf hp]; simp
theorem TrOk.skip {done} : ∀ k free, TrOk done free → done ≠ 65535 → 16 - free = k → TrOk done (skipV done k free)
  | 0, free, t, hne, hk => t
  | k + 1, free, t, hne, hk => by
    rw [skipV_c]
    split
    · rename_i hb
      refine TrOk.skip k (free + 1) ⟨t.lt, by have := t.lt16 hne; (first | exact om202 this | omega), fun i hi => ?_⟩ hne (by (first | exact om204 hk | omega))
      by_cases q : i < free
      · exact t.low i q
      · have : i = free := by (first | exact om203 q hi | omega)
        rw [this]; exact hb
    · exact t


theorem bitTest (done f : Nat) (hf : f ≤ 16) : ((((done : Nat) : Int).fdiv (2 ^ ((f : Nat) : Int).toNat)).fmod 2 != 0) = done.testBit f := by
  have e : (((done : Nat) : Int).fdiv (2 ^ ((f : Nat) : Int).toNat)).fmod 2 = ((done / 2 ^ f % 2 : Nat) : Int) := by
    rw [Int.toNat_natCast, Int.fdiv_eq_ediv_of_nonneg _ (Int.le_of_lt (Int.pow_pos (by decide))), Int.fmod_eq_emod_of_nonneg _ (by decide)]
    norm_cast
  rw [e, Nat.testBit_eq_decide_div_mod_eq]
  have := Nat.mod_lt (done / 2 ^ f) (show 2 > 0 by decide)
  generalize done / 2 ^ f % 2 = b at *
  have : b = 0 ∨ b = 1 := by (first | exact om205 this | omega)
  rcases this with rfl | rfl <;> rfl

variable {w : World} {h₀ : Heap}
theorem tried_fn (gd : Gd w h₀) {A cs : List Nat} (hA : ∀ p ∈ A, p < 16) (hl : A.length ≤ 16) (c : CsOk A cs) : ∀ k done free, TrOk done free → 17 ≤ free + k → Fn w h₀ k 119 [iV (done : Nat), iV (free : Nat), isV (nI A), isV (nI cs)] (bV (triedV A cs k done free)) := by
  intro k
  induction k with
  | zero => intro done free t h; have := t.le; omega
  | succ k ih =>
  intro done free t hk
  refine Fn.of gd (D_tried w) [("done", .loc), ("free", .loc), ("places", .loc), ("copies", .loc)] [("place", .loc), ("copy", .loc)] rfl rfl (by decide +kernel) (by decide +kernel) rfl fun L Ar av hw => ?_
  have hd65 : ((done : Int) == 65535) = decide (done = 65535) := Bool.eq_iff_iff.mpr (by simp only [beq_iff_eq, decide_eq_true_eq]; (first | exact om206 | omega))
  refine ExP.cons (ExS.ite (TrP.cmp (EvP.name hw 0 rfl rfl) EvP.int CmpP.eqI) (fun q => ?_) fun q => ExP.nil ?_)
  · rw [hd65] at q
    refine ExP.cons (ExS.ret hw EvP.bool ?_)
    show Out.ret _ = Out.ret _
    rw [triedV_c, if_pos (by simpa using q)]
  · rw [hd65] at q
    have hne : done ≠ 65535 := by simpa using q
    have hf := t.lt16 hne
    obtain ⟨F, hF⟩ : ∃ F, skipV done (16 - free) free = F := ⟨_, rfl⟩
    have tF : TrOk done F := hF ▸ TrOk.skip _ _ t hne rfl
    have hF16 := tF.lt16 hne
    refine thenN (ExP.cons (ExS.whileL hw (fun n vs => ∃ f, vs = [some (iV (done : Nat)), some (iV (f : Nat)), some (isV (nI A)), some (isV (nI cs)), none, none] ∧ n = 16 - f ∧ TrOk done f ∧ skipV done (16 - f) f = F ∧ free ≤ f) (16 - free) ⟨free, rfl, rfl, t, hF, Nat.le_refl _⟩ ?_))
    rintro n vs' ⟨f, rfl, rfl, tf, hsk, hff⟩
    have hf16 := tf.lt16 hne
    have hbits : Builtin.Int.intBits 2 = 2 := by decide +kernel
    have hpw : (2 : Int) ^ ((f : Nat) : Int).toNat ≠ 0 := by rw [Int.toNat_natCast]; exact Int.ne_of_gt (Int.pow_pos (by decide))
    have hpl : ((2 : Int) ^ ((f : Nat) : Int).toNat).natAbs.log2 < 9000 := by
      rw [Int.toNat_natCast, Int.natAbs_pow]
      show (2 ^ f).log2 < 9000
      rw [Nat.log2_two_pow]; (first | exact om207 hf16 | omega)
    refine ⟨done.testBit f, ?_, fun hb => ?_, fun hb => ?_⟩
    · rw [← bitTest done f (by (first | exact om208 hf16 | omega))]
      exact TrP.ofInt (EvP.bin (EvP.bin (EvP.name hw 0 rfl rfl) (EvP.bin EvP.int (EvP.name hw 1 rfl rfl) (BinP.pow (by (first | exact om73 | omega)) (by rw [hbits]; (first | exact om209 hf16 | omega)))) (BinP.fdiv hpw hpl)) EvP.int (BinP.fmod (by decide)))
    · have tf1 : TrOk done (f + 1) := ⟨tf.lt, by (first | exact om202 hf16 | omega), fun i hi => by
        by_cases q : i < f
        · exact tf.low i q
        · have : i = f := by (first | exact om203 q hi | omega)
          rw [this]; exact hb⟩
      refine ExP.cons (ExS.aug (a := iV (f : Nat)) (b := iV 1) (v := iV ((f + 1 : Nat) : Int)) hw 1 rfl nfL rfl EvP.int InpP.add rfl ?_)
      refine ExP.nil ⟨_, 16 - (f + 1), rfl, by (first | exact om210 hf16 | omega), f + 1, rfl, rfl, tf1, ?_, by (first | exact om32 hff | omega)⟩
      rw [← hsk]
      conv => rhs; rw [show 16 - f = (16 - (f + 1)) + 1 by (first | exact om211 hf16 | omega), skipV_c, if_pos hb]
    · have hfF : f = F := by
        rw [← hsk, show 16 - f = (16 - (f + 1)) + 1 by (first | exact om211 hf16 | omega), skipV_c, if_neg (by rw [hb]; decide)]
      subst hfF
      refine ExP.nil ?_
      refine thenN (ExP.cons (ExS.forL hw 4 rfl nfL (ItP.list hw (xs := (nI A).map .int) (EvP.name hw 2 rfl rfl))
        (fun j vs => ∃ o4 o5 : Option Vl, vs = [some (iV (done : Nat)), some (iV (f : Nat)), some (isV (nI A)), some (isV (nI cs)), o4, o5] ∧ triedV A cs (k + 1) done free = ((A.drop j).any fun p => (done &&& copyAt cs f p == 0) && triedV A cs k (done + copyAt cs f p) (f + 1))) ?_ ?_ ?_))
      · refine ⟨none, none, rfl, ?_⟩
        rw [List.drop_zero, triedV_c, if_neg hne, hF]
      · rintro j item vs' X hitem ⟨o4, o5, rfl, hv⟩ hwX
        obtain ⟨p, hp, rfl⟩ : ∃ p, A[j]? = some p ∧ item = .int (p : Nat) := by
          rw [List.getElem?_map, nI_get] at hitem
          cases e : A[j]? with
          | none => rw [e] at hitem; cases hitem
          | some p => rw [e] at hitem; exact ⟨p, rfl, by simpa using hitem.symm⟩
        have hpm := List.mem_of_getElem? hp
        have hp16 := hA p hpm
        have hd : A.drop j = p :: A.drop (j + 1) := by
          obtain ⟨hj, e⟩ := List.getElem?_eq_some_iff.mp hp
          rw [List.drop_eq_getElem_cons hj, e]
        have eix : (((f : Nat) : Int) - ((p : Nat) : Int)).fmod 16 = (((f + 16 - p) % 16 : Nat) : Int) := fin_ix f hf16 p hp16
        have hcx : (nI cs)[(((f + 16 - p) % 16 : Nat) : Int).toNat]? = some ((copyAt cs f p : Nat) : Int) := by
          rw [Int.toNat_natCast, nI_get]
          have h : (f + 16 - p) % 16 < cs.length := by rw [c.len]; exact Nat.mod_lt _ (by decide)
          unfold copyAt
          simp [List.getD, h]
        refine ExP.cons (ExS.set hwX 5 (iV (copyAt cs f p : Nat)) (EvP.itemI (k := (((f + 16 - p) % 16 : Nat) : Int)) (EvP.name hwX 3 rfl rfl) (eix ▸ EvP.bin (EvP.bin (EvP.name hwX 1 rfl rfl) (EvP.name hwX 4 rfl rfl) BinP.sub) EvP.int (BinP.fmod (by decide))) (by (first | exact om212 | omega)) (by (first | exact om213 | omega)) hcx) ?_ nfL)
        have ebit : (Builtin.bitAnd ((done : Nat) : Int) ((copyAt cs f p : Nat) : Int) == 0) = (done &&& copyAt cs f p == 0) := by
          rw [bitAnd_pp (by (first | exact om73 | omega)) (by (first | exact om73 | omega)), Int.toNat_natCast, Int.toNat_natCast]
          exact Bool.eq_iff_iff.mpr (by simp only [beq_iff_eq]; (first | exact om214 | omega))
        refine ExP.cons (ExS.ite (b := (done &&& copyAt cs f p == 0) && (triedV A cs k (done + copyAt cs f p) (f + 1) && true)) (TrP.and (ebit ▸ TrP.cmp (EvP.bin (EvP.name hwX 0 rfl rfl) (EvP.name hwX 5 rfl rfl) BinP.and) EvP.int CmpP.eqI) fun hb0 => TrP.and (TrP.ofBool (EvP.fcall hwX k (ih (done + copyAt cs f p) (f + 1) (TrOk.next c tf hf16 hpm (by simpa using hb0)) (by (first | exact om215 hff hk | omega))) (g_tried w) (D_tried w).keep (Nat.le_refl _) ?_)) fun _ => TrP.andNil) (fun q => ?_) fun q => ExP.nil ?_)
        · exact EvL.cons (EvP.bin (EvP.name hwX 0 rfl rfl) (EvP.name hwX 5 rfl rfl) BinP.add) (EvL.cons (EvP.bin (EvP.name hwX 1 rfl rfl) EvP.int BinP.add) (EvL.cons (EvP.name hwX 2 rfl rfl) (EvL.cons (EvP.name hwX 3 rfl rfl) EvL.nil)))
        · refine ExP.cons (ExS.ret hwX EvP.bool ?_)
          show Out.ret _ = Out.ret _
          rw [hv, hd, List.any_cons]
          rw [Bool.and_true] at q
          rw [q]; rfl
        · refine ExP.nil ⟨_, _, rfl, ?_⟩
          rw [hv, hd, List.any_cons]
          rw [Bool.and_true] at q
          rw [q]; rfl
      · rintro vs' ⟨o4, o5, rfl, hv⟩
        refine ExP.nil (thenN (ExP.cons (ExS.ret hw EvP.bool ?_)))
        show Out.ret _ = Out.ret _
        rw [hv, List.length_map, nI_len, List.drop_length]; rfl
end Mine

namespace Mine

section
variable {w : World} {h₀ : Heap} {Φ : Fm} {vs : List (Option Vl)}

/-- x, y = ([], b): a list of the frame's own, and a bool -/
theorem ExP.newOwnT (hw : WF w h₀ Φ) (i j : Nat) {x y : Str} {kx ky : VK} {b : Bool} {ck} {px py lp cp vp tp pos : Pos} {tk vk : Nat} {rest} {R : Out → Prop} (hx : Φ.nm[i]? = some (x, kx)) (hkx : kx ≠ .fre) (hy : Φ.nm[j]? = some (y, ky)) (hky : ky ≠ .fre) (hR : OnlyRet R)
    (hs : swapsWithSole [.Tuple [.Name x px, .Name y py] tk tp] (.Tuple [.List [] lp, .Constant (.bool b) ck cp] vk vp) pos.line Φ.env = pure false)
    (hsw : swappedStores [.Tuple [.Name x px, .Name y py] tk tp] (.Tuple [.List [] lp, .Constant (.bool b) ck cp] vk vp) Φ.env = pure none)
    (h : ∀ a, ¬ Φ.av a → WF w h₀ (Φ.own a) → ExP w h₀ (Φ.own a) ((vs.set i (some (.own a []))).set j (some (bV b))) rest R) :
    ExP w h₀ Φ vs (.Assign [.Tuple [.Name x px, .Name y py] tk tp] (.Tuple [.List [] lp, .Constant (.bool b) ck cp] vk vp) pos :: rest) R := by
  intro s hst
  refine wpAny_execs_cons (Assign_Tuple ?_ hs hsw)
  refine wpAny_Tuple (wpAny_items_cons (wpAny_List (wpAny_items_nil ⟨by decide, ?_⟩)) rfl)
  have ha := freshNone s
  have hw' := hw.own (h0None hst ha)
  have kp := kpPush s { cls := .type "list", data := .seq ([] : List Value).toArray }
  have hst' : St h₀ (Φ.own s.heap.objs.size) vs { s with heap := s.heap.push { cls := .type "list", data := .seq ([] : List Value).toArray } } := {
    base := fun b o e => kp.heap b o (hst.base b o e)
    live := fun b hb => by
      rcases hb with hb | rfl
      · obtain ⟨o, e⟩ := hst.live b hb; exact ⟨o, kp.heap b o e⟩
      · exact ⟨_, Heap.get?_push_size _ rfl⟩
    ns := by
      obtain ⟨mc, h1, h2⟩ := hst.ns
      exact ⟨mc, h1.keeps kp.heap, pairedMono h2 fun _ _ y => VOK.fresh ha kp.heap y⟩ }
  refine wpAny_items_cons (wpAny_mono (EvP.bool (w := w) (h₀ := h₀) (Φ := Φ.own s.heap.objs.size) (b := b) (k := ck) (pos := cp) _ hst') (fun vb s₂ h2 => ?_) fun _ _ x => x.elim) rfl
  have hvb : vb = .bool b := h2.2
  subst hvb
  refine wpAny_items_nil ⟨by show 2 ≤ sizeLine; decide, ?_⟩
  have hst₂ := hst'.kept h2.1
  have k3 := kpPush s₂ { cls := .type "tuple", data := .seq ([Value.ref s.heap.objs.size, .bool b] : List Value).toArray }
  have hst₃ := hst₂.kept k3
  have hT : IsTup (s₂.heap.push { cls := .type "tuple", data := .seq ([Value.ref s.heap.objs.size, .bool b] : List Value).toArray }) s₂.heap.objs.size ([Value.ref s.heap.objs.size, .bool b] : List Value).toArray := ⟨_, Heap.get?_push_size _ rfl, rfl, 0, rfl⟩
  have hh : Φ.A.handled = none := hw.room.1
  refine assign_Tuple_tuple hh hT rfl rfl fun h' hext => ?_
  have k4 := extKp (s := { s₂ with heap := s₂.heap.push { cls := .type "tuple", data := .seq ([Value.ref s.heap.objs.size, .bool b] : List Value).toArray } }) hext
  have hst₄ := hst₃.kept k4
  have hl : h'.PlainList s.heap.objs.size #[] := by
    have h0 : (s.heap.push { cls := .type "list", data := .seq ([] : List Value).toArray }).get? s.heap.objs.size = some { cls := .type "list", data := .seq ([] : List Value).toArray } := Heap.get?_push_size _ rfl
    exact ⟨_, k4.heap _ _ (k3.heap _ _ (h2.1.heap _ _ h0))⟩
  refine assignInOrder_cons (PyProof.Rows.assign_Name (storeP (Φ := Φ.own s.heap.objs.size) hw' hx hkx hst₄ (v := .own s.heap.objs.size []) ⟨rfl, _, hl, .nil⟩ (.inr rfl) fun s₅ k5 hs₅ => ?_))
  refine assignInOrder_cons (PyProof.Rows.assign_Name (storeP (Φ := Φ.own s.heap.objs.size) hw' hy hky hs₅ (v := bV b) rfl trivial fun s₆ k6 hs₆ => ?_))
  refine assignInOrder_nil ?_
  refine wpAny_mono (h s.heap.objs.size (freshNotAv hst) hw' s₆ hs₆) (fun f s₇ h7 => ?_) fun _ _ x => x
  refine ownBack hR ha (k := (((kp.trans h2.1).trans k3).trans k4).kb) ?_
  exact ⟨(k5.trans k6).trans h7.1, h7.2⟩

theorem EvP.compE (hw : WF w h₀ Φ) {scope : Scope} {cap : List (Str × Nat)} {capv : List Vl} {x y : Str} {kx ky : VK} {elt iter : Expr} {ifs : List Expr} {pos px py tp : Pos} {tk} {items zs : List Sc} (G : Nat → List Sc) (c : Caps Φ vs scope cap capv [(x, kx), (y, ky)]) (hk : kx ≠ .fre) (hky : ky ≠ .fre)
    (hit : ItX w h₀ Φ vs iter (.Tuple [.Name x px, .Name y py] tk tp) items.length (VP items)) (hn : items.length ≤ 1000)
    (step : ∀ C D X (j : Nat) item, items[j]? = some item → WF w h₀ (compFr scope C D X Φ [(x, kx), (y, ky)] cap) → ∃ b, TsP w h₀ (compFr scope C D X Φ [(x, kx), (y, ky)] cap) (some (iV (j : Nat)) :: some (.sc item) :: capv.map some) ifs b ∧
      (b = true → ∃ z, G j = [z] ∧ EvP w h₀ (compFr scope C D X Φ [(x, kx), (y, ky)] cap) (some (iV (j : Nat)) :: some (.sc item) :: capv.map some) elt (.sc z)) ∧ (b = false → G j = []))
    (hzs : outN G items.length = zs)
    (hsi : ∀ x, foldedSetIterable iter Φ.env x = pure x := by intro _; rfl) :
    EvP w h₀ Φ vs (.ListComp elt [⟨.Tuple [.Name x px, .Name y py] tk tp, iter, ifs, 0⟩] scope pos) (.list zs) :=
  hzs ▸ EvP.comp hw c hit (blockE c hk hky hn G step) hsi
theorem ExS.compE (hw : WF w h₀ Φ) (i : Nat) {z : Str} {kz : VK} {scope : Scope} {cap : List (Str × Nat)} {capv : List Vl} {x y : Str} {kx ky : VK} {elt iter : Expr} {ifs : List Expr} {pos px py tp pz spos : Pos} {tk} {items zs : List Sc} {R : Out → Prop} (G : Nat → List Sc) (c : Caps Φ vs scope cap capv [(x, kx), (y, ky)]) (hk : kx ≠ .fre) (hky : ky ≠ .fre)
    (hit : ItX w h₀ Φ vs iter (.Tuple [.Name x px, .Name y py] tk tp) items.length (VP items)) (hn : items.length ≤ 1000)
    (step : ∀ C D X (j : Nat) item, items[j]? = some item → WF w h₀ (compFr scope C D X Φ [(x, kx), (y, ky)] cap) → ∃ b, TsP w h₀ (compFr scope C D X Φ [(x, kx), (y, ky)] cap) (some (iV (j : Nat)) :: some (.sc item) :: capv.map some) ifs b ∧
      (b = true → ∃ z, G j = [z] ∧ EvP w h₀ (compFr scope C D X Φ [(x, kx), (y, ky)] cap) (some (iV (j : Nat)) :: some (.sc item) :: capv.map some) elt (.sc z)) ∧ (b = false → G j = []))
    (hzs : outN G items.length = zs) (hR : R (.nxt (vs.set i (some (.list zs))))) (hz : Φ.nm[i]? = some (z, kz)) (hkz : kz ≠ .fre) 
    (hsw : swapsWith (.ListComp elt [⟨.Tuple [.Name x px, .Name y py] tk tp, iter, ifs, 0⟩] scope pos) (some (.Name z pz)) spos.line Φ.env = pure true := by first | kernel_rfl! | rfl) 
    (hsi : ∀ x, foldedSetIterable iter Φ.env x = pure x := by intro _; rfl) :
    ExS w h₀ Φ vs (.Assign [.Name z pz] (.ListComp elt [⟨.Tuple [.Name x px, .Name y py] tk tp, iter, ifs, 0⟩] scope pos) spos) R :=
  ExS.comp hw i c hit (blockE c hk hky hn G step) hz hkz hsw (by rw [hzs]; exact hR) hsi

theorem eqStrs {xs : List Str} {x : Str} : ∀ y ∈ xs.map Sc.str, (eqS y (.str x)).isSome = true := fun y hy => by obtain ⟨i, _, rfl⟩ := List.mem_map.mp hy; rfl
theorem anyStrs {xs : List Str} {x : Str} : ((xs.map Sc.str).any fun y => eqB y (.str x)) = xs.contains x := by
  induction xs with
  | nil => rfl
  | cons a xs ih =>
    rw [List.map_cons, List.any_cons, ih, List.contains_cons]
    congr 1
    exact (show (a == x) = (x == a) from BEq.comm)
theorem eqL_str : ∀ xs : List Str, eqL (xs.map .str) (xs.map .str) = true
  | [] => rfl
  | x :: xs => by
    rw [List.map_cons, eqL_c, eqL_str xs, Bool.and_true]
    show (x == x) = true
    exact beq_self_eq_true x
end

/-! the words of a distance -/
theorem fin_split : ∀ d, d < 16 → d ≠ 0 → Txt.split (flagTxt d) ", " = flagNames d := by decide +kernel
theorem fin_splitz : ∀ d, d < 16 → (flagTxt d).length ≤ sizeLine ∧ (Builtin.Str.partsBetween (flagTxt d) (Builtin.Str.occurrences (flagTxt d) ", " 0 (flagTxt d).length ((flagTxt d).length + 1)) (", " : Str).length).length ≤ sizeLine := by decide +kernel
theorem fin_flt : ∀ d, d < 16 → Float64.isFinite (Float64.ofInt ((d : Nat) : Int)) = true ∧ PySem.Flt.toInt Float64.truncOf (Float64.ofInt ((d : Nat) : Int)) = d ∧ (Float64.cmpInt (Float64.ofInt ((d : Nat) : Int)) d == some .eq) = true := by decide +kernel
noncomputable def word0 (d : Nat) : Str := (flagNames d).headD ""
theorem fin_head : ∀ d, d < 16 → d ≠ 0 → (flagNames d)[0]? = some (word0 d) := by decide +kernel
theorem fin_word : ∀ d, d < 16 → d ≠ 0 → ∀ j, j < 4 → (flagNm j == word0 d) = decide (d % 2 ^ (j + 1) = 2 ^ j) := by decide +kernel

noncomputable def ownG (d : Nat) (j : Nat) : List Sc := if d.testBit j then [.str (flagNm j)] else []
theorem ownG_out : ∀ d : Nat, outN (ownG d) 4 = (flagNames d).map .str := by
  intro d
  have main : ∀ n, outN (ownG d) n = (nmUpto d n).map .str := by
    intro n
    induction n with
    | zero => rfl
    | succ n ih =>
      rw [outN_succ, ih, nmUpto_succ, List.map_append]
      congr 1
      unfold ownG
      split <;> rfl
  exact main 4

/-- the first words of all distances -/
noncomputable def nearW (far : Nat) (B : List Nat) : List Str := (B.filter fun near => decide (near < far)).map fun near => word0 (far - near)
noncomputable def allW (A B : List Nat) : List Str := B.flatMap fun far => nearW far A
noncomputable def fstB (A : List Nat) (j : Nat) : Bool := A.any fun far => A.any fun near => decide (near < far) && decide ((far - near) % 2 ^ (j + 1) = 2 ^ j)
noncomputable def fstV (A : List Nat) : List Nat := ((List.range 4).filter (fstB A)).map fun j => 2 ^ j
theorem nearW_len (far B) : (nearW far B).length ≤ B.length := by unfold nearW; rw [List.length_map]; exact List.length_filter_le ..
theorem allW_len (A) : ∀ B, (allW A B).length ≤ B.length * A.length
  | [] => by simp [allW]
  | b :: B => by
    have := allW_len A B
    have h2 := nearW_len b A
    unfold allW at this ⊢
    rw [List.flatMap_cons, List.length_append, List.length_cons, Nat.add_mul]; (first | exact om216 h2 this | omega)
theorem fst_has {A : List Nat} (hA : ∀ p ∈ A, p < 16) {j : Nat} (hj : j < 4) : (allW A A).contains (flagNm j) = fstB A j := by
  rw [Bool.eq_iff_iff, List.contains_iff_mem]
  unfold allW fstB nearW
  rw [List.mem_flatMap, List.any_eq_true]
  constructor
  · rintro ⟨far, hf, hm⟩
    obtain ⟨near, hn, e⟩ := List.mem_map.mp hm
    obtain ⟨hn1, hn2⟩ := List.mem_filter.mp hn
    have hlt : near < far := by simpa using hn2
    have hf16 := hA far hf
    refine ⟨far, hf, List.any_eq_true.mpr ⟨near, hn1, ?_⟩⟩
    have hw := fin_word (far - near) (by (first | exact om217 hf16 | omega)) (by (first | exact om218 hlt | omega)) j hj
    rw [← e, beq_self_eq_true] at hw
    rw [← hw, hn2]; rfl
  · rintro ⟨far, hf, hm⟩
    obtain ⟨near, hn1, hh⟩ := List.any_eq_true.mp hm
    rw [Bool.and_eq_true] at hh
    have hlt : near < far := by simpa using hh.1
    have hf16 := hA far hf
    refine ⟨far, hf, List.mem_map.mpr ⟨near, List.mem_filter.mpr ⟨hn1, hh.1⟩, ?_⟩⟩
    have hw := fin_word (far - near) (by (first | exact om217 hf16 | omega)) (by (first | exact om218 hlt | omega)) j hj
    rw [hh.2] at hw
    exact (beq_iff_eq.mp hw).symm

noncomputable def fstG (A : List Nat) (j : Nat) : List Sc := if fstB A j then [.int ((2 ^ j : Nat) : Int)] else []
theorem fstG_out (A) : outN (fstG A) 4 = (nI (fstV A)).map .int := by
  have main : ∀ n, outN (fstG A) n = (nI (((List.range n).filter (fstB A)).map fun j => 2 ^ j)).map .int := by
    intro n
    induction n with
    | zero => rfl
    | succ n ih =>
      rw [outN_succ, ih, List.range_succ, List.filter_append]
      unfold nI
      rw [List.map_append, List.map_append, List.map_append]
      congr 1
      unfold fstG
      rw [List.filter_cons]
      split <;> rfl
  exact main 4
end Mine

namespace Mine

theorem nearW_take {far : Nat} {B : List Nat} {i near : Nat} (h : B[i]? = some near) : nearW far (B.take (i + 1)) = nearW far (B.take i) ++ (if near < far then [word0 (far - near)] else []) := by
  unfold nearW
  rw [List.take_add_one, h, Option.toList_some, List.filter_append, List.map_append]
  congr 1
  by_cases q : near < far
  · rw [if_pos q, List.filter_cons, if_pos (by simpa using q)]; rfl
  · rw [if_neg q, List.filter_cons, if_neg (by simpa using q)]; rfl
theorem allW_take {A B : List Nat} {j far : Nat} (h : B[j]? = some far) : allW A (B.take (j + 1)) = allW A (B.take j) ++ nearW far A := by
  unfold allW
  rw [List.take_add_one, h, Option.toList_some, List.flatMap_append]
  simp
theorem nameAt {j : Nat} {item : Sc} (h : ([.str "OPTIMIZED", .str "NEWLOCALS", .str "VARARGS", .str "VARKEYWORDS"] : List Sc)[j]? = some item) : item = .str (flagNm j) ∧ j < 4 := by
  rcases j with _ | _ | _ | _ | j
  · cases h; exact ⟨rfl, by decide⟩
  · cases h; exact ⟨rfl, by decide⟩
  · cases h; exact ⟨rfl, by decide⟩
  · cases h; exact ⟨rfl, by decide⟩
  · simp at h

section
variable {w : World} {h₀ : Heap} {Φ : Fm} {vs : List (Option Vl)}
theorem splitCal {d : Nat} (hd : d < 16) (h0 : d ≠ 0) : CalP w h₀ Φ vs (.builtin "str.split") [sV (flagTxt d), sV ", "] (.list ((flagNames d).map .str)) := by
  have h := CalP.split (w := w) (h₀ := h₀) (Φ := Φ) (vs := vs) (x := flagTxt d) (y := ", ") (by decide) (fin_splitz d hd).1 (fin_splitz d hd).2
  rw [fin_split d hd h0] at h
  exact h
theorem intCal (hw : WF w h₀ Φ) {d : Nat} (hd : d < 16) : CalP w h₀ Φ vs (.type "int") [fV (Float64.ofInt ((d : Nat) : Int))] (iV (d : Nat)) := by
  have h := CalP.intF (vs := vs) hw (fin_flt d hd).1
  rw [(fin_flt d hd).2.1] at h
  exact h
theorem eqCal (hw : WF w h₀ Φ) {xs : List Str} : CmpP w h₀ Φ vs .Eq (.list (xs.map .str)) (.list (xs.map .str)) true := by
  have h := CmpP.eqLs (vs := vs) hw (xs := xs.map .str) (ys := xs.map .str) (fun x hx y hy => by
    obtain ⟨_, _, rfl⟩ := List.mem_map.mp hx; obtain ⟨_, _, rfl⟩ := List.mem_map.mp hy; rfl)
  rw [eqL_str] at h
  exact h
end

variable {w : World} {h₀ : Heap}
theorem dist_fn (gd : Gd w h₀) {A : List Nat} (hA : ∀ p ∈ A, p < 16) (hl : A.length ≤ 16) {a b : Nat} (ha : a < 4) (hb : b < 4) :
    Fn w h₀ 3 102 [isV (nI A), fV (quarter a), fV (quarter b)] (.tup [.list ((nI (fstV A)).map .int), .sc (.bool true)]) := by
  refine Fn.of gd (D_dist w) [("places", .loc), ("share", .loc), ("level", .loc)] [("firsts", .cel), ("good", .loc), ("far", .cel), ("near", .cel), ("told", .loc), ("words", .loc), ("own", .loc)] rfl rfl (by decide +kernel) (by decide +kernel) rfl fun L Ar av hw => ?_
  refine ExP.newOwnT hw 3 4 rfl nfC rfl nfL retOnly (by kernel_rfl!) (by kernel_rfl!) fun ad had hw' => ?_
  have hlA : ∀ (B : List Nat), B.length ≤ 16 → (allW A B).length ≤ 256 := fun B hB => Nat.le_trans (allW_len A B) (Nat.le_trans (Nat.mul_le_mul hB hl) (by decide))
  refine ExP.cons (ExS.forL hw' 5 rfl nfC (ItP.list hw' (xs := (nI A).map .int) (EvP.name hw' 0 rfl rfl))
    (fun j vs => ∃ o5 o6 o7 o8 o9 : Option Vl, vs = [some (isV (nI A)), some (fV (quarter a)), some (fV (quarter b)), some (.own ad ((allW A (A.take j)).map .str)), some (bV true), o5, o6, o7, o8, o9] ∧ ([o5, o6, o7, o8, o9].all fun o => o.all Vl.pure) = true) ?_ ?_ ?_)
  · exact ⟨none, none, none, none, none, rfl, rfl⟩
  · rintro j item vs' X hitem ⟨o5, o6, o7, o8, o9, rfl, hpu⟩ hwX
    obtain ⟨far, hfar, rfl⟩ : ∃ p, A[j]? = some p ∧ item = .int (p : Nat) := by
      rw [List.getElem?_map, nI_get] at hitem
      cases e : A[j]? with
      | none => rw [e] at hitem; cases hitem
      | some p => rw [e] at hitem; exact ⟨p, rfl, by simpa using hitem.symm⟩
    have hfarm := List.mem_of_getElem? hfar
    have hf16 := hA far hfarm
    simp only [List.all_cons, List.all_nil, Bool.and_true, Bool.and_eq_true] at hpu
    refine ExP.cons (ExS.forL hwX 6 rfl nfC (ItP.list hwX (xs := (nI A).map .int) (EvP.name hwX 0 rfl rfl))
      (fun i vs => ∃ o6 o7 o8 o9 : Option Vl, vs = [some (isV (nI A)), some (fV (quarter a)), some (fV (quarter b)), some (.own ad ((allW A (A.take j) ++ nearW far (A.take i)).map .str)), some (bV true), some (iV (far : Nat)), o6, o7, o8, o9] ∧ ([o6, o7, o8, o9].all fun o => o.all Vl.pure) = true) ?_ ?_ ?_)
    · refine ⟨o6, o7, o8, o9, ?_, by simp [hpu]⟩
      simp [nearW]
    · rintro i item vs' Y hitem ⟨o6, o7, o8, o9, rfl, hpu⟩ hwY
      obtain ⟨near, hnear, rfl⟩ : ∃ p, A[i]? = some p ∧ item = .int (p : Nat) := by
        rw [List.getElem?_map, nI_get] at hitem
        cases e : A[i]? with
        | none => rw [e] at hitem; cases hitem
        | some p => rw [e] at hitem; exact ⟨p, rfl, by simpa using hitem.symm⟩
      have hn16 := hA near (List.mem_of_getElem? hnear)
      have hlen1 : (allW A (A.take j)).length ≤ 256 := hlA _ (by simp; (first | exact om219 hl | omega))
      have hlen2 : (nearW far (A.take i)).length ≤ 16 := Nat.le_trans (nearW_len far _) (by simp; (first | exact om219 hl | omega))
      simp only [List.all_cons, List.all_nil, Bool.and_true, Bool.and_eq_true] at hpu
      refine ExP.cons (ExS.ite (TrP.cmp (EvP.name hwY 6 rfl rfl) (EvP.name hwY 5 rfl rfl) CmpP.ltI) (fun q => ?_) fun q => ExP.nil ?_)
      · have hlt : near < far := by
          have : ((near : Nat) : Int) < ((far : Nat) : Int) := by simpa using q
          (first | exact om117 this | omega)
        obtain ⟨d, hd⟩ : ∃ d, far - near = d := ⟨_, rfl⟩
        have hd0 : d ≠ 0 := by (first | exact om220 hd hlt | omega)
        have hd16 : d < 16 := by (first | exact om221 hd hf16 | omega)
        have eD : ((far : Nat) : Int) - ((near : Nat) : Int) = ((d : Nat) : Int) := by (first | exact om222 hd0 hd | omega)
        have eT : (16 : Int) + ((far : Nat) : Int) - ((near : Nat) : Int) = ((16 + d : Nat) : Int) := by (first | exact om223 eD | omega)
        obtain ⟨f1, f2, f3⟩ := fin_flt d hd16
        have htold := told_fn hwY.gd (n := 16 + d) (by (first | exact om224 hd16 | omega)) ha hb
        rw [show (16 + d) % 16 = d by (first | exact om225 hd16 | omega), ← eT] at htold
        refine ExP.cons (ExS.set hwY 7 (fV (Float64.ofInt ((d : Nat) : Int))) (EvP.fcall hwY 2 htold (g_told w) (D_told w).keep (by show 2 ≤ 2; decide) ?_) ?_ nfL)
        · exact EvL.cons (EvP.bin (EvP.bin EvP.int (EvP.name hwY 5 rfl rfl) BinP.add) (EvP.name hwY 6 rfl rfl) BinP.sub) (EvL.cons (EvP.name hwY 1 rfl rfl) (EvL.cons (EvP.name hwY 2 rfl rfl) EvL.nil))
        refine ExP.cons (ExS.set hwY 8 (.list ((flagNames d).map .str)) (EvP.mcall (splitCal hd16 hd0) ofT.str F.plainAttrs_str F.slot_str_split F.type_str_split (EvP.fcall hwY 1 (pretty_fn hwY.gd (d := d) (by (first | exact om226 hd0 | omega)) hd16) (g_pretty w) (D_pretty w).keep (by show 1 ≤ 2; decide) (EvL.one (EvP.tcall hwY (intCal hwY hd16) boot_int (EvL.one (EvP.name hwY 7 rfl rfl) (by kernel_rfl!))) (by kernel_rfl!))) (EvL.one EvP.str)) ?_ nfL)
        refine ExP.cons (ExS.compE hwY 9 (zs := (flagNames d).map .str) (items := [.str "OPTIMIZED", .str "NEWLOCALS", .str "VARARGS", .str "VARKEYWORDS"]) (ownG d) (caps2 (x := "far") (i := 5) (y := "near") (j := 6) (v := iV (far : Nat)) (u := iV (near : Nat)) (k := .cel) (k' := .cel) rfl nlC rfl rfl rfl nlC rfl rfl (by decide +kernel) (by decide +kernel)) nfL nfL
          (ItX.enum hwY rfl (by kernel_rfl!) (by kernel_rfl!) (EvP.call0 hwY 1 (by kernel_rfl!) (g_names w) (by decide) (D_names w).keep (names_fn hwY.gd) (by show 1 ≤ 2; decide))) (by decide) ?_ (ownG_out d) ?_ rfl nfL)
        · intro C D X' jj item hjj wf'
          obtain ⟨rfl, hj4⟩ := nameAt hjj
          have hbits : Builtin.Int.intBits 2 = 2 := by decide +kernel
          have hpw : (2 : Int) ^ ((jj : Nat) : Int).toNat ≠ 0 := by rw [Int.toNat_natCast]; exact Int.ne_of_gt (Int.pow_pos (by decide))
          have hpl : ((2 : Int) ^ ((jj : Nat) : Int).toNat).natAbs.log2 < 9000 := by
            rw [Int.toNat_natCast, Int.natAbs_pow]
            show (2 ^ jj).log2 < 9000
            rw [Nat.log2_two_pow]; (first | exact om227 hj4 | omega)
          refine ⟨d.testBit jj, TsP.one ?_, fun hb' => ⟨.str (flagNm jj), by unfold ownG; rw [if_pos hb'], EvP.name wf' 1 rfl rfl⟩, fun hb' => by unfold ownG; rw [if_neg (by rw [hb']; decide)]⟩
          rw [← bitTest d jj (by (first | exact om228 hj4 | omega)), ← eD]
          exact TrP.ofInt (EvP.bin (EvP.bin (EvP.bin (EvP.name wf' 2 rfl rfl) (EvP.name wf' 3 rfl rfl) BinP.sub) (EvP.bin EvP.int (EvP.name wf' 0 rfl rfl) (BinP.pow (by (first | exact om73 | omega)) (by rw [hbits]; (first | exact om229 hj4 | omega)))) (BinP.fdiv hpw hpl)) EvP.int (BinP.fmod (by decide)))
        refine ExP.cons (ExS.set hwY 4 (bV true) (EvP.and (b := true) (c := true) (EvP.name hwY 4 rfl rfl) fun _ => EvP.and (b := true) (c := true) (f3 ▸ EvP.cmp (EvP.name hwY 7 rfl rfl) (eD ▸ EvP.bin (EvP.name hwY 5 rfl rfl) (EvP.name hwY 6 rfl rfl) BinP.sub) CmpP.eqFI) fun _ => EvP.and1 (EvP.cmp (EvP.name hwY 8 rfl rfl) (EvP.name hwY 9 rfl rfl) (eqCal hwY))) ?_ nfL)
        have hx : ((flagNames d).map Sc.str)[(0 : Int).toNat]? = some (.str (word0 d)) := by
          show ((flagNames d).map Sc.str)[0]? = _
          rw [List.getElem?_map, fin_head d hd16 hd0]; rfl
        refine ExP.cons (ExS.append hwY 3 rfl rfl rfl (EvP.item (EvP.name hwY 8 rfl rfl) EvP.int (by decide) (by decide) hx) (by rw [List.length_map, List.length_append]; (first | exact om230 hlen2 hlen1 | omega)) ?_ rfl)
        refine ExP.nil (ExP.nil ?_)
        refine ⟨some (iV (near : Nat)), some (fV (Float64.ofInt ((d : Nat) : Int))), some (.list ((flagNames d).map .str)), some (.list ((flagNames d).map .str)), ?_, rfl⟩
        rw [nearW_take hnear, if_pos hlt, hd, ← List.append_assoc, List.map_append (l₁ := allW A (A.take j) ++ nearW far (A.take i))]
        rfl
      · have hge : ¬ near < far := by
          have : ¬ ((near : Nat) : Int) < ((far : Nat) : Int) := by simpa using q
          (first | exact om231 this | omega)
        refine ExP.nil ?_
        refine ⟨some (iV (near : Nat)), o7, o8, o9, ?_, by simp [hpu, Vl.pure]⟩
        rw [nearW_take hnear, if_neg hge, List.append_nil]
        rfl
    · rintro vs' ⟨o6, o7, o8, o9, rfl, hpu⟩
      refine ExP.nil (ExP.nil ?_)
      refine ⟨some (iV (far : Nat)), o6, o7, o8, o9, ?_, by simpa [Vl.pure] using hpu⟩
      rw [allW_take hfar, List.length_map, nI_len, List.take_length]
  · rintro vs' ⟨o5, o6, o7, o8, o9, rfl, hpu⟩
    rw [List.length_map, nI_len, List.take_length]
    refine ExP.nil (thenN ?_)
    refine ExP.freeze had 3 rfl retOnly ?_ ?_
    · simp only [List.all_cons, List.all_nil, Bool.and_true, Bool.and_eq_true] at hpu
      simp [hpu, Vl.pure]
    refine ExP.cons (ExS.ret hw (EvP.tup (ws := [.list ((nI (fstV A)).map .int), .sc (.bool true)]) (EvL.cons ?_ (EvL.cons (EvP.name hw 4 rfl rfl) EvL.nil)) (by simp)) rfl)
    refine EvP.compE hw (items := [.str "OPTIMIZED", .str "NEWLOCALS", .str "VARARGS", .str "VARKEYWORDS"]) (fstG A) (caps1 (x := "firsts") (i := 3) (v := .list ((allW A A).map .str)) (k := .cel) rfl nlC rfl rfl (by decide +kernel) (by decide +kernel)) nfL nfL
      (ItX.enum hw rfl (by kernel_rfl!) (by kernel_rfl!) (EvP.call0 hw 1 (by kernel_rfl!) (g_names w) (by decide) (D_names w).keep (names_fn hw.gd) (by show 1 ≤ 2; decide))) (by decide) ?_ (fstG_out A)
    intro C D X' jj item hjj wf'
    obtain ⟨rfl, hj4⟩ := nameAt hjj
    have hbits : Builtin.Int.intBits 2 = 2 := by decide +kernel
    refine ⟨fstB A jj, TsP.one ?_, fun hb' => ⟨.int ((2 ^ jj : Nat) : Int), by unfold fstG; rw [if_pos hb'], ?_⟩, fun hb' => by unfold fstG; rw [if_neg (by rw [hb']; decide)]⟩
    · rw [← fst_has hA hj4, ← anyStrs]
      exact TrP.cmp (EvP.name wf' 1 rfl rfl) (EvP.name wf' 2 rfl rfl) (CmpP.isIn eqStrs)
    · have e2 : ((2 ^ jj : Nat) : Int) = (2 : Int) ^ ((jj : Nat) : Int).toNat := by rw [Int.toNat_natCast]; push_cast; rfl
      rw [e2]
      exact EvP.bin EvP.int (EvP.name wf' 0 rfl rfl) (BinP.pow (by (first | exact om73 | omega)) (by rw [hbits]; (first | exact om229 hj4 | omega)))
end Mine

namespace Mine

/-! a sum of weighted powers -/
noncomputable def evf (b : Int) (f : Nat → Int) : Nat → Int
  | 0 => 0
  | k + 1 => evf b f k + f k * b ^ k
theorem evf_n {b : Int} {f : Nat → Int} : evf b f 0 = 0 := rfl
theorem evf_c {b : Int} {f : Nat → Int} {k : Nat} : evf b f (k + 1) = evf b f k + f k * b ^ k := rfl
theorem evf_congr {b : Int} {f g : Nat → Int} : ∀ k, (∀ r, r < k → f r = g r) → evf b f k = evf b g k
  | 0, _ => rfl
  | k + 1, h => by rw [evf_c, evf_c, evf_congr k fun r hr => h r (by (first | exact om29 hr | omega)), h k (by (first | exact om30 | omega))]
theorem evf_delta {b : Int} {f g : Nat → Int} {r₀ : Nat} {v : Int} (h : ∀ r, g r = f r + if r = r₀ then v else 0) : ∀ k, r₀ < k → evf b g k = evf b f k + v * b ^ r₀
  | k + 1, hk => by
    rw [evf_c, evf_c, h k]
    by_cases q : r₀ = k
    · subst q
      have e : evf b g r₀ = evf b f r₀ := evf_congr r₀ fun r hr => by rw [h r, if_neg (by (first | exact om282 hr | omega)), Int.add_zero]
      rw [e, if_pos rfl, Int.add_mul]; (first | exact om283 | omega)
    · rw [if_neg (by (first | exact om284 q | omega)), Int.add_zero, evf_delta h k (by (first | exact om285 q hk | omega))]; (first | exact om286 | omega)
theorem evf_zero {b : Int} {f : Nat → Int} : ∀ k, (∀ r, r < k → f r = 0) → evf b f k = 0
  | 0, _ => rfl
  | k + 1, h => by rw [evf_c, evf_zero k fun r hr => h r (by (first | exact om29 hr | omega)), h k (by (first | exact om30 | omega))]; simp
theorem evf_bound {b : Int} (hb : 1 ≤ b) {f : Nat → Int} : ∀ k, (∀ r, r < k → -(b - 1) ≤ f r ∧ f r ≤ b - 1) → -(b ^ k - 1) ≤ evf b f k ∧ evf b f k ≤ b ^ k - 1
  | 0, _ => by simp [evf_n, evf_c]
  | k + 1, h => by
    obtain ⟨h1, h2⟩ := evf_bound hb k fun r hr => h r (by (first | exact om29 hr | omega))
    obtain ⟨h3, h4⟩ := h k (by (first | exact om30 | omega))
    have hp : (0 : Int) ≤ b ^ k := Int.pow_nonneg (by (first | exact om287 h4 h3 | omega))
    have h5 : f k * b ^ k ≤ (b - 1) * b ^ k := Int.mul_le_mul_of_nonneg_right h4 hp
    have h6 : -(b - 1) * b ^ k ≤ f k * b ^ k := Int.mul_le_mul_of_nonneg_right h3 hp
    have h7 : (b - 1) * b ^ k = b ^ (k + 1) - b ^ k := by rw [Int.pow_succ, Int.sub_mul, Int.mul_comm b]; (first | exact om288 | omega)
    have h8 : -(b - 1) * b ^ k = -(b ^ (k + 1) - b ^ k) := by rw [Int.neg_mul, h7]
    rw [evf_c]
    (first | exact om289 h8 h7 h6 h5 h2 h1 | omega)
theorem evf_null {b : Int} (hb : 1 ≤ b) {f : Nat → Int} : ∀ k, (∀ r, r < k → -(b - 1) ≤ f r ∧ f r ≤ b - 1) → evf b f k = 0 → ∀ r, r < k → f r = 0
  | 0, _, _ => fun r hr => absurd hr (by (first | exact om290 | omega))
  | k + 1, h, hz => by
    obtain ⟨h1, h2⟩ := evf_bound hb k fun r hr => h r (by (first | exact om29 hr | omega))
    rw [evf_c] at hz
    have hp : (0 : Int) < b ^ k := Int.pow_pos (by (first | exact om291 hb | omega))
    have hk : f k = 0 := by
      by_cases q : f k = 0
      · exact q
      · exfalso
        have : 1 ≤ f k ∨ f k ≤ -1 := by (first | exact om292 q | omega)
        rcases this with q | q
        · have : 1 * b ^ k ≤ f k * b ^ k := Int.mul_le_mul_of_nonneg_right q (by (first | exact om293 hp | omega))
          (first | exact om294 this h1 hz | omega)
        · have : f k * b ^ k ≤ -1 * b ^ k := Int.mul_le_mul_of_nonneg_right q (by (first | exact om293 hp | omega))
          (first | exact om295 this h2 hz | omega)
    rw [hk] at hz
    have hz' : evf b f k = 0 := by simpa using hz
    intro r hr
    by_cases q : r = k
    · rw [q, hk]
    · exact evf_null hb k (fun r hr => h r (by (first | exact om29 hr | omega))) hz' r (by (first | exact om285 q hr | omega))
theorem evf_dvd {b : Int} (hb : 1 ≤ b) {f : Nat → Int} {k : Nat} (h : ∀ r, r < k → -(b - 1) ≤ f r ∧ f r ≤ b - 1) (hd : (b ^ k + 1) ∣ evf b f k) : ∀ r, r < k → f r = 0 := by
  obtain ⟨h1, h2⟩ := evf_bound hb k h
  have hp : (0 : Int) < b ^ k := Int.pow_pos (by (first | exact om291 hb | omega))
  refine evf_null hb k h ?_
  obtain ⟨q, hq⟩ := hd
  by_cases q0 : q = 0
  · rw [hq, q0, Int.mul_zero]
  · exfalso
    have : 1 ≤ q ∨ q ≤ -1 := by (first | exact om292 q0 | omega)
    rcases this with h3 | h3
    · have : (b ^ k + 1) * 1 ≤ (b ^ k + 1) * q := Int.mul_le_mul_of_nonneg_left h3 (by (first | exact om296 hp | omega))
      (first | exact om297 this hq h2 | omega)
    · have : (b ^ k + 1) * q ≤ (b ^ k + 1) * (-1) := Int.mul_le_mul_of_nonneg_left h3 (by (first | exact om296 hp | omega))
      (first | exact om298 this hq h1 | omega)

/-! powers of a list's places -/
noncomputable def powS (b : Int) : List Nat → Int
  | [] => 0
  | x :: X => b ^ x + powS b X
theorem powS_n {b : Int} : powS b [] = 0 := rfl
theorem powS_c {b : Int} {x : Nat} {X : List Nat} : powS b (x :: X) = b ^ x + powS b X := rfl
theorem powS_append (b : Int) : ∀ X Y, powS b (X ++ Y) = powS b X + powS b Y
  | [], Y => by simp [powS_n, powS_c]
  | x :: X, Y => by rw [List.cons_append, powS_c, powS_c, powS_append b X Y]; (first | exact om283 | omega)
theorem powS_count {b : Int} {k : Nat} : ∀ (X : List Nat), (∀ x ∈ X, x < k) → powS b X = evf b (fun s => ((X.count s : Nat) : Int)) k
  | [], _ => (evf_zero k fun r _ => by simp).symm
  | x :: X, h => by
    have hd := evf_delta (b := b) (f := fun s => ((X.count s : Nat) : Int)) (g := fun s => (((x :: X).count s : Nat) : Int)) (r₀ := x) (v := 1) (fun r => by
      rw [List.count_cons]
      by_cases q : r = x
      · subst q; simp
      · have : (x == r) = false := by simpa using fun e => q e.symm
        rw [this, if_neg q]; simp) k (h x List.mem_cons_self)
    rw [powS_c, powS_count X fun y hy => h y (List.mem_cons_of_mem _ hy), hd]
    (first | exact om299 | omega)

/-- how many places lie in a class -/
noncomputable def cN (X : List Nat) (j r : Nat) : Nat := X.countP fun x => x % 2 ^ j == r
theorem cN_cons (x X j r) : cN (x :: X) j r = cN X j r + if x % 2 ^ j = r then 1 else 0 := by
  unfold cN
  rw [List.countP_cons]
  by_cases h : x % 2 ^ j = r
  · rw [if_pos h, if_pos (by simpa using h)]
  · rw [if_neg h, if_neg (by simpa using h)]
theorem mod_two_pow (x j : Nat) : x % 2 ^ (j + 1) = x % 2 ^ j + 2 ^ j * (x / 2 ^ j % 2) := by rw [Nat.pow_succ, Nat.mod_mul]
theorem cN_split (X : List Nat) {j r : Nat} (hr : r < 2 ^ j) : cN X j r = cN X (j + 1) r + cN X (j + 1) (r + 2 ^ j) := by
  induction X with
  | nil => rfl
  | cons x X ih =>
    rw [cN_cons, cN_cons, cN_cons, ih, mod_two_pow]
    have h1 := Nat.mod_lt x (Nat.pow_pos (n := j) (show 0 < 2 by decide))
    have h2 := Nat.mod_lt (x / 2 ^ j) (show 2 > 0 by decide)
    generalize x / 2 ^ j % 2 = q at *
    generalize x % 2 ^ j = m at *
    have : q = 0 ∨ q = 1 := by (first | exact om205 h2 | omega)
    rcases this with rfl | rfl
    · by_cases e : m = r
      · rw [if_pos e, if_pos (by omega), if_neg (by (first | exact om300 h1 | omega))]; (first | exact om301 | omega)
      · rw [if_neg e, if_neg (by omega), if_neg (by (first | exact om300 h1 | omega))]; (first | exact om302 | omega)
    · by_cases e : m = r
      · rw [if_pos e, if_neg (by (first | exact om303 e h1 | omega)), if_pos (by (first | exact om304 e | omega))]; (first | exact om305 | omega)
      · rw [if_neg e, if_neg (by (first | exact om306 hr | omega)), if_neg (by (first | exact om307 e | omega))]; (first | exact om302 | omega)
theorem cN_zero (X : List Nat) : cN X 0 0 = X.length := by
  unfold cN
  rw [List.countP_eq_length]
  intro x _
  simp [Nat.mod_one]
theorem cN_le (X j r) : cN X j r ≤ X.length := List.countP_le_length

/-- the signed figures of the powers' sum -/
noncomputable def sg (X : List Nat) (j r : Nat) : Int := (cN X (j + 1) r : Nat) - (cN X (j + 1) (r + 2 ^ j) : Nat)
theorem pow_fold (b : Int) (j x : Nat) : ∃ q, b ^ x = (if x / 2 ^ j % 2 = 0 then b ^ (x % 2 ^ j) else -b ^ (x % 2 ^ j)) + (b ^ 2 ^ j + 1) * q := by
  have main : ∀ d, ∃ q, (b ^ 2 ^ j) ^ d = (if d % 2 = 0 then 1 else -1) + (b ^ 2 ^ j + 1) * q := by
    intro d
    induction d with
    | zero => exact ⟨0, by simp⟩
    | succ d ih =>
      obtain ⟨q, hq⟩ := ih
      have h2 : d % 2 = 0 ∨ d % 2 = 1 := by (first | exact om308 | omega)
      rcases h2 with h | h
      · rw [if_pos h] at hq
        rw [if_neg (by (first | exact om309 h | omega)), Int.pow_succ, hq]
        exact ⟨1 + b ^ 2 ^ j * q, by grind⟩
      · rw [if_neg (by (first | exact om310 h | omega))] at hq
        rw [if_pos (by (first | exact om311 h | omega)), Int.pow_succ, hq]
        exact ⟨-1 + b ^ 2 ^ j * q, by grind⟩
  obtain ⟨q, hq⟩ := main (x / 2 ^ j)
  have hx : b ^ x = (b ^ 2 ^ j) ^ (x / 2 ^ j) * b ^ (x % 2 ^ j) := by
    rw [← Int.pow_mul, ← Int.pow_add, Nat.div_add_mod]
  rw [hx, hq]
  split
  · exact ⟨q * b ^ (x % 2 ^ j), by grind⟩
  · exact ⟨q * b ^ (x % 2 ^ j), by grind⟩
theorem powS_fold (b : Int) (j : Nat) : ∀ X, ∃ q, powS b X = evf b (sg X j) (2 ^ j) + (b ^ 2 ^ j + 1) * q
  | [] => ⟨0, by rw [evf_zero _ fun r _ => by simp [sg, cN]]; simp [powS_n, powS_c]⟩
  | x :: X => by
    obtain ⟨q, hq⟩ := powS_fold b j X
    obtain ⟨q', hq'⟩ := pow_fold b j x
    have hr := Nat.mod_lt x (Nat.pow_pos (n := j) (show 0 < 2 by decide))
    have hm := mod_two_pow x j
    have h2 := Nat.mod_lt (x / 2 ^ j) (show 2 > 0 by decide)
    rw [powS_c, hq, hq']
    have hd : ∀ r, r < 2 ^ j → sg (x :: X) j r = sg X j r + if r = x % 2 ^ j then (if x / 2 ^ j % 2 = 0 then 1 else -1) else 0 := by
      intro r hrr
      unfold sg
      rw [cN_cons, cN_cons, hm]
      generalize x / 2 ^ j % 2 = d at *
      generalize x % 2 ^ j = m at *
      have : d = 0 ∨ d = 1 := by (first | exact om205 h2 | omega)
      rcases this with rfl | rfl
      · by_cases e : r = m
        · subst e; rw [if_pos (by (first | exact om312 | omega)), if_neg (by (first | exact om313 hr | omega))]; simp; (first | exact om314 | omega)
        · rw [if_neg (by (first | exact om315 e | omega)), if_neg (by (first | exact om300 hr | omega)), if_neg e]; simp
      · by_cases e : r = m
        · subst e; rw [if_neg (by (first | exact om316 hr | omega)), if_pos (by (first | exact om317 | omega))]; simp; (first | exact om318 | omega)
        · rw [if_neg (by (first | exact om306 hrr | omega)), if_neg (by (first | exact om319 e | omega)), if_neg e]; simp
    have he : evf b (sg (x :: X) j) (2 ^ j) = evf b (fun r => sg X j r + if r = x % 2 ^ j then (if x / 2 ^ j % 2 = 0 then 1 else -1) else 0) (2 ^ j) := evf_congr _ hd
    rw [he, evf_delta (f := sg X j) (r₀ := x % 2 ^ j) (fun r => rfl) _ hr]
    refine ⟨q + q', ?_⟩
    split <;> grind

noncomputable def EP (X : List Nat) (j : Nat) : Prop := ∀ r, r < 2 ^ j → cN X (j + 1) r = cN X (j + 1) (r + 2 ^ j)
theorem EP_iff {b : Int} {X : List Nat} {j : Nat} (hb : 1 ≤ b) (h : ∀ r, ((cN X (j + 1) r : Nat) : Int) ≤ b - 1) : (b ^ 2 ^ j + 1) ∣ powS b X ↔ EP X j := by
  obtain ⟨q, hq⟩ := powS_fold b j X
  constructor
  · intro hd
    have hd' : (b ^ 2 ^ j + 1) ∣ evf b (sg X j) (2 ^ j) := by
      have : evf b (sg X j) (2 ^ j) = powS b X - (b ^ 2 ^ j + 1) * q := by (first | exact om320 hq | omega)
      rw [this]; exact Int.dvd_sub hd (Int.dvd_mul_right ..)
    have hz := evf_dvd hb (fun r _ => by have h1 := h r; have h2 := h (r + 2 ^ j); unfold sg; (first | exact om321 h2 h1 | omega)) hd'
    intro r hr
    have := hz r hr
    unfold sg at this; (first | exact om322 this | omega)
  · intro he
    rw [hq, evf_zero _ fun r hr => by have := he r hr; unfold sg; (first | exact om323 this | omega)]
    simp
end Mine

namespace Mine

noncomputable def pe (e : Nat → Bool) (j : Nat) : Nat := 2 ^ ((List.range 4).countP fun i => decide (j ≤ i) && e i)
theorem pe_four (e) : pe e 4 = 1 := by unfold pe; simp [List.range, List.range.loop]
theorem pe_step (e : Nat → Bool) {j : Nat} (hj : j < 4) : pe e j = pe e (j + 1) * (if e j then 2 else 1) := by
  unfold pe
  have : j = 0 ∨ j = 1 ∨ j = 2 ∨ j = 3 := by (first | exact om67 hj | omega)
  rcases this with rfl | rfl | rfl | rfl <;>
    (simp only [List.range, List.range.loop, List.countP_cons, List.countP_nil]; generalize e 0 = a; generalize e 1 = b; generalize e 2 = c; generalize e 3 = d; revert a b c d; decide)
theorem pe_pos (e j) : 0 < pe e j := Nat.pow_pos (by decide)
theorem pe_zero (e : Nat → Bool) : pe e 0 = 2 ^ ((List.range 4).countP e) := by
  unfold pe
  congr 2
theorem pe_len (e : Nat → Bool) : 2 ^ (((List.range 4).filter e).map fun j => 2 ^ j).length = pe e 0 := by
  rw [pe_zero, List.length_map, List.countP_eq_length_filter]

noncomputable def FP (X : List Nat) (j : Nat) : Prop := ∃ r, r < 2 ^ j ∧ 0 < cN X (j + 1) r ∧ 0 < cN X (j + 1) (r + 2 ^ j)

structure Sp (X : List Nat) (e f : Nat → Bool) : Prop where
  one : ∀ r, cN X 4 r ≤ 1
  ne : X ≠ []
  he : ∀ j, j < 4 → (e j = true ↔ EP X j)
  hf : ∀ j, j < 4 → (f j = true ↔ FP X j)

theorem pe_dvd {X : List Nat} {e : Nat → Bool} (he : ∀ j, j < 4 → e j = true → EP X j) : ∀ m j, j + m = 4 → ∀ r, r < 2 ^ j → pe e j ∣ cN X j r
  | 0, j, h, r, hr => by
    have : j = 4 := by omega
    subst this
    rw [pe_four]; exact Nat.one_dvd _
  | m + 1, j, h, r, hr => by
    have ih := pe_dvd he m (j + 1) (by (first | exact om324 h | omega))
    have hr1 : r < 2 ^ (j + 1) := by rw [Nat.pow_succ]; (first | exact om198 hr | omega)
    have hr2 : r + 2 ^ j < 2 ^ (j + 1) := by rw [Nat.pow_succ]; (first | exact om325 hr | omega)
    have h1 := ih r hr1
    have h2 := ih (r + 2 ^ j) hr2
    rw [pe_step e (by (first | exact om326 h | omega)), cN_split X hr]
    cases hj : e j with
    | false => simpa using Nat.dvd_add h1 h2
    | true =>
      rw [← he j (by (first | exact om326 h | omega)) hj r hr]
      obtain ⟨q, hq⟩ := h1
      refine ⟨q, ?_⟩
      rw [hq]
      simp only [if_true]
      rw [Nat.mul_assoc, Nat.mul_comm 2 q, ← Nat.mul_assoc]; (first | exact om327 | omega)

theorem cN_top {X : List Nat} (hn : X.Nodup) (h16 : ∀ x ∈ X, x < 16) (r : Nat) : cN X 4 r ≤ 1 := by
  unfold cN
  rw [show (X.countP fun x => x % 2 ^ 4 == r) = X.countP fun x => x == r from List.countP_congr fun x hx => by
    have := h16 x hx
    rw [show x % 2 ^ 4 = x by (first | exact om328 this | omega)]]
  exact List.nodup_iff_count.mp hn r

theorem pe_le {X : List Nat} {f : Nat → Bool} (h1 : ∀ r, cN X 4 r ≤ 1) (hf : ∀ j, j < 4 → f j = false → ¬ FP X j) : ∀ m j, j + m = 4 → ∀ r, r < 2 ^ j → cN X j r ≤ pe f j
  | 0, j, h, r, hr => by
    have : j = 4 := by omega
    subst this
    rw [pe_four]; exact h1 r
  | m + 1, j, h, r, hr => by
    have ih := pe_le h1 hf m (j + 1) (by (first | exact om324 h | omega))
    have hr1 : r < 2 ^ (j + 1) := by rw [Nat.pow_succ]; (first | exact om198 hr | omega)
    have hr2 : r + 2 ^ j < 2 ^ (j + 1) := by rw [Nat.pow_succ]; (first | exact om325 hr | omega)
    have h3 := ih r hr1
    have h4 := ih (r + 2 ^ j) hr2
    rw [pe_step f (by (first | exact om326 h | omega)), cN_split X hr]
    cases hj : f j with
    | true => simp only [if_true]; (first | exact om329 h4 h3 | omega)
    | false =>
      have hn := hf j (by (first | exact om326 h | omega)) hj
      by_cases q : cN X (j + 1) r = 0
      · simp; (first | exact om330 q h4 | omega)
      · by_cases q2 : cN X (j + 1) (r + 2 ^ j) = 0
        · simp; (first | exact om331 q2 h3 | omega)
        · exact absurd ⟨r, hr, by (first | exact om332 q | omega), by (first | exact om332 q2 | omega)⟩ hn

theorem pe_full {X : List Nat} {e : Nat → Bool} (he : ∀ j, j < 4 → e j = true → EP X j) (hfull : pe e 0 = X.length) : ∀ j, j ≤ 4 → ∀ r, r < 2 ^ j → cN X j r = 0 ∨ cN X j r = pe e j
  | 0, _, r, hr => by
    have : r = 0 := by simpa using hr
    subst this
    rw [cN_zero, hfull]; exact .inr rfl
  | j + 1, hj, r, hr => by
    have ih := pe_full he hfull j (by (first | exact om333 hj | omega))
    rw [Nat.pow_succ] at hr
    obtain ⟨r', hr', hc⟩ : ∃ r', r' < 2 ^ j ∧ (r = r' ∨ r = r' + 2 ^ j) := by
      by_cases q : r < 2 ^ j
      · exact ⟨r, q, .inl rfl⟩
      · exact ⟨r - 2 ^ j, by (first | exact om334 hr | omega), .inr (by (first | exact om335 q | omega))⟩
    have h1 := ih r' hr'
    rw [cN_split X hr', pe_step e (by (first | exact om336 hj | omega))] at h1
    have hd1 := pe_dvd he (3 - j) (j + 1) (by (first | exact om337 hj | omega)) r' (by rw [Nat.pow_succ]; (first | exact om198 hr' | omega))
    have hd2 := pe_dvd he (3 - j) (j + 1) (by (first | exact om337 hj | omega)) (r' + 2 ^ j) (by rw [Nat.pow_succ]; (first | exact om325 hr' | omega))
    have hp := pe_pos e (j + 1)
    cases hej : e j with
    | true =>
      have heq := he j (by (first | exact om336 hj | omega)) hej r' hr'
      rw [hej] at h1
      simp only [if_true] at h1
      rcases hc with rfl | rfl <;> (first | exact om338 h1 heq | exact om339 h1 heq | omega)
    | false =>
      rw [hej] at h1
      simp only [Bool.false_eq_true, if_false, Nat.mul_one] at h1
      have k1 : cN X (j + 1) r' = 0 ∨ pe e (j + 1) ≤ cN X (j + 1) r' := by
        by_cases q : cN X (j + 1) r' = 0
        · exact .inl q
        · exact .inr (Nat.le_of_dvd (by (first | exact om332 q | omega)) hd1)
      have k2 : cN X (j + 1) (r' + 2 ^ j) = 0 ∨ pe e (j + 1) ≤ cN X (j + 1) (r' + 2 ^ j) := by
        by_cases q : cN X (j + 1) (r' + 2 ^ j) = 0
        · exact .inl q
        · exact .inr (Nat.le_of_dvd (by (first | exact om332 q | omega)) hd2)
      rcases hc with rfl | rfl <;> (first | exact om340 k2 h1 | exact om341 k2 h1 | omega)

theorem cN_some {X : List Nat} (hne : X ≠ []) : ∀ j, ∃ r, r < 2 ^ j ∧ 0 < cN X j r
  | 0 => ⟨0, by simp, by rw [cN_zero]; exact List.length_pos_iff.mpr hne⟩
  | j + 1 => by
    obtain ⟨r, hr, h⟩ := cN_some hne j
    rw [cN_split X hr] at h
    by_cases q : 0 < cN X (j + 1) r
    · exact ⟨r, by rw [Nat.pow_succ]; (first | exact om198 hr | omega), q⟩
    · exact ⟨r + 2 ^ j, by rw [Nat.pow_succ]; (first | exact om325 hr | omega), by (first | exact om342 q h | omega)⟩

namespace Sp
variable {X : List Nat} {e f : Nat → Bool}
theorem sub (s : Sp X e f) : ∀ j, j < 4 → e j = true → f j = true := fun j hj h => by
  rw [s.hf j hj]
  obtain ⟨r, hr, hp⟩ := cN_some s.ne j
  have he := (s.he j hj).mp h r hr
  rw [cN_split X hr] at hp
  exact ⟨r, hr, by (first | exact om343 he hp | omega), by (first | exact om344 he hp | omega)⟩
theorem dvd (s : Sp X e f) : pe e 0 ∣ X.length := by
  have := pe_dvd (fun j hj h => (s.he j hj).mp h) 4 0 rfl 0 (by simp)
  rwa [cN_zero] at this
theorem le (s : Sp X e f) : X.length ≤ pe f 0 := by
  have := pe_le (f := f) s.one (fun j hj h q => by rw [(s.hf j hj).mpr q] at h; cases h) 4 0 rfl 0 (by simp)
  rwa [cN_zero] at this
theorem full (s : Sp X e f) (h : pe e 0 = X.length) : ∀ j, j < 4 → f j = true → e j = true := fun j hj hf => by
  obtain ⟨r, hr, h1, h2⟩ := (s.hf j hj).mp hf
  cases hej : e j with
  | true => rfl
  | false =>
    exfalso
    have he : ∀ j, j < 4 → e j = true → EP X j := fun j hj h => (s.he j hj).mp h
    have hs := pe_full he h j (by (first | exact om345 hj | omega)) r hr
    rw [cN_split X hr, pe_step e hj, hej] at hs
    simp only [Bool.false_eq_true, if_false, Nat.mul_one] at hs
    have hd1 := Nat.le_of_dvd h1 (pe_dvd he (3 - j) (j + 1) (by (first | exact om346 hj | omega)) r (by rw [Nat.pow_succ]; (first | exact om198 hr | omega)))
    have hd2 := Nat.le_of_dvd h2 (pe_dvd he (3 - j) (j + 1) (by (first | exact om347 hd1 hs h2 | omega)) (r + 2 ^ j) (by rw [Nat.pow_succ]; (first | exact om348 hd1 hs h2 | omega)))
    have hp := pe_pos e (j + 1)
    (first | exact om349 hp hd2 hd1 hs | omega)
theorem eq_of (s : Sp X e f) (h : pe e 0 = X.length) : ∀ j, j < 4 → e j = f j := fun j hj => by
  cases hf : f j with
  | true => exact s.full h j hj hf
  | false =>
    cases he : e j with
    | false => rfl
    | true => rw [s.sub j hj he] at hf; cases hf
end Sp
end Mine

namespace Mine

/-! sums of two lists' places -/
noncomputable def hueN (A P : List Nat) : List Nat := A.flatMap fun p => P.map fun q => (p + q) % 16
noncomputable def hit (A : List Nat) (t s : Nat) : Nat := A.countP fun p => (p + t) % 16 == s
noncomputable def hits (A : List Nat) : List Nat → Nat → Nat
  | [], _ => 0
  | t :: T, s => hit A t s + hits A T s
theorem hits_n {A : List Nat} {s : Nat} : hits A [] s = 0 := rfl
theorem hits_c {A : List Nat} {t : Nat} {T : List Nat} {s : Nat} : hits A (t :: T) s = hit A t s + hits A T s := rfl
theorem hits_append (A : List Nat) (s : Nat) : ∀ T U, hits A (T ++ U) s = hits A T s + hits A U s
  | [], U => by simp [hits_n, hits_c]
  | t :: T, U => by rw [List.cons_append, hits_c, hits_c, hits_append A s T U]; (first | exact om350 | omega)
theorem hits_nil (s : Nat) : ∀ T, hits [] T s = 0
  | [] => rfl
  | t :: T => by rw [hits_c, hits_nil s T]; rfl
theorem hits_cons (p : Nat) (A : List Nat) (s : Nat) : ∀ T, hits (p :: A) T s = (T.map fun q => (p + q) % 16).count s + hits A T s
  | [] => rfl
  | t :: T => by
    rw [hits_c, hits_c, hits_cons p A s T, List.map_cons, List.count_cons]
    have : hit (p :: A) t s = (if ((p + t) % 16 == s) = true then 1 else 0) + hit A t s := by
      unfold hit; rw [List.countP_cons]; (first | exact om351 | omega)
    rw [this]; (first | exact om352 | omega)
theorem hue_count (T : List Nat) (s : Nat) : ∀ A, (hueN A T).count s = hits A T s
  | [] => (hits_nil s T).symm
  | p :: A => by
    rw [hits_cons, ← hue_count T s A]
    unfold hueN
    rw [List.flatMap_cons, List.count_append]
theorem hue_lt {A T : List Nat} : ∀ x ∈ hueN A T, x < 16 := fun x hx => by
  unfold hueN at hx
  obtain ⟨p, _, h⟩ := List.mem_flatMap.mp hx
  obtain ⟨q, _, rfl⟩ := List.mem_map.mp h
  exact Nat.mod_lt _ (by decide)
theorem hue_len (A T : List Nat) : (hueN A T).length = A.length * T.length := by
  unfold hueN
  induction A with
  | nil => simp
  | cons p A ih => rw [List.flatMap_cons, List.length_append, ih, List.length_map, List.length_cons, Nat.add_mul]; (first | exact om353 | omega)

theorem pow_mod16 (b : Int) (x : Nat) : ∃ q, b ^ x = b ^ (x % 16) + (b ^ 16 - 1) * q := by
  have main : ∀ d, ∃ q, (b ^ 16) ^ d = 1 + (b ^ 16 - 1) * q := by
    intro d
    induction d with
    | zero => exact ⟨0, by simp⟩
    | succ d ih =>
      obtain ⟨q, hq⟩ := ih
      rw [Int.pow_succ, hq]
      exact ⟨1 + b ^ 16 * q, by grind⟩
  obtain ⟨q, hq⟩ := main (x / 16)
  have hx : b ^ x = (b ^ 16) ^ (x / 16) * b ^ (x % 16) := by rw [← Int.pow_mul, ← Int.pow_add, Nat.div_add_mod]
  rw [hx, hq]
  exact ⟨q * b ^ (x % 16), by grind⟩
theorem powS_prod (b : Int) (T : List Nat) : ∀ A, ∃ q, powS b A * powS b T = powS b (hueN A T) + (b ^ 16 - 1) * q
  | [] => ⟨0, by simp [powS_n, powS_c, hueN]⟩
  | p :: A => by
    obtain ⟨q, hq⟩ := powS_prod b T A
    have one : ∀ T : List Nat, ∃ q, b ^ p * powS b T = powS b (T.map fun t => (p + t) % 16) + (b ^ 16 - 1) * q := by
      intro T
      induction T with
      | nil => exact ⟨0, by simp [powS_n, powS_c]⟩
      | cons t T ih =>
        obtain ⟨q1, h1⟩ := ih
        obtain ⟨q2, h2⟩ := pow_mod16 b (p + t)
        rw [List.map_cons, powS_c, powS_c, Int.mul_add, h1, ← Int.pow_add, h2]
        exact ⟨q1 + q2, by grind⟩
    obtain ⟨q3, h3⟩ := one T
    have e : hueN (p :: A) T = (T.map fun t => (p + t) % 16) ++ hueN A T := by unfold hueN; rw [List.flatMap_cons]
    rw [e, powS_append, powS_c, Int.add_mul, hq, h3]
    exact ⟨q + q3, by grind⟩
theorem powS_one : ∀ X : List Nat, powS 1 X = (X.length : Nat)
  | [] => rfl
  | x :: X => by rw [powS_c, powS_one X, Int.one_pow, List.length_cons]; (first | exact om354 | omega)

/-! 65537 is prime -/
theorem small_div : ∀ x, x < 257 → 65537 % x = 0 → x = 1 := by decide +kernel
theorem prime_div {d : Nat} (h : d ∣ 65537) : d = 1 ∨ d = 65537 := by
  obtain ⟨e, he⟩ := h
  by_cases q : d < 257
  · left
    refine small_div d q ?_
    rw [he]; exact Nat.mul_mod_right ..
  · by_cases q2 : e < 257
    · have := small_div e q2 (by rw [he]; exact Nat.mul_mod_left ..)
      subst this; (first | exact om355 he | omega)
    · exfalso
      have : 257 * 257 ≤ d * e := Nat.mul_le_mul (by (first | exact om356 q | omega)) (by (first | exact om356 q2 | omega))
      (first | exact om357 this he | omega)
theorem prime_mul {x y : Int} (h : (65537 : Int) ∣ x * y) : (65537 : Int) ∣ x ∨ (65537 : Int) ∣ y := by
  have hn : 65537 ∣ x.natAbs * y.natAbs := by
    have := Int.natAbs_dvd_natAbs.mpr h
    rwa [Int.natAbs_mul] at this
  rcases prime_div (Nat.gcd_dvd_left 65537 x.natAbs) with hg | hg
  · right
    have := Nat.Coprime.dvd_of_dvd_mul_left hg hn
    exact Int.natAbs_dvd_natAbs.mp this
  · left
    have := Nat.gcd_dvd_right 65537 x.natAbs
    rw [hg] at this
    exact Int.natAbs_dvd_natAbs.mp this

theorem cN_high {X : List Nat} {j r : Nat} (h : 2 ^ j ≤ r) : cN X j r = 0 := by
  unfold cN
  rw [List.countP_eq_zero]
  intro x _
  have := Nat.mod_lt x (Nat.pow_pos (n := j) (show 0 < 2 by decide))
  simp; (first | exact om358 this h | omega)
theorem cN_bound {X : List Nat} (hn : X.Nodup) (h16 : ∀ x ∈ X, x < 16) : ∀ m j, j + m = 4 → ∀ r, cN X j r ≤ 2 ^ m
  | 0, j, h, r => by
    have : j = 4 := by omega
    subst this
    exact cN_top hn h16 r
  | m + 1, j, h, r => by
    by_cases q : r < 2 ^ j
    · have h1 := cN_bound hn h16 m (j + 1) (by (first | exact om324 h | omega)) r
      have h2 := cN_bound hn h16 m (j + 1) (by (first | exact om324 h | omega)) (r + 2 ^ j)
      rw [cN_split X q, Nat.pow_succ]; (first | exact om329 h2 h1 | omega)
    · rw [cN_high (by (first | exact om4 q | omega))]; exact Nat.zero_le _
theorem len16 {X : List Nat} (hn : X.Nodup) (h16 : ∀ x ∈ X, x < 16) : X.length ≤ 16 := by
  have := cN_bound hn h16 4 0 rfl 0
  rwa [cN_zero] at this

noncomputable def Cov (A T : List Nat) : Prop := ∀ s, s < 16 → hits A T s = 1
theorem cov_len {A T : List Nat} (h : Cov A T) : A.length * T.length = 16 := by
  obtain ⟨q, hq⟩ := powS_prod 1 T A
  rw [powS_one, powS_one, powS_count (k := 16) _ hue_lt, evf_congr (g := fun _ => 1) 16 fun r hr => by rw [hue_count, h r hr]; rfl] at hq
  have e : evf 1 (fun _ => 1) 16 = 16 := by decide +kernel
  rw [e] at hq
  simp at hq
  exact_mod_cast hq
theorem cov_EP {A T : List Nat} (hA : A.Nodup) (hA16 : ∀ x ∈ A, x < 16) (hT : T.Nodup) (hT16 : ∀ x ∈ T, x < 16) (h : Cov A T) : ∀ j, j < 4 → EP A j ∨ EP T j := by
  intro j hj
  have main : ∀ b : Int, b ^ 2 ^ j + 1 = 65537 → (65537 : Int) ∣ b ^ 16 - 1 → (65537 : Int) ∣ evf b (fun _ => 1) 16 → ((2 ^ (3 - j) : Nat) : Int) ≤ b - 1 → EP A j ∨ EP T j := by
    intro b h1 h2 h3 h4
    have hb : 1 ≤ b := by
      have : (0 : Int) ≤ ((2 ^ (3 - j) : Nat) : Int) := Int.natCast_nonneg _
      (first | exact om359 h4 | omega)
    obtain ⟨q, hq⟩ := powS_prod b T A
    rw [powS_count (k := 16) _ hue_lt, evf_congr (g := fun _ => 1) 16 fun r hr => by rw [hue_count, h r hr]; rfl] at hq
    have hd : (65537 : Int) ∣ powS b A * powS b T := by
      rw [hq]
      exact Int.dvd_add h3 (Int.dvd_trans h2 (Int.dvd_mul_right ..))
    have bd : ∀ X : List Nat, X.Nodup → (∀ x ∈ X, x < 16) → ∀ r, ((cN X (j + 1) r : Nat) : Int) ≤ b - 1 := fun X hn h16 r => by
      have := cN_bound hn h16 (3 - j) (j + 1) (by (first | exact om346 hj | omega)) r
      have : ((cN X (j + 1) r : Nat) : Int) ≤ ((2 ^ (3 - j) : Nat) : Int) := by exact_mod_cast this
      (first | exact om360 this h4 | omega)
    rcases prime_mul hd with h5 | h5
    · left; rw [← h1] at h5; exact (EP_iff hb (bd A hA hA16)).mp h5
    · right; rw [← h1] at h5; exact (EP_iff hb (bd T hT hT16)).mp h5
  have : j = 0 ∨ j = 1 ∨ j = 2 ∨ j = 3 := by (first | exact om67 hj | omega)
  rcases this with rfl | rfl | rfl | rfl
  · exact main 65536 (by decide +kernel) (by decide +kernel) (by decide +kernel) (by decide +kernel)
  · exact main 256 (by decide +kernel) (by decide +kernel) (by decide +kernel) (by decide +kernel)
  · exact main 16 (by decide +kernel) (by decide +kernel) (by decide +kernel) (by decide +kernel)
  · exact main 4 (by decide +kernel) (by decide +kernel) (by decide +kernel) (by decide +kernel)

theorem pe_two (e e' : Nat → Bool) (h : ∀ j, j < 4 → e j = true ∨ e' j = true) : 16 ≤ pe e 0 * pe e' 0 := by
  have h0 := h 0 (by decide)
  have h1 := h 1 (by decide)
  have h2 := h 2 (by decide)
  have h3 := h 3 (by decide)
  clear h
  rw [pe_zero, pe_zero]
  simp only [List.range, List.range.loop, List.countP_cons, List.countP_nil]
  revert h0 h1 h2 h3
  generalize e 0 = a0
  generalize e 1 = a1
  generalize e 2 = a2
  generalize e 3 = a3
  generalize e' 0 = b0
  generalize e' 1 = b1
  generalize e' 2 = b2
  generalize e' 3 = b3
  revert a0 a1 a2 a3 b0 b1 b2 b3
  decide +kernel

/-- a tiling has as many even divisions as its size tells -/
theorem cov_full {A T : List Nat} {e f : Nat → Bool} (s : Sp A e f) (hA : A.Nodup) (hA16 : ∀ x ∈ A, x < 16) (hT : T.Nodup) (hT16 : ∀ x ∈ T, x < 16) (h : Cov A T) : pe e 0 = A.length := by
  classical
  have hl := cov_len h
  have hep := cov_EP hA hA16 hT hT16 h
  have hTd := pe_dvd (X := T) (e := fun j => decide (EP T j)) (fun j _ q => by simpa using q) 4 0 rfl 0 (by simp)
  rw [cN_zero] at hTd
  have hAd := s.dvd
  have hApos : 0 < A.length := List.length_pos_iff.mpr s.ne
  have hTpos : 0 < T.length := by
    by_cases q : T.length = 0
    · rw [q] at hl; (first | exact om361 hl | omega)
    · (first | exact om332 q | omega)
  have h1 := Nat.le_of_dvd hApos hAd
  have h2 := Nat.le_of_dvd hTpos hTd
  have h3 := pe_two e (fun j => decide (EP T j)) fun j hj => by
    rcases hep j hj with q | q
    · exact .inl ((s.he j hj).mpr q)
    · exact .inr (by simpa using q)
  by_cases q : pe e 0 = A.length
  · exact q
  · exfalso
    have h4 : pe e 0 * pe (fun j => decide (EP T j)) 0 ≤ (A.length - 1) * T.length := Nat.mul_le_mul (by (first | exact om362 q h1 | omega)) h2
    have h5 : (A.length - 1) * T.length = A.length * T.length - T.length := by rw [Nat.sub_mul, Nat.one_mul]
    (first | exact om363 h5 h4 h3 hTpos hl | omega)
end Mine

namespace Mine

/-! the partner -/
noncomputable def partNTo (fs : List Nat) : List Nat → List Nat → List Nat
  | sums, [] => sums
  | sums, p :: ps => partNTo fs (if fs.contains p then sums else sums ++ sums.map fun x => x + p) ps
theorem partNTo_c {fs sums : List Nat} {p : Nat} {ps : List Nat} : partNTo fs sums (p :: ps) = partNTo fs (if fs.contains p then sums else sums ++ sums.map fun x => x + p) ps := rfl
noncomputable def partN (fs : List Nat) : List Nat := partNTo fs [0] [1, 2, 4, 8]
theorem nI_contains (fs : List Nat) (p : Nat) : (nI fs).contains ((p : Nat) : Int) = fs.contains p := by
  unfold nI
  induction fs with
  | nil => rfl
  | cons a fs ih =>
    rw [List.map_cons, List.contains_cons, List.contains_cons, ih]
    congr 1
    exact Bool.eq_iff_iff.mpr (by simp only [beq_iff_eq]; (first | exact om364 | omega))
theorem part_nI (fs : List Nat) : partV (nI fs) = nI (partN fs) := by
  have main : ∀ (ps sums : List Nat), partTo (nI fs) (nI sums) (nI ps) = nI (partNTo fs sums ps) := by
    intro ps
    induction ps with
    | nil => intro sums; rfl
    | cons p ps ih =>
      intro sums
      show partTo (nI fs) (nI sums) (((p : Nat) : Int) :: nI ps) = _
      rw [partTo_c, partNTo_c, ← ih, nI_contains]
      congr 1
      split
      · rfl
      · unfold nI
        rw [List.map_append, List.map_map, List.map_map]
        congr 1
  exact main [1, 2, 4, 8] [0]

noncomputable def flb (b0 b1 b2 b3 : Bool) : List Nat := ((List.range 4).filter fun j => [b0, b1, b2, b3].getD j false).map fun j => 2 ^ j
theorem flb_eq (f : Nat → Bool) : ((List.range 4).filter f).map (fun j => 2 ^ j) = flb (f 0) (f 1) (f 2) (f 3) := by
  unfold flb
  refine congrArg (List.map fun j => 2 ^ j) ?_
  refine List.filter_congr fun j hj => ?_
  rw [List.mem_range] at hj
  have : j = 0 ∨ j = 1 ∨ j = 2 ∨ j = 3 := by (first | exact om67 hj | omega)
  rcases this with rfl | rfl | rfl | rfl <;> rfl
noncomputable def plb (b0 b1 b2 b3 : Bool) : List Nat := partN (flb b0 b1 b2 b3)
theorem plb_ok : ∀ b0 b1 b2 b3 : Bool, ((plb b0 b1 b2 b3).Nodup ∧ (∀ q ∈ plb b0 b1 b2 b3, q < 16 ∧ (b0 = true → q % 2 = 0) ∧ (b1 = true → q / 2 % 2 = 0) ∧ (b2 = true → q / 4 % 2 = 0) ∧ (b3 = true → q / 8 % 2 = 0))) ∧
    (plb b0 b1 b2 b3).length * 2 ^ ((List.range 4).countP fun j => [b0, b1, b2, b3].getD j false) = 16 ∧ (plb b0 b1 b2 b3).head? = some 0 := by decide +kernel

set_option synthInstance.maxSize 2000 in
set_option synthInstance.maxHeartbeats 400000 in
theorem fin_sep : ∀ j, j < 4 → ∀ x, x < 16 → ∀ y, y < 16 → y < x → (x - y) % 2 ^ (j + 1) = 2 ^ j →
    (x % 2 ^ (j + 1) = x % 2 ^ j ∧ y % 2 ^ (j + 1) = x % 2 ^ j + 2 ^ j) ∨ (y % 2 ^ (j + 1) = x % 2 ^ j ∧ x % 2 ^ (j + 1) = x % 2 ^ j + 2 ^ j) := by decide +kernel
set_option synthInstance.maxSize 2000 in
set_option synthInstance.maxHeartbeats 400000 in
theorem fin_far : ∀ j, j < 4 → ∀ x, x < 16 → ∀ y, y < 16 → y % 2 ^ (j + 1) = x % 2 ^ (j + 1) + 2 ^ j → (y < x ∧ (x - y) % 2 ^ (j + 1) = 2 ^ j) ∨ (x < y ∧ (y - x) % 2 ^ (j + 1) = 2 ^ j) := by decide +kernel
set_option synthInstance.maxSize 2000 in
set_option synthInstance.maxHeartbeats 400000 in
theorem fin_meet : ∀ j, j < 4 → ∀ d, d < 16 → d % 2 ^ (j + 1) = 2 ^ j → ∀ q, q < 16 → q / 2 ^ j % 2 = 0 → ((d + q) % 16) / 2 ^ j % 2 ≠ 0 := by decide +kernel
theorem cN_pos {X : List Nat} {j r : Nat} : 0 < cN X j r ↔ ∃ x ∈ X, x % 2 ^ j = r := by
  unfold cN
  rw [List.countP_pos_iff]
  simp only [beq_iff_eq]
theorem FP_iff {X : List Nat} (h16 : ∀ x ∈ X, x < 16) {j : Nat} (hj : j < 4) : FP X j ↔ ∃ x ∈ X, ∃ y ∈ X, y < x ∧ (x - y) % 2 ^ (j + 1) = 2 ^ j := by
  constructor
  · rintro ⟨r, hr, h1, h2⟩
    obtain ⟨x, hx, ex⟩ := cN_pos.mp h1
    obtain ⟨y, hy, ey⟩ := cN_pos.mp h2
    subst ex
    rcases fin_far j hj x (h16 x hx) y (h16 y hy) ey with h | h
    · exact ⟨x, hx, y, hy, h⟩
    · exact ⟨y, hy, x, hx, h⟩
  · rintro ⟨x, hx, y, hy, hlt, hd⟩
    refine ⟨x % 2 ^ j, Nat.mod_lt _ (Nat.pow_pos (by decide)), ?_⟩
    rcases fin_sep j hj x (h16 x hx) y (h16 y hy) hlt hd with h | h
    · exact ⟨cN_pos.mpr ⟨x, hx, h.1⟩, cN_pos.mpr ⟨y, hy, h.2⟩⟩
    · exact ⟨cN_pos.mpr ⟨y, hy, h.1⟩, cN_pos.mpr ⟨x, hx, h.2⟩⟩
theorem fst_FP {A : List Nat} (h16 : ∀ x ∈ A, x < 16) {j : Nat} (hj : j < 4) : fstB A j = true ↔ FP A j := by
  rw [FP_iff h16 hj]
  unfold fstB
  simp only [List.any_eq_true, Bool.and_eq_true, decide_eq_true_eq]

theorem low_bit : ∀ d, d < 16 → d ≠ 0 → ∃ j, j < 4 ∧ d % 2 ^ (j + 1) = 2 ^ j := by decide +kernel

noncomputable def ptn (A : List Nat) : List Nat := partN (fstV A)
theorem ptn_eq (A : List Nat) : ptn A = plb (fstB A 0) (fstB A 1) (fstB A 2) (fstB A 3) := by
  unfold ptn plb fstV
  rw [flb_eq]
theorem ptn_nodup (A) : (ptn A).Nodup := by rw [ptn_eq]; exact (plb_ok _ _ _ _).1.1
theorem ptn_bits (A : List Nat) : ∀ q ∈ ptn A, q < 16 ∧ ∀ j, j < 4 → fstB A j = true → q / 2 ^ j % 2 = 0 := by
  intro q hq
  rw [ptn_eq] at hq
  obtain ⟨h1, h2, h3, h4, h5⟩ := (plb_ok _ _ _ _).1.2 q hq
  refine ⟨h1, fun j hj hf => ?_⟩
  rcases j with _ | _ | _ | _ | j
  · show q / 1 % 2 = 0
    rw [Nat.div_one]; exact h2 hf
  · exact h3 hf
  · exact h4 hf
  · exact h5 hf
  · exact absurd hj (Nat.not_lt.mpr (Nat.le_add_left 4 j))
theorem ptn_len (A : List Nat) : (ptn A).length * pe (fstB A) 0 = 16 := by
  have h := (plb_ok (fstB A 0) (fstB A 1) (fstB A 2) (fstB A 3)).2.1
  rw [← ptn_eq] at h
  rw [pe_zero]
  rw [← h]
  congr 2
theorem ptn_head (A : List Nat) : ∃ P, ptn A = 0 :: P := by
  have h := (plb_ok (fstB A 0) (fstB A 1) (fstB A 2) (fstB A 3)).2.2
  rw [← ptn_eq] at h
  cases e : ptn A with
  | nil => rw [e] at h; cases h
  | cons a P => rw [e] at h; simp at h; exact ⟨P, by rw [h]⟩

/-- no two sums meet -/
theorem ptn_inj {A : List Nat} (h16 : ∀ p ∈ A, p < 16) {p p' q q' : Nat} (hp : p ∈ A) (hp' : p' ∈ A) (hq : q ∈ ptn A) (hq' : q' ∈ ptn A) (h : (p + q) % 16 = (p' + q') % 16) : p = p' ∧ q = q' := by
  have main : ∀ p p' q q', p ∈ A → p' ∈ A → q ∈ ptn A → q' ∈ ptn A → (p + q) % 16 = (p' + q') % 16 → ¬ p < p' := by
    intro p p' q q' hp hp' hq hq' h hlt
    have b1 := h16 p hp
    have b2 := h16 p' hp'
    obtain ⟨b3, c1⟩ := ptn_bits A q hq
    obtain ⟨b4, c2⟩ := ptn_bits A q' hq'
    obtain ⟨j, hj, hd⟩ := low_bit (p' - p) (by (first | exact om217 b2 | omega)) (by (first | exact om218 hlt | omega))
    have hF : fstB A j = true := (fst_FP h16 hj).mpr ((FP_iff h16 hj).mpr ⟨p', hp', p, hp, hlt, hd⟩)
    have hq0 : q = ((p' - p) + q') % 16 := by (first | exact om365 b3 hlt h | omega)
    have e1 := c1 j hj hF
    rw [hq0] at e1
    exact fin_meet j hj (p' - p) (Nat.lt_of_le_of_lt (Nat.sub_le ..) b2) hd q' b4 (c2 j hj hF) e1
  have n1 := main p p' q q' hp hp' hq hq' h
  have n2 := main p' p q' q hp' hp hq' hq h.symm
  have e : p = p' := by (first | exact om366 n2 n1 | omega)
  subst e
  have b3 := (ptn_bits A q hq).1
  have b4 := (ptn_bits A q' hq').1
  exact ⟨rfl, by (first | exact om367 b4 b3 h | omega)⟩
theorem hue_nodup {A : List Nat} (hn : A.Nodup) (h16 : ∀ p ∈ A, p < 16) : (hueN A (ptn A)).Nodup := by
  unfold hueN
  show List.Pairwise _ _
  rw [List.pairwise_flatMap]
  refine ⟨fun p hp => ?_, ?_⟩
  · rw [List.pairwise_map]
    exact List.Pairwise.imp_of_mem (fun {a b} ha hb hab e => hab (ptn_inj h16 hp hp ha hb e).2) (ptn_nodup A)
  · refine List.Pairwise.imp_of_mem (fun {a b} ha hb hab x hx y hy e => ?_) hn
    obtain ⟨q, hq, rfl⟩ := List.mem_map.mp hx
    obtain ⟨q', hq', e'⟩ := List.mem_map.mp hy
    exact hab (ptn_inj h16 ha hb hq hq' (e.trans e'.symm)).1
theorem paint_le {A : List Nat} (hn : A.Nodup) (h16 : ∀ p ∈ A, p < 16) (s : Nat) : (hueN A (ptn A)).count s ≤ 1 := List.nodup_iff_count.mp (hue_nodup hn h16) s

noncomputable def paintN (A : List Nat) : List Nat := (List.range 16).map fun s => (hueN A (ptn A)).count s
theorem paint_mem {A : List Nat} (hn : A.Nodup) (h16 : ∀ p ∈ A, p < 16) : ∀ x ∈ paintN A, x ≤ 1 := fun x hx => by
  obtain ⟨s, _, rfl⟩ := List.mem_map.mp hx
  exact paint_le hn h16 s
theorem paint_one {A : List Nat} (hn : A.Nodup) (h16 : ∀ p ∈ A, p < 16) (hne : A ≠ []) : 1 ∈ paintN A := by
  obtain ⟨p, hp⟩ := List.exists_mem_of_ne_nil _ hne
  obtain ⟨P, hP⟩ := ptn_head A
  have hm : (p + 0) % 16 ∈ hueN A (ptn A) := by
    unfold hueN
    exact List.mem_flatMap.mpr ⟨p, hp, List.mem_map.mpr ⟨0, by rw [hP]; exact List.mem_cons_self, rfl⟩⟩
  have h1 := paint_le hn h16 ((p + 0) % 16)
  have h2 := List.count_pos_iff.mpr hm
  refine List.mem_map.mpr ⟨(p + 0) % 16, List.mem_range.mpr (Nat.mod_lt _ (by decide)), by (first | exact om368 h2 h1 | omega)⟩
theorem sum_range (f : Nat → Nat) : ∀ n, (((List.range n).map f).sum : Int) = evf 1 (fun s => ((f s : Nat) : Int)) n
  | 0 => rfl
  | n + 1 => by
    rw [List.range_succ, List.map_append, List.sum_append, evf_c, ← sum_range f n, Int.one_pow]
    simp
theorem paint_sum (A : List Nat) : (paintN A).sum = A.length * (ptn A).length := by
  have h1 := sum_range (fun s => (hueN A (ptn A)).count s) 16
  have h2 := powS_one (hueN A (ptn A))
  rw [powS_count (k := 16) _ hue_lt, hue_len] at h2
  have h3 : (((paintN A).sum : Nat) : Int) = ((A.length * (ptn A).length : Nat) : Int) := h1.trans h2
  exact_mod_cast h3

theorem paint_cov {A : List Nat} (hn : A.Nodup) (h16 : ∀ p ∈ A, p < 16) (h : (paintN A).sum = 16) : Cov A (ptn A) := by
  have main : ∀ (f : Nat → Nat) n, (∀ s, s < n → f s ≤ 1) → ((List.range n).map f).sum = n → ∀ s, s < n → f s = 1 := by
    intro f n
    have le : ∀ n, (∀ s, s < n → f s ≤ 1) → ((List.range n).map f).sum ≤ n := by
      intro n
      induction n with
      | zero => intro _; simp
      | succ n ih =>
        intro h
        rw [List.range_succ, List.map_append, List.sum_append]
        have := ih fun s hs => h s (by (first | exact om29 hs | omega))
        have := h n (by (first | exact om30 | omega))
        simp; omega
    induction n with
    | zero => intro _ _ s hs; (first | exact om369 hs | omega)
    | succ n ih =>
      intro h1 h2 s hs
      rw [List.range_succ, List.map_append, List.sum_append] at h2
      have h3 := le n fun s hs => h1 s (by (first | exact om29 hs | omega))
      have h4 := h1 n (by (first | exact om30 | omega))
      have h5 : ((List.range n).map f).sum + f n = n + 1 := by simpa using h2
      by_cases q : s = n
      · subst q; (first | exact om370 h5 h4 h3 | omega)
      · exact ih (fun s hs => h1 s (by (first | exact om29 hs | omega))) (by (first | exact om371 h5 h4 h3 | omega)) s (by (first | exact om285 q hs | omega))
  intro s hs
  rw [← hue_count]
  exact main (fun s => (hueN A (ptn A)).count s) 16 (fun s _ => paint_le hn h16 s) h s hs
end Mine

namespace Mine

theorem and_zero {x y : Nat} (h : ∀ s, x.testBit s = true → y.testBit s = true → False) : x &&& y = 0 := by
  apply Nat.eq_of_testBit_eq
  intro s
  rw [Nat.testBit_and, Nat.zero_testBit]
  cases hx : x.testBit s with
  | false => rfl
  | true =>
    cases hy : y.testBit s with
    | false => rfl
    | true => exact (h s hx hy).elim
theorem mask_bits : ∀ (X : List Nat), X.Nodup → (∀ x ∈ X, x < 16) → (X.map fun x => 2 ^ x).sum < 2 ^ 16 ∧ ∀ s, ((X.map fun x => 2 ^ x).sum).testBit s = decide (s ∈ X)
  | [], _, _ => by simp
  | x :: X, hn, h => by
    rw [List.nodup_cons] at hn
    obtain ⟨h1, h2⟩ := mask_bits X hn.2 fun y hy => h y (List.mem_cons_of_mem _ hy)
    have hx : 2 ^ x < 2 ^ 16 := Nat.pow_lt_pow_right (by decide) (h x List.mem_cons_self)
    have h0 : 2 ^ x &&& (X.map fun x => 2 ^ x).sum = 0 := and_zero fun s q1 q2 => by
      rw [Nat.testBit_two_pow] at q1
      rw [h2] at q2
      have e : x = s := by simpa using q1
      subst e
      exact hn.1 (by simpa using q2)
    rw [List.map_cons, List.sum_cons, add_or hx h1 h0]
    refine ⟨Nat.or_lt_two_pow hx h1, fun s => ?_⟩
    rw [Nat.testBit_or, Nat.testBit_two_pow, h2]
    by_cases q : x = s
    · subst q; simp
    · have q' : ¬ s = x := fun e => q e.symm
      simp [q, q']

theorem fin_back : ∀ f, f < 16 → ∀ p, p < 16 → (p + (f + 16 - p) % 16) % 16 = f := by decide +kernel
theorem fin_turn : ∀ p, p < 16 → ∀ t, t < 16 → ((p + t) % 16 + 16 - p) % 16 = t := by decide +kernel
noncomputable def copyN (A : List Nat) (t : Nat) : Nat := (A.map fun p => 2 ^ ((p + t) % 16)).sum
noncomputable def copyL (A : List Nat) : List Nat := (List.range 16).map (copyN A)

structure Ok (A : List Nat) : Prop where
  nd : A.Nodup
  lt : ∀ p ∈ A, p < 16
  ne : A ≠ []

namespace Ok
variable {A : List Nat}
theorem turned (o : Ok A) (t : Nat) : (A.map fun p => (p + t) % 16).Nodup ∧ ∀ x ∈ A.map (fun p => (p + t) % 16), x < 16 := by
  refine ⟨?_, fun x hx => ?_⟩
  · show List.Pairwise _ _
    rw [List.pairwise_map]
    refine List.Pairwise.imp_of_mem (fun {a b} ha hb hab e => ?_) o.nd
    have h1 := o.lt a ha
    have h2 := o.lt b hb
    (first | exact om372 h2 h1 e hab | omega)
  · obtain ⟨p, _, rfl⟩ := List.mem_map.mp hx
    exact Nat.mod_lt _ (by decide)
theorem copy_map (t : Nat) : copyN A t = ((A.map fun p => (p + t) % 16).map fun x => 2 ^ x).sum := by
  unfold copyN
  rw [List.map_map]; rfl
theorem copy_lt (o : Ok A) (t : Nat) : copyN A t < 2 ^ 16 := by
  rw [copy_map]; exact (mask_bits _ (o.turned t).1 (o.turned t).2).1
theorem copy_bit (o : Ok A) (t s : Nat) : (copyN A t).testBit s = true ↔ ∃ p ∈ A, (p + t) % 16 = s := by
  rw [copy_map, (mask_bits _ (o.turned t).1 (o.turned t).2).2, decide_eq_true_eq, List.mem_map]
theorem hit_eq (t s : Nat) : hit A t s = (A.map fun p => (p + t) % 16).count s := by
  unfold hit
  rw [List.count_eq_countP, List.countP_map]; rfl
theorem hit_le (o : Ok A) (t s : Nat) : hit A t s ≤ 1 := by
  rw [hit_eq]; exact List.nodup_iff_count.mp (o.turned t).1 s
theorem hit_pos {t s : Nat} : 0 < hit A t s ↔ ∃ p ∈ A, (p + t) % 16 = s := by
  unfold hit
  rw [List.countP_pos_iff]
  simp only [beq_iff_eq]
theorem copy_hit (o : Ok A) (t s : Nat) : hit A t s = if (copyN A t).testBit s then 1 else 0 := by
  have h1 := o.hit_le t s
  by_cases q : (copyN A t).testBit s = true
  · rw [if_pos q]
    have := hit_pos.mpr ((o.copy_bit t s).mp q)
    (first | exact om368 this h1 | omega)
  · rw [if_neg q]
    by_cases q2 : 0 < hit A t s
    · exact absurd ((o.copy_bit t s).mpr (hit_pos.mp q2)) q
    · (first | exact om373 q2 | omega)
theorem copyAt_eq (f p : Nat) : copyAt (copyL A) f p = copyN A ((f + 16 - p) % 16) := by
  unfold copyAt copyL
  have h := Nat.mod_lt (f + 16 - p) (show 16 > 0 by decide)
  simp [List.getD, h]
theorem csOk (o : Ok A) : CsOk A (copyL A) where
  len := by unfold copyL; simp
  lt := fun c hc => by
    obtain ⟨t, _, rfl⟩ := List.mem_map.mp hc
    exact o.copy_lt t
  hit := fun f p hf hp => by
    rw [copyAt_eq, o.copy_bit]
    exact ⟨p, hp, fin_back f hf p (o.lt p hp)⟩
theorem start (o : Ok A) : TrOk (copyN A 0) 0 := ⟨o.copy_lt 0, by decide, fun i hi => absurd hi (by (first | exact om290 | omega))⟩
end Ok

noncomputable def bt (n s : Nat) : Nat := if n.testBit s then 1 else 0
noncomputable def CovD (A : List Nat) (done : Nat) (T : List Nat) : Prop := ∀ s, s < 16 → bt done s + hits A T s = 1

theorem hits_mem {A : List Nat} {t s : Nat} : ∀ {T : List Nat}, t ∈ T → hit A t s ≤ hits A T s
  | u :: T, h => by
    rw [hits_c]
    rcases List.mem_cons.mp h with rfl | h
    · (first | exact om374 | omega)
    · have := hits_mem (A := A) (s := s) h; (first | exact om375 this | omega)
theorem hits_some {A : List Nat} {s : Nat} : ∀ {T : List Nat}, 0 < hits A T s → ∃ t ∈ T, 0 < hit A t s
  | u :: T, h => by
    rw [hits_c] at h
    by_cases q : 0 < hit A u s
    · exact ⟨u, List.mem_cons_self, q⟩
    · obtain ⟨t, h1, h2⟩ := hits_some (T := T) (A := A) (s := s) (by (first | exact om342 q h | omega))
      exact ⟨t, List.mem_cons_of_mem _ h1, h2⟩

theorem bt_add {A : List Nat} (o : Ok A) {done t : Nat} (hd : done < 2 ^ 16) (h0 : done &&& copyN A t = 0) (s : Nat) : bt (done + copyN A t) s = bt done s + hit A t s := by
  rw [o.copy_hit, add_or hd (o.copy_lt t) h0]
  unfold bt
  rw [Nat.testBit_or]
  have h := congrArg (fun x => x.testBit s) h0
  simp only [Nat.testBit_and, Nat.zero_testBit] at h
  generalize done.testBit s = a at *
  generalize (copyN A t).testBit s = b at *
  revert h
  cases a <;> cases b <;> simp

theorem tried_sound {A : List Nat} (o : Ok A) : ∀ k done free, done < 2 ^ 16 → triedV A (copyL A) k done free = true → ∃ T : List Nat, T.Nodup ∧ (∀ t ∈ T, t < 16) ∧ CovD A done T
  | 0, _, _, _, h => by cases (show false = true from h)
  | k + 1, done, free, hd, h => by
    rw [triedV_c] at h
    by_cases q : done = 65535
    · refine ⟨[], List.nodup_nil, fun t ht => (nomatch ht), fun s hs => ?_⟩
      subst q
      unfold bt
      rw [show 65535 = 2 ^ 16 - 1 from rfl, Nat.testBit_two_pow_sub_one]
      simp [hs, hits_n, hits_c]
    · rw [if_neg q] at h
      obtain ⟨p, hp, hh⟩ := List.any_eq_true.mp h
      rw [Bool.and_eq_true, beq_iff_eq] at hh
      obtain ⟨h0, hr⟩ := hh
      rw [Ok.copyAt_eq] at h0 hr
      generalize hF : skipV done (16 - free) free = F at *
      obtain ⟨t, ht⟩ : ∃ t, (F + 16 - p) % 16 = t := ⟨_, rfl⟩
      rw [ht] at h0 hr
      have ht16 : t < 16 := by rw [← ht]; exact Nat.mod_lt _ (by decide)
      have hlt : done + copyN A t < 2 ^ 16 := by rw [add_or hd (o.copy_lt t) h0]; exact Nat.or_lt_two_pow hd (o.copy_lt t)
      obtain ⟨T, t1, t2, t3⟩ := tried_sound o k _ _ hlt hr
      refine ⟨t :: T, List.nodup_cons.mpr ⟨fun hm => ?_, t1⟩, fun u hu => ?_, fun s hs => ?_⟩
      · have hpos : 0 < hit A t ((p + t) % 16) := Ok.hit_pos.mpr ⟨p, hp, rfl⟩
        have h3 := t3 ((p + t) % 16) (Nat.mod_lt _ (by decide))
        rw [bt_add o hd h0] at h3
        have h4 := hits_mem (A := A) (s := (p + t) % 16) hm
        (first | exact om376 h4 h3 hpos | omega)
      · rcases List.mem_cons.mp hu with rfl | hu
        · exact ht16
        · exact t2 u hu
      · have h3 := t3 s hs
        rw [bt_add o hd h0] at h3
        rw [hits_c]; (first | exact om377 h3 | omega)

theorem skip_clear (done : Nat) : ∀ k f, done.testBit (skipV done k f) = false ∨ skipV done k f = f + k
  | 0, f => .inr rfl
  | k + 1, f => by
    rw [skipV_c]
    by_cases q : done.testBit f = true
    · rw [if_pos q]
      rcases skip_clear done k (f + 1) with h | h
      · exact .inl h
      · exact .inr (by (first | exact om378 h | omega))
    · rw [if_neg q]
      exact .inl (by simpa using q)

theorem tried_full {A : List Nat} (o : Ok A) : ∀ k done free T, TrOk done free → 17 ≤ free + k → (∀ t ∈ T, t < 16) → CovD A done T → triedV A (copyL A) k done free = true
  | 0, done, free, T, t, hk, _, _ => by have := t.le; omega
  | k + 1, done, free, T, t, hk, hT, hc => by
    rw [triedV_c]
    by_cases q : done = 65535
    · rw [if_pos q]
    · rw [if_neg q]
      have hf := t.lt16 q
      obtain ⟨F, hF⟩ : ∃ F, skipV done (16 - free) free = F := ⟨_, rfl⟩
      have tF : TrOk done F := hF ▸ TrOk.skip _ _ t q rfl
      have hF16 := tF.lt16 q
      have hclear : done.testBit F = false := by
        rcases skip_clear done (16 - free) free with h | h
        · rw [hF] at h; exact h
        · rw [hF] at h; omega
      have hge : free ≤ F := by
        have mono : ∀ k f, f ≤ skipV done k f := by
          intro k
          induction k with
          | zero => intro f; exact Nat.le_refl _
          | succ k ih =>
            intro f
            rw [skipV_c]
            split
            · have := ih (f + 1); (first | exact om31 this | omega)
            · exact Nat.le_refl _
        rw [← hF]; exact mono _ _
      have h1 := hc F hF16
      have hb : bt done F = 0 := by unfold bt; rw [hclear]; rfl
      obtain ⟨u, hu, hpos⟩ := hits_some (A := A) (s := F) (T := T) (by (first | exact om379 hb h1 | omega))
      obtain ⟨p, hp, hpu⟩ := Ok.hit_pos.mp hpos
      have hu16 := hT u hu
      have hp16 := o.lt p hp
      have hix : (F + 16 - p) % 16 = u := by rw [← hpu]; exact fin_turn p hp16 u hu16
      obtain ⟨l1, l2, rfl⟩ := List.append_of_mem hu
      have hsplit : ∀ s, hits A (l1 ++ u :: l2) s = hits A (l1 ++ l2) s + hit A u s := fun s => by
        rw [hits_append, hits_append, hits_c]; (first | exact om380 | omega)
      have h0 : done &&& copyN A u = 0 := and_zero fun s q1 q2 => by
        have hs : s < 16 := by
          by_cases hs : s < 16
          · exact hs
          · rw [Nat.testBit_lt_two_pow (Nat.lt_of_lt_of_le t.lt (Nat.pow_le_pow_right (by decide) (by (first | exact om200 hs | omega))))] at q1; cases q1
        have h2 := hc s hs
        rw [hsplit, o.copy_hit u s, if_pos q2] at h2
        unfold bt at h2
        rw [if_pos q1] at h2; (first | exact om381 h2 | omega)
      have hnext := TrOk.next o.csOk tF hF16 hp (by rw [Ok.copyAt_eq, hix]; exact h0)
      rw [Ok.copyAt_eq, hix] at hnext
      refine List.any_eq_true.mpr ⟨p, hp, ?_⟩
      rw [hF, Ok.copyAt_eq, hix, Bool.and_eq_true, beq_iff_eq]
      refine ⟨h0, tried_full o k _ _ (l1 ++ l2) hnext (by (first | exact om215 hge hk | omega)) (fun x hx => hT x ?_) fun s hs => ?_⟩
      · rcases List.mem_append.mp hx with h | h
        · exact List.mem_append.mpr (.inl h)
        · exact List.mem_append.mpr (.inr (List.mem_cons_of_mem _ h))
      · have h2 := hc s hs
        rw [hsplit] at h2
        rw [bt_add o t.lt h0]; (first | exact om382 h2 | omega)

noncomputable def tilesB (A : List Nat) : Bool := triedV A (copyL A) 17 (copyN A 0) 0
theorem bt_copy {A : List Nat} (o : Ok A) (t s : Nat) : bt (copyN A t) s = hit A t s := (o.copy_hit t s).symm
theorem tiles_cov {A : List Nat} (o : Ok A) (h : tilesB A = true) : ∃ T : List Nat, T.Nodup ∧ (∀ t ∈ T, t < 16) ∧ Cov A T := by
  obtain ⟨T, h1, h2, h3⟩ := tried_sound o _ _ _ (o.copy_lt 0) h
  obtain ⟨p, hp⟩ := List.exists_mem_of_ne_nil _ o.ne
  refine ⟨0 :: T, List.nodup_cons.mpr ⟨fun hm => ?_, h1⟩, fun t ht => ?_, fun s hs => ?_⟩
  · have h4 := h3 ((p + 0) % 16) (Nat.mod_lt _ (by decide))
    have hpos : 0 < hit A 0 ((p + 0) % 16) := Ok.hit_pos.mpr ⟨p, hp, rfl⟩
    rw [bt_copy o] at h4
    have h5 := hits_mem (A := A) (s := (p + 0) % 16) hm
    (first | exact om383 h5 hpos h4 | omega)
  · rcases List.mem_cons.mp ht with rfl | ht
    · decide
    · exact h2 t ht
  · have := h3 s hs
    rw [bt_copy o] at this
    rw [hits_c]; exact this
theorem cov_tiles {A P : List Nat} (o : Ok A) (hP : ∀ t ∈ 0 :: P, t < 16) (h : Cov A (0 :: P)) : tilesB A = true :=
  tried_full o 17 _ 0 P o.start (by (first | exact om384 | omega)) (fun t ht => hP t (List.mem_cons_of_mem _ ht)) fun s hs => by
    rw [bt_copy o]; exact h s hs

/-! all ways of asking -/
theorem flb_inj : ∀ a0 a1 a2 a3 b0 b1 b2 b3 : Bool, flb a0 a1 a2 a3 = flb b0 b1 b2 b3 → a0 = b0 ∧ a1 = b1 ∧ a2 = b2 ∧ a3 = b3 := by decide +kernel
noncomputable def evN (e : Nat → Bool) : List Nat := ((List.range 4).filter e).map fun j => 2 ^ j

theorem asked {A : List Nat} (o : Ok A) {e : Nat → Bool} (he : ∀ j, j < 4 → (e j = true ↔ EP A j)) :
    (evN e = fstV A ↔ tilesB A = true) ∧ (2 ^ (evN e).length = A.length ↔ tilesB A = true) ∧ (2 ^ (fstV A).length = A.length ↔ tilesB A = true) ∧ ((paintN A).sum = 16 ↔ tilesB A = true) := by
  have s : Sp A e (fstB A) := ⟨cN_top o.nd o.lt, o.ne, he, fun j hj => fst_FP o.lt hj⟩
  have l1 : 2 ^ (evN e).length = pe e 0 := pe_len e
  have l2 : 2 ^ (fstV A).length = pe (fstB A) 0 := pe_len (fstB A)
  have hpl := ptn_len A
  have c21 : pe e 0 = A.length → evN e = fstV A := fun h => by
    unfold evN fstV
    congr 1
    exact List.filter_congr fun j hj => s.eq_of h j (List.mem_range.mp hj)
  have c13 : evN e = fstV A → pe (fstB A) 0 = A.length := fun h => by
    have h1 : pe e 0 = pe (fstB A) 0 := by rw [← l1, ← l2, h]
    have h2 := Nat.le_of_dvd (List.length_pos_iff.mpr o.ne) s.dvd
    have h3 := s.le
    (first | exact om385 h3 h2 h1 | omega)
  have c34 : pe (fstB A) 0 = A.length → (paintN A).sum = 16 := fun h => by
    rw [paint_sum, Nat.mul_comm, ← h]; exact hpl
  have c4t : (paintN A).sum = 16 → tilesB A = true := fun h => by
    have hcov := paint_cov o.nd o.lt h
    obtain ⟨P, hP⟩ := ptn_head A
    have hb := fun q hq => (ptn_bits A q hq).1
    rw [hP] at hcov hb
    exact cov_tiles o hb hcov
  have ct2 : tilesB A = true → pe e 0 = A.length := fun h => by
    obtain ⟨T, h1, h2, h3⟩ := tiles_cov o h
    exact cov_full s o.nd o.lt h1 h2 h3
  rw [l1, l2]
  exact ⟨⟨fun h => c4t (c34 (c13 h)), fun h => c21 (ct2 h)⟩, ⟨fun h => c4t (c34 (c13 (c21 h))), ct2⟩, ⟨fun h => c4t (c34 h), fun h => c13 (c21 (ct2 h))⟩, ⟨c4t, fun h => c34 (c13 (c21 (ct2 h)))⟩⟩
end Mine

namespace Mine

theorem valOf_evf (n : Nat) (f : Nat → Int) : ∀ k, valOf n ((List.range k).map f) = evf (2 ^ n) f k
  | 0 => rfl
  | k + 1 => by
    rw [List.range_succ, List.map_append, valOf_append, valOf_evf n f k, evf_c, List.length_map, List.length_range, Int.pow_mul]
    simp only [List.map_cons, List.map_nil, valOf_n, valOf_c]
    rw [Int.mul_zero, Int.add_zero, Int.mul_comm]
theorem bitV_nI {X : List Nat} (hn : X.Nodup) : bitV (nI X) = (List.range 16).map fun s => ((X.count s : Nat) : Int) := by
  unfold bitV r16
  rw [List.map_map]
  refine List.map_congr_left fun s _ => ?_
  show (if (nI X).contains ((s : Nat) : Int) then (1 : Int) else 0) = _
  rw [nI_contains]
  have h1 := List.nodup_iff_count.mp hn s
  by_cases q : s ∈ X
  · have h2 := List.count_pos_iff.mpr q
    rw [if_pos (List.contains_iff_mem.mpr q)]; (first | exact om386 h2 h1 | omega)
  · rw [if_neg (fun h => q (List.contains_iff_mem.mp h)), List.count_eq_zero_of_not_mem q]; rfl
theorem number_powS {X : List Nat} (hn : X.Nodup) (h16 : ∀ x ∈ X, x < 16) (n : Nat) : valOf n (bitV (nI X)) = powS (2 ^ n) X := by
  rw [bitV_nI hn, valOf_evf, powS_count (k := 16) X h16]

noncomputable def powN (b : Nat) (X : List Nat) : Nat := (X.map fun x => b ^ x).sum
theorem powN_cast (b : Nat) : ∀ X, ((powN b X : Nat) : Int) = powS (b : Nat) X
  | [] => rfl
  | x :: X => by
    have ih := powN_cast b X
    unfold powN at ih ⊢
    rw [List.map_cons, List.sum_cons, powS_c, ← ih]; push_cast; rfl
theorem number_nat {X : List Nat} (hn : X.Nodup) (h16 : ∀ x ∈ X, x < 16) (n : Nat) : valOf n (bitV (nI X)) = ((powN (2 ^ n) X : Nat) : Int) := by
  rw [number_powS hn h16, powN_cast]; push_cast; rfl
theorem powN_lt {X : List Nat} (hn : X.Nodup) (h16 : ∀ x ∈ X, x < 16) {n : Nat} (h : 1 ≤ n) : powN (2 ^ n) X < 2 ^ (n * 16) := by
  have h1 := valOf_bound n (bitV (nI X)) fun x hx => by
    have h2 := two_le_pow h
    rcases bitV_mem hx with rfl | rfl <;> (first | exact om184 h2 | exact om185 h2 | omega)
  rw [number_nat hn h16, bitV_len] at h1
  exact_mod_cast h1.2

theorem even_EP {A : List Nat} (o : Ok A) {n : Nat} (hn : 5 ≤ n) (j : Nat) : evenB (powN (2 ^ n) A) n ((2 ^ j : Nat) : Int) = true ↔ EP A j := by
  have h32 : (32 : Int) ≤ 2 ^ n := by
    have : 2 ^ 5 ≤ 2 ^ n := Nat.pow_le_pow_right (by decide) hn
    exact_mod_cast this
  rw [← EP_iff (b := 2 ^ n) (by (first | exact om387 h32 | omega)) (fun r => by
    have h1 := cN_le A (j + 1) r
    have h2 := len16 o.nd o.lt
    (first | exact om388 h2 h1 h32 | omega))]
  unfold evenB
  rw [Int.toNat_natCast, beq_iff_eq, ← Nat.dvd_iff_mod_eq_zero, ← Int.natCast_dvd_natCast, powN_cast]
  have e : ((2 ^ (2 ^ j * n) + 1 : Nat) : Int) = (2 ^ n) ^ 2 ^ j + 1 := by
    push_cast
    rw [← Int.pow_mul, Nat.mul_comm]
  rw [e]
  push_cast
  exact Iff.rfl
theorem evenV_nI (N n : Nat) : evenV N n = nI (evN fun j => evenB N n ((2 ^ j : Nat) : Int)) := by
  unfold evenV evN nI
  rw [show ([1, 2, 4, 8] : List Int) = (List.range 4).map fun j => ((2 ^ j : Nat) : Int) from rfl, List.filter_map, List.map_map]
  rfl

/-! the figures of the product -/
theorem digs_of_val (n : Nat) : ∀ (xs : List Int), (∀ x ∈ xs, 0 ≤ x ∧ x < 2 ^ n) → digs n xs.length (valOf n xs) = xs
  | [], _ => rfl
  | x :: xs, h => by
    have h1 := h x List.mem_cons_self
    have hp : (0 : Int) < 2 ^ n := Int.pow_pos (by decide)
    rw [List.length_cons, digs_c, valOf_c]
    have e1 : (x + 2 ^ n * valOf n xs) % 2 ^ n = x := by rw [Int.add_mul_emod_self_left, Int.emod_eq_of_lt h1.1 h1.2]
    have e2 : (x + 2 ^ n * valOf n xs) / 2 ^ n = valOf n xs := by
      rw [Int.add_mul_ediv_left _ _ (by (first | exact om106 hp | omega)), Int.ediv_eq_zero_of_lt h1.1 h1.2, Int.zero_add]
    rw [e1, e2, digs_of_val n xs fun y hy => h y (List.mem_cons_of_mem _ hy)]
theorem digs_zero (n : Nat) : ∀ k, digs n k 0 = List.replicate k 0
  | 0 => rfl
  | k + 1 => by rw [digs_c, List.replicate_succ]; simp [digs_zero n k]
theorem digs_pad {n a k : Nat} {x : Int} (h0 : 0 ≤ x) (h : x < 2 ^ (n * a)) (hk : a ≤ k) : digs n a x ++ List.replicate (k - a) 0 = digs n k x := by
  have := digs_split n a (k - a) x h0
  rw [show a + (k - a) = k by (first | exact om79 hk | omega)] at this
  rw [this, Int.emod_eq_of_lt h0 h, Int.ediv_eq_zero_of_lt h0 h, digs_zero]
theorem val_half {n : Nat} (hn : 2 ≤ n) : ∀ xs : List Int, (∀ x ∈ xs, 0 ≤ x ∧ x ≤ 1) → 2 * valOf n xs + 1 ≤ 2 ^ (n * xs.length)
  | [], _ => by simp [valOf_n, valOf_c]
  | x :: xs, h => by
    have ih := val_half hn xs fun y hy => h y (List.mem_cons_of_mem _ hy)
    have hx := h x List.mem_cons_self
    have h4 : (4 : Int) ≤ 2 ^ n := by
      have : 2 ^ 2 ≤ 2 ^ n := Nat.pow_le_pow_right (by decide) hn
      exact_mod_cast this
    rw [valOf_c, List.length_cons, Nat.mul_add, Nat.mul_one, Int.pow_add]
    have h5 : 2 ^ n * (2 * valOf n xs + 1) ≤ 2 ^ n * 2 ^ (n * xs.length) := Int.mul_le_mul_of_nonneg_left ih (by (first | exact om389 h4 | omega))
    have h6 : 2 ^ n * (2 * valOf n xs + 1) = 2 * (2 ^ n * valOf n xs) + 2 ^ n := by grind
    have h7 : (2 : Int) ^ n * 2 ^ (n * xs.length) = 2 ^ (n * xs.length) * 2 ^ n := Int.mul_comm ..
    (first | exact om390 h7 h6 h5 h4 hx | omega)

noncomputable def remN (n : Nat) (A : List Nat) : Nat := (powN (2 ^ n) A * powN (2 ^ n) (ptn A)) % (2 ^ (n * 16) - 1)
theorem rem_val {A : List Nat} (o : Ok A) {n : Nat} (hn : 5 ≤ n) : ((remN n A : Nat) : Int) = valOf n (nI (paintN A)) := by
  have hp : 1 ≤ 2 ^ (n * 16) := Nat.pow_pos (by decide)
  unfold remN
  rw [Int.natCast_emod, Int.natCast_mul, powN_cast, powN_cast]
  obtain ⟨q, hq⟩ := powS_prod (((2 ^ n : Nat) : Int)) (ptn A) A
  rw [hq]
  have e1 : (((2 ^ (n * 16) - 1 : Nat)) : Int) = (((2 ^ n : Nat) : Int)) ^ 16 - 1 := by
    rw [Int.natCast_sub hp, Int.natCast_pow, Int.natCast_pow, ← Int.pow_mul]; rfl
  rw [e1, Int.add_mul_emod_self_left]
  have e2 : powS (((2 ^ n : Nat) : Int)) (hueN A (ptn A)) = valOf n (nI (paintN A)) := by
    rw [powS_count (k := 16) _ hue_lt]
    have : nI (paintN A) = (List.range 16).map fun s => (((hueN A (ptn A)).count s : Nat) : Int) := by
      unfold nI paintN
      rw [List.map_map]; rfl
    rw [this, valOf_evf, Int.natCast_pow]; rfl
  rw [e2]
  have hlen : (nI (paintN A)).length = 16 := by rw [nI_len]; unfold paintN; simp
  have hm : ∀ x ∈ nI (paintN A), 0 ≤ x ∧ x ≤ 1 := fun x hx => by
    obtain ⟨y, hy, rfl⟩ := List.mem_map.mp hx
    have := paint_mem o.nd o.lt y hy
    (first | exact om391 this | omega)
  have h1 := val_half (n := n) (by (first | exact om392 hn | omega)) _ hm
  have h2 := valOf_bound n (nI (paintN A)) fun x hx => by
    have := hm x hx
    have := two_le_pow (show 1 ≤ n by (first | exact om252 hn | omega))
    omega
  rw [hlen] at h1
  have e3 : (((2 ^ n : Nat) : Int)) ^ 16 = 2 ^ (n * 16) := by rw [Int.natCast_pow, ← Int.pow_mul]; rfl
  rw [e3]
  have h3 := two_le_pow (show 1 ≤ n * 16 by (first | exact om271 hn | omega))
  exact Int.emod_eq_of_lt h2.1 (by (first | exact om393 h3 h1 | omega))
theorem figs_le {n r k : Nat} (hn : 1 ≤ n) (h : r < 2 ^ (n * k)) : figs n r ≤ k := by
  unfold figs
  have hb : Builtin.Int.intBits (r : Int) ≤ n * k := intBits_le (by (first | exact om73 | omega)) (by exact_mod_cast h)
  have : (Builtin.Int.intBits (r : Int) + n - 1) / n < k + 1 := by
    rw [Nat.div_lt_iff_lt_mul (by (first | exact om139 hn | omega))]
    rw [Nat.add_mul, Nat.one_mul, Nat.mul_comm k n]; (first | exact om394 hb hn | omega)
  (first | exact om395 this | omega)
theorem rem_figs {A : List Nat} {n : Nat} (hn : 5 ≤ n) : figs n (remN n A) ≤ 16 := by
  refine figs_le (by (first | exact om252 hn | omega)) ?_
  have hp : 2 ≤ 2 ^ (n * 16) := by
    have := Nat.pow_le_pow_right (show 2 > 0 by decide) (show 1 ≤ n * 16 by (first | exact om271 hn | omega))
    omega
  unfold remN
  have := Nat.mod_lt (powN (2 ^ n) A * powN (2 ^ n) (ptn A)) (show 2 ^ (n * 16) - 1 > 0 by (first | exact om396 hp | omega))
  (first | exact om397 this | omega)
theorem fig_eq {A : List Nat} (o : Ok A) {n : Nat} (hn : 5 ≤ n) : digs n (figs n (remN n A)) (remN n A : Nat) ++ List.replicate (16 - figs n (remN n A)) 0 = nI (paintN A) := by
  have hlen : (nI (paintN A)).length = 16 := by rw [nI_len]; unfold paintN; simp
  rw [digs_pad (by (first | exact om73 | omega)) (by exact_mod_cast figs_lt (a := remN n A) (show 1 ≤ n by (first | exact om252 hn | omega))) (rem_figs hn), rem_val o hn, ← hlen, digs_of_val]
  intro x hx
  obtain ⟨y, hy, rfl⟩ := List.mem_map.mp hx
  have := paint_mem o.nd o.lt y hy
  have := two_le_pow (show 1 ≤ n by (first | exact om252 hn | omega))
  omega

theorem prod_bits {A : List Nat} (o : Ok A) {n : Nat} (hn : 5 ≤ n) : powN (2 ^ n) A * powN (2 ^ n) (ptn A) < 2 ^ (n * 16 + n * 16) := by
  rw [Nat.pow_add]
  have h1 := powN_lt o.nd o.lt (n := n) (by (first | exact om252 hn | omega))
  have h2 := powN_lt (X := ptn A) (ptn_nodup A) (fun q hq => (ptn_bits A q hq).1) (n := n) (by (first | exact om252 hn | omega))
  exact Nat.mul_lt_mul'' h1 h2
end Mine

namespace Mine

section
variable {w : World} {h₀ : Heap} {Φ : Fm} {vs : List (Option Vl)}
theorem caps3 {scope : Scope} {lv : List (Str × VK)} {x y z : Str} {i j l : Nat} {v u t : Vl} {k k' k'' : VK} (hx : Φ.nm[i]? = some (x, k)) (hk : k ≠ .loc) (hv : vs[i]? = some (some v)) (hp : v.pure = true) (hx' : Φ.nm[j]? = some (y, k')) (hk' : k' ≠ .loc) (hv' : vs[j]? = some (some u)) (hp' : u.pure = true)
    (hx'' : Φ.nm[l]? = some (z, k'')) (hk'' : k'' ≠ .loc) (hv'' : vs[l]? = some (some t)) (hp'' : t.pure = true)
    (ok : compOK scope [x, y, z] lv = true) (nd : ((lv ++ [(x, VK.fre), (y, VK.fre), (z, VK.fre)]).map (·.1)).Nodup) : Caps Φ vs scope [(x, i), (y, j), (z, l)] [v, u, t] lv :=
  ⟨ok, by simpa using nd, .cons ⟨⟨k, hk, hx⟩, hv, hp⟩ (.cons ⟨⟨k', hk', hx'⟩, hv', hp'⟩ (.cons ⟨⟨k'', hk'', hx''⟩, hv'', hp''⟩ .nil))⟩
theorem EvP.sliceAI {value lower upper p pos} {xs : List Int} {lo hi : Option Int} (hv : EvP w h₀ Φ vs value (.arg (xs.map .int))) (hl : PartP w h₀ Φ vs lower lo) (hu : PartP w h₀ Φ vs upper hi) (hz : xs.length ≤ 1000) :
    EvP w h₀ Φ vs (.Subscript value (.Slice lower upper none p) pos) (isV (cutI xs lo hi)) := by
  have := EvP.sliceA (p := p) (pos := pos) hv hl hu (by simpa using hz)
  rw [cut_map] at this
  exact this
theorem EvP.comp2 (hw : WF w h₀ Φ) {scope : Scope} {cap : List (Str × Nat)} {capv : List Vl} {x y : Str} {kx ky : VK} {elt iter iter₂ : Expr} {pos px py : Pos} {items items₂ zs : List Sc} (g : Sc → Sc → Sc) (c : Caps Φ vs scope cap capv [(x, kx), (y, ky)]) (hk : kx ≠ .fre) (hky : ky ≠ .fre)
    (hit : ItP w h₀ Φ vs iter items) (hn : items.length * items₂.length + items₂.length ≤ 1000) (hn1 : items.length ≤ 1000)
    (hit₂ : ∀ C D X item u, item ∈ items → WF w h₀ (compFr scope C D X Φ [(x, kx), (y, ky)] cap) → ItP w h₀ (compFr scope C D X Φ [(x, kx), (y, ky)] cap) (some (.sc item) :: u :: capv.map some) iter₂ items₂)
    (step : ∀ C D X item item₂, item ∈ items → item₂ ∈ items₂ → WF w h₀ (compFr scope C D X Φ [(x, kx), (y, ky)] cap) → EvP w h₀ (compFr scope C D X Φ [(x, kx), (y, ky)] cap) (some (.sc item) :: some (.sc item₂) :: capv.map some) elt (.sc (g item item₂)))
    (hzs : (items.flatMap fun a => items₂.map (g a)) = zs)
    (hsi₂ : ∀ env x, foldedSetIterable iter₂ env x = pure x := by intro _ _; rfl) (hsi : ∀ x, foldedSetIterable iter Φ.env x = pure x := by intro _; rfl) :
    EvP w h₀ Φ vs (.ListComp elt [⟨.Name x px, iter, [], 0⟩, ⟨.Name y py, iter₂, [], 0⟩] scope pos) (.list zs) :=
  hzs ▸ EvP.comp hw c (ItX.name hit) (block2 c hk hky hn hn1 g hit₂ step hsi₂) hsi
theorem ExS.runIf {test body orelse pos rest} (ht : TrP w h₀ Φ vs test false) {s : Shared} (hs : St h₀ Φ vs s) {Q : Flow → Shared → Prop} (horelse : orelse = []) (k : ∀ s', Kp s s' → St h₀ Φ vs s' → wpAny (MD w) Φ.A (execs rest Φ.env) Q NoE s') :
    wpAny (MD w) Φ.A (execs (.If test body orelse pos :: rest) Φ.env) Q NoE s := by
  subst horelse
  refine wpAny_execs_cons (wpAny_If (wpAny_mono (ht s hs) (fun b s' h => ?_) fun _ _ x => x.elim))
  obtain ⟨kp, rfl⟩ := h
  exact wpAny_execs_nil (k s' kp (hs.kept kp))
end

/-! the law's numbers -/
noncomputable def drawnV (script : List Int) : List Int := (cutI script none (some 5)).map fun c => c.fmod (10 ^ (6 : Int).toNat)
noncomputable def numsV (script : List Int) : List Int := drawnV script ++ cutI [1, 4, 6, 11, 16] (some ((drawnV script).length : Nat)) none
theorem cutI5 (script : List Int) : (cutI script none (some 5)).length ≤ 5 := by
  unfold cutI
  simp [clipAt]
  (first | exact om232 | omega)
theorem drawn_len (script : List Int) : (drawnV script).length ≤ 5 := by unfold drawnV; rw [List.length_map]; exact cutI5 script
theorem nums_five (script : List Int) : ∃ n0 n1 n2 n3 n4, numsV script = [n0, n1, n2, n3, n4] := by
  unfold numsV
  have h := drawn_len script
  generalize drawnV script = d at *
  rcases d with _ | ⟨a, _ | ⟨b, _ | ⟨c, _ | ⟨e, _ | ⟨f, _ | ⟨g, d⟩⟩⟩⟩⟩⟩
  · exact ⟨1, 4, 6, 11, 16, rfl⟩
  · exact ⟨a, 4, 6, 11, 16, rfl⟩
  · exact ⟨a, b, 6, 11, 16, rfl⟩
  · exact ⟨a, b, c, 11, 16, rfl⟩
  · exact ⟨a, b, c, e, 16, rfl⟩
  · exact ⟨a, b, c, e, f, rfl⟩
  · simp at h
theorem Pls.toNat {ps : List Int} (h : Pls ps) (hne : ps ≠ []) : ∃ A, ps = nI A ∧ Ok A := by
  obtain ⟨b, rfl⟩ := h
  refine ⟨(List.range 16).filter fun i : Nat => b i, ?_, ⟨?_, ?_, ?_⟩⟩
  · unfold r16 nI
    rw [List.filter_map]; rfl
  · exact List.Nodup.sublist List.filter_sublist List.nodup_range
  · intro p hp
    exact List.mem_range.mp (List.mem_filter.mp hp).1
  · intro e
    apply hne
    unfold r16
    rw [List.filter_map]
    show List.map _ ((List.range 16).filter fun i : Nat => b i) = []
    rw [e]; rfl

noncomputable abbrev f4' : UInt64 := 0x4010000000000000
theorem quarter_eq : ∀ a, a < 4 → Float64.div (Float64.ofInt (1 + ((a : Nat) : Int))) f4' = quarter a := by decide +kernel
theorem quarter_int (x : Int) : ∃ a, a < 4 ∧ x.fmod 4 = ((a : Nat) : Int) := by
  have h1 := Int.fmod_nonneg_of_pos x (show (0 : Int) < 4 by decide)
  have h2 := Int.fmod_lt_of_pos x (show (0 : Int) < 4 by decide)
  exact ⟨(x.fmod 4).toNat, by (first | exact om233 h2 | omega), by (first | exact om234 h1 | omega)⟩

noncomputable def hueSc (m : Nat) : Sc := .flt (Float64.ofInt ((m : Nat) : Int))
noncomputable def hueG : Sc → Sc → Sc
  | .int p, .int q => hueSc ((p.toNat + q.toNat) % 16)
  | _, _ => .none
theorem hue_flat (A P : List Nat) : ((nI A).map Sc.int).flatMap (fun a => ((nI P).map Sc.int).map (hueG a)) = (hueN A P).map hueSc := by
  unfold nI hueN
  rw [List.map_flatMap, List.map_map, List.map_map]
  induction A with
  | nil => rfl
  | cons p A ih =>
    rw [List.map_cons, List.flatMap_cons, List.flatMap_cons, ih, List.map_map, List.map_map]
    rfl
theorem eq_fi16 : ∀ m, m < 16 → ∀ s, s < 16 → eqB (hueSc m) (.int ((s : Nat) : Int)) = (m == s) := by decide +kernel
theorem hue_countP {X : List Nat} (h : ∀ x ∈ X, x < 16) {s : Nat} (hs : s < 16) : ((X.map hueSc).countP fun y => eqB y (.int ((s : Nat) : Int))) = X.count s := by
  rw [List.countP_map, List.count_eq_countP]
  exact List.countP_congr fun x hx => by
    show eqB (hueSc x) _ = true ↔ _
    rw [eq_fi16 x (h x hx) s hs]

/-! the law's frame -/
noncomputable def lawSc : Scope := (partsOf (dfAt 23)).2.2.2.1
noncomputable abbrev lawNm : List (Str × VK) := [("script", .loc), ("drawn", .loc), ("numbers", .loc), ("shape", .loc), ("places", .cel), ("width", .loc), ("share", .cel), ("level", .cel), ("firsts", .cel), ("good", .loc), ("partner", .cel), ("hues", .cel), ("painted", .loc), ("product", .loc), ("figures", .loc), ("even", .loc), ("size", .loc), ("copies", .loc), ("tiles", .loc)]
noncomputable def lawFm (L f : Addr) (cd : Value) (A : Around) : Fm where
  env := envOfC "law" lawSc L f cd
  A := A.deeper (envOfC "law" lawSc L f cd)
  d := 30
  av := fun a => a = L ∨ ∃ x, (cellsFrom (L + 1) lawSc.names []).lookup x = some a
  mu := fun a => a = L ∨ ∃ x, (cellsFrom (L + 1) lawSc.names []).lookup x = some a
  rv := fun _ => False
  nm := lawNm


theorem log48 : (48 : Int).natAbs.log2 < 9000 ∧ (1920 : Int).natAbs.log2 < 9000 ∧ (7680 : Int).natAbs.log2 < 9000 := by decide

noncomputable def vsA (script ns : List Int) (n0 : Int) (A : List Nat) (n a b : Nat) : List (Option Vl) :=
  [some (.arg (script.map .int)), some (isV (drawnV script)), some (isV ns), some (iV n0), some (isV (nI A)), some (iV (n : Nat)), some (fV (quarter a)), some (fV (quarter b)), some (isV (nI (fstV A))), some (bV true), some (isV (nI (ptn A))),
    some (.list ((hueN A (ptn A)).map hueSc)), some (isV (nI (paintN A))), none, none, none, none, none, none]

variable {w : World} {h₀ : Heap}
theorem law_A (gd : Gd w h₀) {L f : Addr} {cd : Value} {Ar : Around} (hw : WF w h₀ (lawFm L f cd Ar)) {script : List Int} (hsc : script.length ≤ 63) {s : Shared}
    (hs : St h₀ (lawFm L f cd Ar) [some (.arg (script.map .int)), none, none, none, none, none, none, none, none, none, none, none, none, none, none, none, none, none, none] s) {Q : Flow → Shared → Prop}
    (k : ∀ ns n0 A n a b s', Ok A → 5 ≤ n → n ≤ 44 → a < 4 → b < 4 → KB (lawFm L f cd Ar).mu s s' → St h₀ (lawFm L f cd Ar) (vsA script ns n0 A n a b) s' → wpAny (MD w) (lawFm L f cd Ar).A (execs ((bodyAt 23).drop 11) (lawFm L f cd Ar).env) Q NoE s') :
    wpAny (MD w) (lawFm L f cd Ar).A (execs (bodyAt 23) (lawFm L f cd Ar).env) Q NoE s := by
  refine ExS.step (ExS.compI (xs := cutI script none (some 5)) hw 1 (drawnV script) (fun _ => true) (fun c => c.fmod (10 ^ (6 : Int).toNat)) (capsNil (by decide +kernel) (by decide +kernel)) nfL
    (ItP.list hw (EvP.sliceAI (EvP.name hw 0 rfl rfl) PartP.none (PartP.some EvP.int) (by (first | exact om235 hsc | omega)))) (by have := cutI5 script; (first | exact om236 this | omega)) ?_ (by rw [filterT]; rfl) rfl rfl nfL) hs fun s₁ k1 hs₁ => ?_
  · intro C D X i hi wf'
    exact ⟨TsP.nil, fun _ => EvP.bin (EvP.tcall wf' CalP.intI boot_int (EvL.one (EvP.name wf' 0 rfl rfl))) (EvP.bin EvP.int EvP.int (BinP.pow (by decide) (by decide +kernel))) (BinP.fmod (by decide))⟩
  have hdl := drawn_len script
  refine ExS.step (ExS.set hw 2 (isV (numsV script)) (EvP.bin (EvP.name hw 1 rfl rfl) (EvP.sliceI (xs := [1, 4, 6, 11, 16]) (EvP.list (EvL.cons EvP.int (EvL.cons EvP.int (EvL.cons EvP.int (EvL.cons EvP.int (EvL.cons EvP.int EvL.nil)))))) (PartP.some (EvP.bcall hw (CalP.lenI (by (first | exact om236 hdl | omega))) boot_len (EvL.one (EvP.name hw 1 rfl rfl)))) PartP.none (by decide)) (BinP.catI ?_)) rfl nfL) hs₁ fun s₂ k2 hs₂ => ?_
  · have := cutI_len [1, 4, 6, 11, 16] (some ((drawnV script).length : Nat)) none
    have e : ([1, 4, 6, 11, 16] : List Int).length = 5 := rfl
    (first | exact om237 e this hdl | omega)
  obtain ⟨n0, n1, n2, n3, n4, hns⟩ := nums_five script
  generalize numsV script = ns at *
  obtain ⟨pf, pp, pn⟩ := places_fn gd hns
  obtain ⟨A, hA, ok⟩ := pp.toNat pn
  rw [hA] at pf
  refine ExS.step (ExS.set hw 3 (iV n0) (EvP.itemI (EvP.name hw 2 rfl rfl) EvP.int (by decide) (by decide) (by rw [hns]; rfl)) rfl nfL) hs₂ fun s₃ k3 hs₃ => ?_
  refine ExS.step (ExS.set hw 4 (isV (nI A)) (EvP.fcall hw 1 pf (g_places w) (D_places w).keep (by show 1 ≤ 30; decide) (EvL.one (EvP.name hw 2 rfl rfl))) rfl nfC) hs₃ fun s₄ k4 hs₄ => ?_
  obtain ⟨n, hn, hn5, hn44⟩ : ∃ n : Nat, 5 + (n0.fdiv 48).fmod 40 = (n : Nat) ∧ 5 ≤ n ∧ n ≤ 44 := by
    have h1 := Int.fmod_nonneg_of_pos (n0.fdiv 48) (show (0 : Int) < 40 by decide)
    have h2 := Int.fmod_lt_of_pos (n0.fdiv 48) (show (0 : Int) < 40 by decide)
    exact ⟨(5 + (n0.fdiv 48).fmod 40).toNat, by (first | exact om238 h1 | omega), by (first | exact om239 h1 | omega), by (first | exact om240 h2 | omega)⟩
  refine ExS.step (ExS.set hw 5 (iV (n : Nat)) (hn ▸ EvP.bin EvP.int (EvP.bin (EvP.bin (EvP.name hw 3 rfl rfl) EvP.int (BinP.fdiv (by decide) log48.1)) EvP.int (BinP.fmod (by decide))) BinP.add) rfl nfL) hs₄ fun s₅ k5 hs₅ => ?_
  obtain ⟨a, ha, ea⟩ := quarter_int (n0.fdiv 1920)
  obtain ⟨b, hb, eb⟩ := quarter_int (n0.fdiv 7680)
  have e4 : Float64.isZero f4' = false := by decide +kernel
  refine ExS.step (ExS.set hw 6 (fV (quarter a)) (quarter_eq a ha ▸ EvP.bin (ea ▸ EvP.bin EvP.int (EvP.bin (EvP.bin (EvP.name hw 3 rfl rfl) EvP.int (BinP.fdiv (by decide) log48.2.1)) EvP.int (BinP.fmod (by decide))) BinP.add) EvP.flt (BinP.divIF (by (first | exact om241 ha | omega)) e4)) rfl nfC) hs₅ fun s₆ k6 hs₆ => ?_
  refine ExS.step (ExS.set hw 7 (fV (quarter b)) (quarter_eq b hb ▸ EvP.bin (eb ▸ EvP.bin EvP.int (EvP.bin (EvP.bin (EvP.name hw 3 rfl rfl) EvP.int (BinP.fdiv (by decide) log48.2.2)) EvP.int (BinP.fmod (by decide))) BinP.add) EvP.flt (BinP.divIF (by (first | exact om241 hb | omega)) e4)) rfl nfC) hs₆ fun s₇ k7 hs₇ => ?_
  have hl16 := len16 ok.nd ok.lt
  refine ExS.step (ExS.unpack2 hw 8 9 (EvP.fcall hw 3 (dist_fn gd ok.lt hl16 ha hb) (g_dist w) (D_dist w).keep (by show 3 ≤ 30; decide) (EvL.cons (EvP.name hw 4 rfl rfl) (EvL.cons (EvP.name hw 6 rfl rfl) (EvL.cons (EvP.name hw 7 rfl rfl) EvL.nil)))) rfl rfl nfC nfL (by kernel_rfl!) (by kernel_rfl!) rfl) hs₇ fun s₈ k8 hs₈ => ?_
  have hpart := partner_fn gd (fs := nI (fstV A))
  rw [part_nI] at hpart
  refine ExS.step (ExS.set hw 10 (isV (nI (ptn A))) (EvP.fcall hw 1 hpart (g_partner w) (D_partner w).keep (by show 1 ≤ 30; decide) (EvL.one (EvP.name hw 8 rfl rfl))) rfl nfC) hs₈ fun s₉ k9 hs₉ => ?_
  have hpb := fun q hq => (ptn_bits A q hq).1
  have hp16 := len16 (ptn_nodup A) hpb
  have hmul : (nI A).length * (nI (ptn A)).length ≤ 16 * 16 := by rw [nI_len, nI_len]; exact Nat.mul_le_mul hl16 hp16
  refine ExS.step (ExS.set hw 11 (.list ((hueN A (ptn A)).map hueSc)) (EvP.comp2 (items := (nI A).map .int) (items₂ := (nI (ptn A)).map .int) hw hueG (caps3 (x := "level") (i := 7) (y := "partner") (j := 10) (z := "share") (l := 6) (v := fV (quarter b)) (u := isV (nI (ptn A))) (t := fV (quarter a)) (k := .cel) (k' := .cel) (k'' := .cel) rfl nlC rfl rfl rfl nlC rfl rfl rfl nlC rfl rfl (by decide +kernel) (by decide +kernel)) nfL nfL (ItP.list hw (EvP.name hw 4 rfl rfl)) ?_ ?_ ?_ ?_ (hue_flat A (ptn A))) rfl nfC) hs₉ fun s₁₀ k10 hs₁₀ => ?_
  · rw [List.length_map, List.length_map]; rw [nI_len] at hmul ⊢; rw [nI_len] at hmul ⊢; (first | exact om242 hmul hp16 | omega)
  · rw [List.length_map, nI_len]; (first | exact om179 hl16 | omega)
  · exact fun C D X item u hm wf' => ItP.list wf' (xs := (nI (ptn A)).map .int) (EvP.name wf' 3 rfl rfl)
  · intro C D X item item₂ hm hm₂ wf'
    obtain ⟨i, hi, rfl⟩ := mem_intmap hm
    obtain ⟨p, hp, rfl⟩ := List.mem_map.mp hi
    obtain ⟨i₂, hi₂, rfl⟩ := mem_intmap hm₂
    obtain ⟨q, hq, rfl⟩ := List.mem_map.mp hi₂
    have b1 := ok.lt p hp
    have b2 := hpb q hq
    have ht := told_fn gd (n := p + q) (by (first | exact om243 b2 b1 | omega)) ha hb
    show EvP w h₀ _ _ _ (fV (Float64.ofInt (((((p : Nat) : Int).toNat + ((q : Nat) : Int).toNat) % 16 : Nat) : Int)))
    rw [Int.toNat_natCast, Int.toNat_natCast]
    have e : ((p + q : Nat) : Int) = ((p : Nat) : Int) + ((q : Nat) : Int) := by push_cast; rfl
    rw [e] at ht
    exact EvP.fcall wf' 2 ht (g_told w) (D_told w).keep (by show 2 ≤ 30; decide) (EvL.cons (EvP.bin (EvP.name wf' 0 rfl rfl) (EvP.name wf' 1 rfl rfl) BinP.add) (EvL.cons (EvP.name wf' 4 rfl rfl) (EvL.cons (EvP.name wf' 2 rfl rfl) EvL.nil)))
  have hpaint : (r16.filter fun _ => true).map (fun sp => (((hueN A (ptn A)).count sp.toNat : Nat) : Int)) = nI (paintN A) := by
    rw [filterT]
    unfold r16 paintN nI
    rw [List.map_map, List.map_map]
    rfl
  refine ExS.step (ExS.compI (xs := r16) hw 12 (nI (paintN A)) (fun _ => true) (fun sp => (((hueN A (ptn A)).count sp.toNat : Nat) : Int)) (caps1 (x := "hues") (i := 11) (v := .list ((hueN A (ptn A)).map hueSc)) (k := .cel) rfl nlC rfl rfl (by decide +kernel) (by decide +kernel)) nfL (ItP.r16 hw rfl) (by decide) ?_ hpaint rfl rfl nfL) hs₁₀ fun s₁₁ k11 hs₁₁ => ?_
  · intro C D X i hi wf'
    obtain ⟨h0, h1⟩ := mem_r16.mp hi
    obtain ⟨sp, rfl⟩ := Int.eq_ofNat_of_zero_le h0
    refine ⟨TsP.nil, fun _ => ?_⟩
    show EvP w h₀ _ _ _ (iV (((hueN A (ptn A)).count ((sp : Nat) : Int).toNat : Nat) : Int))
    rw [Int.toNat_natCast, ← hue_countP hue_lt (by (first | exact om244 h1 | omega))]
    exact EvP.mcall (CalP.count fun y hy => by obtain ⟨m, _, rfl⟩ := List.mem_map.mp hy; rfl) ofT.list F.plainAttrs_list F.slot_list_count F.type_list_count (EvP.name wf' 1 rfl rfl) (EvL.one (EvP.name wf' 0 rfl rfl))
  exact k ns n0 A n a b s₁₁ ok hn5 hn44 ha hb ((((((((((k1.trans k2).trans k3).trans k4).trans k5).trans k6).trans k7).trans k8).trans k9).trans k10).trans k11) hs₁₁
end Mine

namespace Mine

section
variable {w : World} {h₀ : Heap} {Φ : Fm} {vs : List (Option Vl)}
theorem BinP.run {op a b v} (h : BinP w h₀ Φ vs op a b v) : ∀ s va vb, St h₀ Φ vs s → Rep Φ.av s.heap a va → Rep Φ.av s.heap b vb → wpAny (MD w) Φ.A (binaryOp op va vb) (Post Φ v s) NoE s := h
theorem eqL_int : ∀ xs ys : List Int, eqL (xs.map .int) (ys.map .int) = (xs == ys)
  | [], [] => rfl
  | [], _ :: _ => rfl
  | _ :: _, [] => rfl
  | x :: xs, y :: ys => by
    rw [List.map_cons, List.map_cons, eqL_c, eqL_int xs ys]
    rfl
theorem CmpP.eqIs (hw : WF w h₀ Φ) {xs ys : List Int} : CmpP w h₀ Φ vs .Eq (isV xs) (isV ys) (xs == ys) := by
  rw [← eqL_int]
  exact CmpP.eqLs hw fun x hx y hy => by
    obtain ⟨_, _, rfl⟩ := List.mem_map.mp hx; obtain ⟨_, _, rfl⟩ := List.mem_map.mp hy; rfl
theorem CmpP.neIs (hw : WF w h₀ Φ) {xs ys : List Int} : CmpP w h₀ Φ vs .NotEq (isV xs) (isV ys) (!(xs == ys)) := by
  rw [← eqL_int]
  exact CmpP.neLs hw fun x hx y hy => by
    obtain ⟨_, _, rfl⟩ := List.mem_map.mp hx; obtain ⟨_, _, rfl⟩ := List.mem_map.mp hy; rfl
theorem BinP.timesI {x : Int} {k : Nat} (hz : k ≤ 1000) : BinP w h₀ Φ vs .Mult (isV [x]) (iV (k : Nat)) (isV (List.replicate k x)) := by
  have h := BinP.times (w := w) (h₀ := h₀) (Φ := Φ) (vs := vs) (xs := [.int x]) (x := (k : Int)) (by (first | exact om23 hz | omega)) (by (first | exact om146 | omega)) (by simp) (by simp; omega)
  have e : (List.replicate ((k : Int)).toNat [Sc.int x]).flatten = (List.replicate k x).map .int := by
    rw [Int.toNat_natCast, List.map_replicate]
    generalize k = k
    induction k with
    | zero => rfl
    | succ k ih => rw [List.replicate_succ, List.flatten_cons, ih]; rfl
  rw [e] at h
  exact h
theorem CalP.lenE {xs : List Int} {k : Nat} (h : xs.length = k) (hz : k ≤ 1000) : CalP w h₀ Φ vs (.builtin "len") [isV xs] (iV (k : Nat)) := by
  subst h; exact CalP.lenI hz
theorem TrP.ofInts {e} {xs : List Int} (h : EvP w h₀ Φ vs e (isV xs)) (hz : xs.length ≤ 1000) (he : isTrue e Φ.env (eval e Φ.env) = (do let v ← eval e Φ.env; standAt e.pos; holding [v] (truthy v)) := by rfl) : TrP w h₀ Φ vs e (!xs.isEmpty) := by
  have := TrP.ofList h (by simpa using hz) he
  rw [List.isEmpty_map] at this
  exact this
end

theorem nI_eq {X Y : List Nat} : (nI X == nI Y) = decide (X = Y) := by
  rw [Bool.eq_iff_iff, beq_iff_eq, decide_eq_true_eq]
  constructor
  · intro h
    unfold nI at h
    exact List.map_inj_right (fun a b e => by (first | exact om245 e | omega)) |>.mp h
  · rintro rfl; rfl
theorem nI_sum : ∀ X : List Nat, (nI X).sum = ((X.sum : Nat) : Int)
  | [] => rfl
  | x :: X => by
    have := nI_sum X
    unfold nI at this ⊢
    rw [List.map_cons, List.sum_cons, List.sum_cons, this]; push_cast; rfl
theorem copies_eq (A : List Nat) : (r16.filter fun _ => true).map (fun t => (((copyN A t.toNat : Nat)) : Int)) = nI (copyL A) := by
  rw [filterT]
  unfold r16 copyL nI
  rw [List.map_map, List.map_map]
  rfl

theorem sumPaint {w : World} {h₀ : Heap} {Φ : Fm} {vs : List (Option Vl)} (hw : WF w h₀ Φ) {A : List Nat} (ok : Ok A) : CalP w h₀ Φ vs (.builtin "sum") [isV (nI (paintN A))] (iV ((paintN A).sum : Nat)) := by
  have hpl16 : (paintN A).length = 16 := by unfold paintN; simp
  have hsum := CalP.sum (vs := vs) hw (xs := nI (paintN A)) (fun x hx => by
      obtain ⟨y, hy, rfl⟩ := List.mem_map.mp hx
      have := paint_mem ok.nd ok.lt y hy
      (first | exact om246 this | omega)) (by rw [nI_len]; (first | exact om247 hpl16 | omega))
  rw [nI_sum] at hsum
  exact hsum

noncomputable def vsC (script ns : List Int) (n0 : Int) (A : List Nat) (n a b : Nat) (pr : Int) : List (Option Vl) :=
  [some (.arg (script.map .int)), some (isV (drawnV script)), some (isV ns), some (iV n0), some (isV (nI A)), some (iV (n : Nat)), some (fV (quarter a)), some (fV (quarter b)), some (isV (nI (fstV A))), some (bV true), some (isV (nI (ptn A))),
    some (.list ((hueN A (ptn A)).map hueSc)), some (isV (nI (paintN A))), some (iV pr), some (isV (digs n (figs n (remN n A)) (remN n A : Nat))), none, none, none, none]

variable {w : World} {h₀ : Heap}
set_option maxHeartbeats 4000000 in
theorem law_C (gd : Gd w h₀) (G8 : Gn h₀ 49 45) (h45 : TabG h₀ 45 ln8 col8 q8) (G7 : Gn h₀ 42 38) (h38 : TabG h₀ 38 ln7 col7 q7) {L f : Addr} {cd : Value} {Ar : Around} (hw : WF w h₀ (lawFm L f cd Ar)) {script ns : List Int} {n0 pr : Int} {A : List Nat} {n a b : Nat}
    (ok : Ok A) (hn5 : 5 ≤ n) (hn44 : n ≤ 44) : ExP w h₀ (lawFm L f cd Ar) (vsC script ns n0 A n a b pr) ((bodyAt 23).drop 14) (fun o => o = .ret (bV true)) := by
  have hw' := hw
  unfold vsC
  have hfl := rem_figs (A := A) (n := n) hn5
  have hdl : (digs n (figs n (remN n A)) ((remN n A : Nat) : Int)).length = figs n (remN n A) := digs_len ..
  have hl16 := len16 ok.nd ok.lt
  have h2 : Builtin.Int.intBits 2 = 2 := by decide +kernel
  -- the figures are as painted
  refine ExP.cons (ExS.ite (b := false) ?_ (fun q => by cases q) fun _ => ExP.nil ?_)
  · have hq : (!(digs n (figs n (remN n A)) ((remN n A : Nat) : Int) ++ List.replicate (16 - figs n (remN n A)) 0 == nI (paintN A))) = false := by
      rw [fig_eq ok hn5]; simp
    have e16 : (16 : Int) - ((figs n (remN n A) : Nat) : Int) = ((16 - figs n (remN n A) : Nat) : Int) := by (first | exact om248 hfl | omega)
    rw [← hq]
    refine TrP.cmp (EvP.bin (EvP.name hw 14 rfl rfl) (EvP.bin (EvP.list (xs := [.int 0]) (EvL.one EvP.int)) (e16 ▸ EvP.bin EvP.int (EvP.bcall hw (CalP.lenE hdl (by (first | exact om249 e16 | omega))) boot_len (EvL.one (EvP.name hw 14 rfl rfl))) BinP.sub) (BinP.timesI (x := 0) (by (first | exact om250 | omega)))) (BinP.catI ?_)) (EvP.name hw 12 rfl rfl) (CmpP.neIs hw)
    rw [hdl, List.length_replicate]; (first | exact om251 e16 | omega)
  have hN := powN_lt ok.nd ok.lt (n := n) (by (first | exact om252 hn5 | omega))
  have hnum := (number_TFn gd G8 (n := n) (ps := nI A) (by (first | exact om252 hn5 | omega)) (by (first | exact om253 hn44 | omega))).fn h45
  rw [number_nat ok.nd ok.lt] at hnum
  have hev := even_fn gd G8 h45 G7 h38 (N := powN (2 ^ n) A) hn5 hn44 hN
  rw [evenV_nI] at hev
  obtain ⟨e, hee⟩ : ∃ e : Nat → Bool, (fun j => evenB (powN (2 ^ n) A) n ((2 ^ j : Nat) : Int)) = e := ⟨_, rfl⟩
  rw [hee] at hev
  have he : ∀ j, j < 4 → (e j = true ↔ EP A j) := fun j _ => by rw [← hee]; exact even_EP ok hn5 j
  have sp : Sp A e (fstB A) := ⟨cN_top ok.nd ok.lt, ok.ne, he, fun j hj => fst_FP ok.lt hj⟩
  refine thenN (ExP.cons (ExS.set hw 15 (isV (nI (evN e))) (EvP.fcall hw 28 hev (g_even w) (D_even w).keep (by show 28 ≤ 30; decide) (EvL.cons (EvP.fcall hw 19 hnum (g_number w) (D_number w).keep (by show 19 ≤ 30; decide) (EvL.cons (EvP.name hw 4 rfl rfl) (EvL.cons (EvP.name hw 5 rfl rfl) EvL.nil))) (EvL.cons (EvP.name hw 5 rfl rfl) EvL.nil))) ?_ nfL))
  refine ExP.cons (ExS.set hw 16 (iV (A.length : Nat)) (EvP.bcall hw (CalP.lenE (nI_len A) (by (first | exact om179 hl16 | omega))) boot_len (EvL.one (EvP.name hw 4 rfl rfl))) ?_ nfL)
  have hevl : (evN e).length ≤ 4 := by unfold evN; rw [List.length_map]; exact List.length_filter_le ..
  have hfvl : (fstV A).length ≤ 4 := by unfold fstV; rw [List.length_map]; exact List.length_filter_le ..
  have epow : ∀ k : Nat, (2 : Int) ^ ((k : Nat) : Int).toNat = ((2 ^ k : Nat) : Int) := fun k => by rw [Int.toNat_natCast]; push_cast; rfl
  have pl : 2 ^ (evN e).length = pe e 0 := pe_len e
  -- even is within the first words, and its power divides the size
  refine ExP.cons (ExS.ite (b := false) ?_ (fun q => by cases q) fun _ => ExP.nil ?_)
  · have hsub : (nI (evN e)).filter (fun i => !(nI (fstV A)).contains i) = [] := by
      rw [List.filter_eq_nil_iff]
      intro x hx
      obtain ⟨y, hy, rfl⟩ := List.mem_map.mp hx
      obtain ⟨j, hj, rfl⟩ := List.mem_map.mp hy
      obtain ⟨hj1, hj2⟩ := List.mem_filter.mp hj
      have hj4 := List.mem_range.mp hj1
      have hm : 2 ^ j ∈ fstV A := List.mem_map.mpr ⟨j, List.mem_filter.mpr ⟨hj1, sp.sub j hj4 hj2⟩, rfl⟩
      rw [nI_contains, List.contains_iff_mem.mpr hm]; simp
    have hmod : ((A.length : Nat) : Int).fmod ((2 ^ (evN e).length : Nat) : Int) = 0 := by
      rw [Int.fmod_eq_emod_of_nonneg _ (by (first | exact om73 | omega)), pl]
      exact_mod_cast Nat.mod_eq_zero_of_dvd sp.dvd
    have hpne : ((2 ^ (evN e).length : Nat) : Int) ≠ 0 := by
      have : 0 < 2 ^ (evN e).length := Nat.pow_pos (by decide)
      (first | exact om254 this | omega)
    refine TrP.or (b := false) (c := false) (TrP.ofInts (xs := []) (EvP.compI (xs := nI (evN e)) hw (fun i => !(nI (fstV A)).contains i) (fun i => i) (caps1 (x := "firsts") (i := 8) (v := isV (nI (fstV A))) (k := .cel) rfl nlC rfl rfl (by decide +kernel) (by decide +kernel)) nfL (ItP.list hw (EvP.name hw 15 rfl rfl)) (by rw [nI_len]; (first | exact om255 hevl | omega)) ?_ (by rw [hsub]; rfl)) (by decide)) fun _ => ?_
    · exact fun C D X i hi wf' => ⟨TsP.one (TrP.cmp (EvP.name wf' 0 rfl rfl) (EvP.name wf' 1 rfl rfl) CmpP.notInI), fun _ => EvP.name wf' 0 rfl rfl⟩
    · refine TrP.or (b := false) (c := false) ?_ fun _ => TrP.orNil
      have hne : (((A.length : Nat) : Int).fmod ((2 ^ (evN e).length : Nat) : Int) != 0) = false := by rw [hmod]; rfl
      rw [← hne]
      refine TrP.cmp (EvP.bin (EvP.name hw 16 rfl rfl) (epow (evN e).length ▸ EvP.bin EvP.int (EvP.bcall hw (CalP.lenE (nI_len (evN e)) (by (first | exact om255 hevl | omega))) boot_len (EvL.one (EvP.name hw 15 rfl rfl))) (BinP.pow (by (first | exact om73 | omega)) (by rw [h2]; (first | exact om256 hevl | omega)))) (BinP.fmod hpne)) EvP.int CmpP.neI
  -- the copies
  refine thenN (ExP.cons (ExS.compI (xs := r16) hw 17 (nI (copyL A)) (fun _ => true) (fun t => (((copyN A t.toNat : Nat)) : Int)) (caps1 (x := "places") (i := 4) (v := isV (nI A)) (k := .cel) rfl nlC rfl rfl (by decide +kernel) (by decide +kernel)) nfC (ItP.r16 hw rfl) (by decide) ?_ (copies_eq A) ?_ rfl nfL))
  · intro C D X i hi wf'
    obtain ⟨h0, h1⟩ := mem_r16.mp hi
    obtain ⟨t, rfl⟩ := Int.eq_ofNat_of_zero_le h0
    refine ⟨TsP.nil, fun _ => ?_⟩
    show EvP w h₀ _ _ _ (iV (((copyN A ((t : Nat) : Int).toNat : Nat)) : Int))
    rw [Int.toNat_natCast]
    have hs : (nI (A.map fun p => 2 ^ ((p + t) % 16))).sum = ((copyN A t : Nat) : Int) := nI_sum _
    rw [← hs]
    refine EvP.bcall wf' (CalP.sum wf' (xs := nI (A.map fun p => 2 ^ ((p + t) % 16))) ?_ (by rw [nI_len, List.length_map]; (first | exact om179 hl16 | omega))) boot_sum (EvL.one (EvP.compI (xs := nI A) wf' (fun _ => true) (fun p => (2 : Int) ^ ((p + ((t : Nat) : Int)).fmod 16).toNat) (caps1 (x := "turn") (i := 0) (v := iV (t : Nat)) (k := .cel) rfl nlC rfl rfl (by decide +kernel) (by decide +kernel)) nfL (ItP.list wf' (EvP.name wf' 1 rfl rfl)) (by rw [nI_len]; (first | exact om179 hl16 | omega)) ?_ ?_))
    · intro x hx
      obtain ⟨y, hy, rfl⟩ := List.mem_map.mp hx
      obtain ⟨p, hp, rfl⟩ := List.mem_map.mp hy
      have h3 : 2 ^ ((p + t) % 16) < 2 ^ 40 := Nat.pow_lt_pow_right (by decide) (by (first | exact om257 | omega))
      exact ⟨Int.natCast_nonneg _, by exact_mod_cast h3⟩
    · intro C' D' X' i' hi' wf''
      refine ⟨TsP.nil, fun _ => ?_⟩
      have hm0 := Int.fmod_nonneg_of_pos (i' + ((t : Nat) : Int)) (show (0 : Int) < 16 by decide)
      have hm1 := Int.fmod_lt_of_pos (i' + ((t : Nat) : Int)) (show (0 : Int) < 16 by decide)
      exact EvP.bin EvP.int (EvP.bin (EvP.bin (EvP.name wf'' 0 rfl rfl) (EvP.name wf'' 1 rfl rfl) BinP.add) EvP.int (BinP.fmod (by decide))) (BinP.pow hm0 (by rw [h2]; (first | exact om258 hm1 | omega)))
    · rw [filterT]
      unfold nI
      rw [List.map_map, List.map_map]
      refine List.map_congr_left fun p _ => ?_
      show (2 : Int) ^ ((((p : Nat) : Int) + ((t : Nat) : Int)).fmod 16).toNat = ((2 ^ ((p + t) % 16) : Nat) : Int)
      have e1 : (((p : Nat) : Int) + ((t : Nat) : Int)).fmod 16 = (((p + t) % 16 : Nat) : Int) := by
        rw [Int.fmod_eq_emod_of_nonneg _ (by decide)]; (first | exact om259 | omega)
      rw [e1, epow]
  -- all tries
  have hc0 : (nI (copyL A))[(0 : Int).toNat]? = some ((copyN A 0 : Nat) : Int) := rfl
  refine ExP.cons (ExS.set hw 18 (bV (tilesB A)) (EvP.fcall hw 17 (tried_fn gd ok.lt hl16 ok.csOk 17 (copyN A 0) 0 ok.start (by decide)) (g_tried w) (D_tried w).keep (by show 17 ≤ 30; decide) (EvL.cons (EvP.itemI (EvP.name hw 17 rfl rfl) EvP.int (by decide) (by decide) hc0) (EvL.cons EvP.int (EvL.cons (EvP.name hw 4 rfl rfl) (EvL.cons (EvP.name hw 17 rfl rfl) EvL.nil))))) ?_ nfL)
  obtain ⟨a1, a2, a3, a4⟩ := asked ok he
  have hfin : eqL [.bool (nI (evN e) == nI (fstV A)), .bool (((2 ^ (evN e).length : Nat) : Int) == ((A.length : Nat) : Int)), .bool (((2 ^ (fstV A).length : Nat) : Int) == ((A.length : Nat) : Int)), .bool ((((paintN A).sum : Nat) : Int) == 16)] (List.replicate ((4 : Int)).toNat [Sc.bool (tilesB A)]).flatten = true := by
    have c1 : (nI (evN e) == nI (fstV A)) = tilesB A := by
      rw [nI_eq, Bool.eq_iff_iff, decide_eq_true_eq]; exact a1
    have c2 : (((2 ^ (evN e).length : Nat) : Int) == ((A.length : Nat) : Int)) = tilesB A := by
      rw [Bool.eq_iff_iff, beq_iff_eq, ← a2]; exact Int.ofNat_inj
    have c3 : (((2 ^ (fstV A).length : Nat) : Int) == ((A.length : Nat) : Int)) = tilesB A := by
      rw [Bool.eq_iff_iff, beq_iff_eq, ← a3]; exact Int.ofNat_inj
    have c4 : ((((paintN A).sum : Nat) : Int) == 16) = tilesB A := by
      rw [Bool.eq_iff_iff, beq_iff_eq, ← a4]
      constructor
      · intro q; (first | exact om260 q | omega)
      · intro q; (first | exact om261 q | omega)
    rw [c1, c2, c3, c4]
    cases tilesB A <;> rfl
  refine ExP.cons (ExS.ret hw (v := bV true) (hfin ▸ EvP.cmp (EvP.list (xs := [.bool _, .bool _, .bool _, .bool _]) (EvL.cons (EvP.cmp (EvP.name hw 15 rfl rfl) (EvP.name hw 8 rfl rfl) (CmpP.eqIs hw)) (EvL.cons (EvP.cmp (epow (evN e).length ▸ EvP.bin EvP.int (EvP.bcall hw (CalP.lenE (nI_len (evN e)) (by (first | exact om255 hevl | omega))) boot_len (EvL.one (EvP.name hw 15 rfl rfl))) (BinP.pow (by (first | exact om73 | omega)) (by rw [h2]; (first | exact om256 hevl | omega)))) (EvP.name hw 16 rfl rfl) CmpP.eqI) (EvL.cons (EvP.cmp (epow (fstV A).length ▸ EvP.bin EvP.int (EvP.bcall hw (CalP.lenE (nI_len (fstV A)) (by (first | exact om255 hfvl | omega))) boot_len (EvL.one (EvP.name hw 8 rfl rfl))) (BinP.pow (by (first | exact om73 | omega)) (by rw [h2]; (first | exact om256 hfvl | omega)))) (EvP.name hw 16 rfl rfl) CmpP.eqI) (EvL.cons (EvP.cmp (EvP.bcall hw (sumPaint hw ok) boot_sum (EvL.one (EvP.name hw 12 rfl rfl))) EvP.int CmpP.eqI) EvL.nil)))) (by simp)) (EvP.bin (EvP.list (xs := [.bool (tilesB A)]) (EvL.one (EvP.name hw 18 rfl rfl)) (by simp)) EvP.int (BinP.times (by decide) (by decide) (by simp) (by simp))) (CmpP.eqLs hw fun x hx y hy => ?_)) rfl)
  have hx' : ∃ b1, x = .bool b1 := by
    simp only [List.mem_cons, List.not_mem_nil, or_false] at hx
    rcases hx with rfl | rfl | rfl | rfl <;> exact ⟨_, rfl⟩
  have hy' : ∃ b2, y = .bool b2 := by
    obtain ⟨l, hl, hy⟩ := List.mem_flatten.mp hy
    rw [(List.mem_replicate.mp hl).2] at hy
    exact ⟨_, List.mem_singleton.mp hy⟩
  obtain ⟨b1, rfl⟩ := hx'
  obtain ⟨b2, rfl⟩ := hy'
  rfl
end Mine

namespace Mine

theorem T7.trans {s s₁ s₂} (t : T7 s s₁) (u : T7 s₁ s₂) : T7 s s₂ := by
  obtain ⟨h1, tk1, rfl, k1, g1, sm1⟩ := t
  obtain ⟨h2, tk2, rfl, k2, g2, sm2⟩ := u
  exact ⟨h2, tk2, rfl, fun b o nb e => k2 b o nb (k1 b o nb e), g2, fun hg o e => sm2 g1 o (sm1 hg o e)⟩

section
variable {w : World} {h₀ : Heap} {Φ : Fm} {vs : List (Option Vl)}
/-- a call of two arguments, the first of which lays the table -/
theorem evT2 (hw : WF w h₀ Φ) {x : Str} {f : Addr} {np pos e₁ e₂ r} {i : Int} {v₂ : Vl} (d : Nat) (hf : TFn w h₀ d f [iV i, v₂] r) (hg : nsIn (KK w) mainGlobals x = some (some (.ref f))) (hkp : keepIn (KK w) (.ref f) = true) (hdd : d ≤ Φ.d)
    {s : Shared} (hs : St h₀ Φ vs s) (ht : TOK h₀ Φ.av s) (h1 : wpAny (MD w) Φ.A (eval e₁ Φ.env) (fun v s₁ => T7 s s₁ ∧ SR (.int i) v) NoE s) (h2 : EvP w h₀ Φ vs e₂ v₂)
    (hx : Φ.env.kindOf x = some .globalImplicit) (hd : (x == ("__debug__" : Str)) = false)
    (he : starEach [e₁, e₂] Φ.env = (false, eval e₁ Φ.env) :: starEach [e₂] Φ.env) (he2 : starEach [e₂] Φ.env = (false, eval e₂ Φ.env) :: starEach [] Φ.env)
    (hpl : (backTo pos (starEach [e₁, e₂] Φ.env)).any (·.1) = false)
    (hee : eval (.Call (.Name x np) [e₁, e₂] [] pos) Φ.env = (do callWith pos (← eval (.Name x np) Φ.env) [] (backTo pos (starEach [e₁, e₂] Φ.env)) (backToKw pos (keywordEach [] Φ.env)))) :
    wpAny (MD w) Φ.A (eval (.Call (.Name x np) [e₁, e₂] [] pos) Φ.env) (fun val s' => T7 s s' ∧ Rep Φ.av s'.heap r val) NoE s := by
  refine Call_ (globalP hw hx hg hd hs ?_) hee
  refine callWith_of (P := (KK w).In) (by show (_ || false) = false; rw [hpl]; rfl) (keeps_K hkp) ?_
  have hl : wpAny (MD w) Φ.A (spliced (backTo pos (starEach [e₁, e₂] Φ.env))) (fun vals s' => T7 s s' ∧ Paired (Rep Φ.av s'.heap) [iV i, v₂] vals) NoE s := by
    refine wpAny_items_cons (wpAny_mono h1 (fun va s₁ k1 => ?_) fun _ _ x => x) he
    obtain ⟨t1, r1⟩ := k1
    have hs₁ := St.tstep hw hs ht t1
    refine wpAny_items_cons (wpAny_mono (h2 s₁ hs₁) (fun vb s₂ k2 => ?_) fun _ _ x => x) he2
    exact wpAny_items_nil ⟨T7.post t1 k2.1, .cons r1 (.cons k2.2 .nil)⟩
  rw [he] at hl ⊢
  refine Calls.evalArgs_plain (wpAny_mono hl (fun vals s₁ h1 => ?_) fun _ _ x => x)
  have hs₁ := St.tstep hw hs ht h1.1
  refine ⟨inKeeps hw.gd.K hs₁.base, ?_⟩
  exact wpAny_mono (hf Φ.A s₁ Φ.av vals (hw.room.le hdd) hs₁.base hs₁.live (.inr h1.1.laid) h1.2) (fun val s₂ h2 => ⟨T7.trans h1.1 h2.1, h2.2⟩) fun _ _ x => x

theorem itemT7 (hw : WF w h₀ Φ) {value slice pos} {ws : List It} {k : Int} {x : Int} {s : Shared} (hs : St h₀ Φ vs s) (ht : TOK h₀ Φ.av s) (hv : wpAny (MD w) Φ.A (eval value Φ.env) (fun v s₁ => T7 s s₁ ∧ Rep Φ.av s₁.heap (.tup ws) v) NoE s) (hi : EvP w h₀ Φ vs slice (iV k)) (h0 : 0 ≤ k) (hk : k < 2 ^ 63) (hx : ws[k.toNat]? = some (.sc (.int x))) :
    wpAny (MD w) Φ.A (eval (.Subscript value slice pos) Φ.env) (fun v s₁ => T7 s s₁ ∧ SR (.int x) v) NoE s := by
  refine Subscript_ (wpAny_mono hv (fun o s₁ h1 => ?_) fun _ _ x => x)
  have hs₁ := St.tstep hw hs ht h1.1
  refine wpAny_mono (hi s₁ hs₁) (fun i s₂ h2 => ?_) fun _ _ x => x
  obtain ⟨a, items, rfl, hl, _, hp⟩ := h1.2.keeps h2.1.heap
  obtain ⟨t, rfl⟩ := h2.2
  obtain ⟨ops, hops⟩ := subs_ops slice (.ref a) (.int k t)
  obtain ⟨b, hb, hf⟩ := pairedGetR hp hx
  have hlt : k.toNat < items.size := by
    by_cases q : k.toNat < items.toList.length
    · simpa using q
    · rw [List.getElem?_eq_none (by (first | exact om8 q | omega))] at hb; cases hb
  have hT : IsTup s₂.heap a items := hl
  refine PyProof.Rows.tail_any hT.typeIs PyProof.Rows.slot_tuple_getitem.lookup (PyProof.Rows.getItem_tuple hT (by (first | exact om9 h0 | omega)) hk (j := k.toNat) ?_ (by simpa using hb) ⟨T7.post h1.1 h2.1, hf⟩) hops
  unfold seqIndex?
  have h1 : ¬ k < 0 := by (first | exact om10 h0 | omega)
  simp only [h1, if_false]
  have h2 : (decide (0 ≤ k) && decide (k < (items.size : Int))) = true := by simp; (first | exact om11 h1 hlt | omega)
  rw [if_pos h2]
end

/-! what the frame itself may change -/
theorem law_cells : (lawSc.names.all fun p => p.2 != .cell || lawNm.any fun q => q.1 == p.1 && (match q.2 with | .cel => true | _ => false)) = true := by decide +kernel
theorem mu_fields {w : World} {h₀ : Heap} {L f : Addr} {cd : Value} {Ar : Around} {vs} (hw : WF w h₀ (lawFm L f cd Ar)) {s : Shared} (hs : St h₀ (lawFm L f cd Ar) vs s) {b : Addr} {o : Obj} {fs} (e : s.heap.get? b = some o) (d : o.data = .fields fs) : ¬ (lawFm L f cd Ar).mu b := by
  obtain ⟨mc, hns, hp⟩ := hs.ns
  rintro (rfl | ⟨x, hx⟩)
  · obtain ⟨oL, es, ep, e2, d2, _⟩ := hns
    have e2' : s.heap.get? b = some oL := e2
    rw [e] at e2'; cases e2'; rw [d] at d2; cases d2
  · have hm := (cellsFrom_mem (mem_of_lookup hx)).2
    have h1 := (List.all_eq_true.mp law_cells) _ hm
    simp only [bne_self_eq_false, Bool.false_or] at h1
    obtain ⟨q, hq, hqq⟩ := List.any_eq_true.mp h1
    rw [Bool.and_eq_true] at hqq
    obtain ⟨y, k⟩ := q
    have hy : y = x := by simpa using hqq.1
    subst hy
    cases k with
    | loc => cases hqq.2
    | fre => cases hqq.2
    | cel =>
      obtain ⟨i, hi⟩ := List.getElem?_of_mem hq
      have hi' : (lawFm L f cd Ar).nm[i]? = some (y, VK.cel) := hi
      have hlen : i < vs.length := by
        have e1 : (lawFm L f cd Ar).nm.length = vs.length := Paired.length hp
        by_cases q : i < (lawFm L f cd Ar).nm.length
        · (first | exact om5 q e1 | omega)
        · rw [List.getElem?_eq_none (by (first | exact om4 q | omega))] at hi'; cases hi'
      have hb : vs[i]? = some vs[i] := by simp [hlen]
      have hv := pairedGet hp hi' hb
      have hcl : (lawFm L f cd Ar).env.cells.lookup y = some b := hx
      have cell : ∃ v₀, s.heap.IsCell b v₀ := by
        generalize vs[i] = ov at hv
        cases ov with
        | none => obtain ⟨c', v₀, h1, h2⟩ := hv rfl; rw [hcl] at h1; cases h1; exact ⟨v₀, h2⟩
        | some v' =>
          obtain ⟨val', _, h4, _⟩ := hv
          obtain ⟨c', h1, h2⟩ := h4.of (by simp)
          have h1' : (lawFm L f cd Ar).env.cells.lookup y = some c' := h1
          rw [hcl] at h1'; cases h1'; exact ⟨_, h2⟩
      obtain ⟨v₀, oc, e2, d2⟩ := cell
      rw [e] at e2; cases e2; rw [d] at d2; cases d2
theorem TabG.but {h h' : Heap} {P ln col q} (g : TabG h P ln col q) (k : ∀ b o fs, h.get? b = some o → o.data = .fields fs → fs[1]? ≠ none → h'.get? b = some o) : TabG h' P ln col q := by
  obtain ⟨c', g1, cc, oc, vsc, tq, g2, g3, g4, g5⟩ := g
  exact ⟨c', k _ _ _ g1 rfl (by simp [tabOne]), cc, oc, vsc, tq, g2, k _ _ _ g3 g4 (by rw [g5]; simp), g4, g5⟩
theorem mulList {L : Addr} {f : Addr} {cd : Value} {Ar : Around} : ∃ ml : List Addr, ∀ a, a ∈ ml ↔ (lawFm L f cd Ar).mu a := by
  classical
  refine ⟨(L :: (cellsFrom (L + 1) lawSc.names []).map (·.2)).filter fun a => decide ((lawFm L f cd Ar).mu a), fun a => ?_⟩
  rw [List.mem_filter, decide_eq_true_eq]
  refine ⟨fun h => h.2, fun h => ⟨?_, h⟩⟩
  rcases h with rfl | ⟨x, hx⟩
  · exact List.mem_cons_self
  · exact List.mem_cons_of_mem _ (List.mem_map.mpr ⟨_, mem_of_lookup hx, rfl⟩)

theorem bits_pred {m : Nat} (hm : 1 ≤ m) : Builtin.Int.intBits ((2 ^ m - 1 : Nat) : Int) = m := by
  have hp : 2 ≤ 2 ^ m := by have := Nat.pow_le_pow_right (show 2 > 0 by decide) hm; omega
  have h1 := bits_pos (b := 2 ^ m - 1) (by (first | exact om262 hp | omega))
  have hle : Builtin.Int.intBits ((2 ^ m - 1 : Nat) : Int) ≤ m := intBits_le (by (first | exact om263 | omega)) (by
    have : 2 ^ m - 1 < 2 ^ m := by (first | exact om264 hp | omega)
    exact_mod_cast this)
  have hge : ¬ Builtin.Int.intBits ((2 ^ m - 1 : Nat) : Int) ≤ m - 1 := fun q => by
    have h3 : 2 ^ Builtin.Int.intBits ((2 ^ m - 1 : Nat) : Int) ≤ 2 ^ (m - 1) := Nat.pow_le_pow_right (by decide) q
    have h4 : 2 ^ m - 1 < 2 ^ Builtin.Int.intBits ((2 ^ m - 1 : Nat) : Int) := by exact_mod_cast h1.2
    have h5 : 2 ^ m = 2 * 2 ^ (m - 1) := by rw [← Nat.pow_succ']; congr 1; (first | exact om265 q h1 | omega)
    (first | exact om266 h5 h4 h3 | omega)
  (first | exact om267 hge hle | omega)


theorem gt11 {w : World} {h₀ : Heap} {Φ : Fm} {vs} : CmpP w h₀ Φ vs .Gt (iV 1) (iV 1) false := CmpP.gtI

variable {w : World} {h₀ : Heap}
set_option maxHeartbeats 4000000 in
theorem law_run (gd : Gd w h₀) (G8 : Gn h₀ 49 45) (G7 : Gn h₀ 42 38) {L f : Addr} {cd : Value} {Ar : Around} (hw : WF w h₀ (lawFm L f cd Ar)) {script : List Int} (hsc : script.length ≤ 63) {s : Shared}
    (hs : St h₀ (lawFm L f cd Ar) [some (.arg (script.map .int)), none, none, none, none, none, none, none, none, none, none, none, none, none, none, none, none, none, none] s)
    (t45 : TabE s.heap 45) (t38 : TabE s.heap 38) (n45 : ¬ (lawFm L f cd Ar).av 45) (n38 : ¬ (lawFm L f cd Ar).av 38) (z45 : h₀.get? 45 = none) (z38 : h₀.get? 38 = none) :
    wpAny (MD w) (lawFm L f cd Ar).A (execs (bodyAt 23) (lawFm L f cd Ar).env) (fun fl s' => fl = .ret (.bool true) ∧ Sm s s' ∧ (∀ b o, h₀.get? b = some o → s'.heap.get? b = some o) ∧ TabG s'.heap 45 ln8 col8 q8 ∧ TabG s'.heap 38 ln7 col7 q7) NoE s := by
  refine law_A gd hw hsc hs fun ns n0 A n a b s₁ ok hn5 hn44 ha hb k1 hs₁ => ?_
  have m45 : ¬ (lawFm L f cd Ar).mu 45 := fun q => n45 (hw.muav _ q)
  have m38 : ¬ (lawFm L f cd Ar).mu 38 := fun q => n38 (hw.muav _ q)
  have e45 : TabE s₁.heap 45 := k1.heap _ _ m45 t45
  have e38 : TabE s₁.heap 38 := k1.heap _ _ m38 t38
  unfold vsA at hs₁
  have hpm : ∀ x ∈ nI (paintN A), x ≤ 1 := fun x hx => by
    obtain ⟨y, hy, rfl⟩ := List.mem_map.mp hx
    have := paint_mem ok.nd ok.lt y hy
    (first | exact om268 this | omega)
  have hp1 : (1 : Int) ∈ nI (paintN A) := List.mem_map.mpr ⟨1, paint_one ok.nd ok.lt ok.ne, rfl⟩
  have hl16 := len16 ok.nd ok.lt
  have hpb := fun q hq => (ptn_bits A q hq).1
  have hp16 := len16 (ptn_nodup A) hpb
  have hul : (hueN A (ptn A)).length ≤ 16 * 16 := by rw [hue_len]; exact Nat.mul_le_mul hl16 hp16
  have hne : ((((paintN A).sum : Nat) : Int) != (((((hueN A (ptn A)).map hueSc)).length : Nat) : Int)) = false := by
    rw [paint_sum, List.length_map, hue_len]; simp
  refine ExS.runIf (TrP.or (b := false) (c := false) (TrP.not (b := true) (TrP.ofBool (EvP.name hw 9 rfl rfl))) fun _ => TrP.or (b := false) (c := false) (TrP.cmp (EvP.bcall hw (CalP.max hw hp1 hpm) boot_max (EvL.one (EvP.name hw 12 rfl rfl))) EvP.int gt11) fun _ =>
    TrP.or (b := false) (c := false) (hne ▸ TrP.cmp (EvP.bcall hw (sumPaint hw ok) boot_sum (EvL.one (EvP.name hw 12 rfl rfl))) (EvP.bcall hw (CalP.len (by rw [List.length_map]; (first | exact om269 hul | omega))) boot_len (EvL.one (EvP.name hw 11 rfl rfl))) CmpP.neI) fun _ => TrP.orNil) hs₁ rfl fun s₂ k2 hs₂ => ?_
  have e45₂ : TabE s₂.heap 45 := k2.heap _ _ e45
  have e38₂ : TabE s₂.heap 38 := k2.heap _ _ e38
  have tok₂ : TOK8 h₀ (lawFm L f cd Ar).av s₂ := .inl ⟨e45₂, n45, z45⟩
  -- the product
  have hnA := number_TFn gd G8 (n := n) (ps := nI A) (by (first | exact om252 hn5 | omega)) (by (first | exact om253 hn44 | omega))
  rw [number_nat ok.nd ok.lt] at hnA
  have hnP := number_TFn gd G8 (n := n) (ps := nI (ptn A)) (by (first | exact om252 hn5 | omega)) (by (first | exact om253 hn44 | omega))
  rw [number_nat (ptn_nodup A) hpb] at hnP
  have bA := powN_lt ok.nd ok.lt (n := n) (by (first | exact om252 hn5 | omega))
  have bP := powN_lt (ptn_nodup A) hpb (n := n) (by (first | exact om252 hn5 | omega))
  have bits : ∀ N : Nat, N < 2 ^ (n * 16) → Builtin.Int.intBits ((N : Nat) : Int) ≤ n * 16 := fun N h => intBits_le (by (first | exact om73 | omega)) (by exact_mod_cast h)
  refine wpAny_execs_cons (wpAny_Assign_Name (wpAny_BinOp (wpAny_mono (evT8 hw 19 hnA (g_number w) (D_number w).keep (by show 19 ≤ 30; decide) (EvL.cons (EvP.name hw 4 rfl rfl) (EvL.cons (EvP.name hw 5 rfl rfl) EvL.nil)) hs₂ tok₂ (by kernel_rfl!) (by decide) (by kernel_rfl!) (by kernel_rfl!) (by kernel_rfl!)) (fun va s₃ h3 => ?_) fun _ _ x => x.elim)) (by kernel_rfl!))
  have hs₃ := St.tstep hw hs₂ tok₂ h3.1
  have tok₃ : TOK8 h₀ (lawFm L f cd Ar).av s₃ := .inr h3.1.laid
  refine wpAny_mono (evT8 hw 19 hnP (g_number w) (D_number w).keep (by show 19 ≤ 30; decide) (EvL.cons (EvP.name hw 10 rfl rfl) (EvL.cons (EvP.name hw 5 rfl rfl) EvL.nil)) hs₃ tok₃ (by kernel_rfl!) (by decide) (by kernel_rfl!) (by kernel_rfl!) (by kernel_rfl!)) (fun vb s₄ h4 => ?_) fun _ _ x => x.elim
  have hs₄ := St.tstep hw hs₃ tok₃ h4.1
  refine wpAny_mono (BinP.run (BinP.mul (IntMulOk.of_le (bits _ bA) (bits _ bP) (by (first | exact om270 hn44 | omega)))) s₄ va vb hs₄ h3.2 h4.2) (fun vc s₅ h5 => ?_) fun _ _ x => x.elim
  have hs₅ := hs₄.kept h5.1
  have hprod : ((powN (2 ^ n) A : Nat) : Int) * ((powN (2 ^ n) (ptn A) : Nat) : Int) = ((powN (2 ^ n) A * powN (2 ^ n) (ptn A) : Nat) : Int) := by push_cast; rfl
  have h52 := h5.2
  rw [hprod] at h52
  obtain ⟨N, hN⟩ : ∃ N, powN (2 ^ n) A * powN (2 ^ n) (ptn A) = N := ⟨_, rfl⟩
  rw [hN] at h52
  refine storeP (i := 13) hw rfl nfL hs₅ h52 trivial fun s₆ k6 hs₆ => ?_
  show wpAny (MD w) (lawFm L f cd Ar).A (execs ((bodyAt 23).drop 13) (lawFm L f cd Ar).env) _ NoE s₆
  have e38₆ : TabE s₆.heap 38 := k6.heap _ _ m38 (h5.1.heap _ _ (h4.1.keep (by decide) (h3.1.keep (by decide) e38₂)))
  have g45₅ : TabG s₅.heap 45 ln8 col8 q8 := h4.1.laid.keeps h5.1.heap
  have g45₆ : TabG s₆.heap 45 ln8 col8 q8 := g45₅.but fun b o fs e d _ => k6.heap b o (mu_fields hw hs₅ e d) e
  obtain ⟨ml, hml⟩ := mulList (L := L) (f := f) (cd := cd) (Ar := Ar)
  obtain ⟨hw₁, hs₆', sub₁⟩ := rebase hw hs₆ (l := 38 :: ml) (fun a ha => List.mem_cons_of_mem _ ((hml a).mpr ha)) (fun a ha => by
    rcases List.mem_cons.mp ha with rfl | ha
    · exact z38
    · exact hw.mufresh a ((hml a).mp ha))
  have g45h₁ : TabG (hideAll s₆.heap (38 :: ml)) 45 ln8 col8 q8 := g45₆.but fun b o fs e d n1 => hideAll_get _ e fun q => by
    rcases List.mem_cons.mp q with rfl | q
    · have e' : s₆.heap.get? 38 = some (tabObj #[]) := e38₆
      rw [e] at e'; cases e'
      have : (#[] : Array Value) = fs := by injection d
      subst this
      exact n1 rfl
    · exact mu_fields hw hs₆ e d ((hml b).mp q)
  have tok₆ : TOK (hideAll s₆.heap (38 :: ml)) (lawFm L f cd Ar).av s₆ := .inl ⟨e38₆, n38, hideAll_none _ List.mem_cons_self⟩
  -- the figures
  have hm1 : 1 ≤ n * 16 := by (first | exact om271 hn5 | omega)
  have hbb := bits_pred hm1
  have hbpos : 0 < 2 ^ (n * 16) - 1 := by
    have := Nat.pow_le_pow_right (show 2 > 0 by decide) hm1
    (first | exact om272 this | omega)
  have hNb : N < 2 ^ (n * 16 + n * 16) := by rw [← hN]; exact prod_bits ok hn5
  have hNi : Builtin.Int.intBits ((N : Nat) : Int) ≤ n * 16 + n * 16 := intBits_le (by (first | exact om73 | omega)) (by exact_mod_cast hNb)
  have hfig : figs (n * 16) N ≤ 20 := by
    unfold figs
    have : (Builtin.Int.intBits ((N : Nat) : Int) + n * 16 - 1) / (n * 16) < 21 := (Nat.div_lt_iff_lt_mul (by (first | exact om273 hm1 | omega))).mpr (by (first | exact om274 hNi hm1 | omega))
    (first | exact om193 this | omega)
  have hdm := divmod_TFn hw₁.gd (G8.keeps sub₁) g45h₁ (G7.keeps sub₁) (a := N) (b := 2 ^ (n * 16) - 1) hbpos (by rw [hbb]; (first | exact om275 hn44 | omega)) (by rw [hbb]; exact hfig)
  have hrem : N % (2 ^ (n * 16) - 1) = remN n A := by rw [← hN]; rfl
  rw [hrem] at hdm
  have hi2 := i2d_TFn hw₁.gd (G7.keeps sub₁) (n := n) (a := remN n A) (by (first | exact om276 hm1 | omega)) (by (first | exact om253 hn44 | omega)) (Nat.le_trans (rem_figs hn5) (by decide))
  have e1 : (2 : Int) ^ ((16 : Int) * ((n : Nat) : Int)).toNat - 1 = ((2 ^ (n * 16) - 1 : Nat) : Int) := by
    have : ((16 : Int) * ((n : Nat) : Int)).toNat = n * 16 := by (first | exact om277 | omega)
    rw [this, Int.natCast_sub (Nat.pow_pos (by decide))]; push_cast; rfl
  have h2 : Builtin.Int.intBits 2 = 2 := by decide +kernel
  refine wpAny_execs_cons (wpAny_Assign_Name (wpAny_mono (evT2 hw₁ (figs n (remN n A) + 2) hi2 (g_i2d w) (D_i2d w).keep (by show figs n (remN n A) + 2 ≤ 30; have := rem_figs (A := A) hn5; (first | exact om278 this | omega)) hs₆' tok₆
    (itemT7 hw₁ hs₆' tok₆ (evT hw₁ 27 hdm (g_divmod w) (D_divmod w).keep (by show 27 ≤ 30; decide) (EvL.cons (EvP.name hw₁ 13 rfl rfl) (EvL.cons (e1 ▸ EvP.bin (EvP.bin EvP.int (EvP.bin EvP.int (EvP.name hw₁ 5 rfl rfl) (BinP.mul (PySem.IntMulOk.of_left (by decide +kernel)))) (BinP.pow (by (first | exact om279 | omega)) (by rw [h2]; (first | exact om280 hn44 | omega)))) EvP.int BinP.sub) EvL.nil)) hs₆' tok₆ (by kernel_rfl!) (by decide) (by kernel_rfl!) (by kernel_rfl!) (by kernel_rfl!)) EvP.int (by decide) (by decide) rfl)
    (EvP.name hw₁ 5 rfl rfl) (by kernel_rfl!) (by decide) (by kernel_rfl!) (by kernel_rfl!) (by kernel_rfl!) (by kernel_rfl!)) (fun vd s₇ h7 => ?_) fun _ _ x => x.elim) (by kernel_rfl!))
  have hs₇ := St.tstep hw₁ hs₆' tok₆ h7.1
  refine storeP (i := 14) hw₁ rfl nfL hs₇ h7.2 trivial fun s₈ k8 hs₈ => ?_
  show wpAny (MD w) (lawFm L f cd Ar).A (execs ((bodyAt 23).drop 14) (lawFm L f cd Ar).env) _ NoE s₈
  have g38₈ : TabG s₈.heap 38 ln7 col7 q7 := h7.1.laid.but fun b o fs e d _ => k8.heap b o (mu_fields hw₁ hs₇ e d) e
  obtain ⟨hw₂, hs₈', sub₂⟩ := rebase hw₁ hs₈ (l := ml) (fun a ha => (hml a).mpr ha) (fun a ha => hideAll_none _ (List.mem_cons_of_mem _ ha))
  have g38h₂ : TabG (hideAll s₈.heap ml) 38 ln7 col7 q7 := g38₈.but fun b o fs e d _ => hideAll_get _ e fun q => mu_fields hw₁ hs₈ e d ((hml b).mp q)
  have g45h₂ := g45h₁.keeps sub₂
  refine wpAny_mono (ExP.run (law_C hw₂.gd ((G8.keeps sub₁).keeps sub₂) g45h₂ ((G7.keeps sub₁).keeps sub₂) g38h₂ hw₂ (script := script) (ns := ns) (n0 := n0) (pr := N) (a := a) (b := b) ok hn5 hn44) s₈ hs₈') (fun fl s₉ h9 => ?_) fun _ _ x => x.elim
  obtain ⟨k9, o, rfl, val, rfl, hv⟩ := h9
  have hv' : val = .bool true := hv
  subst hv'
  have keep : ∀ b o, (hideAll s₈.heap ml).get? b = some o → s₉.heap.get? b = some o := fun b o e => k9.heap b o (fun q => by rw [hideAll_none _ ((hml b).mpr q)] at e; cases e) (of_hideAll _ e)
  exact ⟨rfl, ((((((((k1.sm.trans k2.sm).trans h3.1.sm).trans h4.1.sm).trans h5.1.sm).trans k6.sm).trans h7.1.sm).trans k8.sm).trans k9.sm), fun b o e => keep b o (sub₂ b o (sub₁ b o e)), g45h₂.keeps keep, g38h₂.keeps keep⟩
end Mine

namespace Mine

noncomputable abbrev gTabs : List (Addr × Addr) := [(49, 45), (42, 38)]
theorem law_cs (L : Addr) : cellsFrom (L + 1) lawSc.names [] = ([("hues", L + 1 + 1 + 1 + 1 + 1 + 1), ("partner", L + 1 + 1 + 1 + 1 + 1), ("firsts", L + 1 + 1 + 1 + 1), ("level", L + 1 + 1 + 1), ("share", L + 1 + 1), ("places", L + 1)] : List (Str × Addr)) := by kernel_rfl!
theorem law_nm : (lawNm.all (NmOK lawSc)) = true := by decide +kernel
theorem intsSR : ∀ {vs : List Value} {ns : List Int}, IntsAre vs ns → Paired SR (ns.map .int) vs := by
  intro vs ns h
  induction h with
  | nil => exact .nil
  | cons n t _ ih => exact .cons ⟨t, rfl⟩ ih

theorem law_room (L f : Addr) (cd : Value) : Room 30 (callerA.deeper (envOfC "law" lawSc L f cd)) := ⟨rfl, by show callerA.depth + 1 + 30 < recursionLimit; decide +kernel, by show callerA.units + 3 + 8 * 30 + 8 < cLine; decide +kernel⟩

theorem law_WF {w : World} {h₀ : Heap} (gd : Gd w h₀) {L f : Addr} {cd : Value} (hL : h₀.objs.size ≤ L) : WF w h₀ (lawFm L f cd callerA) := by
  have mem : ∀ {x c}, (cellsFrom (L + 1) lawSc.names []).lookup x = some c → L + 1 ≤ c := fun h => (cellsFrom_mem (mem_of_lookup h)).1
  have big : ∀ a, L ≤ a → h₀.get? a = none := fun a ha => by
    cases e : h₀.get? a with
    | none => rfl
    | some o => exact absurd (Heap.lt_size e) (Nat.not_lt.mpr (Nat.le_trans hL ha))
  exact {
    gd := gd
    fn := by show lawSc.kind = .function; kernel_rfl!
    gl := rfl
    bu := rfl
    room := law_room L f cd
    mufresh := fun a ha => by
      rcases ha with rfl | ⟨x, hx⟩
      · exact big _ (Nat.le_refl _)
      · exact big _ (Nat.le_of_succ_le (mem hx))
    muav := fun a ha => ha
    rvav := fun a ha => ha.elim
    loc := .inl rfl
    kinds := fun q hq => by
      have hq' := (List.all_eq_true.mp law_nm) q hq
      unfold NmOK at hq'
      simp only [Bool.and_eq_true, Bool.not_eq_true'] at hq'
      refine ⟨?_, hq'.1.2, hq'.2⟩
      cases e : q.2 with
      | loc => show lawSc.names.lookup q.1 = _; simpa [e] using hq'.1.1
      | cel =>
        have hc : lawSc.names.lookup q.1 = some .cell := by simpa [e] using hq'.1.1
        obtain ⟨c, hc'⟩ := Option.isSome_iff_exists.mp (cellsFrom_some lawSc.names (L + 1) [] (.inl hc))
        exact ⟨hc, c, hc', .inr ⟨_, hc'⟩, Nat.ne_of_gt (mem hc')⟩
      | fre => simp [e] at hq'
    nodup := by show (lawNm.map (·.1)).Nodup; decide +kernel
    apart := fun x y c hx hy => by
      have hx' : (cellsFrom (L + 1) lawSc.names []).lookup x = some c := hx
      have hy' : (cellsFrom (L + 1) lawSc.names []).lookup y = some c := hy
      have ok := cellsFrom_ok lawSc.names { objs := Array.replicate (L + 1) default } (L + 1) [] ⟨fun _ _ hm => (nomatch hm), List.Pairwise.nil⟩ (by simp)
      have hsz : ({ objs := Array.replicate (L + 1) default } : Heap).objs.size = L + 1 := by simp
      rw [hsz] at ok
      exact name_of_addr ok.apart (mem_of_lookup hx') (mem_of_lookup hy') }

theorem law_St {h₀ h₁ : Heap} {L f : Addr} {cd : Value} {m : Str → Option Value} {script : List Int} {a : Addr} {items : List Value} {s : Shared} (hs : s.heap = h₁) (F : Fr h₀ L h₁ m) (hm : m "script" = some (.ref a)) (hl : h₀.IsList a items.toArray) (hi : IntsAre items script)
    (c1 : ∃ v, h₁.IsCell (L + 1) v) (c2 : ∃ v, h₁.IsCell (L + 1 + 1) v) (c3 : ∃ v, h₁.IsCell (L + 1 + 1 + 1) v) (c4 : ∃ v, h₁.IsCell (L + 1 + 1 + 1 + 1) v) (c5 : ∃ v, h₁.IsCell (L + 1 + 1 + 1 + 1 + 1) v) (c6 : ∃ v, h₁.IsCell (L + 1 + 1 + 1 + 1 + 1 + 1) v) :
    St h₀ (lawFm L f cd callerA) [some (.arg (script.map .int)), none, none, none, none, none, none, none, none, none, none, none, none, none, none, none, none, none, none] s := by
  subst hs
  have mem : ∀ {x c}, (cellsFrom (L + 1) lawSc.names []).lookup x = some c → L + 1 ≤ c := fun h => (cellsFrom_mem (mem_of_lookup h)).1
  have haL : a < L := by
    obtain ⟨o, e, _⟩ := hl
    exact Nat.lt_of_lt_of_le (Heap.lt_size e) F.above
  have lv : ∀ {c v}, s.heap.IsCell c v → ∃ o, s.heap.get? c = some o := fun ⟨o, e, _⟩ => ⟨o, e⟩
  have none_cel : ∀ {x : Str} {c : Addr}, (∃ v, s.heap.IsCell c v) → (cellsFrom (L + 1) lawSc.names []).lookup x = some c → VOK (lawFm L f cd callerA) m s.heap (x, VK.cel) none := fun ⟨v, hv⟩ e _ => ⟨_, v, e, hv⟩
  have none_loc : ∀ {x : Str}, VOK (lawFm L f cd callerA) m s.heap (x, VK.loc) none := fun e => nomatch e
  refine ⟨F.keep, fun b hb => ?_, m, F.ns, ?_⟩
  · rcases hb with rfl | ⟨x, hx⟩
    · obtain ⟨o, _, _, e, _⟩ := F.ns; exact ⟨o, e⟩
    · have hm' := mem_of_lookup hx
      rw [law_cs] at hm'
      simp only [List.mem_cons, List.not_mem_nil, or_false, Prod.mk.injEq] at hm'
      rcases hm' with ⟨_, rfl⟩ | ⟨_, rfl⟩ | ⟨_, rfl⟩ | ⟨_, rfl⟩ | ⟨_, rfl⟩ | ⟨_, rfl⟩
      · exact lv c6.choose_spec
      · exact lv c5.choose_spec
      · exact lv c4.choose_spec
      · exact lv c3.choose_spec
      · exact lv c2.choose_spec
      · exact lv c1.choose_spec
  · refine .cons ⟨.ref a, ⟨a, items.toArray, rfl, ?_, fun q => ?_, intsSR hi⟩, hm, trivial⟩ ?_
    · exact hl.at fun o e => F.keep a o e
    · rcases q with q | ⟨x, hx⟩
      · exact absurd haL (q ▸ Nat.lt_irrefl _)
      · exact absurd haL (Nat.not_lt.mpr (Nat.le_of_succ_le (mem hx)))
    refine .cons none_loc (.cons none_loc (.cons none_loc (.cons (none_cel c1 (by rw [law_cs]; rfl)) (.cons none_loc (.cons (none_cel c2 (by rw [law_cs]; rfl)) (.cons (none_cel c3 (by rw [law_cs]; rfl)) (.cons (none_cel c4 (by rw [law_cs]; rfl)) (.cons none_loc (.cons (none_cel c5 (by rw [law_cs]; rfl)) (.cons (none_cel c6 (by rw [law_cs]; rfl))
      (.cons none_loc (.cons none_loc (.cons none_loc (.cons none_loc (.cons none_loc (.cons none_loc (.cons none_loc .nil)))))))))))))))))

theorem law_end {w : World} {s₁ : Shared} {h₁ : Heap} {tk : Nat} {f : Addr} {cd : Value} {script : List Int} {a : Addr} {items : List Value} {m mg mb : Str → Option Value} {p : Program} {loose : List Str} {mean : ExcName → Option Value} {o1 o2 o3 o4 o5 o6 : Obj} {v1 v2 v3 v4 v5 v6 : Option Value}
    (X : (KK w).In (ghostOf s₁.heap gTabs)) (T : Top p loose mean mg mb (ghostOf s₁.heap gTabs)) (F : Fr (ghostOf s₁.heap gTabs) s₁.heap.objs.size h₁ m) (lifted : (ghostOf s₁.heap gTabs).IsList a items.toArray) (hI : IntsAre items script)
    (hlen : ¬ (((63 : Nat) : Int) < ((script.length : Nat) : Int))) (c8 : CodeHd (ghostOf s₁.heap gTabs) 49 45) (c7 : CodeHd (ghostOf s₁.heap gTabs) 42 38)
    (N : News (ghostOf s₁.heap gTabs) s₁.heap.objs.size h₁ [(s₁.heap.objs.size + 1 + 1 + 1 + 1 + 1 + 1, o6), (s₁.heap.objs.size + 1 + 1 + 1 + 1 + 1, o5), (s₁.heap.objs.size + 1 + 1 + 1 + 1, o4), (s₁.heap.objs.size + 1 + 1 + 1, o3), (s₁.heap.objs.size + 1 + 1, o2), (s₁.heap.objs.size + 1, o1), (45, tabObj #[]), (38, tabObj #[])])
    (l0 : 45 < s₁.heap.objs.size ∧ 38 < s₁.heap.objs.size)
    (d1 : o1.data = .cell v1) (d2 : o2.data = .cell v2) (d3 : o3.data = .cell v3) (d4 : o4.data = .cell v4) (d5 : o5.data = .cell v5) (d6 : o6.data = .cell v6) (hm : m "script" = some (.ref a))
    {R : Flow → Shared → Prop} {E : Value → Shared → Prop}
    (hR : ∀ s', Sm { s₁ with heap := h₁, toks := tk } s' → (∀ b o, (ghostOf s₁.heap gTabs).get? b = some o → s'.heap.get? b = some o) → GrownAll gTabs s'.heap → R (.ret (.bool true)) s') :
    wpAny (MD w) (callerA.deeper (envOfC "law" lawSc s₁.heap.objs.size f cd)) (execs (bodyAt 23) (envOfC "law" lawSc s₁.heap.objs.size f cd)) R E { s₁ with heap := h₁, toks := tk } := by
  have gd : Gd w (ghostOf s₁.heap gTabs) := ⟨X, _, _, _, _, topRead_of T⟩
  have z45 : (ghostOf s₁.heap gTabs).get? 45 = none := (N (45, tabObj #[]) (by simp)).2.2
  have z38 : (ghostOf s₁.heap gTabs).get? 38 = none := (N (38, tabObj #[]) (by simp)).2.2
  have e45 : h₁.get? 45 = some (tabObj #[]) := (N (45, tabObj #[]) (by simp)).1
  have e38 : h₁.get? 38 = some (tabObj #[]) := (N (38, tabObj #[]) (by simp)).1
  have gn : ∀ {c P : Addr}, CodeHd (ghostOf s₁.heap gTabs) c P → (ghostOf s₁.heap gTabs).get? P = none → Gn (ghostOf s₁.heap gTabs) c P := fun {c P} hc hP => by
    obtain ⟨bm, ob, b1, b2, b3, b4, b5, b6⟩ := T.bmain
    have hbG : bm ≠ mainGlobals := fun q => by
      obtain ⟨o, es, ep, e, hd, _⟩ := T.g
      rw [q, e] at b3; cases b3; rw [hd] at b6; cases b6
    refine ⟨hc, ⟨mg, bm, ob, T.g, b1, b2, hbG, (fun q => by rw [q, hP] at b3; cases b3), b3, b4, b5, b6⟩, fun q => ?_⟩
    obtain ⟨o, es, ep, e, hd, _⟩ := T.g
    rw [q, hP] at e; cases e
  have hw := law_WF gd (L := s₁.heap.objs.size) (f := f) (cd := cd) F.above
  have cellAt : ∀ {c : Addr} {o : Obj} {v}, h₁.get? c = some o → o.data = .cell v → ∃ v, h₁.IsCell c v := fun e d => ⟨_, _, e, d⟩
  have hs := law_St (f := f) (cd := cd) (s := { s₁ with heap := h₁, toks := tk }) rfl F hm lifted hI (cellAt (N.get (by simp)) d1) (cellAt (N.get (by simp)) d2) (cellAt (N.get (by simp)) d3) (cellAt (N.get (by simp)) d4) (cellAt (N.get (by simp)) d5) (cellAt (N.get (by simp)) d6)
  have nav : ∀ b, b < s₁.heap.objs.size → ¬ (lawFm s₁.heap.objs.size f cd callerA).av b := fun b hb q => by
    rcases q with q | ⟨x, hx⟩
    · exact absurd hb (q ▸ Nat.lt_irrefl _)
    · exact absurd hb (Nat.not_lt.mpr (Nat.le_of_succ_le (cellsFrom_mem (mem_of_lookup hx)).1))
  refine wpAny_mono (law_run gd (gn c8 z45) (gn c7 z38) hw (by (first | exact om281 hlen | omega)) hs e45 e38 (nav 45 l0.1) (nav 38 l0.2) z45 z38) (fun fl s' h => ?_) fun _ _ x => x.elim
  obtain ⟨rfl, sm, keep, ⟨_, g45, _⟩, ⟨_, g38, _⟩⟩ := h
  exact hR s' sm keep ⟨⟨_, g45⟩, ⟨_, g38⟩, trivial⟩
end Mine

set_option maxHeartbeats 8000000 in
theorem PySem.Challenge.cw_wf0051_01_holds : PySem.Challenge.rw_wf0051_01.Holds := by
  refine Mine.hd ?_
  k_go0
  refine Mine.law_end (by assumption) (by assumption) (by assumption) (by assumption) (by assumption) (by assumption) (by assumption) (by assumption) (by assumption) (by assumption) (by assumption) (by assumption) (by assumption) (by assumption) (by assumption) (by assumption) (by kernel_rfl!) ?_
  rintro s' ⟨h', tk', rfl⟩ keep gr
  refine ⟨⟨.inl ⟨.bool true, .bool true, [], rfl, ?_, .bool true, ?_, unshared_nil⟩, keep, rfl, by assumption⟩, gr⟩
  · refine raisesW_false ?_
    wrow_none_raised
  · refine postW_of (by o_shape) (by wtm_val) ?_
    first | rfl | w_fin
