import Derived.Test.Qxb6601151aRows
import Derived.WalkKit
import Derived.WalkSpells
import Derived.WalkLawsBesides
namespace Go.Proofs.Qxb6601151a.single
open Go.RowKit

/-- What singleRepeat answers: one number, whatever 'possessive' says. -/
def One (rep unit n lo hi : Int) : Prop := ∃ x : Int, ∀ (p : Bool) (w : World),
  Calls Try.prog 29 #[.agg #[.int .u8 rep, .int .i64 unit], .int .i64 n, .int .i64 lo, .int .i64 hi, .bool p] w fun e w' => e = .returned (.int .i64 x) ∧ Grown w w'

theorem case_zero (rep unit n lo hi : Int) (h : hi = 0) : One rep unit n lo hi := by
  subst h
  refine ⟨0, fun p w => ?_⟩
  go_enter Try.func29, Try.ntmps29
  go_wp2
  go_ret
  exact ⟨rfl, by repeat (first | exact Grown.refl _ | apply Grown.drew | apply Grown.alloc)⟩

theorem case_one (rep unit n lo hi : Int) (h : hi = 1) (h' : lo = 1) : One rep unit n lo hi := by
  subst h h'
  refine ⟨0, fun p w => ?_⟩
  go_enter Try.func29, Try.ntmps29
  go_wp2
  go_ret
  exact ⟨rfl, by repeat (first | exact Grown.refl _ | apply Grown.drew | apply Grown.alloc)⟩

theorem case_s0n (rep unit n lo hi : Int) (h : hi < 0) (h' : lo = 0) : One rep unit n lo hi := by
  subst h'
  have e0 : (hi == 0) = false := by rw [beq_eq_false_iff_ne]; omega
  refine ⟨wrap64 (wrap64 (1 + unit) - n), fun p w => ?_⟩
  go_enter Try.func29, Try.ntmps29
  go_wp2
  go_ret
  exact ⟨rfl, by repeat (first | exact Grown.refl _ | apply Grown.drew | apply Grown.alloc)⟩

theorem case_s01 (rep unit n lo hi : Int) (h : hi = 1) (h' : lo = 0) : One rep unit n lo hi := by
  subst h h'
  refine ⟨wrap64 (wrap64 (1 + unit) - n), fun p w => ?_⟩
  go_enter Try.func29, Try.ntmps29
  go_wp2
  go_ret
  exact ⟨rfl, by repeat (first | exact Grown.refl _ | apply Grown.drew | apply Grown.alloc)⟩

theorem case_s1n (rep unit n lo hi : Int) (h : hi < 0) (h' : lo = 1) : One rep unit n lo hi := by
  subst h'
  have e0 : (hi == 0) = false := by rw [beq_eq_false_iff_ne]; omega
  have e1 : (hi == 1) = false := by rw [beq_eq_false_iff_ne]; omega
  refine ⟨wrap64 (wrap64 (1 + unit) - n), fun p w => ?_⟩
  go_enter Try.func29, Try.ntmps29
  go_wp2
  go_ret
  exact ⟨rfl, by repeat (first | exact Grown.refl _ | apply Grown.drew | apply Grown.alloc)⟩

theorem case_c0 (rep unit n lo hi : Int) (h : 2 ≤ hi) (h' : lo = 0) : One rep unit n lo hi := by
  subst h'
  have e0 : (hi == 0) = false := by rw [beq_eq_false_iff_ne]; omega
  have e1 : (hi == 1) = false := by rw [beq_eq_false_iff_ne]; omega
  refine ⟨wrap64 (wrap64 (3 + unit) - n), fun p w => ?_⟩
  go_enter Try.func29, Try.ntmps29
  go_wp2
  go_ret
  exact ⟨rfl, by repeat (first | exact Grown.refl _ | apply Grown.drew | apply Grown.alloc)⟩

theorem case_e1 (rep unit n lo hi : Int) (h' : lo ≠ 0) (h'' : lo ≠ 1) (h3 : hi = lo) : One rep unit n lo hi := by
  subst h3
  have e0 : (hi == 0) = false := by rw [beq_eq_false_iff_ne]; omega
  have e2 : (hi == 1) = false := by rw [beq_eq_false_iff_ne]; omega
  refine ⟨wrap64 (wrap64 (3 + unit) - n), fun p w => ?_⟩
  go_enter Try.func29, Try.ntmps29
  go_wp2
  go_ret
  exact ⟨rfl, by repeat (first | exact Grown.refl _ | apply Grown.drew | apply Grown.alloc)⟩

theorem case_e2 (rep unit n lo hi : Int) (h : hi < 0) (h' : lo ≠ 0) (h'' : lo ≠ 1) (h3 : hi ≠ lo) : One rep unit n lo hi := by
  have e0 : (hi == 0) = false := by rw [beq_eq_false_iff_ne]; omega
  have e1 : (lo == 0) = false := by rw [beq_eq_false_iff_ne]; omega
  have e2 : (lo == 1) = false := by rw [beq_eq_false_iff_ne]; omega
  have e3 : (hi == lo) = false := by rw [beq_eq_false_iff_ne]; omega
  refine ⟨wrap64 (wrap64 (wrap64 (3 + unit) + wrap64 (1 + unit)) - n), fun p w => ?_⟩
  go_enter Try.func29, Try.ntmps29
  go_wp2
  go_ret
  exact ⟨rfl, by repeat (first | exact Grown.refl _ | apply Grown.drew | apply Grown.alloc)⟩

theorem case_e3 (rep unit n lo hi : Int) (h : 0 < hi) (h' : lo ≠ 0) (h'' : lo ≠ 1) (h3 : hi ≠ lo) (h4 : hi = wrap64 (lo + 1)) : One rep unit n lo hi := by
  have e0 : (hi == 0) = false := by rw [beq_eq_false_iff_ne]; omega
  have e1 : (lo == 0) = false := by rw [beq_eq_false_iff_ne]; omega
  have e2 : (lo == 1) = false := by rw [beq_eq_false_iff_ne]; omega
  have e3 : (hi == lo) = false := by rw [beq_eq_false_iff_ne]; omega
  have e4 : (hi == wrap64 (lo + 1)) = true := by rw [beq_iff_eq]; exact h4
  have e5 : decide (hi < 0) = false := by simp; omega
  clear h4
  refine ⟨wrap64 (wrap64 (wrap64 (3 + unit) + wrap64 (1 + unit)) - n), fun p w => ?_⟩
  go_enter Try.func29, Try.ntmps29
  go_wp2
  go_ret
  exact ⟨rfl, by repeat (first | exact Grown.refl _ | apply Grown.drew | apply Grown.alloc)⟩

theorem case_e4 (rep unit n lo hi : Int) (h : 0 < hi) (h' : lo ≠ 0) (h'' : lo ≠ 1) (h3 : hi ≠ lo) (h4 : hi ≠ wrap64 (lo + 1)) : One rep unit n lo hi := by
  have e0 : (hi == 0) = false := by rw [beq_eq_false_iff_ne]; omega
  have e1 : (lo == 0) = false := by rw [beq_eq_false_iff_ne]; omega
  have e2 : (lo == 1) = false := by rw [beq_eq_false_iff_ne]; omega
  have e3 : (hi == lo) = false := by rw [beq_eq_false_iff_ne]; omega
  have e4 : (hi == wrap64 (lo + 1)) = false := by rw [beq_eq_false_iff_ne]; exact h4
  have e5 : decide (hi < 0) = false := by simp; omega
  clear h4
  refine ⟨wrap64 (wrap64 (2 * wrap64 (3 + unit)) - n), fun p w => ?_⟩
  go_enter Try.func29, Try.ntmps29
  go_wp2
  go_ret
  exact ⟨rfl, by repeat (first | exact Grown.refl _ | apply Grown.drew | apply Grown.alloc)⟩

theorem case_d (rep unit n lo hi : Int) (h : 2 ≤ hi) (h' : lo = 1) (hr : rep ≠ 2) : One rep unit n lo hi := by
  subst h'
  have e0 : (hi == 0) = false := by rw [beq_eq_false_iff_ne]; omega
  have e1 : (hi == 1) = false := by rw [beq_eq_false_iff_ne]; omega
  have e2 : (rep == 2) = false := by rw [beq_eq_false_iff_ne]; exact hr
  refine ⟨wrap64 (wrap64 (n + wrap64 (3 + unit)) - n), fun p w => ?_⟩
  cases p
  all_goals
    go_enter Try.func29, Try.ntmps29
    go_wp2
    go_ret
    exact ⟨rfl, by repeat (first | exact Grown.refl _ | apply Grown.drew | apply Grown.alloc)⟩

/-- A type repeated {1,hi}, hi at least 2, not possessive. -/
theorem type_plain (unit n hi : Int) (h : 2 ≤ hi) (w : World) :
    Calls Try.prog 29 #[.agg #[.int .u8 2, .int .i64 unit], .int .i64 n, .int .i64 1, .int .i64 hi, .bool false] w fun e w' => e = .returned (.int .i64 (wrap64 (wrap64 (n + wrap64 (3 + unit)) - n))) ∧ Grown w w' := by
  have e0 : (hi == 0) = false := by rw [beq_eq_false_iff_ne]; omega
  have e1 : (hi == 1) = false := by rw [beq_eq_false_iff_ne]; omega
  go_enter Try.func29, Try.ntmps29
  go_wp2
  go_ret
  exact ⟨rfl, by repeat (first | exact Grown.refl _ | apply Grown.drew | apply Grown.alloc)⟩

/-- .. possessive: one group more. -/
theorem type_poss (unit n hi : Int) (h : 2 ≤ hi) (w : World) :
    Calls Try.prog 29 #[.agg #[.int .u8 2, .int .i64 unit], .int .i64 n, .int .i64 1, .int .i64 hi, .bool true] w fun e w' => e = .returned (.int .i64 (wrap64 (wrap64 (wrap64 (n + wrap64 (3 + unit)) + 6) - n))) ∧ Grown w w' := by
  have e0 : (hi == 0) = false := by rw [beq_eq_false_iff_ne]; omega
  have e1 : (hi == 1) = false := by rw [beq_eq_false_iff_ne]; omega
  go_enter Try.func29, Try.ntmps29
  go_wp2
  go_ret
  exact ⟨rfl, by repeat (first | exact Grown.refl _ | apply Grown.drew | apply Grown.alloc)⟩

theorem one_of (rep unit n lo hi : Int) (h : ¬ (rep = 2 ∧ lo = 1 ∧ 2 ≤ hi)) : One rep unit n lo hi := by
  by_cases c0 : hi = 0
  · exact case_zero _ _ _ _ _ c0
  by_cases c1 : lo = 1
  · by_cases c2 : hi = 1
    · exact case_one _ _ _ _ _ c2 c1
    by_cases c3 : hi < 0
    · exact case_s1n _ _ _ _ _ c3 c1
    exact case_d _ _ _ _ _ (by omega) c1 (fun hr => h ⟨hr, c1, by omega⟩)
  by_cases c2 : lo = 0
  · by_cases c3 : hi < 0
    · exact case_s0n _ _ _ _ _ c3 c2
    by_cases c4 : hi = 1
    · exact case_s01 _ _ _ _ _ c4 c2
    exact case_c0 _ _ _ _ _ (by omega) c2
  by_cases c3 : hi = lo
  · exact case_e1 _ _ _ _ _ c2 c1 c3
  by_cases c4 : hi < 0
  · exact case_e2 _ _ _ _ _ c4 c2 c1 c3
  by_cases c5 : hi = wrap64 (lo + 1)
  · exact case_e3 _ _ _ _ _ (by omega) c2 c1 c3 c5
  · exact case_e4 _ _ _ _ _ (by omega) c2 c1 c3 c5

/-- ZZSingleRepeat hands singleRepeat's answer on. -/
theorem zz_of (rep unit n lo hi x : Int) (p : Bool) (w : World)
    (h : Calls Try.prog 29 #[.agg #[.int .u8 rep, .int .i64 unit], .int .i64 n, .int .i64 lo, .int .i64 hi, .bool p] w fun e w' => e = .returned (.int .i64 x) ∧ Grown w w') :
    Calls Try.prog 15 #[.int .u8 rep, .int .i64 unit, .int .i64 n, .int .i64 lo, .int .i64 hi, .bool p] w fun e w' => e = .returned (.int .i64 x) ∧ Grown w w' := by
  have H : Hid (Calls Try.prog 29 #[.agg #[.int .u8 rep, .int .i64 unit], .int .i64 n, .int .i64 lo, .int .i64 hi, .bool p] w fun e w' => e = .returned (.int .i64 x) ∧ Grown w w') := h
  clear h
  go_enter Try.func15, Try.ntmps15
  go_wp2_with (go_at_call 29; refine H.out.mono ?_; rintro e w' ⟨rfl, hg⟩)
  go_ret
  exact ⟨rfl, hg⟩

theorem wrap_six (a n : Int) : wrap64 (wrap64 (a + 6) - n) = wrap64 (wrap64 (a - n) + 6) := by
  unfold wrap64
  omega

end Go.Proofs.Qxb6601151a.single
