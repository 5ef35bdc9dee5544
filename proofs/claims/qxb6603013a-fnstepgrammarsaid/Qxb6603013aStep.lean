/-
  numberStep.step and ZZStep (functions 23 and 13): their contracts, over a plain function.
-/
import Derived.Test.Qxb6603013aRows
import Derived.WalkKit
import Derived.WalkSpells
import Derived.WalkLawsBesides
import Derived.BigGuardPart
import Derived.Deep.Light
namespace Go.Proofs.Qxb6603013a.Step
open Go.RowKit

/-- Where a number that stands at n stands once c follows. -/
def stp (n c : Int) : Int × Bool :=
  if n = 0 ∧ c = 45 then (1, true)
  else if (n = 0 ∨ n = 1) ∧ c = 48 then (2, true)
  else if (n = 0 ∨ n = 1 ∨ n = 3) ∧ 48 ≤ c ∧ c ≤ 57 then (3, true)
  else if (n = 2 ∨ n = 3) ∧ c = 46 then (4, true)
  else if (n = 4 ∨ n = 5) ∧ 48 ≤ c ∧ c ≤ 57 then (5, true)
  else if (n = 2 ∨ n = 3 ∨ n = 5) ∧ (c = 101 ∨ c = 69) then (6, true)
  else if n = 6 ∧ (c = 43 ∨ c = 45) then (7, true)
  else if (n = 6 ∨ n = 7 ∨ n = 8) ∧ 48 ≤ c ∧ c ≤ 57 then (8, true)
  else (n, false)

theorem ret_pair {k : IntKind} {a : Int} {b : Bool} {p : Int × Bool} (h : p = (a, b)) : Ending.returned (.tuple #[.int k a, .bool b]) = .returned (.tuple #[.int k p.1, .bool p.2]) := by rw [h]

theorem step0 (c : Int) (w : World) : Calls Try.prog 23 #[.int .i64 0, .int .u8 c] w fun e w' => e = .returned (.tuple #[.int .i64 (stp 0 c).1, .bool (stp 0 c).2]) ∧ w' = w := by
  go_enter Try.func23, Try.ntmps23
  go_wp2
  all_goals
    go_ret2
    refine ⟨ret_pair ?_, rfl⟩
    go_light
    try simp only [beq_iff_eq, beq_eq_false_iff_ne, ne_eq] at *
    first
      | (exfalso; omega)
      | (unfold stp; repeat (first | rw [if_pos (by omega)] | rw [if_neg (by omega)]))

theorem step1 (c : Int) (w : World) : Calls Try.prog 23 #[.int .i64 1, .int .u8 c] w fun e w' => e = .returned (.tuple #[.int .i64 (stp 1 c).1, .bool (stp 1 c).2]) ∧ w' = w := by
  go_enter Try.func23, Try.ntmps23
  go_wp2
  all_goals
    go_ret2
    refine ⟨ret_pair ?_, rfl⟩
    go_light
    try simp only [beq_iff_eq, beq_eq_false_iff_ne, ne_eq] at *
    first
      | (exfalso; omega)
      | (unfold stp; repeat (first | rw [if_pos (by omega)] | rw [if_neg (by omega)]))

theorem step2 (c : Int) (w : World) : Calls Try.prog 23 #[.int .i64 2, .int .u8 c] w fun e w' => e = .returned (.tuple #[.int .i64 (stp 2 c).1, .bool (stp 2 c).2]) ∧ w' = w := by
  go_enter Try.func23, Try.ntmps23
  go_wp2
  all_goals
    go_ret2
    refine ⟨ret_pair ?_, rfl⟩
    go_light
    try simp only [beq_iff_eq, beq_eq_false_iff_ne, ne_eq] at *
    first
      | (exfalso; omega)
      | (unfold stp; repeat (first | rw [if_pos (by omega)] | rw [if_neg (by omega)]))

theorem step3 (c : Int) (w : World) : Calls Try.prog 23 #[.int .i64 3, .int .u8 c] w fun e w' => e = .returned (.tuple #[.int .i64 (stp 3 c).1, .bool (stp 3 c).2]) ∧ w' = w := by
  go_enter Try.func23, Try.ntmps23
  go_wp2
  all_goals
    go_ret2
    refine ⟨ret_pair ?_, rfl⟩
    go_light
    try simp only [beq_iff_eq, beq_eq_false_iff_ne, ne_eq] at *
    first
      | (exfalso; omega)
      | (unfold stp; repeat (first | rw [if_pos (by omega)] | rw [if_neg (by omega)]))

theorem step4 (c : Int) (w : World) : Calls Try.prog 23 #[.int .i64 4, .int .u8 c] w fun e w' => e = .returned (.tuple #[.int .i64 (stp 4 c).1, .bool (stp 4 c).2]) ∧ w' = w := by
  go_enter Try.func23, Try.ntmps23
  go_wp2
  all_goals
    go_ret2
    refine ⟨ret_pair ?_, rfl⟩
    go_light
    try simp only [beq_iff_eq, beq_eq_false_iff_ne, ne_eq] at *
    first
      | (exfalso; omega)
      | (unfold stp; repeat (first | rw [if_pos (by omega)] | rw [if_neg (by omega)]))

theorem step5 (c : Int) (w : World) : Calls Try.prog 23 #[.int .i64 5, .int .u8 c] w fun e w' => e = .returned (.tuple #[.int .i64 (stp 5 c).1, .bool (stp 5 c).2]) ∧ w' = w := by
  go_enter Try.func23, Try.ntmps23
  go_wp2
  all_goals
    go_ret2
    refine ⟨ret_pair ?_, rfl⟩
    go_light
    try simp only [beq_iff_eq, beq_eq_false_iff_ne, ne_eq] at *
    first
      | (exfalso; omega)
      | (unfold stp; repeat (first | rw [if_pos (by omega)] | rw [if_neg (by omega)]))

theorem step6 (c : Int) (w : World) : Calls Try.prog 23 #[.int .i64 6, .int .u8 c] w fun e w' => e = .returned (.tuple #[.int .i64 (stp 6 c).1, .bool (stp 6 c).2]) ∧ w' = w := by
  go_enter Try.func23, Try.ntmps23
  go_wp2
  all_goals
    go_ret2
    refine ⟨ret_pair ?_, rfl⟩
    go_light
    try simp only [beq_iff_eq, beq_eq_false_iff_ne, ne_eq] at *
    first
      | (exfalso; omega)
      | (unfold stp; repeat (first | rw [if_pos (by omega)] | rw [if_neg (by omega)]))

theorem step7 (c : Int) (w : World) : Calls Try.prog 23 #[.int .i64 7, .int .u8 c] w fun e w' => e = .returned (.tuple #[.int .i64 (stp 7 c).1, .bool (stp 7 c).2]) ∧ w' = w := by
  go_enter Try.func23, Try.ntmps23
  go_wp2
  all_goals
    go_ret2
    refine ⟨ret_pair ?_, rfl⟩
    go_light
    try simp only [beq_iff_eq, beq_eq_false_iff_ne, ne_eq] at *
    first
      | (exfalso; omega)
      | (unfold stp; repeat (first | rw [if_pos (by omega)] | rw [if_neg (by omega)]))

theorem step8 (c : Int) (w : World) : Calls Try.prog 23 #[.int .i64 8, .int .u8 c] w fun e w' => e = .returned (.tuple #[.int .i64 (stp 8 c).1, .bool (stp 8 c).2]) ∧ w' = w := by
  go_enter Try.func23, Try.ntmps23
  go_wp2
  all_goals
    go_ret2
    refine ⟨ret_pair ?_, rfl⟩
    go_light
    try simp only [beq_iff_eq, beq_eq_false_iff_ne, ne_eq] at *
    first
      | (exfalso; omega)
      | (unfold stp; repeat (first | rw [if_pos (by omega)] | rw [if_neg (by omega)]))

set_option maxHeartbeats 400000 in
theorem step_off (n c : Int) (w : World) (hn : n < 0 ∨ 8 < n) : Calls Try.prog 23 #[.int .i64 n, .int .u8 c] w fun e w' => e = .returned (.tuple #[.int .i64 (stp n c).1, .bool (stp n c).2]) ∧ w' = w := by
  have h0 : ¬ n = 0 := by omega
  have h1 : ¬ n = 1 := by omega
  have h2 : ¬ n = 2 := by omega
  have h3 : ¬ n = 3 := by omega
  have h4 : ¬ n = 4 := by omega
  have h5 : ¬ n = 5 := by omega
  have h6 : ¬ n = 6 := by omega
  have h7 : ¬ n = 7 := by omega
  have h8 : ¬ n = 8 := by omega
  have e : stp n c = (n, false) := by unfold stp; repeat (first | rw [if_pos (by omega)] | rw [if_neg (by omega)])
  have E : Hid (stp n c = (n, false)) := e
  clear e
  go_enter Try.func23, Try.ntmps23
  go_wp2
  all_goals
    go_ret2
    exact ⟨ret_pair E.out, rfl⟩

theorem step_any (n c : Int) (w : World) : Calls Try.prog 23 #[.int .i64 n, .int .u8 c] w fun e w' => e = .returned (.tuple #[.int .i64 (stp n c).1, .bool (stp n c).2]) ∧ w' = w := by
  by_cases hn : n < 0 ∨ 8 < n
  · exact step_off n c w hn
  · have h : n = 0 ∨ n = 1 ∨ n = 2 ∨ n = 3 ∨ n = 4 ∨ n = 5 ∨ n = 6 ∨ n = 7 ∨ n = 8 := by omega
    rcases h with rfl | rfl | rfl | rfl | rfl | rfl | rfl | rfl | rfl
    · exact step0 c w
    · exact step1 c w
    · exact step2 c w
    · exact step3 c w
    · exact step4 c w
    · exact step5 c w
    · exact step6 c w
    · exact step7 c w
    · exact step8 c w

theorem zz_any (n c : Int) (w : World) : Calls Try.prog 13 #[.int .i64 n, .int .u8 c] w fun e w' => e = .returned (.tuple #[.int .i64 (stp n c).1, .bool (stp n c).2]) ∧ w' = w := by
  go_enter Try.func13, Try.ntmps13
  go_wp2_with (go_at_call 23; refine (step_any _ _ _).mono ?_; rintro e w' ⟨rfl, rfl⟩)
  go_ret2
  exact ⟨rfl, rfl⟩
end Go.Proofs.Qxb6603013a.Step
