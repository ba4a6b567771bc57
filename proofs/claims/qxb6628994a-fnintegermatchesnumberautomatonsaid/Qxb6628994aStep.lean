import Derived.Test.Qxb6628994aLaw4a
namespace Go.Proofs.Qxb6628994a
open Go.RowKit Go.IntWalk
set_option linter.unusedVariables false
set_option linter.unusedSimpArgs false
/-- The automaton's edge. -/
def nst (s : Nat) (b : Int) : Nat :=
  match s with
  | 0 => if b = 45 then 1 else if b = 48 then 2 else if 49 ≤ b ∧ b ≤ 57 then 3 else 9
  | 1 => if b = 48 then 2 else if 49 ≤ b ∧ b ≤ 57 then 3 else 9
  | 2 => if b = 46 then 4 else if b = 101 ∨ b = 69 then 6 else 9
  | 3 => if dgB b = true then 3 else if b = 46 then 4 else if b = 101 ∨ b = 69 then 6 else 9
  | 4 => if dgB b = true then 5 else 9
  | 5 => if dgB b = true then 5 else if b = 101 ∨ b = 69 then 6 else 9
  | 6 => if b = 43 ∨ b = 45 then 7 else if dgB b = true then 8 else 9
  | 7 => if dgB b = true then 8 else 9
  | 8 => if dgB b = true then 8 else 9
  | _ => 9
theorem ret_int {k : IntKind} {a b : Int} (h : a = b) : Ending.returned (.int k a) = .returned (.int k b) := by rw [h]
set_option maxHeartbeats 1000000 in
theorem step0 (b : Int) (r : Nat) (hr : Hid (nst 0 b = r)) (w : World) : Calls Try.prog 16 #[.int .i64 0, .int .u8 b] w fun e w' => e = .returned (.int .i64 r) ∧ w' = w := by
  cases hB : dgB b <;> (
    go_enter Try.func16, Try.ntmps16
    go_wp2_with (go_at_call 13; refine (isDig _ _).mono ?_; rintro e w' ⟨rfl, rfl⟩)
    all_goals (
      go_ret
      refine ⟨ret_int ?_, rfl⟩
      rw [← hr.out]
      clear hr
      try simp only [beq_iff_eq, beq_eq_false_iff_ne, ne_eq] at *
      unfold nst
      try rw [hB]
      try simp only [Bool.false_eq_true, if_false, if_true]
      repeat' split
      all_goals omega))
set_option maxHeartbeats 1000000 in
theorem step1 (b : Int) (r : Nat) (hr : Hid (nst 1 b = r)) (w : World) : Calls Try.prog 16 #[.int .i64 1, .int .u8 b] w fun e w' => e = .returned (.int .i64 r) ∧ w' = w := by
  cases hB : dgB b <;> (
    go_enter Try.func16, Try.ntmps16
    go_wp2_with (go_at_call 13; refine (isDig _ _).mono ?_; rintro e w' ⟨rfl, rfl⟩)
    all_goals (
      go_ret
      refine ⟨ret_int ?_, rfl⟩
      rw [← hr.out]
      clear hr
      try simp only [beq_iff_eq, beq_eq_false_iff_ne, ne_eq] at *
      unfold nst
      try rw [hB]
      try simp only [Bool.false_eq_true, if_false, if_true]
      repeat' split
      all_goals omega))
set_option maxHeartbeats 1000000 in
theorem step2 (b : Int) (r : Nat) (hr : Hid (nst 2 b = r)) (w : World) : Calls Try.prog 16 #[.int .i64 2, .int .u8 b] w fun e w' => e = .returned (.int .i64 r) ∧ w' = w := by
  cases hB : dgB b <;> (
    go_enter Try.func16, Try.ntmps16
    go_wp2_with (go_at_call 13; refine (isDig _ _).mono ?_; rintro e w' ⟨rfl, rfl⟩)
    all_goals (
      go_ret
      refine ⟨ret_int ?_, rfl⟩
      rw [← hr.out]
      clear hr
      try simp only [beq_iff_eq, beq_eq_false_iff_ne, ne_eq] at *
      unfold nst
      try rw [hB]
      try simp only [Bool.false_eq_true, if_false, if_true]
      repeat' split
      all_goals omega))
set_option maxHeartbeats 1000000 in
theorem step3 (b : Int) (r : Nat) (hr : Hid (nst 3 b = r)) (w : World) : Calls Try.prog 16 #[.int .i64 3, .int .u8 b] w fun e w' => e = .returned (.int .i64 r) ∧ w' = w := by
  cases hB : dgB b <;> (
    go_enter Try.func16, Try.ntmps16
    go_wp2_with (go_at_call 13; refine (isDig _ _).mono ?_; rintro e w' ⟨rfl, rfl⟩)
    all_goals (
      go_ret
      refine ⟨ret_int ?_, rfl⟩
      rw [← hr.out]
      clear hr
      try simp only [beq_iff_eq, beq_eq_false_iff_ne, ne_eq] at *
      unfold nst
      try rw [hB]
      try simp only [Bool.false_eq_true, if_false, if_true]
      repeat' split
      all_goals omega))
set_option maxHeartbeats 1000000 in
theorem step4 (b : Int) (r : Nat) (hr : Hid (nst 4 b = r)) (w : World) : Calls Try.prog 16 #[.int .i64 4, .int .u8 b] w fun e w' => e = .returned (.int .i64 r) ∧ w' = w := by
  cases hB : dgB b <;> (
    go_enter Try.func16, Try.ntmps16
    go_wp2_with (go_at_call 13; refine (isDig _ _).mono ?_; rintro e w' ⟨rfl, rfl⟩)
    all_goals (
      go_ret
      refine ⟨ret_int ?_, rfl⟩
      rw [← hr.out]
      clear hr
      try simp only [beq_iff_eq, beq_eq_false_iff_ne, ne_eq] at *
      unfold nst
      try rw [hB]
      try simp only [Bool.false_eq_true, if_false, if_true]
      repeat' split
      all_goals omega))
set_option maxHeartbeats 1000000 in
theorem step5 (b : Int) (r : Nat) (hr : Hid (nst 5 b = r)) (w : World) : Calls Try.prog 16 #[.int .i64 5, .int .u8 b] w fun e w' => e = .returned (.int .i64 r) ∧ w' = w := by
  cases hB : dgB b <;> (
    go_enter Try.func16, Try.ntmps16
    go_wp2_with (go_at_call 13; refine (isDig _ _).mono ?_; rintro e w' ⟨rfl, rfl⟩)
    all_goals (
      go_ret
      refine ⟨ret_int ?_, rfl⟩
      rw [← hr.out]
      clear hr
      try simp only [beq_iff_eq, beq_eq_false_iff_ne, ne_eq] at *
      unfold nst
      try rw [hB]
      try simp only [Bool.false_eq_true, if_false, if_true]
      repeat' split
      all_goals omega))
set_option maxHeartbeats 1000000 in
theorem step6 (b : Int) (r : Nat) (hr : Hid (nst 6 b = r)) (w : World) : Calls Try.prog 16 #[.int .i64 6, .int .u8 b] w fun e w' => e = .returned (.int .i64 r) ∧ w' = w := by
  cases hB : dgB b <;> (
    go_enter Try.func16, Try.ntmps16
    go_wp2_with (go_at_call 13; refine (isDig _ _).mono ?_; rintro e w' ⟨rfl, rfl⟩)
    all_goals (
      go_ret
      refine ⟨ret_int ?_, rfl⟩
      rw [← hr.out]
      clear hr
      try simp only [beq_iff_eq, beq_eq_false_iff_ne, ne_eq] at *
      unfold nst
      try rw [hB]
      try simp only [Bool.false_eq_true, if_false, if_true]
      repeat' split
      all_goals omega))
set_option maxHeartbeats 1000000 in
theorem step7 (b : Int) (r : Nat) (hr : Hid (nst 7 b = r)) (w : World) : Calls Try.prog 16 #[.int .i64 7, .int .u8 b] w fun e w' => e = .returned (.int .i64 r) ∧ w' = w := by
  cases hB : dgB b <;> (
    go_enter Try.func16, Try.ntmps16
    go_wp2_with (go_at_call 13; refine (isDig _ _).mono ?_; rintro e w' ⟨rfl, rfl⟩)
    all_goals (
      go_ret
      refine ⟨ret_int ?_, rfl⟩
      rw [← hr.out]
      clear hr
      try simp only [beq_iff_eq, beq_eq_false_iff_ne, ne_eq] at *
      unfold nst
      try rw [hB]
      try simp only [Bool.false_eq_true, if_false, if_true]
      repeat' split
      all_goals omega))
set_option maxHeartbeats 1000000 in
theorem step8 (b : Int) (r : Nat) (hr : Hid (nst 8 b = r)) (w : World) : Calls Try.prog 16 #[.int .i64 8, .int .u8 b] w fun e w' => e = .returned (.int .i64 r) ∧ w' = w := by
  cases hB : dgB b <;> (
    go_enter Try.func16, Try.ntmps16
    go_wp2_with (go_at_call 13; refine (isDig _ _).mono ?_; rintro e w' ⟨rfl, rfl⟩)
    all_goals (
      go_ret
      refine ⟨ret_int ?_, rfl⟩
      rw [← hr.out]
      clear hr
      try simp only [beq_iff_eq, beq_eq_false_iff_ne, ne_eq] at *
      unfold nst
      try rw [hB]
      try simp only [Bool.false_eq_true, if_false, if_true]
      repeat' split
      all_goals omega))
/-- nsStep. -/
theorem nsStep_any (s : Nat) (hs : s < 9) (b : Int) (w : World) : Calls Try.prog 16 #[.int .i64 s, .int .u8 b] w fun e w' => e = .returned (.int .i64 (nst s b : Nat)) ∧ w' = w := by
  match s, hs with
  | 0, _ => exact step0 b _ rfl w
  | 1, _ => exact step1 b _ rfl w
  | 2, _ => exact step2 b _ rfl w
  | 3, _ => exact step3 b _ rfl w
  | 4, _ => exact step4 b _ rfl w
  | 5, _ => exact step5 b _ rfl w
  | 6, _ => exact step6 b _ rfl w
  | 7, _ => exact step7 b _ rfl w
  | 8, _ => exact step8 b _ rfl w
end Go.Proofs.Qxb6628994a
