import Derived.Test.Qxb6603012aScan
namespace Go.Proofs.Qxb6603012a
open Go.ChangeShapes Go.WideShapes Go.ChangeAt Go.RowKit

theorem ret_i64 {a b : Int} (h : a = b) : Ending.returned (.int .i64 a) = .returned (.int .i64 b) := by rw [h]

/-- The automaton's table. -/
def stepN : Nat → Int → Int
  | 0, c => if c = 45 then 1 else if c = 48 then 2 else if 49 ≤ c ∧ c ≤ 57 then 3 else -1
  | 1, c => if c = 48 then 2 else if 49 ≤ c ∧ c ≤ 57 then 3 else -1
  | 2, c => if c = 46 then 4 else if c = 101 ∨ c = 69 then 6 else -1
  | 3, c => if 48 ≤ c ∧ c ≤ 57 then 3 else if c = 46 then 4 else if c = 101 ∨ c = 69 then 6 else -1
  | 4, c => if 48 ≤ c ∧ c ≤ 57 then 5 else -1
  | 5, c => if 48 ≤ c ∧ c ≤ 57 then 5 else if c = 101 ∨ c = 69 then 6 else -1
  | 6, c => if c = 43 ∨ c = 45 then 7 else if 48 ≤ c ∧ c ≤ 57 then 8 else -1
  | _, c => if 48 ≤ c ∧ c ≤ 57 then 8 else -1

set_option maxHeartbeats 2000000 in
theorem step28_0 (c : Int) (w : World) :
    Calls Try.prog 28 #[.int .i64 0, .int .u8 c] w fun e w' => e = .returned (.int .i64 (stepN 0 c)) ∧ w = w' := by
  by_cases e45 : c = 45
  · subst e45
    go_enter Try.func28, Try.ntmps28
    go_wp2
    go_ret
    exact ⟨rfl, rfl⟩
  · have b45 : (c == 45) = false := by simpa using e45
    by_cases e48 : c = 48
    · subst e48
      go_enter Try.func28, Try.ntmps28
      go_wp2
      go_ret
      exact ⟨rfl, rfl⟩
    · have b48 : (c == 48) = false := by simpa using e48
      go_enter Try.func28, Try.ntmps28
      go_wp2
      all_goals
        go_ret
        refine ⟨ret_i64 ?_, rfl⟩
        simp only [stepN]
        (repeat' split) <;> omega

set_option maxHeartbeats 2000000 in
theorem step28_1 (c : Int) (w : World) :
    Calls Try.prog 28 #[.int .i64 1, .int .u8 c] w fun e w' => e = .returned (.int .i64 (stepN 1 c)) ∧ w = w' := by
  by_cases e48 : c = 48
  · subst e48
    go_enter Try.func28, Try.ntmps28
    go_wp2
    go_ret
    exact ⟨rfl, rfl⟩
  · have b48 : (c == 48) = false := by simpa using e48
    go_enter Try.func28, Try.ntmps28
    go_wp2
    all_goals
      go_ret
      refine ⟨ret_i64 ?_, rfl⟩
      simp only [stepN]
      (repeat' split) <;> omega

set_option maxHeartbeats 2000000 in
theorem step28_2 (c : Int) (w : World) :
    Calls Try.prog 28 #[.int .i64 2, .int .u8 c] w fun e w' => e = .returned (.int .i64 (stepN 2 c)) ∧ w = w' := by
  by_cases e46 : c = 46
  · subst e46
    go_enter Try.func28, Try.ntmps28
    go_wp2
    go_ret
    exact ⟨rfl, rfl⟩
  · have b46 : (c == 46) = false := by simpa using e46
    by_cases e101 : c = 101
    · subst e101
      go_enter Try.func28, Try.ntmps28
      go_wp2
      go_ret
      exact ⟨rfl, rfl⟩
    · have b101 : (c == 101) = false := by simpa using e101
      by_cases e69 : c = 69
      · subst e69
        go_enter Try.func28, Try.ntmps28
        go_wp2
        go_ret
        exact ⟨rfl, rfl⟩
      · have b69 : (c == 69) = false := by simpa using e69
        go_enter Try.func28, Try.ntmps28
        go_wp2
        all_goals
          go_ret
          refine ⟨ret_i64 ?_, rfl⟩
          simp only [stepN]
          (repeat' split) <;> omega

set_option maxHeartbeats 2000000 in
theorem step28_3 (c : Int) (w : World) :
    Calls Try.prog 28 #[.int .i64 3, .int .u8 c] w fun e w' => e = .returned (.int .i64 (stepN 3 c)) ∧ w = w' := by
  by_cases e46 : c = 46
  · subst e46
    go_enter Try.func28, Try.ntmps28
    go_wp2
    go_ret
    exact ⟨rfl, rfl⟩
  · have b46 : (c == 46) = false := by simpa using e46
    by_cases e101 : c = 101
    · subst e101
      go_enter Try.func28, Try.ntmps28
      go_wp2
      go_ret
      exact ⟨rfl, rfl⟩
    · have b101 : (c == 101) = false := by simpa using e101
      by_cases e69 : c = 69
      · subst e69
        go_enter Try.func28, Try.ntmps28
        go_wp2
        go_ret
        exact ⟨rfl, rfl⟩
      · have b69 : (c == 69) = false := by simpa using e69
        go_enter Try.func28, Try.ntmps28
        go_wp2
        all_goals
          go_ret
          refine ⟨ret_i64 ?_, rfl⟩
          simp only [stepN]
          (repeat' split) <;> omega

set_option maxHeartbeats 2000000 in
theorem step28_4 (c : Int) (w : World) :
    Calls Try.prog 28 #[.int .i64 4, .int .u8 c] w fun e w' => e = .returned (.int .i64 (stepN 4 c)) ∧ w = w' := by
  go_enter Try.func28, Try.ntmps28
  go_wp2
  all_goals
    go_ret
    refine ⟨ret_i64 ?_, rfl⟩
    simp only [stepN]
    (repeat' split) <;> omega

set_option maxHeartbeats 2000000 in
theorem step28_5 (c : Int) (w : World) :
    Calls Try.prog 28 #[.int .i64 5, .int .u8 c] w fun e w' => e = .returned (.int .i64 (stepN 5 c)) ∧ w = w' := by
  by_cases e101 : c = 101
  · subst e101
    go_enter Try.func28, Try.ntmps28
    go_wp2
    go_ret
    exact ⟨rfl, rfl⟩
  · have b101 : (c == 101) = false := by simpa using e101
    by_cases e69 : c = 69
    · subst e69
      go_enter Try.func28, Try.ntmps28
      go_wp2
      go_ret
      exact ⟨rfl, rfl⟩
    · have b69 : (c == 69) = false := by simpa using e69
      go_enter Try.func28, Try.ntmps28
      go_wp2
      all_goals
        go_ret
        refine ⟨ret_i64 ?_, rfl⟩
        simp only [stepN]
        (repeat' split) <;> omega

set_option maxHeartbeats 2000000 in
theorem step28_6 (c : Int) (w : World) :
    Calls Try.prog 28 #[.int .i64 6, .int .u8 c] w fun e w' => e = .returned (.int .i64 (stepN 6 c)) ∧ w = w' := by
  by_cases e43 : c = 43
  · subst e43
    go_enter Try.func28, Try.ntmps28
    go_wp2
    go_ret
    exact ⟨rfl, rfl⟩
  · have b43 : (c == 43) = false := by simpa using e43
    by_cases e45 : c = 45
    · subst e45
      go_enter Try.func28, Try.ntmps28
      go_wp2
      go_ret
      exact ⟨rfl, rfl⟩
    · have b45 : (c == 45) = false := by simpa using e45
      go_enter Try.func28, Try.ntmps28
      go_wp2
      all_goals
        go_ret
        refine ⟨ret_i64 ?_, rfl⟩
        simp only [stepN]
        (repeat' split) <;> omega

set_option maxHeartbeats 2000000 in
theorem step28_7 (c : Int) (w : World) :
    Calls Try.prog 28 #[.int .i64 7, .int .u8 c] w fun e w' => e = .returned (.int .i64 (stepN 7 c)) ∧ w = w' := by
  go_enter Try.func28, Try.ntmps28
  go_wp2
  all_goals
    go_ret
    refine ⟨ret_i64 ?_, rfl⟩
    simp only [stepN]
    (repeat' split) <;> omega

set_option maxHeartbeats 2000000 in
theorem step28_8 (c : Int) (w : World) :
    Calls Try.prog 28 #[.int .i64 8, .int .u8 c] w fun e w' => e = .returned (.int .i64 (stepN 8 c)) ∧ w = w' := by
  go_enter Try.func28, Try.ntmps28
  go_wp2
  all_goals
    go_ret
    refine ⟨ret_i64 ?_, rfl⟩
    simp only [stepN]
    (repeat' split) <;> omega

theorem step28 (k : Nat) (c : Int) (w : World) (hk : k ≤ 8) :
    Calls Try.prog 28 #[.int .i64 k, .int .u8 c] w fun e w' => e = .returned (.int .i64 (stepN k c)) ∧ w = w' := by
  match k, hk with
  | 0, _ => exact step28_0 c w
  | 1, _ => exact step28_1 c w
  | 2, _ => exact step28_2 c w
  | 3, _ => exact step28_3 c w
  | 4, _ => exact step28_4 c w
  | 5, _ => exact step28_5 c w
  | 6, _ => exact step28_6 c w
  | 7, _ => exact step28_7 c w
  | 8, _ => exact step28_8 c w

def accN (st : Nat) : Bool := st == 2 || st == 3 || st == 5 || st == 8

theorem acc29 (k : Nat) (w : World) (hk : k ≤ 8) :
    Calls Try.prog 29 #[.int .i64 k] w fun e w' => e = .returned (.bool (accN k)) ∧ w = w' := by
  have hk' : k = 0 ∨ k = 1 ∨ k = 2 ∨ k = 3 ∨ k = 4 ∨ k = 5 ∨ k = 6 ∨ k = 7 ∨ k = 8 := by omega
  rcases hk' with rfl | rfl | rfl | rfl | rfl | rfl | rfl | rfl | rfl
  all_goals
    clear hk
    go_enter Try.func29, Try.ntmps29
    go_wp2
    go_ret
    exact ⟨rfl, rfl⟩

end Go.Proofs.Qxb6603012a
