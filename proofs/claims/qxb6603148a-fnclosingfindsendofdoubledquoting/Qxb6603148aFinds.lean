import Derived.Test.Qxb6603148aQuote
namespace Go.Proofs.Qxb6603148a
open Go.ChangeShapes Go.WideShapes Go.ChangeAt Go.RowKit Go.PlainAid

theorem bytes5_ok (s u : ByteArray) (c : Int) (w : World) (h1 : (s.size : Int) ≤ 1048576) (h2 : (s.size : Int) + (u.size : Int) ≤ 1048576) :
    Calls Try.prog 5 #[.string s, .string u, .int .u8 c] w fun e w' => e = .returned (.bool true) ∧ w = w' := by
  have h3 : (u.size : Int) ≤ 1048576 := by omega
  go_enter Try.func5, Try.ntmps5
  go_wp2
  go_ret
  exact ⟨rfl, rfl⟩
theorem bytes5_no (s u : ByteArray) (c : Int) (w : World) (hs : s.size ≤ maxLen) (hu : u.size ≤ maxLen) (h : ¬ (s.size : Int) + (u.size : Int) ≤ 1048576) :
    Calls Try.prog 5 #[.string s, .string u, .int .u8 c] w fun e w' => e = .returned (.bool false) ∧ w = w' := by
  unfold maxLen at hs hu
  by_cases h1 : (s.size : Int) ≤ 1048576
  · by_cases h2 : (u.size : Int) ≤ 1048576
    · go_enter Try.func5, Try.ntmps5
      go_wp2
      go_ret
      exact ⟨rfl, rfl⟩
    · go_enter Try.func5, Try.ntmps5
      go_wp2
      go_ret
      exact ⟨rfl, rfl⟩
  · go_enter Try.func5, Try.ntmps5
    go_wp2
    go_ret
    exact ⟨rfl, rfl⟩

theorem over3 (s u : ByteArray) (c : Int) (w : World) (hs : s.size ≤ maxLen) (hu : u.size ≤ maxLen) (h : ¬ (s.size : Int) + (u.size : Int) ≤ 1048576) :
    Calls Try.prog 3 #[.string s, .string u, .int .u8 c] w fun e w' => e = .returned (.bool true) ∧ Below w.heap.size w w' := by
  go_enter Try.func3, Try.ntmps3
  go_wp2_with (go_at_call 5; refine (bytes5_no _ _ _ _ hs hu h).mono ?_; rintro e w' ⟨rfl, rfl⟩)
  go_ret
  exact ⟨rfl, Below.refl _ _⟩
theorem long3 (s u : ByteArray) (c : Int) (w : World) (h : (s.size : Int) + (u.size : Int) ≤ 1048576) (hl : ¬ (s.size : Int) ≤ 262144 ∨ ¬ (u.size : Int) ≤ 262144) :
    Calls Try.prog 3 #[.string s, .string u, .int .u8 c] w fun e w' => e = .returned (.bool true) ∧ Below w.heap.size w w' := by
  have h1 : (s.size : Int) ≤ 1048576 := by omega
  by_cases hl1 : (s.size : Int) ≤ 262144
  · have hl2 : ¬ (u.size : Int) ≤ 262144 := by omega
    clear hl
    go_enter Try.func3, Try.ntmps3
    go_wp2_with (go_at_call 5; refine (bytes5_ok _ _ _ _ h1 h).mono ?_; rintro e w' ⟨rfl, rfl⟩)
    go_ret
    exact ⟨rfl, Below.refl _ _⟩
  · clear hl
    go_enter Try.func3, Try.ntmps3
    go_wp2_with (go_at_call 5; refine (bytes5_ok _ _ _ _ h1 h).mono ?_; rintro e w' ⟨rfl, rfl⟩)
    go_ret
    exact ⟨rfl, Below.refl _ _⟩

theorem walk3 (s u : ByteArray) (c : Int) (w : World) (hc : 0 ≤ c ∧ c ≤ 255) (hs : (s.size : Int) ≤ 262144) (hu : (u.size : Int) ≤ 262144) :
    Calls Try.prog 3 #[.string s, .string u, .int .u8 c] w fun e w' => e = .returned (.bool true) ∧ Below w.heap.size w w' := by
  have h1 : (s.size : Int) ≤ 1048576 := by omega
  have h2 : (s.size : Int) + (u.size : Int) ≤ 1048576 := by omega
  have hb := get_bt u
  have HT := hid (show (tok (bt s) c s.size).length ≤ 2 * s.size + 2 by have := dq_len (bt s) c s.size; simp [tok]; omega)
  have HL := hid (close_law (t := bt s) (n := s.size) hc (fun k => ⟨bt_nonneg s k, bt_le s k⟩) u)
  have hqt := quote6 s c w hs
  have hsz := strOfNums_size (tok (bt s) c s.size)
  generalize hT : strOfNums (tok (bt s) c s.size) = T at *
  by_cases hu0 : 0 < u.size
  · have hu0' : 0 < (u.size : Int) := by omega
    by_cases he : bt u 0 = c
    · have e1 : (bt u 0 == c) = true := by simp [he]
      clear he HL hqt hsz hT HT
      go_enter Try.func3, Try.ntmps3
      go_wp2_with (go_at_call 5; refine (bytes5_ok _ _ _ _ h1 h2).mono ?_; rintro e w' ⟨rfl, rfl⟩)
      go_ret
      exact ⟨rfl, Below.refl _ _⟩
    · have e1 : (bt u 0 == c) = false := by simpa using he
      have HC := HL.out (fun _ => he)
      rw [← hsz] at HC
      have hcl := zz7 (T ++ u) c
      rw [HC] at hcl
      have hTs : (T.size : Int) ≤ 524290 := by have := HT.out; omega
      have HU := hid (show ((T ++ u).size : Int) ≤ 4194304 by rw [ByteArray.size_append]; omega)
      have HK := hid hcl
      clear he HL HC hcl hsz hT
      go_enter Try.func3, Try.ntmps3
      go_wp2_with (first
        | (go_at_call 5; refine (bytes5_ok _ _ _ _ h1 h2).mono ?_; rintro e w' ⟨rfl, rfl⟩)
        | (go_at_call 6; refine hqt.mono ?_; rintro e w1 ⟨rfl, hb1⟩)
        | (go_at_call 7; refine (HK.out _ HU.out).mono ?_; rintro e w2 ⟨rfl, rfl⟩))
      go_ret
      exact ⟨rfl, hb1⟩
  · have hd : decide (0 < (u.size : Int)) = false := by simp only [decide_eq_false_iff_not]; omega
    have HC := HL.out (fun hh => absurd hh hu0)
    rw [← hsz] at HC
    have hcl := zz7 (T ++ u) c
    rw [HC] at hcl
    have hTs : (T.size : Int) ≤ 524290 := by have := HT.out; omega
    have HU := hid (show ((T ++ u).size : Int) ≤ 4194304 by rw [ByteArray.size_append]; omega)
    have HK := hid hcl
    clear HL HC hcl hsz hT
    go_enter Try.func3, Try.ntmps3
    go_wp2_with (first
      | (go_at_call 5; refine (bytes5_ok _ _ _ _ h1 h2).mono ?_; rintro e w' ⟨rfl, rfl⟩)
      | (go_at_call 6; refine hqt.mono ?_; rintro e w1 ⟨rfl, hb1⟩)
      | (go_at_call 7; refine (HK.out _ HU.out).mono ?_; rintro e w2 ⟨rfl, rfl⟩))
    go_ret
    exact ⟨rfl, hb1⟩

end Go.Proofs.Qxb6603148a
