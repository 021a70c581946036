import Derived.Test.Qxb6603148aClose
namespace Go.Proofs.Qxb6603148a
open Go.ChangeShapes Go.WideShapes Go.ChangeAt Go.RowKit Go.PlainAid

theorem bytes8_ok (s : ByteArray) (c : Int) (w : World) (h : (s.size : Int) ≤ 1048576) :
    Calls Try.prog 8 #[.string s, .int .u8 c] w fun e w' => e = .returned (.bool true) ∧ w = w' := by
  go_enter Try.func8, Try.ntmps8
  go_wp2
  go_ret
  exact ⟨rfl, rfl⟩
theorem bytes8_no (s : ByteArray) (c : Int) (w : World) (h : ¬ (s.size : Int) ≤ 1048576) :
    Calls Try.prog 8 #[.string s, .int .u8 c] w fun e w' => e = .returned (.bool false) ∧ w = w' := by
  go_enter Try.func8, Try.ntmps8
  go_wp2
  go_ret
  exact ⟨rfl, rfl⟩

theorem early4 (s : ByteArray) (c : Int) (w : World) (h : ¬ (s.size : Int) ≤ 1048576) :
    Calls Try.prog 4 #[.string s, .int .u8 c] w fun e w' => e = .returned (.bool true) ∧ w = w' := by
  go_enter Try.func4, Try.ntmps4
  go_wp2_with (go_at_call 8; refine (bytes8_no _ _ _ h).mono ?_; rintro e w' ⟨rfl, rfl⟩)
  go_ret
  exact ⟨rfl, rfl⟩

/-- In the run of quotes that begins at k, at m. -/
def Run (t : Nat → Int) (n : Nat) (c : Int) (N k m : Nat) : Prop :=
  (((m : Int) - k) % 2 = 0 ∧ C t n c m = N) ∨ (((m : Int) - k) % 2 = 1 ∧ C t n c (m - 1) = N ∧ t (m - 1) = c ∧ 1 ≤ m)

theorem run_step {t : Nat → Int} {n : Nat} {c : Int} {N k m : Nat} (h : Run t n c N k m) (hm : m < n) (ht : t m = c) : Run t n c N k (m + 1) := by
  rcases h with ⟨h1, h2⟩ | ⟨h1, h2, h3, h4⟩
  · exact .inr ⟨by omega, h2, ht, by omega⟩
  · refine .inl ⟨by omega, ?_⟩
    obtain ⟨q, rfl⟩ : ∃ q, m = q + 1 := ⟨m - 1, by omega⟩
    rw [← h2, C_two (i := q + 1 - 1) (by omega) h3 (by simpa using ht)]
    simp
theorem run_even {t : Nat → Int} {n : Nat} {c : Int} {N k m : Nat} (h : Run t n c N k m) (hm : m < N) (hN : N ≤ n) (ht : t m ≠ c) : ((m : Int) - k) % 2 = 0 ∧ C t n c m = N := by
  rcases h with h | ⟨h1, h2, h3, h4⟩
  · exact h
  · exfalso
    obtain ⟨q, rfl⟩ : ∃ q, m = q + 1 := ⟨m - 1, by omega⟩
    rw [C_end (i := q + 1 - 1) (by omega) h3 (fun _ => by simpa using ht)] at h2
    omega
theorem run_odd {t : Nat → Int} {n : Nat} {c : Int} {N k : Nat} (h : Run t n c N k N) (hN : N < n) : ((N : Int) - k) % 2 = 1 := by
  rcases h with ⟨h1, h2⟩ | h
  · have := (C_facts t n c n N (by omega)).2.1 hN
    omega
  · exact h.1

theorem walk4 (s : ByteArray) (c : Int) (w : World) (h : (s.size : Int) ≤ 1048576) :
    Calls Try.prog 4 #[.string s, .int .u8 c] w fun e w' => e = .returned (.bool true) ∧ w = w' := by
  have hb := get_bt s
  have hcl := zz7 s c w (by omega)
  generalize bt s = t at *
  have hF := C_facts t s.size c s.size 1 (by omega)
  obtain ⟨N, hN⟩ : ∃ N, C t s.size c 1 = N := ⟨_, rfl⟩
  rw [hN] at hF hcl
  obtain ⟨hF1, hF2, hF3⟩ := hF
  have HN := hid hN
  have HF3 : Hid (N < s.size → (t (N - 1) != c) = false ∧ (t N == c) = false ∧ 2 ≤ (N : Int)) := hid (by
    intro hlt
    obtain ⟨e1, e2⟩ := hF3 hlt
    refine ⟨by simp [e1], by simpa using e2, ?_⟩
    by_cases e : 1 < s.size
    · have := hF2 e; omega
    · have e3 := C_out (t := t) (c := c) e
      rw [hN] at e3; omega)
  have hF1' : (N : Int) ≤ s.size := by omega
  have hF2' : 0 < (s.size : Int) → 1 ≤ (N : Int) := by
    intro h0
    by_cases e : 1 < s.size
    · have := hF2 e; omega
    · have e2 := C_out (t := t) (c := c) e
      rw [hN] at e2; omega
  clear hN hF3 hF2
  by_cases hz : s.size = 0
  · have hN0 : N = 0 := by omega
    subst hN0
    have hz' : ¬ 0 < (s.size : Int) := by omega
    have hd0 : decide (0 < (s.size : Int)) = false := by simpa using hz'
    clear hF2' hF1' hF1
    go_enter Try.func4, Try.ntmps4
    go_wp2_with (first
      | (go_at_call 8; refine (bytes8_ok _ _ _ h).mono ?_; rintro e w' ⟨rfl, rfl⟩)
      | (go_at_call 7; refine hcl.mono ?_; rintro e w' ⟨rfl, rfl⟩))
    go_rounds 1
    go_ret
    exact ⟨rfl, rfl⟩
  · have hz' : 0 < (s.size : Int) := by omega
    have hN1 := hF2' hz'
    clear hF2'
    go_enter Try.func4, Try.ntmps4
    go_wp2_with (first
      | (go_at_call 8; refine (bytes8_ok _ _ _ h).mono ?_; rintro e w' ⟨rfl, rfl⟩)
      | (go_at_call 7; refine hcl.mono ?_; rintro e w' ⟨rfl, rfl⟩))
    go_loop [6] (fun v6 => ∃ k : Nat, 1 ≤ k ∧ k ≤ N ∧ v6 = .int .i64 k ∧ (k < N → C t s.size c k = N)) (fun v6 => N - (intOf v6).toNat)
    case atStart => exact ⟨1, by omega, by omega, rfl, fun _ => HN.out⟩
    case round =>
      obtain ⟨k, hk1, hk2, rfl, hC⟩ := hrel
      have HC := hid hC
      clear hC
      by_cases hlt : k < N
      · have hlt' : (k : Int) < N := by omega
        by_cases h1 : t k = c
        · have e1 : (t k != c) = false := by simp [h1]
          have H1 := hid h1
          clear h1
          go_wp2_with fail
          go_loop [7] (fun v7 => ∃ m : Nat, k ≤ m ∧ m ≤ N ∧ v7 = .int .i64 m ∧ Run t s.size c N k m) (fun v7 => N - (intOf v7).toNat)
          case atStart => exact ⟨k, Nat.le_refl _, by omega, rfl, .inl ⟨by omega, HC.out hlt⟩⟩
          case round =>
            obtain ⟨m, hm1, hm2, rfl, hR⟩ := hrel
            have HR := hid hR
            clear hR e1
            by_cases hmlt : m < N
            · have hmlt' : (m : Int) < N := by omega
              by_cases h2 : t m = c
              · have e2 : (t m == c) = true := by simp [h2]
                have HS := hid (run_step HR.out (by omega) h2)
                clear h2
                go_wp2
                go_round
                case rel => exact ⟨m + 1, by omega, by omega, by go_num, HS.out⟩
                case measure => simp [intOf]; omega
              · have e2 : (t m == c) = false := by simpa using h2
                have hne : m ≠ k := by intro e; rw [e] at h2; exact h2 H1.out
                have hev := run_even HR.out hmlt hF1 h2
                have HV := hid hev.2
                have hpar := hev.1
                clear h2 hev
                have hmk : (k : Int) < m := by omega
                go_wp2
                go_round
                case rel => exact ⟨m, by omega, by omega, rfl, fun _ => HV.out⟩
                case measure => simp [intOf]; omega
            · obtain rfl : m = N := by omega
              have hd : decide ((m : Int) < (m : Int)) = false := by simp
              by_cases hend : m < s.size
              · have hpar := run_odd HR.out hend
                have hend' : (m : Int) < s.size := by omega
                clear hmlt
                go_wp2
                go_round
                case rel => exact ⟨m, by omega, by omega, rfl, fun hh => absurd hh (by omega)⟩
                case measure => simp [intOf]; omega
              · have hd2 : decide ((m : Int) < (s.size : Int)) = false := by simp; omega
                clear hmlt
                go_wp2
                go_round
                case rel => exact ⟨m, by omega, by omega, rfl, fun hh => absurd hh (by omega)⟩
                case measure => simp [intOf]; omega
        · have e1 : (t k != c) = true := by simpa using h1
          have HS := hid (fun hh : k + 1 < N => (C_skip (by omega) h1).symm.trans (HC.out hlt))
          clear h1
          go_wp2
          go_round
          case rel => exact ⟨k + 1, by omega, by omega, by go_num, HS.out⟩
          case measure => simp [intOf]; omega
      · have hd : decide ((k : Int) < (N : Int)) = false := by simp; omega
        by_cases hend : N < s.size
        · obtain ⟨f1, f2, f3⟩ := HF3.out hend
          have hend' : (N : Int) < s.size := by omega
          go_wp2
          go_ret
          exact ⟨rfl, rfl⟩
        · have hd2 : decide ((N : Int) < (s.size : Int)) = false := by simp; omega
          go_wp2
          go_ret
          exact ⟨rfl, rfl⟩

end Go.Proofs.Qxb6603148a
