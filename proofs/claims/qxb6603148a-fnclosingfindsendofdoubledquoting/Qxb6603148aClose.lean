import Derived.Test.Qxb6603148aRows
import Derived.WalkKit
import Derived.ProofKit
import Derived.OpenShut
import Derived.Below
import Derived.Handy
import Derived.PlainAid
import Derived.WalkSpells
namespace Go.Proofs.Qxb6603148a
open Go.ChangeShapes Go.WideShapes Go.ChangeAt Go.RowKit Go.PlainAid

theorem hid {p : Prop} (h : p) : Hid p := h

/-- What 'closing' answers from place i on, over n bytes t, with the quote c; a measure first. -/
def cl (t : Nat → Int) (n : Nat) (c : Int) : Nat → Nat → Nat
  | 0, _ => n
  | f + 1, i => if i < n then (if t i = c then (if i + 1 < n ∧ t (i + 1) = c then cl t n c f (i + 2) else i + 1) else cl t n c f (i + 1)) else n
def C (t : Nat → Int) (n : Nat) (c : Int) (i : Nat) : Nat := cl t n c (n - i) i

theorem cl_more (t : Nat → Int) (n : Nat) (c : Int) : ∀ f i, n - i ≤ f → cl t n c f i = cl t n c (f + 1) i
  | 0, i, h => by
    have : ¬ i < n := by omega
    simp only [cl, if_neg this]
  | f + 1, i, h => by
    rw [cl]
    conv => rhs; rw [cl]
    by_cases h1 : i < n
    · rw [if_pos h1, if_pos h1, ← cl_more t n c f (i + 2) (by omega), ← cl_more t n c f (i + 1) (by omega)]
    · rw [if_neg h1, if_neg h1]
theorem cl_any (t : Nat → Int) (n : Nat) (c : Int) (i : Nat) : ∀ d, cl t n c (n - i + d) i = C t n c i
  | 0 => rfl
  | d + 1 => by rw [← cl_any t n c i d, ← Nat.add_assoc, ← cl_more t n c _ i (by omega)]

theorem C_skip {t : Nat → Int} {n : Nat} {c : Int} {i : Nat} (h : i < n) (h1 : t i ≠ c) : C t n c i = C t n c (i + 1) := by
  rw [C, show n - i = (n - (i + 1)) + 1 by omega, cl, if_pos h, if_neg h1]; rfl
theorem C_two {t : Nat → Int} {n : Nat} {c : Int} {i : Nat} (h : i + 1 < n) (h1 : t i = c) (h2 : t (i + 1) = c) : C t n c i = C t n c (i + 2) := by
  rw [C, show n - i = (n - (i + 2) + 1) + 1 by omega, cl, if_pos (by omega), if_pos h1, if_pos ⟨h, h2⟩, cl_any]
theorem C_end {t : Nat → Int} {n : Nat} {c : Int} {i : Nat} (h : i < n) (h1 : t i = c) (h2 : i + 1 < n → t (i + 1) ≠ c) : C t n c i = i + 1 := by
  rw [C, show n - i = (n - (i + 1)) + 1 by omega, cl, if_pos h, if_pos h1, if_neg (by intro hh; exact h2 hh.1 hh.2)]
theorem C_out {t : Nat → Int} {n : Nat} {c : Int} {i : Nat} (h : ¬ i < n) : C t n c i = n := by
  rw [C, show n - i = 0 by omega]; rfl

theorem C_facts (t : Nat → Int) (n : Nat) (c : Int) : ∀ k i, n - i ≤ k → C t n c i ≤ n ∧ (i < n → i + 1 ≤ C t n c i) ∧ (C t n c i < n → t (C t n c i - 1) = c ∧ t (C t n c i) ≠ c)
  | 0, i, h => by rw [C_out (by omega)]; exact ⟨Nat.le_refl _, by omega, by omega⟩
  | k + 1, i, h => by
    by_cases h1 : i < n
    · by_cases h2 : t i = c
      · by_cases h3 : i + 1 < n ∧ t (i + 1) = c
        · rw [C_two h3.1 h2 h3.2]
          have ih := C_facts t n c k (i + 2) (by omega)
          refine ⟨ih.1, fun _ => ?_, ih.2.2⟩
          by_cases h4 : i + 2 < n
          · have := ih.2.1 h4; omega
          · rw [C_out h4]; omega
        · have h4 : i + 1 < n → t (i + 1) ≠ c := fun a b => h3 ⟨a, b⟩
          rw [C_end h1 h2 h4]
          exact ⟨by omega, fun _ => Nat.le_refl _, fun h5 => ⟨h2, h4 h5⟩⟩
      · rw [C_skip h1 h2]
        have ih := C_facts t n c k (i + 1) (by omega)
        refine ⟨ih.1, fun _ => ?_, ih.2.2⟩
        by_cases h4 : i + 1 < n
        · have := ih.2.1 h4; omega
        · rw [C_out h4]; omega
    · rw [C_out h1]; exact ⟨Nat.le_refl _, by omega, by omega⟩

theorem closing9 (s : ByteArray) (c : Int) (w : World) (hs : (s.size : Int) ≤ 4194304) :
    Calls Try.prog 9 #[.string s, .int .u8 c] w fun e w' => e = .returned (.int .i64 (C (bt s) s.size c 1)) ∧ w = w' := by
  have hb := get_bt s
  generalize bt s = t at *
  go_enter Try.func9, Try.ntmps9
  go_wp2
  go_loop [5] (fun v => ∃ k : Nat, 1 ≤ k ∧ k ≤ s.size + 1 ∧ v = .int .i64 k ∧ C t s.size c k = C t s.size c 1) (fun v => s.size + 1 - (intOf v).toNat)
  case atStart => exact ⟨1, by omega, by omega, rfl, rfl⟩
  case round =>
    obtain ⟨k, hk1, hk2, rfl, hC⟩ := hrel
    have HC := hid hC
    clear hC
    by_cases hlt : k < s.size
    · have hlt' : (k : Int) < s.size := by omega
      by_cases h1 : t k = c
      · have e1 : (t k != c) = false := by simp [h1]
        by_cases h2 : k + 1 < s.size
        · have h2' : (k : Int) + 1 < s.size := by omega
          by_cases h3 : t (k + 1) = c
          · have HE := hid ((C_two h2 h1 h3).symm.trans HC.out)
            have e3 : (t (k + 1) == c) = true := by simp [h3]
            clear h1 h3
            go_wp2
            go_round
            case rel => exact ⟨k + 2, by omega, by omega, by go_num, HE.out⟩
            case measure => simp [intOf]; omega
          · have HE := hid (HC.out.symm.trans (C_end hlt h1 (fun _ => h3)))
            have e3 : (t (k + 1) == c) = false := by simpa using h3
            clear h1 h3
            go_wp2
            go_ret
            rw [HE.out]
            exact ⟨by simp, rfl⟩
        · have HE := hid (HC.out.symm.trans (C_end hlt h1 (fun h => absurd h h2)))
          have e2 : decide ((k : Int) + 1 < s.size) = false := by simp; omega
          clear h1 h2
          go_wp2
          go_ret
          rw [HE.out]
          exact ⟨by simp, rfl⟩
      · have HE := hid ((C_skip hlt h1).symm.trans HC.out)
        have e1 : (t k != c) = true := by simpa using h1
        clear h1
        go_wp2
        go_round
        case rel => exact ⟨k + 1, by omega, by omega, by go_num, HE.out⟩
        case measure => simp [intOf]; omega
    · have HE := hid (HC.out.symm.trans (C_out hlt))
      have e2 : decide ((k : Int) < s.size) = false := by simp; omega
      go_wp2
      go_ret
      rw [HE.out]
      exact ⟨rfl, rfl⟩

theorem zz7 (s : ByteArray) (c : Int) (w : World) (hs : (s.size : Int) ≤ 4194304) :
    Calls Try.prog 7 #[.string s, .int .u8 c] w fun e w' => e = .returned (.int .i64 (C (bt s) s.size c 1)) ∧ w = w' := by
  go_enter Try.func7, Try.ntmps7
  go_wp2_with (go_at_call 9; refine (closing9 s c _ hs).mono ?_; rintro e w' ⟨rfl, rfl⟩)
  go_ret
  exact ⟨rfl, rfl⟩

end Go.Proofs.Qxb6603148a
