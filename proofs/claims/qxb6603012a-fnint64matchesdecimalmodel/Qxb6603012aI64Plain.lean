import Derived.Test.Qxb6603012aNumLaw
namespace Go.Proofs.Qxb6603012a
open Go.RowKit

def digB (c : Int) : Bool := decide (48 ≤ c) && decide (c ≤ 57)
theorem digB_iff {c : Int} : digB c = true ↔ 48 ≤ c ∧ c ≤ 57 := by simp [digB]
theorem digB_no {c : Int} : digB c = false ↔ ¬ (48 ≤ c ∧ c ≤ 57) := by rw [← digB_iff]; simp

/-- Are the k bytes from s on digits? -/
def allD (z : Nat → Int) (s : Nat) : Nat → Bool
  | 0 => true
  | k + 1 => allD z s k && digB (z (s + k))
/-- The number that the k digits from s on spell. -/
def val (z : Nat → Int) (s : Nat) : Nat → Int
  | 0 => 0
  | k + 1 => val z s k * 10 + (z (s + k) - 48)

theorem allD_get {z : Nat → Int} {s : Nat} : ∀ {k : Nat}, allD z s k = true → ∀ j, j < k → 48 ≤ z (s + j) ∧ z (s + j) ≤ 57
  | 0, _, j, hj => by omega
  | k + 1, h, j, hj => by
    simp only [allD, Bool.and_eq_true, digB_iff] at h
    by_cases e : j = k
    · rw [e]; exact h.2
    · exact allD_get h.1 j (by omega)
theorem allD_no {z : Nat → Int} {s : Nat} : ∀ {k j : Nat}, j < k → digB (z (s + j)) = false → allD z s k = false
  | 0, j, hj, _ => by omega
  | k + 1, j, hj, h => by
    simp only [allD]
    by_cases e : j = k
    · rw [← e, h]; simp
    · rw [allD_no (by omega) h]; rfl

theorem val_bd {z : Nat → Int} {s : Nat} : ∀ {k : Nat}, allD z s k = true → 0 ≤ val z s k ∧ val z s k ≤ 10 ^ k - 1
  | 0, _ => by simp [val]
  | k + 1, h => by
    have h' := h
    simp only [allD, Bool.and_eq_true, digB_iff] at h'
    have ih := val_bd h'.1
    simp only [val]
    rw [Int.pow_succ]
    omega

theorem pow_mono {a b : Nat} (h : a ≤ b) : (10 : Int) ^ a ≤ 10 ^ b := by
  have := Nat.pow_le_pow_right (n := 10) (by omega) h
  exact_mod_cast this

theorem val_18 {z : Nat → Int} {s k : Nat} (h : allD z s k = true) (hk : k ≤ 18) : 0 ≤ val z s k ∧ val z s k ≤ 999999999999999999 := by
  have h1 := val_bd h
  have h2 := pow_mono hk
  have e : (10 : Int) ^ 18 = 1000000000000000000 := by decide
  omega
theorem val_19 {z : Nat → Int} {s k : Nat} (h : allD z s k = true) (hk : k ≤ 19) : 0 ≤ val z s k ∧ val z s k ≤ 9999999999999999999 := by
  have h1 := val_bd h
  have h2 := pow_mono hk
  have e : (10 : Int) ^ 19 = 10000000000000000000 := by decide
  omega

/-- Where the digits of a number at p begin. -/
def sgn (z : Nat → Int) (p : Nat) : Bool := z p == 45
def beg (z : Nat → Int) (p : Nat) : Nat := if sgn z p then p + 1 else p

/-- What 'int64' leaves in *dst, and its answer. -/
def i64P (z : Nat → Int) (n p : Nat) (dst : Int) : Int × Bool :=
  if (numP z n p).2 && (decide ((numP z n p).1 - beg z p ≤ 19) && allD z (beg z p) ((numP z n p).1 - beg z p)) then
    (if sgn z p then (if val z (beg z p) ((numP z n p).1 - beg z p) ≤ 9223372036854775808 then (- val z (beg z p) ((numP z n p).1 - beg z p), true) else (dst, false))
     else (if val z (beg z p) ((numP z n p).1 - beg z p) < 9223372036854775808 then (val z (beg z p) ((numP z n p).1 - beg z p), true) else (dst, false)))
  else (dst, false)

theorem part3_ge {z : Nat → Int} {n q : Nat} (h : q ≤ n) : q ≤ (part3 z n q).1 ∧ (part3 z n q).1 ≤ n := by
  cases hx : (atP z n q 101 || atP z n q 69) with
  | true =>
    have hx' : q < n := by
      rw [Bool.or_eq_true, atP_iff, atP_iff] at hx
      omega
    cases hp : atP z n (q + 1) 43 with
    | true =>
      have := (atP_iff.1 hp).1
      rw [p3_plus hx hp]
      have := dE_le z n (q + 2) (by omega)
      exact ⟨by simp; omega, this.2.1⟩
    | false =>
      rw [p3_else hx hp]
      cases hm : atP z n (q + 1) 45 with
      | true =>
        have := (atP_iff.1 hm).1
        have := dE_le z n (q + 2) (by omega)
        exact ⟨by simp; omega, this.2.1⟩
      | false =>
        have := dE_le z n (q + 1) (by omega)
        exact ⟨by simp; omega, this.2.1⟩
  | false =>
    rw [Bool.or_eq_false_iff] at hx
    rw [p3_no hx.1 hx.2]
    exact ⟨Nat.le_refl _, h⟩

theorem part2_ge {z : Nat → Int} {n q : Nat} (h : q ≤ n) : q ≤ (part2 z n q).1 ∧ (part2 z n q).1 ≤ n := by
  cases hp : atP z n q 46 with
  | true =>
    have h1 := (atP_iff.1 hp).1
    have hd := dE_le z n (q + 1) (by omega)
    cases hb : decide (q + 1 < dE z n (q + 1)) with
    | true =>
      rw [p2_yes hp hb]
      have := part3_ge (z := z) hd.2.1
      omega
    | false =>
      rw [p2_bad hp hb]
      exact ⟨by simp; omega, hd.2.1⟩
  | false =>
    rw [p2_no hp]
    exact part3_ge h

theorem num_ok {z : Nat → Int} {n p : Nat} (hp : p ≤ n) (h : (numP z n p).2 = true) :
    beg z p < (numP z n p).1 ∧ (numP z n p).1 ≤ n ∧ p ≤ beg z p ∧ beg z p ≤ p + 1 ∧ p < n ∧ 48 ≤ z (beg z p) ∧ z (beg z p) ≤ 57 := by
  have key : ∀ q, q ≤ n → (part1 z n q).2 = true → q < (part1 z n q).1 ∧ (part1 z n q).1 ≤ n ∧ 48 ≤ z q ∧ z q ≤ 57 := by
    intro q hq h
    cases h0 : atP z n q 48 with
    | true =>
      obtain ⟨h1, h2⟩ := atP_iff.1 h0
      rw [p1_zero h0]
      have := part2_ge (z := z) (show q + 1 ≤ n by omega)
      omega
    | false =>
      cases hb : decide (q < dE z n q) with
      | true =>
        have hb' := of_decide_eq_true hb
        have hd := dE_le z n q hq
        have hz := dgP_lt (hd.2.2.2 q (Nat.le_refl _) hb')
        rw [p1_yes h0 hb]
        have := part2_ge (z := z) hd.2.1
        omega
      | false => rw [p1_bad h0 hb] at h; cases h
  unfold numP at h ⊢
  cases hm : atP z n p 45 with
  | true =>
    obtain ⟨h1, h2⟩ := atP_iff.1 hm
    have e : beg z p = p + 1 := by simp [beg, sgn, h2]
    rw [hm] at h
    have := key (p + 1) (by omega) h
    rw [e]
    simp only [if_true]
    omega
  | false =>
    rw [hm] at h
    have hk := key p hp h
    have e : beg z p = p := by
      have : z p ≠ 45 := by omega
      simp [beg, sgn, this]
    rw [e]
    have hk' : p < (part1 z n p).1 ∧ (part1 z n p).1 ≤ n ∧ 48 ≤ z p ∧ z p ≤ 57 := hk
    exact ⟨hk'.1, hk'.2.1, by omega, by omega, by omega, hk'.2.2.1, hk'.2.2.2⟩

theorem num_le {z : Nat → Int} {n p : Nat} (hp : p ≤ n) : p ≤ (numP z n p).1 ∧ (numP z n p).1 ≤ n := by
  have key : ∀ q, q ≤ n → q ≤ (part1 z n q).1 ∧ (part1 z n q).1 ≤ n := by
    intro q hq
    cases h0 : atP z n q 48 with
    | true =>
      have h1 := (atP_iff.1 h0).1
      rw [p1_zero h0]
      have := part2_ge (z := z) (show q + 1 ≤ n by omega)
      omega
    | false =>
      have hd := dE_le z n q hq
      cases hb : decide (q < dE z n q) with
      | true =>
        rw [p1_yes h0 hb]
        have := part2_ge (z := z) hd.2.1
        omega
      | false =>
        rw [p1_bad h0 hb]
        exact ⟨hd.1, hd.2.1⟩
  unfold numP
  cases hm : atP z n p 45 with
  | true =>
    have h1 := (atP_iff.1 hm).1
    have := key (p + 1) (by omega)
    simp only [if_true]
    omega
  | false => exact key p hp

end Go.Proofs.Qxb6603012a
