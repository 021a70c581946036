import Derived.Test.Qxb6603012aNum
namespace Go.Proofs.Qxb6603012a
open Go.RowKit

theorem atP_iff {z : Nat → Int} {n q : Nat} {c : Int} : atP z n q c = true ↔ q < n ∧ z q = c := by simp [atP]
theorem atP_no {z : Nat → Int} {n q : Nat} {c : Int} : atP z n q c = false ↔ (q < n → z q ≠ c) := by
  by_cases h : q < n <;> simp [atP, h]
theorem dgP_no {z : Nat → Int} {n q : Nat} : dgP z n q = false ↔ (q < n → ¬ (48 ≤ z q ∧ z q ≤ 57)) := by
  by_cases h : q < n <;> simp [dgP, h] <;> omega

def An (x : Nat × Nat) : Nat × Bool := (x.1, accN x.2)

theorem loop_dig {z : Nat → Int} {n s : Nat} (hs : ∀ c : Int, 48 ≤ c → c ≤ 57 → stepN s c = (s : Int)) (q : Nat) : R z n s q = R z n s (dE z n q) := by
  generalize hk : n - q = k
  induction k generalizing q with
  | zero =>
    have hd : dgP z n q = false := dgP_no.2 (by omega)
    rw [dE_no hd]
  | succ k ih =>
    cases hd : dgP z n q with
    | true =>
      obtain ⟨h1, h2, h3⟩ := dgP_lt hd
      have e := hs _ h2 h3
      rw [dE_yes hd, R_go h1 (by omega), e]
      exact ih (q + 1) (by omega)
    | false => rw [dE_no hd]

theorem first_dig {z : Nat → Int} {n a b : Nat} (ha : ∀ c : Int, 48 ≤ c → c ≤ 57 → stepN a c = (b : Int)) (hb : ∀ c : Int, 48 ≤ c → c ≤ 57 → stepN b c = (b : Int)) {q : Nat} (hd : dgP z n q = true) : R z n a q = R z n b (dE z n q) := by
  obtain ⟨h1, h2, h3⟩ := dgP_lt hd
  have e := ha _ h2 h3
  rw [dE_yes hd, R_go h1 (by omega), e]
  exact loop_dig hb (q + 1)

theorem dE_pos {z : Nat → Int} {n q : Nat} (hd : dgP z n q = true) : q < dE z n q ∧ dE z n q ≤ n ∧ dgP z n (dE z n q) = false := by
  have h1 := (dgP_lt hd).1
  have := dE_le z n (q + 1) (by omega)
  rw [dE_yes hd]
  exact ⟨by omega, this.2.1, this.2.2.1⟩

theorem s3 : ∀ c : Int, 48 ≤ c → c ≤ 57 → stepN 3 c = ((3 : Nat) : Int) := by intro c h1 h2; simp only [stepN]; rw [if_pos ⟨h1, h2⟩]; rfl
theorem s5 : ∀ c : Int, 48 ≤ c → c ≤ 57 → stepN 5 c = ((5 : Nat) : Int) := by intro c h1 h2; simp only [stepN]; rw [if_pos ⟨h1, h2⟩]; rfl
theorem s8 : ∀ c : Int, 48 ≤ c → c ≤ 57 → stepN 8 c = ((8 : Nat) : Int) := by intro c h1 h2; simp only [stepN]; rw [if_pos ⟨h1, h2⟩]; rfl
theorem s4 : ∀ c : Int, 48 ≤ c → c ≤ 57 → stepN 4 c = ((5 : Nat) : Int) := by intro c h1 h2; simp only [stepN]; rw [if_pos ⟨h1, h2⟩]; rfl
theorem s7 : ∀ c : Int, 48 ≤ c → c ≤ 57 → stepN 7 c = ((8 : Nat) : Int) := by intro c h1 h2; simp only [stepN]; rw [if_pos ⟨h1, h2⟩]; rfl
theorem s6 : ∀ c : Int, 48 ≤ c → c ≤ 57 → stepN 6 c = ((8 : Nat) : Int) := by intro c h1 h2; simp only [stepN]; rw [if_neg (by omega), if_pos ⟨h1, h2⟩]; rfl

theorem stop8 {z : Nat → Int} {n q : Nat} (hd : dgP z n q = false) : R z n 8 q = (q, 8) := by
  refine R_stop (fun h => ?_)
  have := dgP_no.1 hd h
  simp only [stepN]; rw [if_neg this]; omega

theorem tail8 {z : Nat → Int} {n a : Nat} (ha : ∀ c : Int, 48 ≤ c → c ≤ 57 → stepN a c = ((8 : Nat) : Int)) (hacc : accN a = false) {q : Nat} (hno : q < n → ¬ (48 ≤ z q ∧ z q ≤ 57) → stepN a (z q) < 0) :
    An (R z n a q) = (dE z n q, decide (q < dE z n q)) := by
  cases hd : dgP z n q with
  | true =>
    have hp := dE_pos hd
    rw [first_dig ha s8 hd, stop8 hp.2.2]
    simp only [An, Prod.mk.injEq, true_and]
    rw [decide_eq_true hp.1]; rfl
  | false =>
    rw [R_stop (fun h => hno h (dgP_no.1 hd h)), dE_no hd]
    simp [An, hacc]

/-- At q, in a state that takes an exponent, nothing else left to take. -/
theorem part3_law {z : Nat → Int} {n s : Nat} (hs : s = 2 ∨ s = 3 ∨ s = 5) {q : Nat} (he : ∀ c : Int, c = 101 ∨ c = 69 → stepN s c = 6) (hn : q < n → ¬ (z q = 101 ∨ z q = 69) → stepN s (z q) < 0) :
    An (R z n s q) = part3 z n q := by
  cases hx : (atP z n q 101 || atP z n q 69) with
  | true =>
    have hx' : q < n ∧ (z q = 101 ∨ z q = 69) := by
      rw [Bool.or_eq_true, atP_iff, atP_iff] at hx
      omega
    have e := he _ hx'.2
    rw [R_go hx'.1 (by omega), e]
    show An (R z n 6 (q + 1)) = _
    cases hp : atP z n (q + 1) 43 with
    | true =>
      obtain ⟨h1, h2⟩ := atP_iff.1 hp
      have e2 : stepN 6 (z (q + 1)) = 7 := by rw [h2]; rfl
      rw [p3_plus hx hp, R_go h1 (by omega), e2]
      exact tail8 s7 rfl (fun _ h => by simp only [stepN]; rw [if_neg h]; omega)
    | false =>
      rw [p3_else hx hp]
      cases hm : atP z n (q + 1) 45 with
      | true =>
        obtain ⟨h1, h2⟩ := atP_iff.1 hm
        have e2 : stepN 6 (z (q + 1)) = 7 := by rw [h2]; rfl
        rw [R_go h1 (by omega), e2]
        exact tail8 s7 rfl (fun _ h => by simp only [stepN]; rw [if_neg h]; omega)
      | false =>
        refine tail8 s6 rfl (fun h hd => ?_)
        have n1 := atP_no.1 hp h
        have n2 := atP_no.1 hm h
        simp only [stepN]; rw [if_neg (by omega), if_neg hd]; omega
  | false =>
    rw [Bool.or_eq_false_iff] at hx
    rw [p3_no hx.1 hx.2, R_stop]
    · rcases hs with rfl | rfl | rfl <;> rfl
    · intro h
      refine hn h ?_
      have n1 := atP_no.1 hx.1 h
      have n2 := atP_no.1 hx.2 h
      omega

theorem part2_law {z : Nat → Int} {n s : Nat} (hs : s = 2 ∨ s = 3) {q : Nat} (hd : s = 3 → dgP z n q = false) :
    An (R z n s q) = part2 z n q := by
  have he : ∀ c : Int, c = 101 ∨ c = 69 → stepN s c = 6 := by
    intro c hc
    rcases hs with rfl | rfl <;> rcases hc with rfl | rfl <;> rfl
  cases hp : atP z n q 46 with
  | true =>
    obtain ⟨h1, h2⟩ := atP_iff.1 hp
    have e : stepN s (z q) = 4 := by rw [h2]; rcases hs with rfl | rfl <;> rfl
    rw [R_go h1 (by omega), e]
    show An (R z n 4 (q + 1)) = _
    cases h4 : dgP z n (q + 1) with
    | true =>
      have hq := dE_pos h4
      rw [p2_yes hp (decide_eq_true hq.1), first_dig s4 s5 h4]
      refine part3_law (.inr (.inr rfl)) (fun c hc => by rcases hc with rfl | rfl <;> rfl) ?_
      intro h hno
      have := dgP_no.1 hq.2.2 h
      simp only [stepN]; rw [if_neg this, if_neg hno]; omega
    | false =>
      have e2 := dE_no h4
      rw [p2_bad hp (by rw [e2]; simp), e2, R_stop]
      · rfl
      · intro h
        have := dgP_no.1 h4 h
        simp only [stepN]; rw [if_neg this]; omega
  | false =>
    rw [p2_no hp]
    refine part3_law (by omega) he ?_
    intro h hno
    have n1 := atP_no.1 hp h
    rcases hs with rfl | rfl
    · simp only [stepN]; rw [if_neg n1, if_neg hno]; omega
    · have := dgP_no.1 (hd rfl) h
      simp only [stepN]; rw [if_neg this, if_neg n1, if_neg hno]; omega

theorem part1_law {z : Nat → Int} {n a : Nat} (ha : a = 0 ∨ a = 1) {q : Nat} (hm : a = 0 → atP z n q 45 = false) :
    An (R z n a q) = part1 z n q := by
  cases h0 : atP z n q 48 with
  | true =>
    obtain ⟨h1, h2⟩ := atP_iff.1 h0
    have e : stepN a (z q) = 2 := by rw [h2]; rcases ha with rfl | rfl <;> rfl
    rw [p1_zero h0, R_go h1 (by omega), e]
    exact part2_law (.inl rfl) (fun h => by cases h)
  | false =>
    cases hd : dgP z n q with
    | true =>
      have hp := dE_pos hd
      obtain ⟨h1, h2, h3⟩ := dgP_lt hd
      have hne := atP_no.1 h0 h1
      have e : stepN a (z q) = 3 := by
        rcases ha with rfl | rfl
        · simp only [stepN]; rw [if_neg (by omega), if_neg hne, if_pos (by omega)]
        · simp only [stepN]; rw [if_neg hne, if_pos (by omega)]
      rw [p1_yes h0 (decide_eq_true hp.1), R_go h1 (by omega), e, dE_yes hd]
      show An (R z n 3 (q + 1)) = _
      rw [loop_dig s3 (q + 1), ← dE_yes hd]
      exact part2_law (.inr rfl) (fun _ => hp.2.2)
    | false =>
      have e2 := dE_no hd
      rw [p1_bad h0 (by rw [e2]; simp), e2, R_stop]
      · rcases ha with rfl | rfl <;> rfl
      · intro h
        have n1 := atP_no.1 h0 h
        have n2 := dgP_no.1 hd h
        rcases ha with rfl | rfl
        · have n3 := atP_no.1 (hm rfl) h
          simp only [stepN]; rw [if_neg n3, if_neg n1, if_neg (by omega)]; omega
        · simp only [stepN]; rw [if_neg n1, if_neg (by omega)]; omega

theorem num_law (z : Nat → Int) (n p : Nat) : numP z n p = ((R z n 0 p).1, accN (R z n 0 p).2) := by
  show _ = An (R z n 0 p)
  unfold numP
  cases hm : atP z n p 45 with
  | true =>
    obtain ⟨h1, h2⟩ := atP_iff.1 hm
    have e : stepN 0 (z p) = 1 := by rw [h2]; rfl
    rw [R_go h1 (by omega), e]
    exact (part1_law (.inr rfl) (fun h => by cases h)).symm
  | false => exact (part1_law (.inl rfl) (fun _ => hm)).symm

end Go.Proofs.Qxb6603012a
