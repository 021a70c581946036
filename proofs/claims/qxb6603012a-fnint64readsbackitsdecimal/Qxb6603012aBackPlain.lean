import Derived.Test.Qxb6603012aI64
namespace Go.Proofs.Qxb6603012a
open Go.RowKit

/-- The number that a list of digits spells. -/
def valL : List Int → Int
  | [] => 0
  | d :: ds => (d - 48) * 10 ^ ds.length + valL ds

theorem valL_snoc (d : Int) : ∀ ds : List Int, valL (ds ++ [d]) = valL ds * 10 + (d - 48)
  | [] => by simp [valL]
  | x :: ds => by
    simp only [List.cons_append, valL, valL_snoc d ds, List.length_append, List.length_singleton]
    rw [Int.pow_succ, ← Int.mul_assoc]
    omega

theorem val_of_list {z : Nat → Int} {s : Nat} : ∀ (m : Nat) (ds : List Int), ds.length = m → (∀ i, i < m → z (s + i) = ds.getD i 0) → val z s m = valL ds
  | 0, ds, hl, _ => by
    obtain rfl := List.eq_nil_of_length_eq_zero hl
    rfl
  | m + 1, ds, hl, h => by
    obtain ⟨xs, x, rfl⟩ : ∃ xs x, ds = xs ++ [x] := by
      have hne : ds ≠ [] := by intro e; rw [e] at hl; simp at hl
      exact ⟨ds.dropLast, ds.getLast hne, (List.dropLast_concat_getLast hne).symm⟩
    have hl' : xs.length = m := by simpa using hl
    rw [valL_snoc, val, val_of_list m xs hl' (fun i hi => by rw [h i (by omega), List.getD, List.getElem?_append_left (by omega)]; rfl)]
    have e := h m (by omega)
    rw [e]
    have e2 : (xs ++ [x]).getD m 0 = x := by rw [← hl']; simp
    rw [e2]

theorem allD_of {z : Nat → Int} {s : Nat} : ∀ (m : Nat), (∀ i, i < m → 48 ≤ z (s + i) ∧ z (s + i) ≤ 57) → allD z s m = true
  | 0, _ => rfl
  | m + 1, h => by
    simp only [allD, allD_of m (fun i hi => h i (by omega)), digB_iff.2 (h m (by omega))]
    rfl

theorem dE_run {z : Nat → Int} {n : Nat} : ∀ (m s : Nat), (∀ i, i < m → dgP z n (s + i) = true) → dgP z n (s + m) = false → dE z n s = s + m
  | 0, s, _, h => dE_no h
  | m + 1, s, h, h' => by
    rw [dE_yes (show dgP z n s = true from h 0 (by omega)), dE_run m (s + 1) (fun i hi => by rw [show s + 1 + i = s + (i + 1) by omega]; exact h (i + 1) (by omega)) (by rw [show s + 1 + m = s + (m + 1) by omega]; exact h')]
    omega

/-- Digits at s, m of them, no leading zero, and nothing behind that goes on. -/
theorem part1_back {z : Nat → Int} {n s m : Nat} (hm : 0 < m) (hn : s + m ≤ n) (hd : ∀ i, i < m → 48 ≤ z (s + i) ∧ z (s + i) ≤ 57) (h0 : z s = 48 → m = 1)
    (he : s + m < n → ¬ (48 ≤ z (s + m) ∧ z (s + m) ≤ 57) ∧ z (s + m) ≠ 46 ∧ z (s + m) ≠ 101 ∧ z (s + m) ≠ 69) : part1 z n s = (s + m, true) := by
  have p2 : part2 z n (s + m) = (s + m, true) := by
    rw [p2_no (atP_no.2 (fun h => (he h).2.1)), p3_no (atP_no.2 (fun h => (he h).2.2.1)) (atP_no.2 (fun h => (he h).2.2.2))]
  cases h48 : atP z n s 48 with
  | true =>
    have := h0 (atP_iff.1 h48).2
    subst this
    rw [p1_zero h48]; exact p2
  | false =>
    have e : dE z n s = s + m := dE_run m s (fun i hi => by have := hd i hi; simp only [dgP]; rw [decide_eq_true this.1, decide_eq_true this.2, decide_eq_true (show s + i < n by omega)]; rfl)
      (dgP_no.2 (fun h => (he h).1))
    rw [p1_yes h48 (by rw [e]; simp; omega), e]
    exact p2

theorem i64_back {z : Nat → Int} {n p : Nat} {v d : Int} {ds : List Int} (hv : -9223372036854775808 ≤ v ∧ v ≤ 9223372036854775807)
    (hm : 0 < ds.length) (hm19 : ds.length ≤ 19) (hdig : ∀ i, i < ds.length → 48 ≤ ds.getD i 0 ∧ ds.getD i 0 ≤ 57) (h0 : ds.getD 0 0 = 48 → ds.length = 1)
    (hval : valL ds = if v < 0 then -v else v) (s : Nat) (hs : s = if v < 0 then p + 1 else p) (hn : s + ds.length ≤ n) (hneg : v < 0 → z p = 45) (hz : ∀ i, i < ds.length → z (s + i) = ds.getD i 0)
    (he : s + ds.length < n → ¬ (48 ≤ z (s + ds.length) ∧ z (s + ds.length) ≤ 57) ∧ z (s + ds.length) ≠ 46 ∧ z (s + ds.length) ≠ 101 ∧ z (s + ds.length) ≠ 69) :
    numP z n p = (s + ds.length, true) ∧ i64P z n p d = (v, true) := by
  have hd : ∀ i, i < ds.length → 48 ≤ z (s + i) ∧ z (s + i) ≤ 57 := fun i hi => by rw [hz i hi]; exact hdig i hi
  have hz0 : z s = ds.getD 0 0 := hz 0 hm
  have hp1 : part1 z n s = (s + ds.length, true) := part1_back hm hn hd (fun h => h0 (hz0 ▸ h)) he
  have hb0 := hdig 0 hm
  have hval2 := val_of_list ds.length ds rfl hz
  have hall := allD_of ds.length hd
  by_cases hv0 : v < 0
  · rw [if_pos hv0] at hs hval
    subst hs
    have hat : atP z n p 45 = true := atP_iff.2 ⟨by omega, hneg hv0⟩
    have hnum : numP z n p = (p + 1 + ds.length, true) := by unfold numP; rw [hat]; exact hp1
    have hsg : sgn z p = true := by simp [sgn, hneg hv0]
    have hbeg : beg z p = p + 1 := by simp [beg, hsg]
    refine ⟨hnum, ?_⟩
    rw [i64_neg (m := ds.length) (s := p + 1) (by rw [hnum]) hbeg hsg (by rw [hnum]) hm19 hall, hval2, hval, if_pos (by omega)]
    simp
  · rw [if_neg hv0] at hs hval
    subst hs
    have hne : z s ≠ 45 := by omega
    have hat : atP z n s 45 = false := atP_no.2 (fun _ => hne)
    have hnum : numP z n s = (s + ds.length, true) := by unfold numP; rw [hat]; exact hp1
    have hsg : sgn z s = false := by simp [sgn, hne]
    have hbeg : beg z s = s := by simp [beg, hsg]
    refine ⟨hnum, ?_⟩
    rw [i64_pos (m := ds.length) (s := s) (by rw [hnum]) hbeg hsg (by rw [hnum]) hm19 hall, hval2, hval, if_pos (by omega)]

end Go.Proofs.Qxb6603012a
