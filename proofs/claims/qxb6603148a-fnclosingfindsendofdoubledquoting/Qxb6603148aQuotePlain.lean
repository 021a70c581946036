import Derived.Test.Qxb6603148aClose
import Derived.Laws.BytesArg
namespace Go.Proofs.Qxb6603148a
open Go.RowKit Go.PlainAid

/-- The first k bytes of t, each c doubled. -/
def dbl (t : Nat → Int) (c : Int) : Nat → List Int
  | 0 => []
  | k + 1 => dbl t c k ++ (if t k = c then [t k, c] else [t k])
/-- The same behind the opening quote. -/
def dq (t : Nat → Int) (c : Int) (k : Nat) : List Int := c :: dbl t c k
/-- The whole token. -/
def tok (t : Nat → Int) (c : Int) (n : Nat) : List Int := dq t c n ++ [c]

theorem dq_one {t : Nat → Int} {c : Int} {k : Nat} (h : t k ≠ c) : dq t c (k + 1) = dq t c k ++ [t k] := by simp [dq, dbl, h]
theorem dq_two {t : Nat → Int} {c : Int} {k : Nat} (h : t k = c) : dq t c (k + 1) = dq t c k ++ [t k] ++ [c] := by simp [dq, dbl, h]
theorem dq_len (t : Nat → Int) (c : Int) : ∀ k, k + 1 ≤ (dq t c k).length ∧ (dq t c k).length ≤ 2 * k + 1
  | 0 => by simp [dq, dbl]
  | k + 1 => by
    have ih := dq_len t c k
    by_cases h : t k = c
    · rw [dq_two h]; simp only [List.length_append, List.length_singleton]; omega
    · rw [dq_one h]; simp only [List.length_append, List.length_singleton]; omega
theorem dq_pre (t : Nat → Int) (c : Int) (k : Nat) : ∀ d, ∃ r, dq t c (k + d) = dq t c k ++ r
  | 0 => ⟨[], by simp⟩
  | d + 1 => by
    obtain ⟨r, hr⟩ := dq_pre t c k d
    by_cases h : t (k + d) = c
    · exact ⟨r ++ [t (k + d)] ++ [c], by rw [← Nat.add_assoc, dq_two h, hr]; simp⟩
    · exact ⟨r ++ [t (k + d)], by rw [← Nat.add_assoc, dq_one h, hr]; simp⟩
theorem dq_byte {t : Nat → Int} {c : Int} (hc : 0 ≤ c ∧ c ≤ 255) (ht : ∀ k, 0 ≤ t k ∧ t k ≤ 255) : ∀ k, ∀ x ∈ dq t c k, 0 ≤ x ∧ x ≤ 255
  | 0, x, hx => by simp [dq, dbl] at hx; rw [hx]; exact hc
  | k + 1, x, hx => by
    have ih := dq_byte hc ht k
    by_cases h : t k = c
    · rw [dq_two h] at hx
      simp only [List.mem_append, List.mem_singleton] at hx
      rcases hx with (hx | hx) | hx
      · exact ih x hx
      · rw [hx]; exact ht k
      · rw [hx]; exact hc
    · rw [dq_one h] at hx
      simp only [List.mem_append, List.mem_singleton] at hx
      rcases hx with hx | hx
      · exact ih x hx
      · rw [hx]; exact ht k

theorem bt_str {xs : List Int} (hx : ∀ x ∈ xs, 0 ≤ x ∧ x ≤ 255) (tail : ByteArray) (i : Nat) (x : Int) (h : xs[i]? = some x) : bt (strOfNums xs ++ tail) i = x := by
  have hi : i < xs.length := (List.getElem?_eq_some_iff.1 h).1
  have hxi : xs[i] = x := (List.getElem?_eq_some_iff.1 h).2
  have hb := hx x (hxi ▸ List.getElem_mem hi)
  have hs : i < (strOfNums xs ++ tail).size := by rw [ByteArray.size_append, strOfNums_size]; omega
  unfold bt
  rw [dif_pos hs, ByteArray.getElem_append_left (by rw [strOfNums_size]; exact hi)]
  have e : (strOfNums xs)[i]'(by rw [strOfNums_size]; exact hi) = UInt8.ofNat x.toNat := by
    have e0 : (strOfNums xs)[i]'(by rw [strOfNums_size]; exact hi) = (xs.map fun n => UInt8.ofNat n.toNat)[i]'(by simpa using hi) := rfl
    rw [e0, List.getElem_map, hxi]
  rw [e]
  simp
  omega
theorem bt_tail (xs : List Int) (tail : ByteArray) (i : Nat) : bt (strOfNums xs ++ tail) (xs.length + i) = bt tail i := by
  unfold bt
  by_cases h : i < tail.size
  · rw [dif_pos h, dif_pos (by rw [ByteArray.size_append, strOfNums_size]; omega)]
    rw [ByteArray.getElem_append_right (by rw [strOfNums_size]; omega)]
    simp [strOfNums_size]
  · rw [dif_neg h, dif_neg (by rw [ByteArray.size_append, strOfNums_size]; omega)]

theorem close_law {t : Nat → Int} {c : Int} {n : Nat} (hc : 0 ≤ c ∧ c ≤ 255) (ht : ∀ k, 0 ≤ t k ∧ t k ≤ 255) (tail : ByteArray) (hq : 0 < tail.size → bt tail 0 ≠ c) :
    C (bt (strOfNums (tok t c n) ++ tail)) (strOfNums (tok t c n) ++ tail).size c 1 = (tok t c n).length := by
  have hb : ∀ x ∈ tok t c n, 0 ≤ x ∧ x ≤ 255 := by
    intro x hx
    simp only [tok, List.mem_append, List.mem_singleton] at hx
    rcases hx with hx | hx
    · exact dq_byte hc ht n x hx
    · rw [hx]; exact hc
  have hlen : (tok t c n).length = (dq t c n).length + 1 := by simp [tok]
  have hsz : (strOfNums (tok t c n) ++ tail).size = (tok t c n).length + tail.size := by rw [ByteArray.size_append, strOfNums_size]
  rw [hsz]
  have hget := bt_str hb tail
  generalize hu : bt (strOfNums (tok t c n) ++ tail) = u at *
  have key : ∀ k, k ≤ n → C u ((tok t c n).length + tail.size) c 1 = C u ((tok t c n).length + tail.size) c (dq t c k).length := by
    intro k
    induction k with
    | zero => intro _; simp [dq, dbl]
    | succ k ih =>
      intro hk
      rw [ih (by omega)]
      obtain ⟨r, hr⟩ := dq_pre t c (k + 1) (n - (k + 1))
      rw [show k + 1 + (n - (k + 1)) = n by omega] at hr
      by_cases h : t k = c
      · rw [dq_two h] at hr ⊢
        have e1 : u (dq t c k).length = c := by
          refine hget _ _ ?_
          rw [tok, hr]; simp [h]
        have e2 : u ((dq t c k).length + 1) = c := by
          refine hget _ _ ?_
          rw [tok, hr]; simp
        have hl : (dq t c k).length + 1 < (tok t c n).length + tail.size := by
          rw [hlen, hr]; simp only [List.length_append, List.length_singleton]; omega
        rw [C_two hl e1 e2]
        simp
      · rw [dq_one h] at hr ⊢
        have e1 : u (dq t c k).length = t k := by
          refine hget _ _ ?_
          rw [tok, hr]; simp
        have hl : (dq t c k).length < (tok t c n).length + tail.size := by
          rw [hlen, hr]; simp only [List.length_append, List.length_singleton]; omega
        rw [C_skip hl (by rw [e1]; exact h)]
        simp
  rw [key n (Nat.le_refl _), C_end]
  · exact hlen.symm
  · omega
  · refine hget _ _ ?_
    simp [tok]
  · intro h
    rw [← hu, ← hlen]
    have := bt_tail (tok t c n) tail 0
    rw [Nat.add_zero] at this
    rw [this]
    exact hq (by omega)

end Go.Proofs.Qxb6603148a
