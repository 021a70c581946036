import Derived.Test.Qxb6603148aQuotePlain
namespace Go.Proofs.Qxb6603148a
open Go.ChangeShapes Go.WideShapes Go.ChangeAt Go.RowKit Go.PlainAid

theorem Try.info5 : (Try.prog.info? 5).map (fun i => (i.zero, i.size, i.bytes)) = some (some (.int .u8 0), 1, 1) := by kernel_rfl

/-- What the loop has laid: the opening quote and the first k bytes, doubled. -/
structure QRel (t : Nat → Int) (c : Int) (B n : Nat) (w wr : World) (xs : List Int) : Prop where
  own : wr.ownsRow B 5 1 (.slice (some ⟨B, 0, none⟩) xs.length n) xs.length (xs.map (Value.int .u8))
  bel : Below B w wr

theorem q_step {t : Nat → Int} {c : Int} {B n : Nat} {w wr w2 : World} {xs : List Int} {x : Int} (h : QRel t c B n w wr xs) (hB : B ≤ wr.heap.size)
    (hown : w2.ownsRow B 5 1 (.slice (some ⟨B, 0, none⟩) (xs.length + 1) n) (xs.length + 1) (xs.map (Value.int .u8) ++ [.int .u8 x])) (hg : (wr.alloc (.cells #[.int .u8 x] 5)).grownBy w2 (some B)) : QRel t c B n w w2 (xs ++ [x]) := by
  refine ⟨?_, (h.bel.alloc hB _).grown hg (by simp; omega) (by intro k hk; injection hk with hk; omega)⟩
  simpa using hown

theorem conv_own {w : World} {B n cap : Nat} {xs : List Int} (h : w.ownsRow B 5 1 (.slice (some ⟨B, 0, none⟩) n cap) n (xs.map (Value.int .u8))) :
    (convert 26 9 (.slice (some ⟨B, 0, none⟩) n cap)).run Try.prog w = .ok (.string (strOfNums xs)) w := by
  have hl : xs.length = n := by simpa using h.1
  refine run_convert_bytes_arg w 26 5 Try.underlying26 Try.underlying5 B 0 n cap xs hl ?_ 9 Try.underlying9
  intro j hj
  have := h.cellAt j (by omega)
  rw [Nat.zero_add, this]
  have hj' : j < xs.length := by omega
  rw [List.getElem?_map, List.getD, List.getElem?_eq_getElem hj']
  rfl
theorem tok_own {w : World} {B n cap : Nat} {t : Nat → Int} {c : Int} {k : Nat} (h : w.ownsRow B 5 1 (.slice (some ⟨B, 0, none⟩) n cap) n ((dq t c k).map (Value.int .u8) ++ [.int .u8 c])) :
    w.ownsRow B 5 1 (.slice (some ⟨B, 0, none⟩) n cap) n ((tok t c k).map (Value.int .u8)) := by
  simpa [tok] using h

set_option maxHeartbeats 1000000 in
theorem quote6 (s : ByteArray) (c : Int) (w : World) (hs : (s.size : Int) ≤ 262144) :
    Calls Try.prog 6 #[.string s, .int .u8 c] w fun e w' => e = .returned (.string (strOfNums (tok (bt s) c s.size))) ∧ Below w.heap.size w w' := by
  have hb := get_bt s
  generalize bt s = t at *
  obtain ⟨i, hi, hz0, hz1, hz2⟩ := info_parts Try.info5
  go_enter Try.func6, Try.ntmps6
  go_wp2_with (first
    | (at_make; go_loud (refine wpList_make_own _ rfl _ _ 26 rfl w.heap.size 5 i _ 1 Try.underlying26 hi hz0 hz1 _ _ _ (2 * s.size + 2) rfl rfl (by omega) ?b1 ?b2 ?b3 ?_)))
  case b1 => rw [hz2]; omega
  case b2 => unfold maxLen; omega
  case b3 => exact Nat.le_refl _
  intro w1 hown hgrow
  have hb1 : Below w.heap.size w w1 := (Below.refl _ _).grown hgrow (Nat.le_refl _) (by simp)
  have hsz := hb1.size
  have hq0 : QRel t c w.heap.size (2 * s.size + 2) w w1 [] := ⟨hown, hb1⟩
  clear hgrow
  go_wp2_with (first
    | (at_builtin; go_loud (refine wpList_append_fits _ rfl _ _ 26 rfl w.heap.size 5 i 1 Try.underlying26 hi hz1 w.heap.size 0 (2 * s.size + 2) [] rfl (hown.alloc _) ⟨w1.heap.size, 0, none⟩ 1 1 [_] rfl rfl (cell_one_new _ _ _) (by intro u hu; simp at hu; subst hu; rfl) (by omega) ?_; intro w2 hown2 hgrow2)))
  have hq1 : QRel t c w.heap.size (2 * s.size + 2) w w2 (dq t c 0) := q_step hq0 hsz hown2 hgrow2
  clear hown hown2 hgrow2 hb1 hsz hq0
  go_loopw [5, 6] (fun v5 v6 wr => ∃ (k L : Nat), k ≤ s.size ∧ v6 = .int .i64 k ∧ v5 = .slice (some ⟨w.heap.size, 0, none⟩) L (2 * s.size + 2) ∧ L = (dq t c k).length ∧ QRel t c w.heap.size (2 * s.size + 2) w wr (dq t c k)) (fun _ v6 _ => s.size - (intOf v6).toNat)
  case atStart => exact ⟨0, 1, by omega, rfl, rfl, rfl, hq1⟩
  case round =>
    obtain ⟨k, L, hk, rfl, rfl, hL, hrel⟩ := hrel
    have hown1 := hrel.own
    have hsz := hrel.bel.size
    have hl := dq_len t c k
    rw [← hL] at hown1 hl
    have HL := hid hL
    have HR := hid hrel
    clear hL hrel hq1
    by_cases hlt : k < s.size
    · have hlt' : (k : Int) < s.size := by omega
      by_cases h : t k = c
      · have e1 : (t k == c) = true := by simp [h]
        have HE := hid h
        clear h
        go_wp2_with (first | (at_builtin; refine wpList_append_fits _ rfl _ _ 26 rfl w.heap.size 5 i 1 Try.underlying26 hi hz1 w.heap.size L (2 * s.size + 2) _ rfl (hown1.alloc _) ⟨wr.heap.size, 0, none⟩ 1 1 [_] rfl rfl (cell_one_new _ _ _) (by intro u hu; simp at hu; subst hu; rfl) (by omega) ?_; intro w3 hown3 hgrow3) | (at_builtin; refine wpList_append_fits _ rfl _ _ 26 rfl w.heap.size 5 i 1 Try.underlying26 hi hz1 w.heap.size (L + 1) (2 * s.size + 2) _ rfl (hown3.alloc _) ⟨w3.heap.size, 0, none⟩ 1 1 [_] rfl rfl (cell_one_new _ _ _) (by intro u hu; simp at hu; subst hu; rfl) (by omega) ?_; intro w4 hown4 hgrow4))
        go_roundw
        case rel =>
          have s1 := q_step HR.out hsz (by rw [← HL.out]; exact hown3) hgrow3
          have hl3 : (dq t c k ++ [t k]).length = L + 1 := by simp [HL.out]
          have s2 := q_step s1 s1.bel.size (by rw [hl3]; simpa using hown4) hgrow4
          rw [← dq_two HE.out] at s2
          exact ⟨k + 1, L + 1 + 1, by omega, by go_num, rfl, by rw [dq_two HE.out]; simp [HL.out], s2⟩
        case measure => simp [intOf]; omega
      · have e1 : (t k == c) = false := by simpa using h
        have HE := hid h
        clear h
        go_wp2_with (first | (at_builtin; refine wpList_append_fits _ rfl _ _ 26 rfl w.heap.size 5 i 1 Try.underlying26 hi hz1 w.heap.size L (2 * s.size + 2) _ rfl (hown1.alloc _) ⟨wr.heap.size, 0, none⟩ 1 1 [_] rfl rfl (cell_one_new _ _ _) (by intro u hu; simp at hu; subst hu; rfl) (by omega) ?_; intro w3 hown3 hgrow3))
        go_roundw
        case rel =>
          have s1 := q_step HR.out hsz (by rw [← HL.out]; exact hown3) hgrow3
          rw [← dq_one HE.out] at s1
          exact ⟨k + 1, L + 1, by omega, by go_num, rfl, by rw [dq_one HE.out]; simp [HL.out], s1⟩
        case measure => simp [intOf]; omega
    · obtain rfl : k = s.size := by omega
      have hd : decide ((s.size : Int) < (s.size : Int)) = false := by simp
      go_wp2_with (first | (at_builtin; refine wpList_append_fits _ rfl _ _ 26 rfl w.heap.size 5 i 1 Try.underlying26 hi hz1 w.heap.size L (2 * s.size + 2) _ rfl (hown1.alloc _) ⟨wr.heap.size, 0, none⟩ 1 1 [_] rfl rfl (cell_one_new _ _ _) (by intro u hu; simp at hu; subst hu; rfl) (by omega) ?_; intro w3 hown3 hgrow3; have hcv := conv_own (tok_own hown3)))
      go_ret
      have s1 := q_step HR.out hsz (by rw [← HL.out]; exact hown3) hgrow3
      exact ⟨rfl, s1.bel⟩

end Go.Proofs.Qxb6603148a
