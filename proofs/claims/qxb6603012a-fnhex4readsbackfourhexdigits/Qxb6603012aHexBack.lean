import Derived.Test.Qxb6603012aHex
namespace Go.Proofs.Qxb6603012a
open Go.ChangeShapes Go.WideShapes Go.ChangeAt Go.RowKit
theorem Try.info5 : (Try.prog.info? 5).map (fun i => (i.zero, i.size, i.bytes)) = some (some (.int .u8 0), 1, 1) := by kernel_rfl

def dgt (r : Int) : Nat → Int
  | 0 => r / 4096 % 16
  | 1 => r / 256 % 16
  | 2 => r / 16 % 16
  | _ => r % 16

def okc (c d : Int) : Prop := hv c = d ∧ 0 ≤ c ∧ c ≤ 255

theorem up_fin : ∀ n : Fin 16, okc (({ data := #[48, 49, 50, 51, 52, 53, 54, 55, 56, 57, 65, 66, 67, 68, 69, 70] } : ByteArray)[n.val]'n.isLt).toNat n.val := by
  unfold okc; decide
theorem lo_fin : ∀ n : Fin 16, okc (({ data := #[48, 49, 50, 51, 52, 53, 54, 55, 56, 57, 97, 98, 99, 100, 101, 102] } : ByteArray)[n.val]'n.isLt).toNat n.val := by
  unfold okc; decide
theorem up_ok (d : Int) (h0 : 0 ≤ d) (h2 : d.toNat < 16) : okc (({ data := #[48, 49, 50, 51, 52, 53, 54, 55, 56, 57, 65, 66, 67, 68, 69, 70] } : ByteArray)[d.toNat]'h2).toNat d := by
  have h := up_fin ⟨d.toNat, h2⟩
  simp only [Int.toNat_of_nonneg h0] at h
  exact h
theorem lo_ok (d : Int) (h0 : 0 ≤ d) (h2 : d.toNat < 16) : okc (({ data := #[48, 49, 50, 51, 52, 53, 54, 55, 56, 57, 97, 98, 99, 100, 101, 102] } : ByteArray)[d.toNat]'h2).toNat d := by
  have h := lo_fin ⟨d.toNat, h2⟩
  simp only [Int.toNat_of_nonneg h0] at h
  exact h

theorem and15 (x : Int) (h0 : 0 ≤ x) (h1 : x ≤ 65535) : bits .and .i32 x 15 = x % 16 := bits_mask .i32 31 (by decide) wraps_i32 4 (by decide) x h0 (by omega)

theorem getD_app {xs ys : List Int} {j : Nat} (h : j < xs.length) : (xs ++ ys).getD j 0 = xs.getD j 0 := by
  simp [List.getD, List.getElem?_append_left h]

/-- What the loop has laid in round k. -/
structure Rel (r : Int) (B n : Nat) (w wr : World) (k : Nat) (xs : List Int) : Prop where
  own : wr.ownsRow B 5 1 (.slice (some ⟨B, 0, none⟩) k n) k (xs.map (Value.int .u8))
  bel : Below B w wr
  len : xs.length = k
  dig : ∀ j, j < k → hv (xs.getD j 0) = dgt r j
  bd : ∀ j, 0 ≤ xs.getD j 0 ∧ xs.getD j 0 ≤ 255

theorem rel_step {r : Int} {B n : Nat} {w wr w2 : World} {k : Nat} {xs : List Int} {c : Int} (h : Rel r B n w wr k xs) (hc : okc c (dgt r k)) (hB : B ≤ wr.heap.size)
    (hown : w2.ownsRow B 5 1 (.slice (some ⟨B, 0, none⟩) (k + 1) n) (k + 1) (xs.map (Value.int .u8) ++ [.int .u8 c])) (hg : (wr.alloc (.cells #[.int .u8 c] 5)).grownBy w2 (some B)) : Rel r B n w w2 (k + 1) (xs ++ [c]) := by
  refine ⟨by simpa using hown, (h.bel.alloc hB _).grown hg (by simp; omega) (by intro k hk; injection hk with hk; omega), by simp [h.len], ?_, ?_⟩
  · intro j hj
    by_cases e : j = k
    · subst e; rw [← h.len]; simp; rw [h.len]; exact hc.1
    · rw [getD_app (by have := h.len; omega)]; exact h.dig j (by omega)
  · intro j
    by_cases e : j < k
    · rw [getD_app (by have := h.len; omega)]; exact h.bd j
    · by_cases e2 : j = k
      · subst e2; rw [← h.len]; simp; exact ⟨hc.2.1, hc.2.2⟩
      · simp [List.getD]; rw [List.getElem?_eq_none (by simp [h.len]; omega)]; simp

theorem read_back (r : Int) (z : Nat → Int) (v : Value) (w : World) (n : Nat) (h0 : 0 ≤ r) (h1 : r ≤ 65535) (hd : ∀ j, j < 4 → hv (z j) = dgt r j)
    (h : Calls Try.prog n #[v] w fun e w' => (((∀ j, j < 4 → 0 ≤ hv (z j)) ∧ e = .returned (.tuple #[.int .i32 (hx z 4), .bool true])) ∨ ((∃ j, j < 4 ∧ hv (z j) < 0) ∧ e = .returned (.tuple #[.int .i32 0, .bool false]))) ∧ w = w') :
    Calls Try.prog n #[v] w fun e w' => e = .returned (.tuple #[.int .i32 r, .bool true]) ∧ w = w' := by
  have d0 := hd 0 (by omega)
  have d1 := hd 1 (by omega)
  have d2 := hd 2 (by omega)
  have d3 := hd 3 (by omega)
  simp only [dgt] at d0 d1 d2 d3
  refine h.mono ?_
  rintro e w' ⟨⟨_, rfl⟩ | ⟨⟨j, hj, hn⟩, rfl⟩, rfl⟩
  · refine ⟨?_, rfl⟩
    have e : hx z 4 = r := by simp only [hx, d0, d1, d2, d3]; omega
    rw [e]
  · exfalso
    match j, hj with
    | 0, _ => omega
    | 1, _ => omega
    | 2, _ => omega
    | 3, _ => omega

set_option maxHeartbeats 2000000 in
theorem walk4 (r m : Int) (ao : Option Addr) (len cap : Nat) (A : List Int) (w : World) (hr0 : 0 ≤ r) (hr1 : r ≤ 65535)
    (hl : (len : Int) ≤ 1048576) (hA : A.length = len) (hno : ao = none → len = 0 ∧ cap = 0) (hAc : ∀ ad, ao = some ad → ∀ j u, (A.map (Value.int .u8))[j]? = some u → w.cell? (ad.add j) = some u)
    (hAb : ∀ j, 0 ≤ A.getD j 0 ∧ A.getD j 0 ≤ 255) :
    Calls Try.prog 4 #[.int .i32 r, .int .u8 m, .slice ao len cap] w fun e w' => e = .returned (.bool true) ∧ Below w.heap.size w w' := by
  obtain ⟨i, hi, hz0, hz1, hz2⟩ := info_parts Try.info5
  have q0 := and15 (r / 4096) (by omega) (by omega)
  have q1 := and15 (r / 256) (by omega) (by omega)
  have q2 := and15 (r / 16) (by omega) (by omega)
  have q3 := and15 r (by omega) (by omega)
  have HA := hid hA
  have HN := hid hno
  have HC := hid hAc
  have HB := hid hAb
  clear hA hno hAc hAb
  go_enter Try.func4, Try.ntmps4
  go_wp2_with (first
    | (go_at_call 13; refine (bytes13 _ _ _ _ _ _).mono ?_; rintro e w' ⟨rfl, rfl⟩)
    | (at_make; refine wpList_make_own _ rfl _ _ 22 rfl w.heap.size 5 i _ 1 Try.underlying22 hi hz0 hz1 _ _ _ (4 + len) rfl rfl (by omega) ?b1 ?b2 ?b3 ?_))
  case b1 => rw [hz2]; omega
  case b2 => unfold maxLen; omega
  case b3 => exact Nat.le_refl _
  intro w1 hown hgrow
  go_wp2_with fail
  go_loopw [7, 8] (fun v i wr => ∃ (k : Nat) (xs : List Int), k ≤ 4 ∧ i = .int .i64 k ∧ v = .slice (some ⟨w.heap.size, 0, none⟩) k (4 + len) ∧ Rel r w.heap.size (4 + len) w wr k xs) (fun _ i _ => 4 - (intOf i).toNat)
  case atStart => exact ⟨0, [], by omega, rfl, rfl, hown, (Below.refl _ _).grown hgrow (Nat.le_refl _) (by simp), rfl, by omega, by simp⟩
  case round =>
    obtain ⟨k, xs, hk, rfl, rfl, hrel⟩ := hrel
    clear hown hgrow
    have hown1 := hrel.own
    have hsz := hrel.bel.size
    by_cases h0 : k = 0
    · subst h0
      go_wp2_with (first | (at_builtin; refine wpList_append_fits _ rfl _ _ 22 rfl w.heap.size 5 i 1 Try.underlying22 hi hz1 w.heap.size 0 (4 + len) _ rfl (hown1.alloc _) ⟨wr.heap.size, 0, none⟩ 1 1 [_] rfl rfl (cell_one_new _ _ _) (by intro u hu; simp at hu; subst hu; rfl) (by omega) ?_; intro w2 hown2 hgrow2))
      all_goals
        go_roundw
        case rel =>
          exact ⟨1, _, by omega, rfl, rfl, rel_step hrel (by first | exact up_ok _ (by omega) _ | exact lo_ok _ (by omega) _) hsz hown2 hgrow2⟩
        case measure => simp [intOf]
    by_cases h1 : k = 1
    · subst h1
      go_wp2_with (first | (at_builtin; refine wpList_append_fits _ rfl _ _ 22 rfl w.heap.size 5 i 1 Try.underlying22 hi hz1 w.heap.size 1 (4 + len) _ rfl (hown1.alloc _) ⟨wr.heap.size, 0, none⟩ 1 1 [_] rfl rfl (cell_one_new _ _ _) (by intro u hu; simp at hu; subst hu; rfl) (by omega) ?_; intro w2 hown2 hgrow2))
      all_goals
        go_roundw
        case rel =>
          exact ⟨2, _, by omega, rfl, rfl, rel_step hrel (by first | exact up_ok _ (by omega) _ | exact lo_ok _ (by omega) _) hsz hown2 hgrow2⟩
        case measure => simp [intOf]
    by_cases h2 : k = 2
    · subst h2
      go_wp2_with (first | (at_builtin; refine wpList_append_fits _ rfl _ _ 22 rfl w.heap.size 5 i 1 Try.underlying22 hi hz1 w.heap.size 2 (4 + len) _ rfl (hown1.alloc _) ⟨wr.heap.size, 0, none⟩ 1 1 [_] rfl rfl (cell_one_new _ _ _) (by intro u hu; simp at hu; subst hu; rfl) (by omega) ?_; intro w2 hown2 hgrow2))
      all_goals
        go_roundw
        case rel =>
          exact ⟨3, _, by omega, rfl, rfl, rel_step hrel (by first | exact up_ok _ (by omega) _ | exact lo_ok _ (by omega) _) hsz hown2 hgrow2⟩
        case measure => simp [intOf]
    by_cases h3 : k = 3
    · subst h3
      go_wp2_with (first | (at_builtin; refine wpList_append_fits _ rfl _ _ 22 rfl w.heap.size 5 i 1 Try.underlying22 hi hz1 w.heap.size 3 (4 + len) _ rfl (hown1.alloc _) ⟨wr.heap.size, 0, none⟩ 1 1 [_] rfl rfl (cell_one_new _ _ _) (by intro u hu; simp at hu; subst hu; rfl) (by omega) ?_; intro w2 hown2 hgrow2))
      all_goals
        go_roundw
        case rel =>
          exact ⟨4, _, by omega, rfl, rfl, rel_step hrel (by first | exact up_ok _ (by omega) _ | exact lo_ok _ (by omega) _) hsz hown2 hgrow2⟩
        case measure => simp [intOf]
    have h4 : k = 4 := by omega
    subst h4
    clear h0 h1 h2 h3 q0 q1 q2 q3
    go_wp2_with (first | (at_builtin; refine wpList_append_fits_any _ rfl _ _ 22 rfl w.heap.size 5 i 1 Try.underlying22 hi hz1 w.heap.size 4 (4 + len) _ rfl hown1 ao len cap (A.map (Value.int .u8)) rfl ?d1 HN.out ?d2 (ints_oneCell _ _) (by omega) ?_))
    case d1 => simp [HA.out]
    case d2 => exact fun ad had j u hu => cell_later hrel.bel (HC.out ad had j u hu)
    intro w2 hown2 hgrow2
    have hdig : ∀ j, j < 4 → hv ((xs ++ A).getD j 0) = dgt r j := fun j hj => by rw [getD_app (by rw [hrel.len]; omega)]; exact hrel.dig j hj
    have hz := zz11_long w.heap.size 0 (fun j => (xs ++ A).getD j 0) (4 + len) (4 + len) w2 (by omega) (by omega) ?e1 ?e2
    case e1 =>
      intro j hj
      have := hown2.cellAt j (by omega)
      rw [Nat.zero_add, this, ← List.map_append]
      have hj' : j < (xs ++ A).length := by simp [hrel.len, HA.out]; omega
      rw [List.getElem?_map, List.getD, List.getElem?_eq_getElem hj']
      rfl
    case e2 =>
      intro j
      by_cases hj : j < 4
      · show 0 ≤ (xs ++ A).getD j 0 ∧ (xs ++ A).getD j 0 ≤ 255
        rw [getD_app (by rw [hrel.len]; omega)]; exact hrel.bd j
      · have hx : (xs ++ A).getD j 0 = A.getD (j - 4) 0 := by
          simp [List.getD, List.getElem?_append_right (show xs.length ≤ j by rw [hrel.len]; omega), hrel.len]
        show 0 ≤ (xs ++ A).getD j 0 ∧ (xs ++ A).getD j 0 ≤ 255
        rw [hx]; exact HB.out _
    have hz' := read_back r _ _ _ _ hr0 hr1 hdig hz
    have HZ := hid hz'
    have HR := hid hrel
    clear hz hz' hdig hrel
    go_wp2_with fail
    refine HZ.out.mono ?_
    rintro e w' ⟨rfl, rfl⟩
    go_wp2
    go_ret
    exact ⟨by simp, HR.out.bel.grown hgrow2 hsz (by intro k hk; injection hk with hk; omega)⟩

theorem early4 (r m : Int) (ao : Option Addr) (len cap : Nat) (w : World) (h : ¬ (len : Int) ≤ 1048576 ∨ r < 0 ∨ 65535 < r) :
    Calls Try.prog 4 #[.int .i32 r, .int .u8 m, .slice ao len cap] w fun e w' => e = .returned (.bool true) ∧ Below w.heap.size w w' := by
  by_cases hl : (len : Int) ≤ 1048576
  · by_cases hr : r < 0
    · go_enter Try.func4, Try.ntmps4
      go_wp2_with (go_at_call 13; refine (bytes13 _ _ _ _ _ _).mono ?_; rintro e w' ⟨rfl, rfl⟩)
      go_ret
      exact ⟨rfl, Below.refl _ _⟩
    · have hr' : 65535 < r := by omega
      clear h
      go_enter Try.func4, Try.ntmps4
      go_wp2_with (go_at_call 13; refine (bytes13 _ _ _ _ _ _).mono ?_; rintro e w' ⟨rfl, rfl⟩)
      go_ret
      exact ⟨rfl, Below.refl _ _⟩
  · clear h
    have hd : decide ((len : Int) ≤ 1048576) = false := by simpa using hl
    go_enter Try.func4, Try.ntmps4
    go_wp2_with (go_at_call 13; refine (bytes13 _ _ _ _ _ _).mono ?_; rintro e w' ⟨rfl, rfl⟩)
    go_ret
    exact ⟨rfl, Below.refl _ _⟩

end Go.Proofs.Qxb6603012a
