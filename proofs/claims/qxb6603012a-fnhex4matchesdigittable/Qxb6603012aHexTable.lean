import Derived.Test.Qxb6603012aHex
import Derived.Laws.CopyOwn
namespace Go.Proofs.Qxb6603012a
open Go.ChangeShapes Go.WideShapes Go.ChangeAt Go.RowKit

def okd (c : Int) : Bool := decide (0 ≤ hv c)
def hvz (c : Int) : Int := if 0 ≤ hv c then hv c else 0

theorem hvz_yes {c : Int} (k : Nat) (h : hv c = k) : hvz c = k ∧ okd c = true := by
  unfold hvz okd
  rw [if_pos (by omega)]
  exact ⟨h, by simp; omega⟩
theorem hvz_no {c : Int} (h : hv c < 0) : hvz c = 0 ∧ okd c = false := by
  unfold hvz okd
  rw [if_neg (by omega)]
  exact ⟨rfl, by simp; omega⟩

theorem lo_tab : ∀ n : Fin 16, ((({ data := #[48, 49, 50, 51, 52, 53, 54, 55, 56, 57, 97, 98, 99, 100, 101, 102] } : ByteArray)[n.val]'n.isLt).toNat : Int) = if n.val < 10 then 48 + (n.val : Int) else 87 + (n.val : Int) := by decide
theorem up_tab : ∀ n : Fin 16, ((({ data := #[48, 49, 50, 51, 52, 53, 54, 55, 56, 57, 65, 66, 67, 68, 69, 70] } : ByteArray)[n.val]'n.isLt).toNat : Int) = if n.val < 10 then 48 + (n.val : Int) else 55 + (n.val : Int) := by decide

theorem hv_lo (k : Nat) (hk : k < 16) : hv (if k < 10 then 48 + (k : Int) else 87 + k) = k := by
  unfold hv; split <;> (split <;> (try split) <;> (try split) <;> omega)
theorem hv_up (k : Nat) (hk : k < 16) : hv (if k < 10 then 48 + (k : Int) else 55 + k) = k := by
  unfold hv; split <;> (split <;> (try split) <;> (try split) <;> omega)
theorem hv_inv (c : Int) (k : Nat) (h : hv c = k) : c = (if k < 10 then 48 + (k : Int) else 87 + k) ∨ c = (if k < 10 then 48 + (k : Int) else 55 + k) := by
  unfold hv at h; split at h <;> (try split at h) <;> (try split at h) <;> split <;> omega

theorem hit_lo {c : Int} {k : Nat} (hk : k < 16) (h : (((({ data := #[48, 49, 50, 51, 52, 53, 54, 55, 56, 57, 97, 98, 99, 100, 101, 102] } : ByteArray)[k]'hk).toNat : Int) == c) = true) : hv c = k := by
  have := lo_tab ⟨k, hk⟩
  rw [← eq_of_beq h, this]
  exact hv_lo k hk
theorem hit_up {c : Int} {k : Nat} (hk : k < 16) (h : (((({ data := #[48, 49, 50, 51, 52, 53, 54, 55, 56, 57, 65, 66, 67, 68, 69, 70] } : ByteArray)[k]'hk).toNat : Int) == c) = true) : hv c = k := by
  have := up_tab ⟨k, hk⟩
  rw [← eq_of_beq h, this]
  exact hv_up k hk
theorem miss {c : Int} {k : Nat} (hk : k < 16) (h1 : (((({ data := #[48, 49, 50, 51, 52, 53, 54, 55, 56, 57, 97, 98, 99, 100, 101, 102] } : ByteArray)[k]'hk).toNat : Int) == c) = false)
    (h2 : (((({ data := #[48, 49, 50, 51, 52, 53, 54, 55, 56, 57, 65, 66, 67, 68, 69, 70] } : ByteArray)[k]'hk).toNat : Int) == c) = false) : hv c ≠ k := by
  intro h
  have e1 := lo_tab ⟨k, hk⟩
  have e2 := up_tab ⟨k, hk⟩
  have n1 := ne_of_beq_false h1
  have n2 := ne_of_beq_false h2
  rw [e1] at n1
  rw [e2] at n2
  rcases hv_inv c k h with h | h
  · exact n1 h.symm
  · exact n2 h.symm

theorem hdv26 (c : Int) (w : World) :
    Calls Try.prog 26 #[.int .u8 c] w fun e w' => e = .returned (.tuple #[.int .i32 (hvz c), .bool (okd c)]) ∧ w = w' := by
  go_enter Try.func26, Try.ntmps26
  go_wp2
  go_loop [4] (fun i => ∃ k : Nat, k ≤ 16 ∧ i = .int .i64 k ∧ (hv c < 0 ∨ (k : Int) ≤ hv c)) (fun i => 16 - (intOf i).toNat)
  case atStart => exact ⟨0, by omega, rfl, by omega⟩
  case round =>
    obtain ⟨k, hk, rfl, hno⟩ := hrel
    have HN := hid hno
    clear hno
    by_cases hlt : (k : Int) < 16
    · have hk' : k < 16 := by omega
      go_wp2
      · have h := hit_lo hk' (beq_iff_eq.2 (by assumption))
        go_ret2
        rw [(hvz_yes k h).1, (hvz_yes k h).2]
        exact ⟨rfl, rfl⟩
      · have h : hv c = k := by
          rename_i hor _
          rcases hor with h | h
          · exact hit_lo hk' h
          · exact hit_up hk' h
        go_ret2
        rw [(hvz_yes k h).1, (hvz_yes k h).2]
        exact ⟨rfl, rfl⟩
      · have h : hv c ≠ k := by
          rename_i hand
          exact miss hk' hand.1 hand.2
        go_round
        case rel => exact ⟨k + 1, by omega, by go_num, by have := HN.out; omega⟩
        case measure => simp [intOf]; omega
    · have h : hv c < 0 := by have := HN.out; have := hv_le c; omega
      go_wp2
      go_ret2
      rw [(hvz_no h).1, (hvz_no h).2]
      exact ⟨rfl, rfl⟩

theorem hvz_bd (c : Int) : 0 ≤ hvz c ∧ hvz c ≤ 15 := by
  have := hv_le c
  unfold hvz
  split <;> omega

theorem okd_iff (c : Int) : okd c = true ↔ 0 ≤ hv c := by unfold okd; simp

theorem model12_short (a : Option Addr) (len cap : Nat) (w : World) (h : (len : Int) < 4) :
    Calls Try.prog 12 #[.slice a len cap] w fun e w' => e = .returned (.tuple #[.int .i32 0, .bool false]) ∧ w = w' := by
  go_enter Try.func12, Try.ntmps12
  go_wp2
  go_ret2
  exact ⟨rfl, rfl⟩

/-- What the model answers: by the four digits' own answers. -/
def modB (z : Nat → Int) : Bool := okd (z 0) && okd (z 1) && okd (z 2) && okd (z 3)

theorem hx4 {z : Nat → Int} (h : modB z = true) : hx z 4 = hvz (z 0) * 4096 + hvz (z 1) * 256 + hvz (z 2) * 16 + hvz (z 3) ∧ ∀ j, j < 4 → 0 ≤ hv (z j) := by
  simp only [modB, Bool.and_eq_true, okd_iff] at h
  obtain ⟨⟨⟨h0, h1⟩, h2⟩, h3⟩ := h
  constructor
  · simp only [hx, hvz, if_pos h0, if_pos h1, if_pos h2, if_pos h3]; omega
  · intro j hj
    match j, hj with
    | 0, _ => exact h0
    | 1, _ => exact h1
    | 2, _ => exact h2
    | 3, _ => exact h3

theorem no4 {z : Nat → Int} (h : modB z = false) : ∃ j, j < 4 ∧ hv (z j) < 0 := by
  by_cases h0 : okd (z 0) = true
  · by_cases h1 : okd (z 1) = true
    · by_cases h2 : okd (z 2) = true
      · by_cases h3 : okd (z 3) = true
        · simp [modB, h0, h1, h2, h3] at h
        · exact ⟨3, by omega, by rw [okd_iff] at h3; omega⟩
      · exact ⟨2, by omega, by rw [okd_iff] at h2; omega⟩
    · exact ⟨1, by omega, by rw [okd_iff] at h1; omega⟩
  · exact ⟨0, by omega, by rw [okd_iff] at h0; omega⟩

set_option maxHeartbeats 800000 in
theorem model12_long (b off : Nat) (z : Nat → Int) (len cap : Nat) (w : World) (h : 4 ≤ len)
    (hcell : ∀ i, i < len → w.cell? ⟨b, off + i, none⟩ = some (.int .u8 (z i))) :
    Calls Try.prog 12 #[.slice (some ⟨b, off, none⟩) len cap] w fun e w' =>
       (((∀ j, j < 4 → 0 ≤ hv (z j)) ∧ e = .returned (.tuple #[.int .i32 (hx z 4), .bool true])) ∨
         ((∃ j, j < 4 ∧ hv (z j) < 0) ∧ e = .returned (.tuple #[.int .i32 0, .bool false]))) ∧ w = w' := by
  have c0 : w.cell? ⟨b, off, none⟩ = some (.int .u8 (z 0)) := hcell 0 (by omega)
  have c1 := hcell 1 (by omega)
  have c2 := hcell 2 (by omega)
  have c3 := hcell 3 (by omega)
  have b0 := hvz_bd (z 0)
  have b1 := hvz_bd (z 1)
  have b2 := hvz_bd (z 2)
  have b3 := hvz_bd (z 3)
  clear hcell
  cases hm : modB z with
  | true =>
    have HX := hid (hx4 hm)
    simp only [modB, Bool.and_eq_true] at hm
    obtain ⟨⟨⟨m0, m1⟩, m2⟩, m3⟩ := hm
    go_enter Try.func12, Try.ntmps12
    go_wp2_with (go_at_call 26; refine (hdv26 _ _).mono ?_; rintro e w' ⟨rfl, rfl⟩)
    go_ret2
    refine ⟨.inl ⟨HX.out.2, ?_⟩, rfl⟩
    rw [HX.out.1]
    rfl
  | false =>
    have HN := hid (no4 hm)
    simp only [modB] at hm
    have HM := hid hm
    clear hm
    go_enter Try.func12, Try.ntmps12
    go_wp2_with (go_at_call 26; refine (hdv26 _ _).mono ?_; rintro e w' ⟨rfl, rfl⟩)
    all_goals first
      | (go_ret2; exact ⟨.inr ⟨HN.out, rfl⟩, rfl⟩)
      | (exfalso; have hm := HM.out; simp_all)

end Go.Proofs.Qxb6603012a
