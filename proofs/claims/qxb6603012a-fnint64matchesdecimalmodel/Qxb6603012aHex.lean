import Derived.Test.Qxb6603012aRows
import Derived.WalkKit
import Derived.ProofKit
import Derived.OpenShut
import Derived.Below
import Derived.Handy
import Derived.PlainAid
import Derived.WalkSpells
namespace Go.Proofs.Qxb6603012a
open Go.ChangeShapes Go.WideShapes Go.ChangeAt Go.RowKit

theorem hid {p : Prop} (h : p) : Hid p := h

/-- The elements of a row of bytes are bytes. -/
theorem bytes_take {zs : List Int} (h : ∀ n ∈ zs, (Lit.int .u8 n).wf = true) (len : Nat) : ∀ j, 0 ≤ (zs.take len).getD j 0 ∧ (zs.take len).getD j 0 ≤ 255 := by
  intro j
  by_cases hj : j < (zs.take len).length
  · have hm := h _ (List.mem_of_mem_take (List.getElem_mem hj))
    have e : (zs.take len).getD j 0 = (zs.take len)[j] := by simp only [List.getD, List.getElem?_eq_getElem hj]; rfl
    rw [e]
    exact bounds_u8 hm
  · have e : (zs.take len).getD j 0 = 0 := by rw [List.getD, List.getElem?_eq_none (by omega)]; rfl
    rw [e]; omega

/-- The value of a hex digit's byte; -1 where it is none. -/
def hv (c : Int) : Int :=
  if 48 ≤ c ∧ c ≤ 57 then c - 48 else if 97 ≤ c ∧ c ≤ 102 then c - 87 else if 65 ≤ c ∧ c ≤ 70 then c - 55 else -1

/-- The number that the first k digits spell. -/
def hx (z : Nat → Int) : Nat → Int
  | 0 => 0
  | k + 1 => 16 * hx z k + hv (z k)

theorem bytes13 (r m : Int) (a : Option Addr) (len cap : Nat) (w : World) :
    Calls Try.prog 13 #[.int .i32 r, .int .u8 m, .slice a len cap] w fun e w' => e = .returned (.bool (decide ((len : Int) ≤ 1048576))) ∧ w = w' := by
  by_cases h : (len : Int) ≤ 1048576
  · go_enter Try.func13, Try.ntmps13
    go_wp2
    go_ret
    simp [h]
  · have h' : ¬ (len : Int) ≤ 1048576 := h
    go_enter Try.func13, Try.ntmps13
    go_wp2
    go_ret
    simp [h]

theorem hex4_short (a : Option Addr) (len cap : Nat) (w : World) (h : (len : Int) < 4) :
    Calls Try.prog 25 #[.slice a len cap] w fun e w' => e = .returned (.tuple #[.int .i32 0, .bool false]) ∧ w = w' := by
  go_enter Try.func25, Try.ntmps25
  go_wp2
  go_ret2
  exact ⟨rfl, rfl⟩

theorem or_step (x d : Int) (h0 : 0 ≤ x) (h1 : x ≤ 4095) (h2 : 0 ≤ d) (h3 : d ≤ 15) : bits .or .i32 (wrap32 (x * 16)) d = 16 * x + d := by
  have e : wrap32 (x * 16) = x * 16 := by unfold wrap32; omega
  rw [e, bits_join .i32 31 (by decide) wraps_i32 4 (x * 16) d (by omega) (by omega) (by omega) h2 (by omega) (by omega)]
  omega

theorem hv_le (c : Int) : hv c ≤ 15 ∧ -1 ≤ hv c := by unfold hv; split <;> (try split) <;> (try split) <;> omega

theorem hx_bd (z : Nat → Int) : ∀ k, (∀ j, j < k → 0 ≤ hv (z j)) → k ≤ 4 → 0 ≤ hx z k ∧ (k ≤ 3 → hx z k ≤ 4095) ∧ hx z k ≤ 65535
  | 0, _, _ => by simp [hx]
  | 1, h, _ => by have := h 0 (by omega); have := hv_le (z 0); simp only [hx]; omega
  | 2, h, _ => by have := h 0 (by omega); have := hv_le (z 0); have := h 1 (by omega); have := hv_le (z 1); simp only [hx]; omega
  | 3, h, _ => by have := h 0 (by omega); have := hv_le (z 0); have := h 1 (by omega); have := hv_le (z 1); have := h 2 (by omega); have := hv_le (z 2); simp only [hx]; omega
  | 4, h, _ => by have := h 0 (by omega); have := hv_le (z 0); have := h 1 (by omega); have := hv_le (z 1); have := h 2 (by omega); have := hv_le (z 2); have := h 3 (by omega); have := hv_le (z 3); simp only [hx]; omega
  | k + 5, _, h => by omega

theorem all_succ {z : Nat → Int} {k : Nat} (h : ∀ j, j < k → 0 ≤ hv (z j)) (hk : 0 ≤ hv (z k)) : ∀ j, j < k + 1 → 0 ≤ hv (z j) := by
  intro j hj
  by_cases e : j = k
  · rw [e]; exact hk
  · exact h j (by omega)

theorem hex4_long (b off : Nat) (z : Nat → Int) (len cap : Nat) (w : World) (h : 4 ≤ len) (hc : len ≤ cap)
    (hcell : ∀ i, i < len → w.cell? ⟨b, off + i, none⟩ = some (.int .u8 (z i)))
    (hb : ∀ i, 0 ≤ z i ∧ z i ≤ 255) :
    Calls Try.prog 25 #[.slice (some ⟨b, off, none⟩) len cap] w fun e w' => 
       (((∀ j, j < 4 → 0 ≤ hv (z j)) ∧ e = .returned (.tuple #[.int .i32 (hx z 4), .bool true])) ∨ 
         ((∃ j, j < 4 ∧ hv (z j) < 0) ∧ e = .returned (.tuple #[.int .i32 0, .bool false]))) ∧ w = w' := by
  go_enter Try.func25, Try.ntmps25
  go_wp2
  go_loop [13, 4] (fun i r => ∃ k : Nat, k ≤ 4 ∧ i = .int .i64 k ∧ r = .int .i32 (hx z k) ∧ ∀ j, j < k → 0 ≤ hv (z j)) (fun i _ => 4 - (intOf i).toNat)
  case atStart => exact ⟨0, by omega, rfl, rfl, by omega⟩
  case round =>
    obtain ⟨k, hk, rfl, rfl, hall⟩ := hrel
    by_cases hlt : (k : Int) < 4
    · have hck := hcell k (by omega)
      have hbk := hb k
      have hB := hx_bd z k hall hk
      have hyes : ∀ d, hv (z k) = d → 0 ≤ d → bits .or .i32 (wrap32 (hx z k * 16)) d = hx z (k + 1) ∧ ∀ j, j < k + 1 → 0 ≤ hv (z j) := by
        intro d hd h0
        have := hv_le (z k)
        refine ⟨?_, all_succ hall (by omega)⟩
        rw [or_step _ _ hB.1 (hB.2.1 (by omega)) h0 (by omega)]
        simp only [hx, hd]
      have hno : hv (z k) < 0 → ∃ j, j < 4 ∧ hv (z j) < 0 := fun h => ⟨k, by omega, h⟩
      have HY := hid hyes
      have HN := hid hno
      have HA := hid hall
      clear hyes hno hall hB hb hcell
      generalize hz : z k = c at *
      have HZ := hid hz
      clear hz
      go_wp2
      all_goals first
        | (go_round
           case rel =>
             have hq := HY.out _ (by unfold hv; first | rw [if_pos ⟨by assumption, by assumption⟩] | (rw [if_neg (by omega), if_pos ⟨by assumption, by assumption⟩]) | (rw [if_neg (by omega), if_neg (by omega), if_pos ⟨by assumption, by assumption⟩])) (by omega)
             exact ⟨k + 1, by omega, by go_num, by rw [hq.1], hq.2⟩
           case measure => simp [intOf]; omega)
        | (go_ret2
           refine ⟨.inr ⟨HN.out ?_, rfl⟩, rfl⟩
           unfold hv
           rw [if_neg (by omega), if_neg (by omega), if_neg (by omega)]
           omega)
    · obtain rfl : k = 4 := by omega
      go_wp2
      go_ret2
      exact ⟨.inl ⟨hall, rfl⟩, rfl⟩

theorem zz11_short (a : Option Addr) (len cap : Nat) (w : World) (h : (len : Int) < 4) :
    Calls Try.prog 11 #[.slice a len cap] w fun e w' => e = .returned (.tuple #[.int .i32 0, .bool false]) ∧ w = w' := by
  go_enter Try.func11, Try.ntmps11
  go_wp2_with (go_at_call 25; refine (hex4_short _ _ _ _ h).mono ?_; rintro e w' ⟨rfl, rfl⟩)
  go_ret2
  exact ⟨rfl, rfl⟩

theorem zz11_long (b off : Nat) (z : Nat → Int) (len cap : Nat) (w : World) (h : 4 ≤ len) (hc : len ≤ cap)
    (hcell : ∀ i, i < len → w.cell? ⟨b, off + i, none⟩ = some (.int .u8 (z i)))
    (hb : ∀ i, 0 ≤ z i ∧ z i ≤ 255) :
    Calls Try.prog 11 #[.slice (some ⟨b, off, none⟩) len cap] w fun e w' => 
       (((∀ j, j < 4 → 0 ≤ hv (z j)) ∧ e = .returned (.tuple #[.int .i32 (hx z 4), .bool true])) ∨ 
         ((∃ j, j < 4 ∧ hv (z j) < 0) ∧ e = .returned (.tuple #[.int .i32 0, .bool false]))) ∧ w = w' := by
  go_enter Try.func11, Try.ntmps11
  go_wp2_with fail
  refine (hex4_long b off z len cap _ h hc hcell hb).mono ?_
  rintro e w' ⟨⟨h1, rfl⟩ | ⟨h1, rfl⟩, rfl⟩
  · have H1 := hid h1
    clear h1 hb hcell
    go_wp2
    go_ret2
    exact ⟨.inl ⟨H1.out, rfl⟩, rfl⟩
  · have H1 := hid h1
    clear h1 hb hcell
    go_wp2
    go_ret2
    exact ⟨.inr ⟨H1.out, rfl⟩, rfl⟩

end Go.Proofs.Qxb6603012a
