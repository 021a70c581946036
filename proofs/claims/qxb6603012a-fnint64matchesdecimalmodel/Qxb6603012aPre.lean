import Derived.Test.Qxb6603012aHex
import Derived.Laws.CopyOwn
namespace Go.Proofs.Qxb6603012a
open Go.ChangeShapes Go.WideShapes Go.ChangeAt Go.RowKit

theorem Try.info5c : (Try.prog.info? 5).map (fun i => (i.zero, i.size, i.bytes)) = some (some (.int .u8 0), 1, 1) := by kernel_rfl
theorem Try.size5 : (Try.prog.info? 5).map (·.size) = some 1 := by kernel_rfl

/-- A row that was made whole: its cells are known as a list. -/
theorem made_row {w : World} {B n g : Nat} {xs : List Value} (h : w.ownsRow B 5 1 (.slice (some ⟨g, 0, none⟩) n n) n xs) :
    ∃ cur : List Value, cur.length = n ∧ w.heap[g]? = some (.cells cur.toArray 5 (0, 0)) := by
  obtain ⟨_, h | ⟨g', cap, cur, hv, _, hh, _, _, hs, _⟩⟩ := h
  · cases h.1
  · cases hv
    exact ⟨cur.toList, by simpa using hs, by simpa using hh⟩

/-- The cells of a row over which a list of bytes as long as itself was laid. -/
theorem laid_cells {w : World} {g n : Nat} {cur : List Value} {A : List Int} (hc : cur.length = n) (hA : A.length = n)
    (h : w.heap[g]? = some (.cells (splice cur 0 (A.map (Value.int .u8))).toArray 5 (0, 0))) :
    ∀ i, i < n → w.cell? ⟨g, 0 + i, none⟩ = some (.int .u8 (A.getD i 0)) := by
  intro i hi
  have e : splice cur 0 (A.map (Value.int .u8)) = A.map (Value.int .u8) := by
    simp [splice, hA, ← hc]
  rw [e] at h
  have hi' : i < A.length := by omega
  simp [World.cell?, h, hi', List.getD]

/-- The elements of a row that came in, as cells. -/
theorem take_cells {w : World} {x : Addr} {len cap : Nat} {zs : List Int} (hlc : len ≤ cap) (hz : zs.length = cap) (hcell : ∀ i, i < zs.length → w.cell? (x.add i) = some (.int .u8 (zs.getD i 0))) :
    ∀ j u, ((zs.take len).map (Value.int .u8))[j]? = some u → w.cell? (x.add j) = some u := by
  intro j u hu
  have hj : j < len := by
    have := (List.getElem?_eq_some_iff.1 hu).1
    simp at this; omega
  rw [hcell j (by omega)]
  have hj2 : j < zs.length := by omega
  simp [hj, hj2] at hu
  simp [List.getD, hj2, hu]

theorem bytes10_ok (a : Option Addr) (len cap : Nat) (w : World) (h : (len : Int) ≤ 1048576) :
    Calls Try.prog 10 #[.slice a len cap] w fun e w' => e = .returned (.bool true) ∧ w = w' := by
  go_enter Try.func10, Try.ntmps10
  go_wp2
  go_ret
  exact ⟨rfl, rfl⟩
theorem bytes10_no (a : Option Addr) (len cap : Nat) (w : World) (h : ¬ (len : Int) ≤ 1048576) :
    Calls Try.prog 10 #[.slice a len cap] w fun e w' => e = .returned (.bool false) ∧ w = w' := by
  go_enter Try.func10, Try.ntmps10
  go_wp2
  go_ret
  exact ⟨rfl, rfl⟩

end Go.Proofs.Qxb6603012a
