import Derived.Test.Qxb6603012aModel
namespace Go.Proofs.Qxb6603012a
open Go.ChangeShapes Go.WideShapes Go.ChangeAt Go.RowKit

/-- The automaton, run from state st at p: where it stops, and in which state. -/
def runN (z : Nat → Int) (n : Nat) : Nat → Nat → Nat → Nat × Nat
  | 0, st, p => (p, st)
  | f + 1, st, p => if p < n ∧ 0 ≤ stepN st (z p) then runN z n f (stepN st (z p)).toNat (p + 1) else (p, st)
def R (z : Nat → Int) (n st p : Nat) : Nat × Nat := runN z n (n - p) st p

theorem R_go {z : Nat → Int} {n st p : Nat} (h : p < n) (hs : 0 ≤ stepN st (z p)) : R z n st p = R z n (stepN st (z p)).toNat (p + 1) := by
  unfold R
  rw [show n - p = (n - (p + 1)) + 1 by omega]
  simp only [runN, if_pos (And.intro h hs)]
theorem R_stop {z : Nat → Int} {n st p : Nat} (h : p < n → stepN st (z p) < 0) : R z n st p = (p, st) := by
  unfold R
  cases n - p with
  | zero => rfl
  | succ f => simp only [runN]; rw [if_neg (by intro hh; have := h hh.1; omega)]

theorem stepN_bd (st : Nat) (c : Int) : stepN st c ≤ 8 ∧ -1 ≤ stepN st c := by
  match st with
  | 0 => simp only [stepN]; (repeat' split) <;> omega
  | 1 => simp only [stepN]; (repeat' split) <;> omega
  | 2 => simp only [stepN]; (repeat' split) <;> omega
  | 3 => simp only [stepN]; (repeat' split) <;> omega
  | 4 => simp only [stepN]; (repeat' split) <;> omega
  | 5 => simp only [stepN]; (repeat' split) <;> omega
  | 6 => simp only [stepN]; (repeat' split) <;> omega
  | k + 7 => simp only [stepN]; (repeat' split) <;> omega

/-- The bytes of a slice's elements. -/
def RowOf (w : World) (ao : Option Addr) (n : Nat) (z : Nat → Int) : Prop :=
  ∀ i, i < n → ∃ b off, ao = some ⟨b, off, none⟩ ∧ w.cell? ⟨b, off + i, none⟩ = some (.int .u8 (z i))

theorem model16 {w : World} {ao : Option Addr} {n cap : Nat} {z : Nat → Int} {p : Nat} (h : RowOf w ao n z) (hs : (n : Int) ≤ 2097152) (hp : p ≤ n) :
    Calls Try.prog 16 #[.slice ao n cap, .int .i64 p] w fun e w' => e = .returned (.tuple #[.int .i64 (R z n 0 p).1, .bool (accN (R z n 0 p).2)]) ∧ w = w' := by
  have HR := hid h
  clear h
  go_enter Try.func16, Try.ntmps16
  go_wp2
  go_loop [6, 7] (fun v6 v7 => ∃ st q : Nat, st ≤ 8 ∧ q ≤ n ∧ v6 = .int .i64 st ∧ v7 = .int .i64 q ∧ R z n st q = R z n 0 p) (fun _ v7 => n - (intOf v7).toNat)
  case atStart => exact ⟨0, p, by omega, hp, rfl, rfl, rfl⟩
  case round =>
    obtain ⟨st, q, h8, hq, rfl, rfl, hR⟩ := hrel
    have HQ := hid hR
    clear hR
    have hend := acc29 st w h8
    by_cases hlt : q < n
    · obtain ⟨b, off, rfl, hc⟩ := HR.out q hlt
      have hst := step28 st (z q) w h8
      have hbd := stepN_bd st (z q)
      have hlt' : (q : Int) < (n : Int) := by omega
      by_cases hneg : stepN st (z q) < 0
      · have HE := hid (HQ.out.symm.trans (R_stop (fun _ => hneg)))
        generalize stepN st (z q) = r at *
        go_wp2_with (first
          | (go_at_call 28; refine hst.mono ?_; rintro e w' ⟨rfl, rfl⟩)
          | (go_at_call 29; refine hend.mono ?_; rintro e w' ⟨rfl, rfl⟩))
        go_ret2
        rw [HE.out]
        exact ⟨rfl, rfl⟩
      · have HE := hid (HQ.out.symm.trans (R_go hlt (by omega)))
        have hnn : 0 ≤ stepN st (z q) := by omega
        clear hneg
        obtain ⟨m, hm⟩ : ∃ m : Nat, stepN st (z q) = m := ⟨(stepN st (z q)).toNat, by omega⟩
        rw [hm] at hst HE hbd
        clear hm hnn
        go_wp2_with (first
          | (go_at_call 28; refine hst.mono ?_; rintro e w' ⟨rfl, rfl⟩))
        go_round
        case rel => exact ⟨m, q + 1, by omega, by omega, rfl, by go_num, HE.out.symm⟩
        case measure => simp [intOf]; omega
    · have hd : decide ((q : Int) < (n : Int)) = false := by simp; omega
      have HE := hid (HQ.out.symm.trans (R_stop (fun hh => absurd hh hlt)))
      go_wp2_with (first
          | (go_at_call 29; refine hend.mono ?_; rintro e w' ⟨rfl, rfl⟩))
      go_ret2
      rw [HE.out]
      exact ⟨rfl, rfl⟩

theorem RowOf.later {w w' : World} {ao : Option Addr} {n : Nat} {z : Nat → Int} (h : RowOf w ao n z) (hb : Below w.heap.size w w') : RowOf w' ao n z := by
  intro i hi
  obtain ⟨b, off, e, hc⟩ := h i hi
  exact ⟨b, off, e, cell_later hb hc⟩

theorem ctx_alloc {w : World} {ao : Option Addr} {n : Nat} (cap : Nat) {z : Nat → Int} {p : Nat} (v2 v3 v4 : Value) (h : RowOf w ao n z) (hs : (n : Int) ≤ 2097152) (hp : p ≤ n) :
    Ctx (w.alloc (.cells #[.slice ao n cap, .int .i64 p, v2, v3, v4] 40)) w.heap.size ao n cap z p := by
  refine ⟨by simp, by simp, by simp, ?_, hs, hp⟩
  intro i hi
  obtain ⟨b, off, e, hc⟩ := h i hi
  have hb : b < w.heap.size := World.block_lt_of_cell? _ _ hc
  exact ⟨b, off, e, by omega, cell_later ((Below.refl _ _).alloc (Nat.le_refl _) _) hc⟩

theorem zz15 {w : World} {ao : Option Addr} {n cap : Nat} {z : Nat → Int} {p : Nat} (h : RowOf w ao n z) (hs : (n : Int) ≤ 2097152) (hp : p ≤ n) :
    Calls Try.prog 15 #[.slice ao n cap, .int .i64 p] w fun e w' => e = .returned (.tuple #[.int .i64 (numP z n p).1, .bool (numP z n p).2]) ∧ Below w.heap.size w w' := by
  have HR := hid h
  clear h
  go_enter Try.func15, Try.ntmps15
  go_wp2_with fail
  refine (number27 (ctx_alloc cap _ _ _ HR.out hs hp)).mono ?_
  rintro e w1 ⟨rfl, hc, hst⟩
  have hpos := hc.pos
  have HB := hid (((Below.refl w.heap.size w).alloc (Nat.le_refl _) _).trans (hst.below (Nat.le_refl _)))
  clear hc hst
  go_wp2
  go_ret2
  exact ⟨rfl, HB.out⟩

end Go.Proofs.Qxb6603012a
