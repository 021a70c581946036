import Derived.Test.Qxb6603012aNumLaw
namespace Go.Proofs.Qxb6603012a
open Go.ChangeShapes Go.WideShapes Go.ChangeAt Go.RowKit

theorem bytes14_ok (a : Option Addr) (len cap : Nat) (i : Int) (w : World) (h : (len : Int) ≤ 1048576) :
    Calls Try.prog 14 #[.slice a len cap, .int .i64 i] w fun e w' => e = .returned (.bool true) ∧ w = w' := by
  go_enter Try.func14, Try.ntmps14
  go_wp2
  go_ret
  exact ⟨rfl, rfl⟩
theorem bytes14_no (a : Option Addr) (len cap : Nat) (i : Int) (w : World) (h : ¬ (len : Int) ≤ 1048576) :
    Calls Try.prog 14 #[.slice a len cap, .int .i64 i] w fun e w' => e = .returned (.bool false) ∧ w = w' := by
  go_enter Try.func14, Try.ntmps14
  go_wp2
  go_ret
  exact ⟨rfl, rfl⟩

theorem early5 (a : Option Addr) (len cap : Nat) (i : Int) (w : World) (h : ¬ (len : Int) ≤ 1048576 ∨ i < 0 ∨ (len : Int) < i) :
    Calls Try.prog 5 #[.slice a len cap, .int .i64 i] w fun e w' => e = .returned (.bool true) ∧ Below w.heap.size w w' := by
  by_cases hl : (len : Int) ≤ 1048576
  · by_cases hi : i < 0
    · clear h
      go_enter Try.func5, Try.ntmps5
      go_wp2_with (go_at_call 14; refine (bytes14_ok _ _ _ _ _ hl).mono ?_; rintro e w' ⟨rfl, rfl⟩)
      go_ret
      exact ⟨rfl, Below.refl _ _⟩
    · have hi' : (len : Int) < i := by omega
      clear h
      go_enter Try.func5, Try.ntmps5
      go_wp2_with (go_at_call 14; refine (bytes14_ok _ _ _ _ _ hl).mono ?_; rintro e w' ⟨rfl, rfl⟩)
      go_ret
      exact ⟨rfl, Below.refl _ _⟩
  · clear h
    go_enter Try.func5, Try.ntmps5
    go_wp2_with (go_at_call 14; refine (bytes14_no _ _ _ _ _ hl).mono ?_; rintro e w' ⟨rfl, rfl⟩)
    go_ret
    exact ⟨rfl, Below.refl _ _⟩

theorem nil5 (w : World) :
    Calls Try.prog 5 #[.slice none 0 0, .int .i64 0] w fun e w' => e = .returned (.bool true) ∧ Below w.heap.size w w' := by
  have hn := fun wx => run_neq_slice_nil_any (P := Try.prog) wx 22 5 none 0 0 0 0 Try.underlying22
  have hrow : ∀ wx, RowOf wx none 0 (fun _ => 0) := fun wx i hi => by omega
  have hnum := num_law (fun _ => 0) 0 0
  have HN := hid hnum
  have HR := hid hrow
  clear hnum hrow
  go_enter Try.func5, Try.ntmps5
  go_wp2_with (go_at_call 14; refine (bytes14_ok _ _ _ _ _ (by decide)).mono ?_; rintro e w' ⟨rfl, rfl⟩)
  refine (zz15 (p := 0) (cap := 0) (HR.out _) (by decide) (by omega)).mono ?_
  rintro e w1 ⟨rfl, hb1⟩
  rw [HN.out]
  go_wp2_with fail
  refine (model16 (p := 0) (cap := 0) (HR.out _) (by decide) (by omega)).mono ?_
  rintro e w2 ⟨rfl, rfl⟩
  go_wp2
  go_ret
  exact ⟨by simp, hb1⟩

theorem walk5 (x : Addr) (len cap : Nat) (A : List Int) (p : Nat) (w : World) (hl : (len : Int) ≤ 1048576) (hp : p ≤ len) (hA : A.length = len)
    (hAc : ∀ j u, (A.map (Value.int .u8))[j]? = some u → w.cell? (x.add j) = some u) :
    Calls Try.prog 5 #[.slice (some x) len cap, .int .i64 p] w fun e w' => e = .returned (.bool true) ∧ Below w.heap.size w w' := by
  have hn := fun wx => run_neq_slice_nil_any (P := Try.prog) wx 22 5 (some x) len cap 0 0 Try.underlying22
  obtain ⟨i, hi, hz0, hz1, hz2⟩ := info_parts Try.info5c
  have HA := hid hA
  have HC := hid hAc
  clear hA hAc
  go_enter Try.func5, Try.ntmps5
  go_wp2_with (first
    | (go_at_call 14; refine (bytes14_ok _ _ _ _ _ hl).mono ?_; rintro e w' ⟨rfl, rfl⟩)
    | (at_make; refine wpList_make_full _ rfl _ _ 22 rfl w.heap.size 5 i _ 1 Try.underlying22 hi hz0 hz1 _ _ _ _ len rfl rfl rfl rfl ?b1 ?b2 ?b3 ?_))
  case b1 => rw [hz2]; omega
  case b2 => unfold maxLen; omega
  case b3 => exact Nat.le_refl _
  intro w1 hown hgrow
  have hb1 : Below w.heap.size w w1 := (Below.refl _ _).grown hgrow (Nat.le_refl _) (by simp)
  obtain ⟨cur, hcl, hrow⟩ := made_row hown
  clear hown hgrow hn
  have HR := hid hrow
  have HL := hid hcl
  clear hrow hcl
  go_wp2_with (first
    | (with_reducible show wpList _ _ _ (Oper.mk _ (Op.call { callee := Callee.builtin Builtin.copy, args := _, argTypes := _ }) _ _ _ _ :: _) _ _; (refine wpList_copy_splice rfl _ _ 22 22 rfl 5 Try.underlying22 Try.size5 _ _ _ _ _ _ rfl rfl w.heap.size 0 cur 5 HR.out (A.map (Value.int .u8)) (by simp [HA.out]) (fun _ => ⟨rfl, x, rfl, fun j v hv => cell_later hb1 (HC.out j v hv)⟩) (by simp [HA.out, HL.out]) (ints_oneCell _ _) w.heap.size w hb1 (Nat.le_refl _) ?_)))
  intro w2 HG hb2
  have hrow : RowOf w2 (some ⟨w.heap.size, 0, none⟩) len (fun i => A.getD i 0) := fun i hi => ⟨_, _, rfl, laid_cells HL.out HA.out HG.out i hi⟩
  have HW := hid hrow
  clear hrow
  have HN := hid (num_law (fun i => A.getD i 0) len p)
  go_wp2_with fail
  refine (zz15 (p := p) (cap := len) HW.out (by omega) hp).mono ?_
  rintro e w3 ⟨rfl, hb3⟩
  rw [HN.out]
  go_wp2_with fail
  refine (model16 (p := p) (cap := len) (HW.out.later hb3) (by omega) hp).mono ?_
  rintro e w4 ⟨rfl, rfl⟩
  go_wp2
  go_ret
  exact ⟨by simp, hb2.trans (hb3.mono hb2.size)⟩

end Go.Proofs.Qxb6603012a
