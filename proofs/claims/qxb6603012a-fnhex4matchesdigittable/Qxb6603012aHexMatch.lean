import Derived.Test.Qxb6603012aPre
import Derived.Test.Qxb6603012aHexTable
namespace Go.Proofs.Qxb6603012a
open Go.ChangeShapes Go.WideShapes Go.ChangeAt Go.RowKit

theorem early3 (a : Option Addr) (len cap : Nat) (w : World) (h : ¬ (len : Int) ≤ 1048576) :
    Calls Try.prog 3 #[.slice a len cap] w fun e w' => e = .returned (.bool true) ∧ Below w.heap.size w w' := by
  go_enter Try.func3, Try.ntmps3
  go_wp2_with (go_at_call 10; refine (bytes10_no _ _ _ _ h).mono ?_; rintro e w' ⟨rfl, rfl⟩)
  go_ret
  exact ⟨rfl, Below.refl _ _⟩

theorem nil3 (w : World) :
    Calls Try.prog 3 #[.slice none 0 0] w fun e w' => e = .returned (.bool true) ∧ Below w.heap.size w w' := by
  have hn := fun wx => run_neq_slice_nil_any (P := Try.prog) wx 22 5 none 0 0 0 0 Try.underlying22
  go_enter Try.func3, Try.ntmps3
  go_wp2_with (first
    | (go_at_call 10; refine (bytes10_ok _ _ _ _ (by decide)).mono ?_; rintro e w' ⟨rfl, rfl⟩)
    | (go_at_call 11; refine (zz11_short _ _ _ _ (by decide)).mono ?_; rintro e w' ⟨rfl, rfl⟩)
    | (go_at_call 12; refine (model12_short _ _ _ _ (by decide)).mono ?_; rintro e w' ⟨rfl, rfl⟩))
  go_ret
  exact ⟨rfl, Below.refl _ _⟩

theorem walk3 (x : Addr) (len cap : Nat) (A : List Int) (w : World) (hl : (len : Int) ≤ 1048576) (hA : A.length = len)
    (hAc : ∀ j u, (A.map (Value.int .u8))[j]? = some u → w.cell? (x.add j) = some u) (hAb : ∀ j, 0 ≤ A.getD j 0 ∧ A.getD j 0 ≤ 255) :
    Calls Try.prog 3 #[.slice (some x) len cap] w fun e w' => e = .returned (.bool true) ∧ Below w.heap.size w w' := by
  have hn := fun wx => run_neq_slice_nil_any (P := Try.prog) wx 22 5 (some x) len cap 0 0 Try.underlying22
  obtain ⟨i, hi, hz0, hz1, hz2⟩ := info_parts Try.info5c
  have HA := hid hA
  have HC := hid hAc
  have HB := hid hAb
  clear hA hAc hAb
  go_enter Try.func3, Try.ntmps3
  go_wp2_with (first
    | (go_at_call 10; refine (bytes10_ok _ _ _ _ hl).mono ?_; rintro e w' ⟨rfl, rfl⟩)
    | (at_make; refine wpList_make_full _ rfl _ _ 22 rfl w.heap.size 5 i _ 1 Try.underlying22 hi hz0 hz1 _ _ _ _ len rfl rfl rfl rfl ?b1 ?b2 ?b3 ?_))
  case b1 => rw [hz2]; omega
  case b2 => unfold maxLen; omega
  case b3 => exact Nat.le_refl _
  intro w1 hown hgrow
  have hb1 : Below w.heap.size w w1 := (Below.refl _ _).grown hgrow (Nat.le_refl _) (by simp)
  obtain ⟨cur, hcl, hrow⟩ := made_row hown
  clear hown hgrow hn
  have HR := hid hrow
  have HL := hid hcl
  clear hrow hcl
  go_wp2_with (first
    | (with_reducible show wpList _ _ _ (Oper.mk _ (Op.call { callee := Callee.builtin Builtin.copy, args := _, argTypes := _ }) _ _ _ _ :: _) _ _; (refine wpList_copy_splice rfl _ _ 22 22 rfl 5 Try.underlying22 Try.size5 _ _ _ _ _ _ rfl rfl w.heap.size 0 cur 5 HR.out (A.map (Value.int .u8)) (by simp [HA.out]) (fun _ => ⟨rfl, x, rfl, fun j v hv => cell_later hb1 (HC.out j v hv)⟩) (by simp [HA.out, HL.out]) (ints_oneCell _ _) w.heap.size w hb1 (Nat.le_refl _) ?_)))
  intro w2 HG hb2
  have hcells := laid_cells HL.out HA.out HG.out
  by_cases h4 : (len : Int) < 4
  · clear hcells
    go_wp2_with (first
      | (go_at_call 11; refine (zz11_short _ _ _ _ h4).mono ?_; rintro e w' ⟨rfl, rfl⟩)
      | (go_at_call 12; refine (model12_short _ _ _ _ h4).mono ?_; rintro e w' ⟨rfl, rfl⟩))
    go_ret
    exact ⟨rfl, hb2⟩
  · have c1 := zz11_long w.heap.size 0 (fun i => A.getD i 0) len len w2 (by omega) (by omega) hcells HB.out
    have c2 := model12_long w.heap.size 0 (fun i => A.getD i 0) len len w2 (by omega) hcells
    have C1 := hid c1
    have C2 := hid c2
    clear c1 c2 hcells
    go_wp2_with fail
    refine C1.out.mono ?_
    rintro e w' ⟨⟨h1, rfl⟩ | ⟨⟨j, hj, h1⟩, rfl⟩, rfl⟩
    · have H1 := hid h1
      clear h1
      go_wp2_with fail
      refine C2.out.mono ?_
      rintro e w' ⟨⟨h2, rfl⟩ | ⟨⟨j, hj, h2⟩, rfl⟩, rfl⟩
      · clear h2
        go_wp2
        go_ret
        exact ⟨by simp, hb2⟩
      · exact absurd (H1.out j hj) (by omega)
    · have H1 := hid h1
      clear h1
      go_wp2_with fail
      refine C2.out.mono ?_
      rintro e w' ⟨⟨h2, rfl⟩ | ⟨⟨j', hj', h2⟩, rfl⟩, rfl⟩
      · exact absurd (h2 j hj) (by have := H1.out; omega)
      · clear h2
        go_wp2
        go_ret
        exact ⟨by simp, hb2⟩

end Go.Proofs.Qxb6603012a
