import Derived.Test.Qxb6603012aIModel
namespace Go.Proofs.Qxb6603012a
open Go.ChangeShapes Go.WideShapes Go.ChangeAt Go.RowKit

theorem bytes18_ok (a : Option Addr) (len cap : Nat) (i d : Int) (w : World) (h : (len : Int) ≤ 1048576) :
    Calls Try.prog 18 #[.slice a len cap, .int .i64 i, .int .i64 d] w fun e w' => e = .returned (.bool true) ∧ w = w' := by
  go_enter Try.func18, Try.ntmps18
  go_wp2
  go_ret
  exact ⟨rfl, rfl⟩
theorem bytes18_no (a : Option Addr) (len cap : Nat) (i d : Int) (w : World) (h : ¬ (len : Int) ≤ 1048576) :
    Calls Try.prog 18 #[.slice a len cap, .int .i64 i, .int .i64 d] w fun e w' => e = .returned (.bool false) ∧ w = w' := by
  go_enter Try.func18, Try.ntmps18
  go_wp2
  go_ret
  exact ⟨rfl, rfl⟩
theorem early7 (a : Option Addr) (len cap : Nat) (i d : Int) (w : World) (h : ¬ (len : Int) ≤ 1048576 ∨ i < 0 ∨ (len : Int) < i) :
    Calls Try.prog 7 #[.slice a len cap, .int .i64 i, .int .i64 d] w fun e w' => e = .returned (.bool true) ∧ Below w.heap.size w w' := by
  by_cases hl : (len : Int) ≤ 1048576
  · by_cases hi : i < 0
    · clear h
      go_enter Try.func7, Try.ntmps7
      go_wp2_with (go_at_call 18; refine (bytes18_ok _ _ _ _ _ _ hl).mono ?_; rintro e w' ⟨rfl, rfl⟩)
      go_ret
      exact ⟨rfl, Below.refl _ _⟩
    · have hi' : (len : Int) < i := by omega
      clear h
      go_enter Try.func7, Try.ntmps7
      go_wp2_with (go_at_call 18; refine (bytes18_ok _ _ _ _ _ _ hl).mono ?_; rintro e w' ⟨rfl, rfl⟩)
      go_ret
      exact ⟨rfl, Below.refl _ _⟩
  · clear h
    go_enter Try.func7, Try.ntmps7
    go_wp2_with (go_at_call 18; refine (bytes18_no _ _ _ _ _ _ hl).mono ?_; rintro e w' ⟨rfl, rfl⟩)
    go_ret
    exact ⟨rfl, Below.refl _ _⟩

theorem nil_i64m (z : Nat → Int) (d : Int) : numP z 0 0 = (0, false) ∧ i64P z 0 0 d = (d, false) := by
  have e : numP z 0 0 = (0, false) := by
    have hd : dE z 0 0 = 0 := dE_no (by simp [dgP])
    simp [numP, part1, atP, hd]
  exact ⟨e, by simp [i64P, e]⟩

theorem nil7 (d : Int) (w : World) :
    Calls Try.prog 7 #[.slice none 0 0, .int .i64 0, .int .i64 d] w fun e w' => e = .returned (.bool true) ∧ Below w.heap.size w w' := by
  have hn := fun wx => run_neq_slice_nil_any (P := Try.prog) wx 22 5 none 0 0 0 0 Try.underlying22
  have hrow : ∀ wx, RowOf wx none 0 (fun _ => 0) := fun wx i hi => by omega
  have HR := hid hrow
  have HN := hid (nil_i64m (fun _ => 0) d)
  clear hrow
  go_enter Try.func7, Try.ntmps7
  go_wp2_with (go_at_call 18; refine (bytes18_ok _ _ _ _ _ _ (by decide)).mono ?_; rintro e w' ⟨rfl, rfl⟩)
  refine (zz19 (p := 0) (cap := 0) (d := d) (HR.out _) (by decide) (by omega) (Nat.le_refl _)).mono ?_
  rintro e w3 ⟨rfl, hb3⟩
  rw [HN.out.1, HN.out.2]
  go_wp2_with fail
  refine (imodel20 (p := 0) (cap := 0) (d := d) (HR.out _) (by decide) (by omega) (Nat.le_refl _)).mono ?_
  rintro e w4 ⟨rfl, c4, rfl⟩
  rw [HN.out.1, HN.out.2]
  go_wp2
  go_ret
  exact ⟨by simp, hb3.trans ((Step.drewN w.heap.size w3 c4).below (Nat.le_refl _))⟩

theorem walk7 (x : Addr) (len cap : Nat) (A : List Int) (p : Nat) (d : Int) (w : World) (hl : (len : Int) ≤ 1048576) (hp : p ≤ len) (hA : A.length = len)
    (hAc : ∀ j u, (A.map (Value.int .u8))[j]? = some u → w.cell? (x.add j) = some u) :
    Calls Try.prog 7 #[.slice (some x) len cap, .int .i64 p, .int .i64 d] w fun e w' => e = .returned (.bool true) ∧ Below w.heap.size w w' := by
  have hn := fun wx => run_neq_slice_nil_any (P := Try.prog) wx 22 5 (some x) len cap 0 0 Try.underlying22
  obtain ⟨i, hi, hz0, hz1, hz2⟩ := info_parts Try.info5c
  have HA := hid hA
  have HC := hid hAc
  clear hA hAc
  go_enter Try.func7, Try.ntmps7
  go_wp2_with (first
    | (go_at_call 18; refine (bytes18_ok _ _ _ _ _ _ hl).mono ?_; rintro e w' ⟨rfl, rfl⟩)
    | (at_make; refine wpList_make_full _ rfl _ _ 22 rfl w.heap.size 5 i _ 1 Try.underlying22 hi hz0 hz1 _ _ _ _ len rfl rfl rfl rfl ?b1 ?b2 ?b3 ?_))
  case b1 => rw [hz2]; omega
  case b2 => unfold maxLen; omega
  case b3 => exact Nat.le_refl _
  intro w1 hown hgrow
  have hb1 : Below w.heap.size w w1 := (Below.refl _ _).grown hgrow (Nat.le_refl _) (by simp)
  obtain ⟨cur, hcl, hrow⟩ := made_row hown
  clear hown hgrow hn
  have HR := hid hrow
  have HL := hid hcl
  clear hrow hcl
  go_wp2_with (first
    | (with_reducible show wpList _ _ _ (Oper.mk _ (Op.call { callee := Callee.builtin Builtin.copy, args := _, argTypes := _ }) _ _ _ _ :: _) _ _; (refine wpList_copy_splice rfl _ _ 22 22 rfl 5 Try.underlying22 Try.size5 _ _ _ _ _ _ rfl rfl w.heap.size 0 cur 5 HR.out (A.map (Value.int .u8)) (by simp [HA.out]) (fun _ => ⟨rfl, x, rfl, fun j v hv => cell_later hb1 (HC.out j v hv)⟩) (by simp [HA.out, HL.out]) (ints_oneCell _ _) w.heap.size w hb1 (Nat.le_refl _) ?_)))
  intro w2 HG hb2
  obtain ⟨z, HW⟩ : ∃ z, Hid (RowOf w2 (some ⟨w.heap.size, 0, none⟩) len z) := ⟨fun i => A.getD i 0, hid (fun i hi => ⟨_, _, rfl, laid_cells HL.out HA.out HG.out i hi⟩)⟩
  go_wp2_with fail
  refine (zz19 (p := p) (d := d) HW.out (by omega) hp (Nat.le_refl _)).mono ?_
  rintro e w3 ⟨rfl, hb3⟩
  go_wp2_with fail
  refine (imodel20 (p := p) (cap := len) (d := d) (HW.out.later hb3) (by omega) hp (Nat.le_refl _)).mono ?_
  rintro e w4 ⟨rfl, c4, rfl⟩
  have hbel : Below w.heap.size w w3 := hb2.trans (hb3.mono hb2.size)
  clear hb3
  go_wp2
  go_ret
  exact ⟨by simp, hbel.trans ((Step.drewN w.heap.size w3 c4).below (Nat.le_refl _))⟩

end Go.Proofs.Qxb6603012a
