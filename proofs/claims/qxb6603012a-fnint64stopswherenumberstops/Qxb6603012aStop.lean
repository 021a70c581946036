import Derived.Test.Qxb6603012aI64
namespace Go.Proofs.Qxb6603012a
open Go.ChangeShapes Go.WideShapes Go.ChangeAt Go.RowKit

theorem i64_refused {z : Nat → Int} {n p : Nat} {d : Int} (h : (i64P z n p d).2 = false) : (i64P z n p d).1 = d := by
  unfold i64P at h ⊢
  split at h
  · rename_i hc
    rw [if_pos hc]
    split at h
    · rename_i hs
      rw [if_pos hs]
      split at h
      · cases h
      · rename_i hv; rw [if_neg hv]
    · rename_i hs
      rw [if_neg hs]
      split at h
      · cases h
      · rename_i hv; rw [if_neg hv]
  · rename_i hc; rw [if_neg hc]

theorem i64_taken {z : Nat → Int} {n p : Nat} {d : Int} (hp : p ≤ n) (h : (i64P z n p d).2 = true) :
    (numP z n p).2 = true ∧ p < (numP z n p).1 ∧ (numP z n p).1 ≤ n ∧ ∀ j, p ≤ j → j < (numP z n p).1 → z j ≠ 46 ∧ z j ≠ 101 ∧ z j ≠ 69 := by
  have hc : ((numP z n p).2 && (decide ((numP z n p).1 - beg z p ≤ 19) && allD z (beg z p) ((numP z n p).1 - beg z p))) = true := by
    cases hc : ((numP z n p).2 && (decide ((numP z n p).1 - beg z p ≤ 19) && allD z (beg z p) ((numP z n p).1 - beg z p))) with
    | true => rfl
    | false =>
      unfold i64P at h
      rw [if_neg (by rw [hc]; decide)] at h
      cases h
  simp only [Bool.and_eq_true] at hc
  obtain ⟨hok, _, hall⟩ := hc
  obtain ⟨h1, h2, h3, h4, h5, _, _⟩ := num_ok hp hok
  refine ⟨hok, by omega, h2, ?_⟩
  intro j hj1 hj2
  by_cases hb : beg z p ≤ j
  · have := allD_get hall (j - beg z p) (by omega)
    rw [show beg z p + (j - beg z p) = j by omega] at this
    omega
  · have e : j = p := by omega
    have hs : sgn z p = true := by
      cases hs : sgn z p with
      | true => rfl
      | false => exfalso; simp [beg, hs] at hb; omega
    have : z p = 45 := by simpa [sgn] using hs
    rw [e]; omega

theorem bytes24_ok (a : Option Addr) (len cap : Nat) (i d : Int) (w : World) (h : (len : Int) ≤ 1048576) :
    Calls Try.prog 24 #[.slice a len cap, .int .i64 i, .int .i64 d] w fun e w' => e = .returned (.bool true) ∧ w = w' := by
  go_enter Try.func24, Try.ntmps24
  go_wp2
  go_ret
  exact ⟨rfl, rfl⟩
theorem bytes24_no (a : Option Addr) (len cap : Nat) (i d : Int) (w : World) (h : ¬ (len : Int) ≤ 1048576) :
    Calls Try.prog 24 #[.slice a len cap, .int .i64 i, .int .i64 d] w fun e w' => e = .returned (.bool false) ∧ w = w' := by
  go_enter Try.func24, Try.ntmps24
  go_wp2
  go_ret
  exact ⟨rfl, rfl⟩
theorem early9 (a : Option Addr) (len cap : Nat) (i d : Int) (w : World) (h : ¬ (len : Int) ≤ 1048576 ∨ i < 0 ∨ (len : Int) < i) :
    Calls Try.prog 9 #[.slice a len cap, .int .i64 i, .int .i64 d] w fun e w' => e = .returned (.bool true) ∧ Below w.heap.size w w' := by
  by_cases hl : (len : Int) ≤ 1048576
  · by_cases hi : i < 0
    · clear h
      go_enter Try.func9, Try.ntmps9
      go_wp2_with (go_at_call 24; refine (bytes24_ok _ _ _ _ _ _ hl).mono ?_; rintro e w' ⟨rfl, rfl⟩)
      go_ret
      exact ⟨rfl, Below.refl _ _⟩
    · have hi' : (len : Int) < i := by omega
      clear h
      go_enter Try.func9, Try.ntmps9
      go_wp2_with (go_at_call 24; refine (bytes24_ok _ _ _ _ _ _ hl).mono ?_; rintro e w' ⟨rfl, rfl⟩)
      go_ret
      exact ⟨rfl, Below.refl _ _⟩
  · clear h
    go_enter Try.func9, Try.ntmps9
    go_wp2_with (go_at_call 24; refine (bytes24_no _ _ _ _ _ _ hl).mono ?_; rintro e w' ⟨rfl, rfl⟩)
    go_ret
    exact ⟨rfl, Below.refl _ _⟩

theorem nil_i64 (z : Nat → Int) (d : Int) : numP z 0 0 = (0, false) ∧ i64P z 0 0 d = (d, false) := by
  have e : numP z 0 0 = (0, false) := by
    have hd : dE z 0 0 = 0 := dE_no (by simp [dgP])
    simp [numP, part1, atP, hd]
  exact ⟨e, by simp [i64P, e]⟩

theorem nil9 (d : Int) (w : World) :
    Calls Try.prog 9 #[.slice none 0 0, .int .i64 0, .int .i64 d] w fun e w' => e = .returned (.bool true) ∧ Below w.heap.size w w' := by
  have hn := fun wx => run_neq_slice_nil_any (P := Try.prog) wx 22 5 none 0 0 0 0 Try.underlying22
  have hrow : ∀ wx, RowOf wx none 0 (fun _ => 0) := fun wx i hi => by omega
  have HR := hid hrow
  have HN := hid (nil_i64 (fun _ => 0) d)
  clear hrow
  go_enter Try.func9, Try.ntmps9
  go_wp2_with (go_at_call 24; refine (bytes24_ok _ _ _ _ _ _ (by decide)).mono ?_; rintro e w' ⟨rfl, rfl⟩)
  refine (zz19 (p := 0) (cap := 0) (d := d) (HR.out _) (by decide) (by omega) (Nat.le_refl _)).mono ?_
  rintro e w3 ⟨rfl, hb3⟩
  rw [HN.out.1, HN.out.2]
  go_wp2_with fail
  refine (zz15 (p := 0) (cap := 0) (HR.out _) (by decide) (by omega)).mono ?_
  rintro e w4 ⟨rfl, hb4⟩
  rw [HN.out.1]
  go_wp2
  go_ret
  exact ⟨by simp, hb3.trans (hb4.mono hb3.size)⟩

theorem walk9 (x : Addr) (len cap : Nat) (A : List Int) (p : Nat) (d : Int) (w : World) (hl : (len : Int) ≤ 1048576) (hp : p ≤ len) (hA : A.length = len)
    (hAc : ∀ j u, (A.map (Value.int .u8))[j]? = some u → w.cell? (x.add j) = some u) :
    Calls Try.prog 9 #[.slice (some x) len cap, .int .i64 p, .int .i64 d] w fun e w' => e = .returned (.bool true) ∧ Below w.heap.size w w' := by
  have hn := fun wx => run_neq_slice_nil_any (P := Try.prog) wx 22 5 (some x) len cap 0 0 Try.underlying22
  obtain ⟨i, hi, hz0, hz1, hz2⟩ := info_parts Try.info5c
  have HA := hid hA
  have HC := hid hAc
  clear hA hAc
  go_enter Try.func9, Try.ntmps9
  go_wp2_with (first
    | (go_at_call 24; refine (bytes24_ok _ _ _ _ _ _ hl).mono ?_; rintro e w' ⟨rfl, rfl⟩)
    | (at_make; refine wpList_make_full _ rfl _ _ 22 rfl w.heap.size 5 i _ 1 Try.underlying22 hi hz0 hz1 _ _ _ _ len rfl rfl rfl rfl ?b1 ?b2 ?b3 ?_))
  case b1 => rw [hz2]; omega
  case b2 => unfold maxLen; omega
  case b3 => exact Nat.le_refl _
  intro w1 hown hgrow
  have hb1 : Below w.heap.size w w1 := (Below.refl _ _).grown hgrow (Nat.le_refl _) (by simp)
  obtain ⟨cur, hcl, hrow⟩ := made_row hown
  clear hown hgrow hn
  have HR := hid hrow
  have HL := hid hcl
  clear hrow hcl
  go_wp2_with (first
    | (with_reducible show wpList _ _ _ (Oper.mk _ (Op.call { callee := Callee.builtin Builtin.copy, args := _, argTypes := _ }) _ _ _ _ :: _) _ _; (refine wpList_copy_splice rfl _ _ 22 22 rfl 5 Try.underlying22 Try.size5 _ _ _ _ _ _ rfl rfl w.heap.size 0 cur 5 HR.out (A.map (Value.int .u8)) (by simp [HA.out]) (fun _ => ⟨rfl, x, rfl, fun j v hv => cell_later hb1 (HC.out j v hv)⟩) (by simp [HA.out, HL.out]) (ints_oneCell _ _) w.heap.size w hb1 (Nat.le_refl _) ?_)))
  intro w2 HG hb2
  obtain ⟨z, HW⟩ : ∃ z, Hid (RowOf w2 (some ⟨w.heap.size, 0, none⟩) len z) := ⟨fun i => A.getD i 0, hid (fun i hi => ⟨_, _, rfl, laid_cells HL.out HA.out HG.out i hi⟩)⟩
  have HP := hid (show p ≤ len from hp)
  go_wp2_with fail
  refine (zz19 (p := p) (d := d) HW.out (by omega) hp (Nat.le_refl _)).mono ?_
  rintro e w3 ⟨rfl, hb3⟩
  go_wp2_with fail
  refine (zz15 (p := p) (cap := len) (HW.out.later hb3) (by omega) hp).mono ?_
  rintro e w4 ⟨rfl, hb4⟩
  have HB3 := hid hb3
  have HB4 := hid hb4
  clear hb3 hb4
  have hbel : Below w.heap.size w w4 := (hb2.trans (HB3.out.mono hb2.size)).trans (HB4.out.mono (Nat.le_trans hb2.size HB3.out.size))
  cases hok : (i64P z len p d).2 with
  | false =>
    have hd := i64_refused hok
    go_wp2
    go_ret
    exact ⟨rfl, hbel⟩
  | true =>
    obtain ⟨hn, h1, h2, h3⟩ := i64_taken hp hok
    have H3 := hid h3
    clear h3
    obtain ⟨q, hq⟩ : ∃ q, (numP z len p).1 = q := ⟨_, rfl⟩
    rw [hq] at h1 h2 H3
    have h1' : (p : Int) < q := by omega
    have h2' : (q : Int) ≤ len := by omega
    go_wp2
    go_loop [13] (fun v13 => ∃ k : Nat, p ≤ k ∧ k ≤ q ∧ v13 = .int .i64 k) (fun v13 => q - (intOf v13).toNat)
    case atStart => exact ⟨p, Nat.le_refl _, by omega, rfl⟩
    case round =>
      obtain ⟨k, hk1, hk2, rfl⟩ := hrel
      by_cases hlt : k < q
      · obtain ⟨b, off, e, hc⟩ := (HW.out.later HB3.out).later HB4.out k (by omega)
        cases e
        have hz := H3.out k hk1 hlt
        have e1 : (z k == 46) = false := by simpa using hz.1
        have e2 : (z k == 101) = false := by simpa using hz.2.1
        have e3 : (z k == 69) = false := by simpa using hz.2.2
        clear hz
        rw [Nat.zero_add] at hc
        generalize z k = c at *
        go_wp2
        go_round
        case rel => exact ⟨k + 1, by omega, by omega, by go_num⟩
        case measure => simp [intOf]; omega
      · have hd : decide ((k : Int) < (q : Int)) = false := by simp; omega
        go_wp2
        go_ret
        exact ⟨by simp, hbel⟩

end Go.Proofs.Qxb6603012a
