import Derived.Test.Qxb6603012aI64
namespace Go.Proofs.Qxb6603012a
open Go.ChangeShapes Go.WideShapes Go.ChangeAt Go.RowKit Go.PlainAid

theorem val_same {x y : Nat → Int} {s r : Nat} : ∀ k, (∀ j, j < k → x (s + j) = y (r + j)) → val x s k = val y r k
  | 0, _ => rfl
  | k + 1, h => by simp only [val]; rw [val_same k (fun j hj => h j (by omega)), h k (by omega)]

/-- The first digit that parts decides. -/
theorem val_part {x y : Nat → Int} {s r k : Nat} (heq : ∀ j, j < k → x (s + j) = y (r + j)) (hlt : x (s + k) < y (r + k)) : ∀ d, allD x s (k + 1 + d) = true → allD y r (k + 1 + d) = true → val x s (k + 1 + d) < val y r (k + 1 + d)
  | 0, _, _ => by
    show val x s k * 10 + (x (s + k) - 48) < val y r k * 10 + (y (r + k) - 48)
    rw [val_same k heq]; omega
  | d + 1, hx, hy => by
    have h1 := allD_get hx (k + 1 + d) (by omega)
    have h2 := allD_get hy (k + 1 + d) (by omega)
    have hx' : allD x s (k + 1 + d) = true := by
      rw [show k + 1 + (d + 1) = (k + 1 + d) + 1 by omega] at hx
      simp only [allD, Bool.and_eq_true] at hx; exact hx.1
    have hy' : allD y r (k + 1 + d) = true := by
      rw [show k + 1 + (d + 1) = (k + 1 + d) + 1 by omega] at hy
      simp only [allD, Bool.and_eq_true] at hy; exact hy.1
    have ih := val_part heq hlt d hx' hy'
    rw [show k + 1 + (d + 1) = (k + 1 + d) + 1 by omega]
    simp only [val]
    omega

theorem drewN3 (w : World) (a b c : Nat) : ((w.drewN a).drewN b).drewN c = w.drewN (a + b + c) := by rw [World.drewN_drewN, World.drewN_drewN, Nat.add_assoc]

/-- What decimalAtMost answers. -/
def damB (z : Nat → Int) (s m : Nat) (lim : Int) : Bool := if m = 19 then decide (val z s m ≤ lim) else decide (m < 19)

set_option maxHeartbeats 1000000 in
theorem dam31 {w : World} {b off m cap : Nat} {z : Nat → Int} {s : Nat} (L : ByteArray) (hL : L.size = 19) (hLd : allD (bt L) 0 19 = true) (hall : allD z s m = true)
    (hcell : ∀ k, k < m → w.cell? ⟨b, off + k, none⟩ = some (.int .u8 (z (s + k)))) (hm : (m : Int) ≤ 2097152) :
    Calls Try.prog 31 #[.slice (some ⟨b, off, none⟩) m cap, .string L] w fun e w' => e = .returned (.bool (damB z s m (val (bt L) 0 19))) ∧ ∃ c, w' = w.drewN c := by
  have hb := get_bt L
  generalize bt L = y at *
  by_cases h19 : m = 19
  · have HL : Hid (L.size = 19) := hid hL
    have hLs : 19 ≤ (L.size : Int) ∧ (L.size : Int) ≤ 19 := by omega
    have hms : 19 ≤ (m : Int) ∧ (m : Int) ≤ 19 := by omega
    have HX := hid hcell
    have HA := hid hall
    have HY := hid hLd
    have HM := hid h19
    have HD : Hid (damB z s m (val y 0 19) = decide (val z s m ≤ val y 0 19)) := hid (by simp only [damB, if_pos h19])
    clear hL hall hLd hcell h19
    have hne : ((m : Int) != (L.size : Int)) = false := by simp; omega
    go_enter Try.func31, Try.ntmps31
    go_wp2_with fail
    go_loopw [5] (fun v5 wr => ∃ (k c : Nat), k ≤ m ∧ v5 = .int .i64 k ∧ wr = w.drewN c ∧ ∀ j, j < k → z (s + j) = y (0 + j)) (fun v5 _ => m - (intOf v5).toNat)
    case atStart => exact ⟨0, 0, by omega, rfl, rfl, by omega⟩
    case round =>
      obtain ⟨k, c, hk, rfl, rfl, heq⟩ := hrel
      have HE := hid heq
      clear heq
      by_cases hlt : k < m
      · have hlt' : (k : Int) < m := by omega
        have hlt2 : (k : Int) < L.size := by omega
        have hlt3 : k < L.size := by omega
        have hck := HX.out k hlt
        by_cases hsame : z (s + k) = y k
        · have e1 : (z (s + k) != y k) = false := by simp [hsame]
          have HS := hid hsame
          clear hsame
          go_wp2_with fail
          go_quiet (fail)
          go_wp2
          go_roundw
          case rel =>
            refine ⟨k + 1, c + nq, by omega, by go_num, rfl, ?_⟩
            intro j hj
            by_cases e : j = k
            · rw [e, Nat.zero_add]; exact HS.out
            · exact HE.out j (by omega)
          case measure => simp [intOf]; omega
        · have e1 : (z (s + k) != y k) = true := by simpa using hsame
          have HS := hid hsame
          clear hsame
          go_wp2_with fail
          go_quiet (fail)
          go_wp2_with fail
          go_quiet (fail)
          go_wp2
          go_ret
          have key : damB z s m (val y 0 19) = decide (z (s + k) < y k) := by
            rw [HD.out]
            have hm19 := HM.out
            obtain ⟨d, hd⟩ : ∃ d, m = k + 1 + d := ⟨m - (k + 1), by omega⟩
            by_cases hl : z (s + k) < y k
            · have := val_part (r := 0) HE.out (by rw [Nat.zero_add]; exact hl) d (by rw [← hd]; exact HA.out) (by rw [← hd, hm19]; exact HY.out)
              rw [← hd, hm19] at this
              rw [decide_eq_true hl, hm19]
              exact decide_eq_true (by omega)
            · have := val_part (x := y) (y := z) (s := 0) (r := s) (fun j hj => (HE.out j hj).symm) (by rw [Nat.zero_add]; have := HS.out; omega) d (by rw [← hd, hm19]; exact HY.out) (by rw [← hd]; exact HA.out)
              rw [← hd, hm19] at this
              rw [decide_eq_false hl, hm19]
              exact decide_eq_false (by omega)
          rw [key]
          exact ⟨rfl, _, drewN3 _ _ _ _⟩
      · have hd : decide ((k : Int) < (m : Int)) = false := by simp; omega
        obtain rfl : k = m := by omega
        go_wp2
        go_ret
        have key : damB z s k (val y 0 19) = true := by
          rw [HD.out, val_same (r := 0) k HE.out]
          have hm19 := HM.out
          rw [hm19]; simp
        rw [key]
        exact ⟨rfl, _, rfl⟩
  · have HD : Hid (damB z s m (val y 0 19) = decide (m < 19)) := hid (by simp only [damB, if_neg h19])
    have hne : ((m : Int) != (L.size : Int)) = true := by simp; omega
    have HL : Hid (L.size = 19) := hid hL
    clear hcell hall hLd h19 hL
    go_enter Try.func31, Try.ntmps31
    go_wp2
    go_ret
    rw [HD.out]
    refine ⟨?_, 0, rfl⟩
    show Ending.returned (.bool (decide (m < L.size))) = _
    rw [HL.out]

end Go.Proofs.Qxb6603012a
