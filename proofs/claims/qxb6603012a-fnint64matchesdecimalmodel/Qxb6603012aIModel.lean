import Derived.Test.Qxb6603012aAtMost
namespace Go.Proofs.Qxb6603012a
open Go.ChangeShapes Go.WideShapes Go.ChangeAt Go.RowKit Go.PlainAid

/-- The automaton's run, said by what number does. -/
theorem model16n {w : World} {ao : Option Addr} {n cap : Nat} {z : Nat → Int} {p : Nat} (h : RowOf w ao n z) (hs : (n : Int) ≤ 2097152) (hp : p ≤ n) :
    Calls Try.prog 16 #[.slice ao n cap, .int .i64 p] w fun e w' => e = .returned (.tuple #[.int .i64 (numP z n p).1, .bool (numP z n p).2]) ∧ w = w' := by
  rw [num_law]
  exact model16 h hs hp

theorem allD_of_le {z : Nat → Int} {s : Nat} (j : Nat) : ∀ d, allD z s (j + d) = true → allD z s j = true
  | 0, h => h
  | d + 1, h => by
    have h' : allD z s (j + d + 1) = true := h
    simp only [allD, Bool.and_eq_true] at h'
    exact allD_of_le j d h'.1

/-- What int64Model answers. -/
def Mod20 (w : World) (q : Nat) (r : Int × Bool) (e : Ending) (w' : World) : Prop :=
  e = .returned (.tuple #[.int .i64 r.1, .int .i64 q, .bool r.2]) ∧ ∃ c, w' = w.drewN c

theorem mod_no {w : World} {q0 : Nat} {x d : Int} (hq : (q0 : Int) = x) (c : Nat) : Mod20 w q0 (d, false) (.returned (.tuple #[.int .i64 d, .int .i64 x, .bool false])) (w.drewN c) := by
  subst hq; exact ⟨rfl, c, rfl⟩
theorem mod_yes {w : World} {q0 : Nat} {x v : Int} (hq : (q0 : Int) = x) (c : Nat) : Mod20 w q0 (v, true) (.returned (.tuple #[.int .i64 v, .int .i64 x, .bool true])) (w.drewN c) := by
  subst hq; exact ⟨rfl, c, rfl⟩
theorem val_nn {z : Nat → Int} {s j d : Nat} (h : allD z s (j + d) = true) : 0 ≤ val z s j := by
  refine (val_bd (allD_of_le j d h)).1

theorem imodel_no {w : World} {ao : Option Addr} {n cap : Nat} {z : Nat → Int} {p : Nat} {d : Int} (h : RowOf w ao n z) (hs : (n : Int) ≤ 2097152) (hp : p ≤ n) (hok : (numP z n p).2 = false) :
    Calls Try.prog 20 #[.slice ao n cap, .int .i64 p, .int .i64 d] w fun e w' => Mod20 w (numP z n p).1 (i64P z n p d) e w' := by
  have HR := hid h
  have HK := hid hok
  clear h hok
  go_enter Try.func20, Try.ntmps20
  go_wp2_with fail
  refine (model16n HR.out hs hp).mono ?_
  rintro e w1 ⟨rfl, rfl⟩
  rw [HK.out]
  go_wp2
  go_ret3
  have e : i64P z n p d = (d, false) := by simp [i64P, HK.out]
  rw [e]
  exact ⟨rfl, 0, rfl⟩

theorem lim7_ok : allD (bt { data := #[57, 50, 50, 51, 51, 55, 50, 48, 51, 54, 56, 53, 52, 55, 55, 53, 56, 48, 55] }) 0 19 = true ∧ val (bt { data := #[57, 50, 50, 51, 51, 55, 50, 48, 51, 54, 56, 53, 52, 55, 55, 53, 56, 48, 55] }) 0 19 = 9223372036854775807 := by decide +kernel
theorem lim8_ok : allD (bt { data := #[57, 50, 50, 51, 51, 55, 50, 48, 51, 54, 56, 53, 52, 55, 55, 53, 56, 48, 56] }) 0 19 = true ∧ val (bt { data := #[57, 50, 50, 51, 51, 55, 50, 48, 51, 54, 56, 53, 52, 55, 55, 53, 56, 48, 56] }) 0 19 = 9223372036854775808 := by decide +kernel

theorem dam_yes {z : Nat → Int} {s m : Nat} {lim : Int} (hl : 999999999999999999 ≤ lim) (hall : allD z s m = true) (h : damB z s m lim = true) : m ≤ 19 ∧ val z s m ≤ lim := by
  unfold damB at h
  by_cases e : m = 19
  · rw [if_pos e] at h; exact ⟨by omega, of_decide_eq_true h⟩
  · rw [if_neg e] at h
    have h1 := of_decide_eq_true h
    have := val_18 hall (by omega)
    exact ⟨by omega, by omega⟩
theorem dam_no {z : Nat → Int} {s m : Nat} {lim : Int} (h : damB z s m lim = false) : 19 < m ∨ (m = 19 ∧ lim < val z s m) := by
  unfold damB at h
  by_cases e : m = 19
  · rw [if_pos e] at h
    have := of_decide_eq_false h
    exact .inr ⟨e, by omega⟩
  · rw [if_neg e] at h
    have := of_decide_eq_false h
    exact .inl (by omega)
theorem val_le {z : Nat → Int} {s : Nat} (k : Nat) : ∀ d, allD z s (k + d) = true → val z s k ≤ val z s (k + d)
  | 0, _ => Int.le_refl _
  | d + 1, h => by
    have h' : allD z s (k + d + 1) = true := h
    have h1 := h'
    simp only [allD, Bool.and_eq_true, digB_iff] at h1
    have ih := val_le k d h1.1
    have h0 := (val_bd h1.1).1
    show val z s k ≤ val z s (k + d) * 10 + (z (s + (k + d)) - 48)
    omega

set_option maxHeartbeats 2000000 in
theorem imodel_neg {w : World} {ao : Option Addr} {n cap : Nat} {z : Nat → Int} {p : Nat} {d : Int} (h : RowOf w ao n z) (hs : (n : Int) ≤ 2097152) (hp : p ≤ n) (hcap : n ≤ cap) (hok : (numP z n p).2 = true) (hneg : z p = 45) :
    Calls Try.prog 20 #[.slice ao n cap, .int .i64 p, .int .i64 d] w fun e w' => Mod20 w (numP z n p).1 (i64P z n p d) e w' := by
  have hb := num_ok hp hok
  have HC := hid h
  have HK := hid hok
  have HB := hid hb
  have HS : Hid (sgn z p = true) := hid (by simp [sgn, hneg])
  have eb : beg z p = p + 1 := by simp [beg, HS.out]
  have HE := hid eb
  have HG := hid hneg
  rw [eb] at HB
  clear h hok hb hneg eb
  go_enter Try.func20, Try.ntmps20
  go_wp2_with fail
  refine (model16n HC.out hs hp).mono ?_
  rintro e w1 ⟨rfl, rfl⟩
  rw [HK.out]
  generalize hq : (numP z n p).1 = q at *
  have HQ := hid hq
  clear hq
  obtain ⟨m, rfl⟩ : ∃ m, q = p + 1 + m := ⟨q - (p + 1), by have := HB.out; omega⟩
  have hb := HB.out
  obtain ⟨b, off, rfl, hcell⟩ := HC.out p (by omega)
  rw [HG.out] at hcell
  have hm0 : 0 < m := by omega
  have hqn : p + 1 + m ≤ n := by omega
  have hcells : ∀ k, k < m → w.cell? ⟨b, off + p + 1 + k, none⟩ = some (.int .u8 (z (p + 1 + k))) := by
    intro k hk
    obtain ⟨b', off', e, hx⟩ := HC.out (p + 1 + k) (by omega)
    cases e
    rw [show off + p + 1 + k = off + (p + 1 + k) by omega]
    exact hx
  have HX := hid hcells
  clear hb hcells
  have em : p + 1 + m - p = m + 1 := by omega
  go_wp2_with fail
  go_loop [44] (fun v44 => ∃ k : Nat, k ≤ m ∧ v44 = .int .i64 k ∧ allD z (p + 1) k = true) (fun v44 => m - (intOf v44).toNat)
  case atStart => exact ⟨0, by omega, rfl, rfl⟩
  case round =>
    obtain ⟨k, hk, rfl, hall⟩ := hrel
    have HL := hid hall
    clear hall
    by_cases hlt : k < m
    · have hck := HX.out k hlt
      have HD : Hid (allD z (p + 1) (k + 1) = (allD z (p + 1) k && digB (z (p + 1 + k)))) := hid rfl
      have HNo : Hid (digB (z (p + 1 + k)) = false → i64P z n p d = (d, false)) := hid (fun h => i64_bad HQ.out HE.out hlt h)
      generalize z (p + 1 + k) = c at *
      go_wp2
      · have hno : digB c = false := digB_no.2 (by omega)
        go_ret3
        rw [HNo.out hno]
        exact mod_no (by have := HQ.out; omega) 0
      · have hyes : 48 ≤ c ∧ c ≤ 57 := by assumption
        go_round
        case rel => exact ⟨_, _, _, _, _, ⟨k + 1, by omega, by go_num, by rw [HD.out, HL.out, digB_iff.2 hyes]; rfl⟩, rfl, rfl, rfl, rfl, rfl⟩
        case measure => simp [intOf]; omega
      · have hno : digB c = false := digB_no.2 (by omega)
        go_ret3
        rw [HNo.out hno]
        exact mod_no (by have := HQ.out; omega) 0
    · have hd : decide ((k : Int) < (m : Int)) = false := by simp; omega
      have HA : Hid (allD z (p + 1) m = true) := hid (by rw [show m = k by omega]; exact HL.out)
      obtain rfl : k = m := by omega
      go_wp2_with fail
      refine (dam31 (s := p + 1) _ rfl lim8_ok.1 HA.out HX.out (by omega)).mono ?_
      rintro e w1 ⟨rfl, c0, rfl⟩
      rw [lim8_ok.2]
      cases hdam : damB z (p + 1) k 9223372036854775808 with
      | false =>
        have hr : i64P z n p d = (d, false) := by
          rcases dam_no hdam with h | ⟨h1, h2⟩
          · exact i64_long HQ.out HE.out (by omega)
          · rw [i64_neg HQ.out HE.out HS.out HK.out (by omega) HA.out, if_neg (by omega)]
        clear hdam
        have HR := hid hr
        clear hr
        go_wp2
        go_ret3
        rw [HR.out]
        exact mod_no (by have := HQ.out; omega) c0
      | true =>
        obtain ⟨hm19, hvl⟩ := dam_yes (by decide) HA.out hdam
        have hr : i64P z n p d = (-val z (p + 1) k, true) := by
          rw [i64_neg HQ.out HE.out HS.out HK.out hm19 HA.out, if_pos (by omega)]
        clear hdam
        have HR := hid hr
        have HV := hid hvl
        clear hr hvl
        go_wp2_with fail
        go_loop [17, 66] (fun v17 v66 => ∃ j : Nat, j ≤ k ∧ v66 = .int .i64 j ∧ v17 = .int .i64 (-val z (p + 1) j)) (fun _ v66 => k - (intOf v66).toNat)
        case atStart => exact ⟨0, by omega, rfl, rfl⟩
        case round =>
          obtain ⟨j, hj, rfl, rfl⟩ := hrel
          by_cases hjlt : j < k
          · have hcj := HX.out j hjlt
            have hdj := allD_get HA.out j hjlt
            have hE : Hid (val z (p + 1) (j + 1) = val z (p + 1) j * 10 + (z (p + 1 + j) - 48)) := hid rfl
            have hb2 : val z (p + 1) j * 10 + (z (p + 1 + j) - 48) ≤ 9223372036854775808 := by
              have h1 := val_le (z := z) (s := p + 1) (j + 1) (k - (j + 1)) (by rw [show j + 1 + (k - (j + 1)) = k by omega]; exact HA.out)
              rw [show j + 1 + (k - (j + 1)) = k by omega] at h1
              have h2 := HV.out
              have h3 := hE.out
              omega
            have hb0 : 0 ≤ val z (p + 1) j := val_nn (j := j) (d := k - j) (by rw [show j + (k - j) = k by omega]; exact HA.out)
            generalize z (p + 1 + j) = c at *
            generalize val z (p + 1) j = u at *
            go_wp2
            go_round
            case rel => exact ⟨j + 1, by omega, by go_num, by rw [hE.out]; congr 1; omega⟩
            case measure => simp [intOf]; omega
          · have hd2 : decide ((j : Int) < (k : Int)) = false := by simp; omega
            obtain rfl : j = k := by omega
            go_wp2
            go_ret3
            rw [HR.out]
            exact mod_yes (by have := HQ.out; omega) c0

set_option maxHeartbeats 2000000 in
theorem imodel_pos {w : World} {ao : Option Addr} {n cap : Nat} {z : Nat → Int} {p : Nat} {d : Int} (h : RowOf w ao n z) (hs : (n : Int) ≤ 2097152) (hp : p ≤ n) (hcap : n ≤ cap) (hok : (numP z n p).2 = true) (hneg : (z p == 45) = false) :
    Calls Try.prog 20 #[.slice ao n cap, .int .i64 p, .int .i64 d] w fun e w' => Mod20 w (numP z n p).1 (i64P z n p d) e w' := by
  have hb := num_ok hp hok
  have HC := hid h
  have HK := hid hok
  have HB := hid hb
  have HS : Hid (sgn z p = false) := hid (by exact hneg)
  have eb : beg z p = p := by simp [beg, HS.out]
  have HE := hid eb
  have HG := hid hneg
  rw [eb] at HB
  clear h hok hb eb
  go_enter Try.func20, Try.ntmps20
  go_wp2_with fail
  refine (model16n HC.out hs hp).mono ?_
  rintro e w1 ⟨rfl, rfl⟩
  rw [HK.out]
  generalize hq : (numP z n p).1 = q at *
  have HQ := hid hq
  clear hq
  obtain ⟨m, rfl⟩ : ∃ m, q = p + m := ⟨q - (p), by have := HB.out; omega⟩
  have hb := HB.out
  obtain ⟨b, off, rfl, hcell⟩ := HC.out p (by omega)
  skip
  have hm0 : 0 < m := by omega
  have hqn : p + m ≤ n := by omega
  have hcells : ∀ k, k < m → w.cell? ⟨b, off + p + k, none⟩ = some (.int .u8 (z (p + k))) := by
    intro k hk
    obtain ⟨b', off', e, hx⟩ := HC.out (p + k) (by omega)
    cases e
    rw [show off + p + k = off + (p + k) by omega]
    exact hx
  have HX := hid hcells
  clear hb hcells
  have em : p + m - p = m := by omega
  go_wp2_with fail
  go_loop [44] (fun v44 => ∃ k : Nat, k ≤ m ∧ v44 = .int .i64 k ∧ allD z (p) k = true) (fun v44 => m - (intOf v44).toNat)
  case atStart => exact ⟨0, by omega, rfl, rfl⟩
  case round =>
    obtain ⟨k, hk, rfl, hall⟩ := hrel
    have HL := hid hall
    clear hall
    by_cases hlt : k < m
    · have hck := HX.out k hlt
      have HD : Hid (allD z (p) (k + 1) = (allD z (p) k && digB (z (p + k)))) := hid rfl
      have HNo : Hid (digB (z (p + k)) = false → i64P z n p d = (d, false)) := hid (fun h => i64_bad HQ.out HE.out hlt h)
      generalize z (p + k) = c at *
      go_wp2
      · have hno : digB c = false := digB_no.2 (by omega)
        go_ret3
        rw [HNo.out hno]
        exact mod_no (by have := HQ.out; omega) 0
      · have hyes : 48 ≤ c ∧ c ≤ 57 := by assumption
        go_round
        case rel => exact ⟨_, _, _, _, _, ⟨k + 1, by omega, by go_num, by rw [HD.out, HL.out, digB_iff.2 hyes]; rfl⟩, rfl, rfl, rfl, rfl, rfl⟩
        case measure => simp [intOf]; omega
      · have hno : digB c = false := digB_no.2 (by omega)
        go_ret3
        rw [HNo.out hno]
        exact mod_no (by have := HQ.out; omega) 0
    · have hd : decide ((k : Int) < (m : Int)) = false := by simp; omega
      have HA : Hid (allD z (p) m = true) := hid (by rw [show m = k by omega]; exact HL.out)
      obtain rfl : k = m := by omega
      go_wp2_with fail
      refine (dam31 (s := p) _ rfl lim7_ok.1 HA.out HX.out (by omega)).mono ?_
      rintro e w1 ⟨rfl, c0, rfl⟩
      rw [lim7_ok.2]
      cases hdam : damB z (p) k 9223372036854775807 with
      | false =>
        have hr : i64P z n p d = (d, false) := by
          rcases dam_no hdam with h | ⟨h1, h2⟩
          · exact i64_long HQ.out HE.out (by omega)
          · rw [i64_pos HQ.out HE.out HS.out HK.out (by omega) HA.out, if_neg (by omega)]
        clear hdam
        have HR := hid hr
        clear hr
        go_wp2
        go_ret3
        rw [HR.out]
        exact mod_no (by have := HQ.out; omega) c0
      | true =>
        obtain ⟨hm19, hvl⟩ := dam_yes (by decide) HA.out hdam
        have hr : i64P z n p d = (val z (p) k, true) := by
          rw [i64_pos HQ.out HE.out HS.out HK.out hm19 HA.out, if_pos (by omega)]
        clear hdam
        have HR := hid hr
        have HV := hid hvl
        clear hr hvl
        go_wp2_with fail
        go_loop [17, 66] (fun v17 v66 => ∃ j : Nat, j ≤ k ∧ v66 = .int .i64 j ∧ v17 = .int .i64 (val z (p) j)) (fun _ v66 => k - (intOf v66).toNat)
        case atStart => exact ⟨0, by omega, rfl, rfl⟩
        case round =>
          obtain ⟨j, hj, rfl, rfl⟩ := hrel
          by_cases hjlt : j < k
          · have hcj := HX.out j hjlt
            have hdj := allD_get HA.out j hjlt
            have hE : Hid (val z (p) (j + 1) = val z (p) j * 10 + (z (p + j) - 48)) := hid rfl
            have hb2 : val z (p) j * 10 + (z (p + j) - 48) ≤ 9223372036854775807 := by
              have h1 := val_le (z := z) (s := p) (j + 1) (k - (j + 1)) (by rw [show j + 1 + (k - (j + 1)) = k by omega]; exact HA.out)
              rw [show j + 1 + (k - (j + 1)) = k by omega] at h1
              have h2 := HV.out
              have h3 := hE.out
              omega
            have hb0 : 0 ≤ val z (p) j := val_nn (j := j) (d := k - j) (by rw [show j + (k - j) = k by omega]; exact HA.out)
            generalize z (p + j) = c at *
            generalize val z (p) j = u at *
            go_wp2
            go_round
            case rel => exact ⟨j + 1, by omega, by go_num, by rw [hE.out]⟩
            case measure => simp [intOf]; omega
          · have hd2 : decide ((j : Int) < (k : Int)) = false := by simp; omega
            obtain rfl : j = k := by omega
            go_wp2
            go_ret3
            rw [HR.out]
            exact mod_yes (by have := HQ.out; omega) c0

theorem imodel20 {w : World} {ao : Option Addr} {n cap : Nat} {z : Nat → Int} {p : Nat} {d : Int} (h : RowOf w ao n z) (hs : (n : Int) ≤ 2097152) (hp : p ≤ n) (hcap : n ≤ cap) :
    Calls Try.prog 20 #[.slice ao n cap, .int .i64 p, .int .i64 d] w fun e w' => Mod20 w (numP z n p).1 (i64P z n p d) e w' := by
  cases hok : (numP z n p).2 with
  | true =>
    cases hg : (z p == 45) with
    | true => exact imodel_neg h hs hp hcap hok (eq_of_beq hg)
    | false => exact imodel_pos h hs hp hcap hok hg
  | false => exact imodel_no h hs hp hok

end Go.Proofs.Qxb6603012a
