import Derived.Test.Qxb6603012aI64Plain
namespace Go.Proofs.Qxb6603012a
open Go.ChangeShapes Go.WideShapes Go.ChangeAt Go.RowKit

/-- What a call of int64 leaves. -/
def Left64 (w : World) (B sb db : Nat) (q : Nat) (r : Int × Bool) (e : Ending) (w' : World) : Prop :=
  e = .returned (.bool r.2) ∧ w'.cell? ⟨sb, 1, none⟩ = some (.int .i64 q) ∧ w'.cell? ⟨db, 0, none⟩ = some (.int .i64 r.1) ∧ Below B w w'

theorem int64_no {w : World} {B sb db : Nat} {ao : Option Addr} {n cap : Nat} {z : Nat → Int} {p : Nat} {d : Int} (h : Ctx w sb ao n cap z p) (hd : w.cell? ⟨db, 0, none⟩ = some (.int .i64 d)) (hne : db ≠ sb) (hB : B ≤ sb)
    (hok : (numP z n p).2 = false) :
    Calls Try.prog 30 #[.pointer (some ⟨sb, 0, none⟩), .pointer (some ⟨db, 0, none⟩)] w fun e w' => Left64 w B sb db (numP z n p).1 (i64P z n p d) e w' := by
  have hpos := h.pos
  have HC := hid h
  have HK := hid hok
  clear h hok
  go_enter Try.func30, Try.ntmps30
  go_wp2_with fail
  refine (number27 HC.out).mono ?_
  rintro e w1 ⟨rfl, hc, hst⟩
  rw [HK.out]
  go_wp2
  go_ret
  have e : i64P z n p d = (d, false) := by simp [i64P, HK.out]
  rw [e]
  exact ⟨rfl, hc.pos, (hst.cell hne).trans hd, hst.below hB⟩

theorem left_no {w w1 : World} {B sb db q0 q : Nat} {d : Int} (hq : q0 = q) (hst : Step sb w w1) (hp : w1.cell? ⟨sb, 1, none⟩ = some (.int .i64 q)) (hd : w1.cell? ⟨db, 0, none⟩ = some (.int .i64 d)) (hB : B ≤ sb) :
    Left64 w B sb db q0 (d, false) (.returned (.bool false)) w1 := by
  subst hq; exact ⟨rfl, hp, hd, hst.below hB⟩
theorem left_yes {w w1 : World} {B sb db q0 q : Nat} {d : Int} (hq : q0 = q) (hst : Step sb w w1) (hp : w1.cell? ⟨sb, 1, none⟩ = some (.int .i64 q)) (hd : w1.cell? ⟨db, 0, none⟩ = some (.int .i64 d)) (hB : B ≤ sb) (hB2 : B ≤ db) (v : Int) :
    Left64 w B sb db q0 (v, true) (.returned (.bool true)) (w1.setCell ⟨db, 0, none⟩ (.int .i64 v)) := by
  subst hq
  refine ⟨rfl, ?_, World.cell?_setCell_same _ _ _ hd, (hst.below hB).setCell hB2 _⟩
  rw [World.cell?_setCell_other _ _ _ _ (by simp)]
  exact hp
theorem neg_wrap {u : Int} (h0 : 0 ≤ u) (h1 : u ≤ 9223372036854775808) : wrap64 (IntKind.u64.wrap (-u)) = -u := by
  rw [IntKind.wrap_u64]; unfold wrap64; omega
theorem i64_long {z : Nat → Int} {n p q s : Nat} {d : Int} (hq : (numP z n p).1 = q) (hs : beg z p = s) (h : ¬ q - s ≤ 19) : i64P z n p d = (d, false) := by
  unfold i64P
  rw [hq, hs, decide_eq_false h]
  simp
theorem i64_bad {z : Nat → Int} {n p m s k : Nat} {d : Int} (hq : (numP z n p).1 = s + m) (hs : beg z p = s) (hk : k < m) (h : digB (z (s + k)) = false) : i64P z n p d = (d, false) := by
  unfold i64P
  rw [hq, hs, show s + m - s = m by omega, allD_no hk h]
  simp
theorem i64_neg {z : Nat → Int} {n p m s : Nat} {d : Int} (hq : (numP z n p).1 = s + m) (hs : beg z p = s) (hg : sgn z p = true) (hok : (numP z n p).2 = true) (hm : m ≤ 19) (h : allD z s m = true) :
    i64P z n p d = if val z s m ≤ 9223372036854775808 then (- val z s m, true) else (d, false) := by
  unfold i64P
  rw [hq, hs, show s + m - s = m by omega, h, hok, hg, decide_eq_true hm]
  simp
theorem i64_pos {z : Nat → Int} {n p m s : Nat} {d : Int} (hq : (numP z n p).1 = s + m) (hs : beg z p = s) (hg : sgn z p = false) (hok : (numP z n p).2 = true) (hm : m ≤ 19) (h : allD z s m = true) :
    i64P z n p d = if val z s m < 9223372036854775808 then (val z s m, true) else (d, false) := by
  unfold i64P
  rw [hq, hs, show s + m - s = m by omega, h, hok, hg, decide_eq_true hm]
  simp

set_option maxHeartbeats 2000000 in
theorem int64_neg {w : World} {B sb db : Nat} {ao : Option Addr} {n cap : Nat} {z : Nat → Int} {p : Nat} {d : Int} (h : Ctx w sb ao n cap z p) (hcap : n ≤ cap) (hd : w.cell? ⟨db, 0, none⟩ = some (.int .i64 d)) (hf : w.frozen? ⟨db, 0, none⟩ = false) (hne : db ≠ sb) (hB : B ≤ sb)
    (hB2 : B ≤ db) (hok : (numP z n p).2 = true) (hneg : z p = 45) :
    Calls Try.prog 30 #[.pointer (some ⟨sb, 0, none⟩), .pointer (some ⟨db, 0, none⟩)] w fun e w' => Left64 w B sb db (numP z n p).1 (i64P z n p d) e w' := by
  have hpos := h.pos
  have hb := num_ok h.ple hok
  have hsm := h.small
  have HC := hid h
  have HK := hid hok
  have HB := hid hb
  have HS : Hid (sgn z p = true) := hid (by simp [sgn, hneg])
  have eb : beg z p = p + 1 := by simp [beg, HS.out]
  have HE := hid eb
  have HG := hid hneg
  rw [eb] at HB
  clear h hok hb hneg eb
  go_enter Try.func30, Try.ntmps30
  go_wp2_with fail
  refine (number27 HC.out).mono ?_
  rintro e w1 ⟨rfl, hc, hst⟩
  rw [HK.out]
  have h1 := hc.line
  have h2 := hc.pos
  have H1 := hid hc
  clear hc
  generalize hq : (numP z n p).1 = q at *
  have HQ := hid hq
  clear hq
  obtain ⟨m, rfl⟩ : ∃ m, q = p + 1 + m := ⟨q - (p + 1), by have := HB.out; omega⟩
  have hb := HB.out
  obtain ⟨b, off, rfl, hbne, hcell⟩ := H1.out.row p (by omega)
  rw [HG.out] at hcell
  have hm0 : 0 < m := by omega
  have hqn : p + 1 + m ≤ n := by omega
  have hcells : ∀ k, k < m → w1.cell? ⟨b, off + p + 1 + k, none⟩ = some (.int .u8 (z (p + 1 + k))) := by
    intro k hk
    obtain ⟨b', off', e, _, hx⟩ := H1.out.row (p + 1 + k) (by omega)
    cases e
    rw [show off + p + 1 + k = off + (p + 1 + k) by omega]
    exact hx
  have HX := hid hcells
  have HT := hid hst
  have hsz := hst.size
  clear hb hcells hst
  have em : p + 1 + m - p = m + 1 := by omega
  have hdc : w1.cell? ⟨db, 0, none⟩ = some (.int .i64 d) := (HT.out.cell hne).trans hd
  have hdf : w1.frozen? ⟨db, 0, none⟩ = false := (World.frozen?_of_block (w := w) (HT.out.heap db hne)).trans hf
  go_wp2_with fail
  go_quiet (fail)
  go_wp2_with fail
  · have e : i64P z n p d = (d, false) := i64_long HQ.out HE.out (by omega)
    go_ret
    rw [e]
    exact left_no HQ.out (HT.out.trans (Step.drewN sb w1 _)) H1.out.pos hdc hB
  · have hm19 : m ≤ 19 := by omega
    go_loop [8, 40] (fun v8 v40 => ∃ k : Nat, k ≤ m ∧ v40 = .int .i64 k ∧ v8 = .int .u64 (val z (p + 1) k) ∧ allD z (p + 1) k = true) (fun _ v40 => m - (intOf v40).toNat)
    case atStart => exact ⟨0, by omega, rfl, rfl, rfl⟩
    case round =>
      obtain ⟨k, hk, rfl, rfl, hall⟩ := hrel
      have HL := hid hall
      by_cases hlt : k < m
      · have hv := val_18 hall (by omega)
        have hck := HX.out k hlt
        clear hall
        have HV : Hid (val z (p + 1) (k + 1) = val z (p + 1) k * 10 + (z (p + 1 + k) - 48)) := hid rfl
        have HD : Hid (allD z (p + 1) (k + 1) = (allD z (p + 1) k && digB (z (p + 1 + k)))) := hid rfl
        have HNo : Hid (digB (z (p + 1 + k)) = false → i64P z n p d = (d, false)) := hid (fun h => i64_bad HQ.out HE.out hlt h)
        generalize z (p + 1 + k) = c at *
        generalize val z (p + 1) k = u at *
        go_wp2
        · have hno : digB c = false := digB_no.2 (by omega)
          go_ret
          rw [HNo.out hno]
          exact left_no HQ.out (HT.out.trans (Step.drewN sb w1 _)) H1.out.pos hdc hB
        · have hyes : 48 ≤ c ∧ c ≤ 57 := by assumption
          go_round
          case rel => exact ⟨_, _, _, _, ⟨k + 1, by omega, by go_num, by rw [HV.out], by rw [HD.out, HL.out, digB_iff.2 hyes]; rfl⟩, rfl, rfl, rfl, rfl⟩
          case measure => simp [intOf]; omega
        · have hno : digB c = false := digB_no.2 (by omega)
          go_ret
          rw [HNo.out hno]
          exact left_no HQ.out (HT.out.trans (Step.drewN sb w1 _)) H1.out.pos hdc hB
      · obtain rfl : k = m := by omega
        have hv := val_19 hall hm19
        clear hall
        have HP := hid (i64_neg HQ.out HE.out HS.out HK.out hm19 HL.out (d := d))
        generalize val z (p + 1) k = u at *
        by_cases hle : u ≤ 9223372036854775808
        · go_wp2
          go_ret
          rw [HP.out, if_pos hle]
          rw [neg_wrap hv.1 hle]
          exact left_yes HQ.out (HT.out.trans (Step.drewN sb w1 _)) H1.out.pos hdc hB hB2 _
        · go_wp2
          go_ret
          rw [HP.out, if_neg (by omega)]
          exact left_no HQ.out (HT.out.trans (Step.drewN sb w1 _)) H1.out.pos hdc hB

set_option maxHeartbeats 2000000 in
theorem int64_pos {w : World} {B sb db : Nat} {ao : Option Addr} {n cap : Nat} {z : Nat → Int} {p : Nat} {d : Int} (h : Ctx w sb ao n cap z p) (hcap : n ≤ cap) (hd : w.cell? ⟨db, 0, none⟩ = some (.int .i64 d)) (hf : w.frozen? ⟨db, 0, none⟩ = false) (hne : db ≠ sb) (hB : B ≤ sb)
    (hB2 : B ≤ db) (hok : (numP z n p).2 = true) (hneg : (z p == 45) = false) :
    Calls Try.prog 30 #[.pointer (some ⟨sb, 0, none⟩), .pointer (some ⟨db, 0, none⟩)] w fun e w' => Left64 w B sb db (numP z n p).1 (i64P z n p d) e w' := by
  have hpos := h.pos
  have hb := num_ok h.ple hok
  have hsm := h.small
  have HC := hid h
  have HK := hid hok
  have HB := hid hb
  have HS : Hid (sgn z p = false) := hid (by exact hneg)
  have eb : beg z p = p := by simp [beg, HS.out]
  have HE := hid eb
  have HG := hid hneg
  rw [eb] at HB
  clear h hok hb eb
  go_enter Try.func30, Try.ntmps30
  go_wp2_with fail
  refine (number27 HC.out).mono ?_
  rintro e w1 ⟨rfl, hc, hst⟩
  rw [HK.out]
  have h1 := hc.line
  have h2 := hc.pos
  have H1 := hid hc
  clear hc
  generalize hq : (numP z n p).1 = q at *
  have HQ := hid hq
  clear hq
  obtain ⟨m, rfl⟩ : ∃ m, q = p + m := ⟨q - (p), by have := HB.out; omega⟩
  have hb := HB.out
  obtain ⟨b, off, rfl, hbne, hcell⟩ := H1.out.row p (by omega)
  skip
  have hm0 : 0 < m := by omega
  have hqn : p + m ≤ n := by omega
  have hcells : ∀ k, k < m → w1.cell? ⟨b, off + p + k, none⟩ = some (.int .u8 (z (p + k))) := by
    intro k hk
    obtain ⟨b', off', e, _, hx⟩ := H1.out.row (p + k) (by omega)
    cases e
    rw [show off + p + k = off + (p + k) by omega]
    exact hx
  have HX := hid hcells
  have HT := hid hst
  have hsz := hst.size
  clear hb hcells hst
  have em : p + m - p = m := by omega
  have hdc : w1.cell? ⟨db, 0, none⟩ = some (.int .i64 d) := (HT.out.cell hne).trans hd
  have hdf : w1.frozen? ⟨db, 0, none⟩ = false := (World.frozen?_of_block (w := w) (HT.out.heap db hne)).trans hf
  go_wp2_with fail
  go_quiet (fail)
  go_wp2_with fail
  · have e : i64P z n p d = (d, false) := i64_long HQ.out HE.out (by omega)
    go_ret
    rw [e]
    exact left_no HQ.out (HT.out.trans (Step.drewN sb w1 _)) H1.out.pos hdc hB
  · have hm19 : m ≤ 19 := by omega
    go_loop [8, 40] (fun v8 v40 => ∃ k : Nat, k ≤ m ∧ v40 = .int .i64 k ∧ v8 = .int .u64 (val z (p) k) ∧ allD z (p) k = true) (fun _ v40 => m - (intOf v40).toNat)
    case atStart => exact ⟨0, by omega, rfl, rfl, rfl⟩
    case round =>
      obtain ⟨k, hk, rfl, rfl, hall⟩ := hrel
      have HL := hid hall
      by_cases hlt : k < m
      · have hv := val_18 hall (by omega)
        have hck := HX.out k hlt
        clear hall
        have HV : Hid (val z (p) (k + 1) = val z (p) k * 10 + (z (p + k) - 48)) := hid rfl
        have HD : Hid (allD z (p) (k + 1) = (allD z (p) k && digB (z (p + k)))) := hid rfl
        have HNo : Hid (digB (z (p + k)) = false → i64P z n p d = (d, false)) := hid (fun h => i64_bad HQ.out HE.out hlt h)
        generalize z (p + k) = c at *
        generalize val z (p) k = u at *
        go_wp2
        · have hno : digB c = false := digB_no.2 (by omega)
          go_ret
          rw [HNo.out hno]
          exact left_no HQ.out (HT.out.trans (Step.drewN sb w1 _)) H1.out.pos hdc hB
        · have hyes : 48 ≤ c ∧ c ≤ 57 := by assumption
          go_round
          case rel => exact ⟨_, _, _, _, ⟨k + 1, by omega, by go_num, by rw [HV.out], by rw [HD.out, HL.out, digB_iff.2 hyes]; rfl⟩, rfl, rfl, rfl, rfl⟩
          case measure => simp [intOf]; omega
        · have hno : digB c = false := digB_no.2 (by omega)
          go_ret
          rw [HNo.out hno]
          exact left_no HQ.out (HT.out.trans (Step.drewN sb w1 _)) H1.out.pos hdc hB
      · obtain rfl : k = m := by omega
        have hv := val_19 hall hm19
        clear hall
        have HP := hid (i64_pos HQ.out HE.out HS.out HK.out hm19 HL.out (d := d))
        generalize val z (p) k = u at *
        by_cases hle : u < 9223372036854775808
        · go_wp2
          go_ret
          rw [HP.out, if_pos hle]
          skip
          exact left_yes HQ.out (HT.out.trans (Step.drewN sb w1 _)) H1.out.pos hdc hB hB2 _
        · go_wp2
          go_ret
          rw [HP.out, if_neg (by omega)]
          exact left_no HQ.out (HT.out.trans (Step.drewN sb w1 _)) H1.out.pos hdc hB

theorem int64_30 {w : World} {B sb db : Nat} {ao : Option Addr} {n cap : Nat} {z : Nat → Int} {p : Nat} {d : Int} (h : Ctx w sb ao n cap z p) (hcap : n ≤ cap) (hd : w.cell? ⟨db, 0, none⟩ = some (.int .i64 d)) (hf : w.frozen? ⟨db, 0, none⟩ = false) (hne : db ≠ sb) (hB : B ≤ sb)
    (hB2 : B ≤ db) :
    Calls Try.prog 30 #[.pointer (some ⟨sb, 0, none⟩), .pointer (some ⟨db, 0, none⟩)] w fun e w' => Left64 w B sb db (numP z n p).1 (i64P z n p d) e w' := by
  cases hok : (numP z n p).2 with
  | true =>
    cases hg : (z p == 45) with
    | true => exact int64_neg h hcap hd hf hne hB hB2 hok (eq_of_beq hg)
    | false => exact int64_pos h hcap hd hf hne hB hB2 hok hg
  | false => exact int64_no h hd hne hB hok

theorem ctx_alloc2 {w : World} {ao : Option Addr} {n : Nat} (cap : Nat) {z : Nat → Int} {p : Nat} (v2 v3 v4 : Value) (o : Obj) (h : RowOf w ao n z) (hs : (n : Int) ≤ 2097152) (hp : p ≤ n) :
    Ctx ((w.alloc (.cells #[.slice ao n cap, .int .i64 p, v2, v3, v4] 40)).alloc o) w.heap.size ao n cap z p := by
  have h1 := ctx_alloc cap v2 v3 v4 h hs hp
  have hb : Below (w.alloc (.cells #[.slice ao n cap, .int .i64 p, v2, v3, v4] 40)).heap.size (w.alloc (.cells #[.slice ao n cap, .int .i64 p, v2, v3, v4] 40)) ((w.alloc (.cells #[.slice ao n cap, .int .i64 p, v2, v3, v4] 40)).alloc o) :=
    (Below.refl _ _).alloc (Nat.le_refl _) _
  refine ⟨cell_later hb h1.line, cell_later hb h1.pos, (hb.frozen (by simp)).trans h1.frz, ?_, hs, hp⟩
  intro i hi
  obtain ⟨b, off, e, hne, hc⟩ := h1.row i hi
  exact ⟨b, off, e, hne, cell_later hb hc⟩

theorem zz19 {w : World} {ao : Option Addr} {n cap : Nat} {z : Nat → Int} {p : Nat} {d : Int} (h : RowOf w ao n z) (hs : (n : Int) ≤ 2097152) (hp : p ≤ n) (hcap : n ≤ cap) :
    Calls Try.prog 19 #[.slice ao n cap, .int .i64 p, .int .i64 d] w fun e w' => e = .returned (.tuple #[.int .i64 (i64P z n p d).1, .int .i64 (numP z n p).1, .bool (i64P z n p d).2]) ∧ Below w.heap.size w w' := by
  have HR := hid h
  clear h
  go_enter Try.func19, Try.ntmps19
  go_wp2_with fail
  refine (int64_30 (B := w.heap.size) (ctx_alloc2 cap _ _ _ _ HR.out hs hp) hcap (d := d) ?c1 ?c2 ?c3 (Nat.le_refl _) (Nat.le_succ _)).mono ?_
  case c1 => simp
  case c2 => simp
  case c3 => omega
  rintro e w1 ⟨rfl, hpos, hd, hb⟩
  have HB := hid (((Below.refl w.heap.size w).alloc (Nat.le_refl _) _).alloc (by simp) _ |>.trans hb)
  clear hb
  go_wp2_with fail
  go_quiet (fail)
  go_wp2
  go_ret3
  exact ⟨rfl, HB.out.trans (Step.drewN w.heap.size w1 _ |>.below (Nat.le_refl _))⟩

end Go.Proofs.Qxb6603012a
