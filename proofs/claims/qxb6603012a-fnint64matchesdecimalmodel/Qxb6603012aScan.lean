import Derived.Test.Qxb6603012aPre
import Derived.Deep.QuietTactic
import Derived.BigQuiet
namespace Go.Proofs.Qxb6603012a
open Go.ChangeShapes Go.WideShapes Go.ChangeAt Go.RowKit

/-- Does byte c come next at p? -/
def atP (z : Nat → Int) (n p : Nat) (c : Int) : Bool := decide (p < n) && (z p == c)
/-- Does a digit come next at p? -/
def dgP (z : Nat → Int) (n p : Nat) : Bool := decide (p < n) && (decide (48 ≤ z p) && decide (z p ≤ 57))

/-- A scanner lies in block sb, over the row z of n bytes, at p. -/
structure Ctx (w : World) (sb : Nat) (ao : Option Addr) (n cap : Nat) (z : Nat → Int) (p : Nat) : Prop where
  line : w.cell? ⟨sb, 0, none⟩ = some (.slice ao n cap)
  pos : w.cell? ⟨sb, 1, none⟩ = some (.int .i64 p)
  frz : w.frozen? ⟨sb, 1, none⟩ = false
  row : ∀ i, i < n → ∃ b off, ao = some ⟨b, off, none⟩ ∧ b ≠ sb ∧ w.cell? ⟨b, off + i, none⟩ = some (.int .u8 (z i))
  small : (n : Int) ≤ 2097152
  ple : p ≤ n

theorem at34 {w : World} {sb : Nat} {ao : Option Addr} {n cap : Nat} {z : Nat → Int} {p : Nat} (c : Int) (h : Ctx w sb ao n cap z p) :
    Calls Try.prog 34 #[.pointer (some ⟨sb, 0, none⟩), .int .u8 c] w fun e w' => e = .returned (.bool (atP z n p c)) ∧ ∃ k, w' = w.drewN k := by
  have hl := h.line
  have hp := h.pos
  have hs := h.small
  have hq := h.ple
  by_cases hlt : p < n
  · obtain ⟨b, off, rfl, hb, hc⟩ := h.row p hlt
    have hlt' : (p : Int) < (n : Int) := by omega
    have e : atP z n p c = (z p == c) := by simp [atP, hlt]
    have E := hid e
    clear h e
    go_enter Try.func34, Try.ntmps34
    go_wp2_with fail
    go_quiet (fail)
    go_wp2
    go_ret
    rw [E.out]
    exact ⟨rfl, nq, rfl⟩
  · have hd : decide ((p : Int) < (n : Int)) = false := by simp; omega
    have e : atP z n p c = false := by simp [atP, hlt]
    have E := hid e
    clear h e
    go_enter Try.func34, Try.ntmps34
    go_wp2_with fail
    go_quiet (fail)
    go_wp2
    go_ret
    rw [E.out]
    exact ⟨rfl, nq, rfl⟩

theorem atDigit35 {w : World} {sb : Nat} {ao : Option Addr} {n cap : Nat} {z : Nat → Int} {p : Nat} (h : Ctx w sb ao n cap z p) :
    Calls Try.prog 35 #[.pointer (some ⟨sb, 0, none⟩)] w fun e w' => e = .returned (.bool (dgP z n p)) ∧ ∃ k, w' = w.drewN k := by
  have hl := h.line
  have hp := h.pos
  have hs := h.small
  have hq := h.ple
  by_cases hlt : p < n
  · obtain ⟨b, off, rfl, hb, hc⟩ := h.row p hlt
    have hlt' : (p : Int) < (n : Int) := by omega
    by_cases h48 : 48 ≤ z p
    · have e : dgP z n p = decide (z p ≤ 57) := by simp [dgP, hlt, h48]
      have E := hid e
      clear h e
      go_enter Try.func35, Try.ntmps35
      go_wp2_with fail
      go_quiet (fail)
      go_wp2
      go_ret
      rw [E.out]
      exact ⟨rfl, nq, rfl⟩
    · have hd : decide (48 ≤ z p) = false := by simp; omega
      have e : dgP z n p = false := by simp [dgP, hd]
      have E := hid e
      clear h e
      go_enter Try.func35, Try.ntmps35
      go_wp2_with fail
      go_quiet (fail)
      go_wp2
      go_ret
      rw [E.out]
      exact ⟨rfl, nq, rfl⟩
  · have hd : decide ((p : Int) < (n : Int)) = false := by simp; omega
    have e : dgP z n p = false := by simp [dgP, hlt]
    have E := hid e
    clear h e
    go_enter Try.func35, Try.ntmps35
    go_wp2_with fail
    go_quiet (fail)
    go_wp2
    go_ret
    rw [E.out]
    exact ⟨rfl, nq, rfl⟩

/-- What a method of the scanner leaves: nothing but its own block may have turned. -/
structure Step (sb : Nat) (w w' : World) : Prop where
  os : w'.os = w.os
  tape : w'.tape = w.tape
  output : w'.output = w.output
  size : w'.heap.size = w.heap.size
  heap : ∀ b, b ≠ sb → w'.heap[b]? = w.heap[b]?

theorem Step.trans {sb : Nat} {a b c : World} (h : Step sb a b) (k : Step sb b c) : Step sb a c :=
  ⟨k.os.trans h.os, k.tape.trans h.tape, k.output.trans h.output, k.size.trans h.size, fun i hi => (k.heap i hi).trans (h.heap i hi)⟩
theorem Step.drewN (sb : Nat) (w : World) (k : Nat) : Step sb w (w.drewN k) := ⟨rfl, rfl, rfl, rfl, fun _ _ => rfl⟩
theorem Step.refl (sb : Nat) (w : World) : Step sb w w := ⟨rfl, rfl, rfl, rfl, fun _ _ => rfl⟩
theorem Step.setCell {sb : Nat} {w w' : World} (h : Step sb w w') (o : Nat) (v : Value) : Step sb w (w'.setCell ⟨sb, o, none⟩ v) :=
  h.trans ⟨rfl, rfl, rfl, by simp [World.setCell], fun b hb => Below.heap_setCell _ _ _ _ hb⟩
theorem Step.below {sb B : Nat} {w w' : World} (h : Step sb w w') (hB : B ≤ sb) : Below B w w' :=
  ⟨h.os, h.tape, h.output, by rw [h.size]; exact Nat.le_refl _, fun k hk => h.heap k (by omega)⟩
theorem Step.cell {sb : Nat} {w w' : World} (h : Step sb w w') {p : Addr} (hp : p.block ≠ sb) : w'.cell? p = w.cell? p := World.cell?_of_block (w := w) (h.heap p.block hp)

theorem Ctx.drewN {w : World} {sb : Nat} {ao : Option Addr} {n cap : Nat} {z : Nat → Int} {p : Nat} (h : Ctx w sb ao n cap z p) (k : Nat) : Ctx (w.drewN k) sb ao n cap z p :=
  ⟨h.line, h.pos, h.frz, h.row, h.small, h.ple⟩

theorem Ctx.moved {w : World} {sb : Nat} {ao : Option Addr} {n cap : Nat} {z : Nat → Int} {p : Nat} (h : Ctx w sb ao n cap z p) (q : Nat) (hq : q ≤ n) : Ctx (w.setCell ⟨sb, 1, none⟩ (.int .i64 q)) sb ao n cap z q := by
  refine ⟨?_, ?_, ?_, ?_, h.small, hq⟩
  · rw [World.cell?_setCell_other _ _ _ _ (by simp)]; exact h.line
  · exact World.cell?_setCell_same _ _ _ h.pos
  · have := h.frz; simp [this]
  · intro i hi
    obtain ⟨b, off, e, hb, hc⟩ := h.row i hi
    exact ⟨b, off, e, hb, by rw [World.cell?_of_block (Below.heap_setCell w ⟨sb, 1, none⟩ _ b hb)]; exact hc⟩

theorem skip32 {w : World} {sb : Nat} {ao : Option Addr} {n cap : Nat} {z : Nat → Int} {p : Nat} (c : Int) (h : Ctx w sb ao n cap z p) :
    Calls Try.prog 32 #[.pointer (some ⟨sb, 0, none⟩), .int .u8 c] w fun e w' => e = .returned (.bool (atP z n p c)) ∧ Ctx w' sb ao n cap z (if atP z n p c then p + 1 else p) ∧ Step sb w w' := by
  have hp := h.pos
  have hf := h.frz
  have hs := h.small
  have hq := h.ple
  have HC := hid h
  cases ha : atP z n p c with
  | true =>
    have hlt : p < n := by simp [atP] at ha; exact ha.1
    have hat := at34 c h
    rw [ha] at hat
    clear ha h
    go_enter Try.func32, Try.ntmps32
    go_wp2_with (go_at_call 34; refine hat.mono ?_; rintro e w' ⟨rfl, k, rfl⟩)
    go_ret
    have hm := (HC.out.drewN k).moved (p + 1) (by omega)
    rw [show (((p + 1 : Nat)) : Int) = (p : Int) + 1 by omega] at hm
    exact ⟨rfl, hm, (Step.drewN sb w k).setCell _ _⟩
  | false =>
    have hat := at34 c h
    rw [ha] at hat
    clear ha h
    go_enter Try.func32, Try.ntmps32
    go_wp2_with (go_at_call 34; refine hat.mono ?_; rintro e w' ⟨rfl, k, rfl⟩)
    go_ret
    exact ⟨rfl, HC.out.drewN k, Step.drewN sb w k⟩

/-- Where the digits that begin at p end. -/
def dEnd (z : Nat → Int) (n : Nat) : Nat → Nat → Nat
  | 0, p => p
  | f + 1, p => if dgP z n p then dEnd z n f (p + 1) else p
def dE (z : Nat → Int) (n p : Nat) : Nat := dEnd z n (n - p) p

theorem dgP_lt {z : Nat → Int} {n p : Nat} (h : dgP z n p = true) : p < n ∧ 48 ≤ z p ∧ z p ≤ 57 := by simpa [dgP] using h
theorem dE_yes {z : Nat → Int} {n p : Nat} (h : dgP z n p = true) : dE z n p = dE z n (p + 1) := by
  have hlt := (dgP_lt h).1
  unfold dE
  rw [show n - p = (n - (p + 1)) + 1 by omega]
  simp only [dEnd, h, if_true]
theorem dE_no {z : Nat → Int} {n p : Nat} (h : dgP z n p = false) : dE z n p = p := by
  unfold dE
  cases n - p with
  | zero => rfl
  | succ f => simp only [dEnd, h]; rfl
theorem dE_le (z : Nat → Int) (n p : Nat) (h : p ≤ n) : p ≤ dE z n p ∧ dE z n p ≤ n ∧ dgP z n (dE z n p) = false ∧ ∀ j, p ≤ j → j < dE z n p → dgP z n j = true := by
  generalize hk : n - p = k
  induction k generalizing p with
  | zero =>
    have e : p = n := by omega
    have hd : dgP z n p = false := by simp [dgP, e]
    rw [dE_no hd]
    exact ⟨Nat.le_refl _, h, hd, fun j h1 h2 => by omega⟩
  | succ k ih =>
    cases hd : dgP z n p with
    | true =>
      rw [dE_yes hd]
      obtain ⟨a, b, c, d⟩ := ih (p + 1) (by omega) (by omega)
      refine ⟨by omega, b, c, fun j h1 h2 => ?_⟩
      by_cases e : j = p
      · rw [e]; exact hd
      · exact d j (by omega) h2
    | false =>
      rw [dE_no hd]
      exact ⟨Nat.le_refl _, h, hd, fun j h1 h2 => by omega⟩

def posOf (sb : Nat) (w : World) : Nat := match w.cell? ⟨sb, 1, none⟩ with | some (.int _ q) => q.toNat | _ => 0
theorem Ctx.posOf {w : World} {sb : Nat} {ao : Option Addr} {n cap : Nat} {z : Nat → Int} {p : Nat} (h : Ctx w sb ao n cap z p) : Qxb6603012a.posOf sb w = p := by
  simp [Qxb6603012a.posOf, h.pos]

theorem digits33 {w : World} {sb : Nat} {ao : Option Addr} {n cap : Nat} {z : Nat → Int} {p : Nat} (h : Ctx w sb ao n cap z p) :
    Calls Try.prog 33 #[.pointer (some ⟨sb, 0, none⟩)] w fun e w' => e = .returned (.bool (decide (p < dE z n p))) ∧ Ctx w' sb ao n cap z (dE z n p) ∧ Step sb w w' := by
  have hp := h.pos
  have HC := hid h
  clear h
  go_enter Try.func33, Try.ntmps33
  go_wp2
  go_loopw [9] (fun _ wr => ∃ q, Ctx wr sb ao n cap z q ∧ Step sb w wr ∧ dE z n q = dE z n p) (fun _ wr => n - posOf sb wr)
  case atStart => exact ⟨p, HC.out, Step.refl _ _, rfl⟩
  case round =>
    obtain ⟨q, hc, hst, hq⟩ := hrel
    have hat := atDigit35 hc
    have hp2 := hc.pos
    have hf2 := hc.frz
    have hs2 := hc.small
    have hl2 := hc.ple
    have HC2 := hid hc
    have HQ := hid hq
    clear hc hq hp
    cases hd : dgP z n q with
    | true =>
      rw [hd] at hat
      have HD := hid hd
      clear hd
      go_wp2_with (go_at_call 35; refine hat.mono ?_; rintro e w' ⟨rfl, k, rfl⟩)
      have hlt := (dgP_lt HD.out).1
      have hm := (HC2.out.drewN k).moved (q + 1) (by omega)
      rw [show (((q + 1 : Nat)) : Int) = (q : Int) + 1 by omega] at hm
      refine ⟨⟨q + 1, hm, (hst.trans (Step.drewN sb wr k)).setCell _ _, ?_⟩, ?_⟩
      · rw [← HQ.out, dE_yes HD.out]
      · rw [hm.posOf, HC2.out.posOf]; omega
    | false =>
      rw [hd] at hat
      have HD := hid hd
      clear hd
      go_wp2_with (go_at_call 35; refine hat.mono ?_; rintro e w' ⟨rfl, k, rfl⟩)
      go_ret
      have hq := dE_no HD.out
      rw [HQ.out] at hq
      rw [hq]
      exact ⟨rfl, HC2.out.drewN k, hst.trans (Step.drewN sb wr k)⟩

/-- The exponent, if there is one, behind q. -/
def part3 (z : Nat → Int) (n q : Nat) : Nat × Bool :=
  if atP z n q 101 || atP z n q 69 then
    (dE z n (if atP z n (q + 1) 43 then q + 2 else if atP z n (q + 1) 45 then q + 2 else q + 1),
      decide ((if atP z n (q + 1) 43 then q + 2 else if atP z n (q + 1) 45 then q + 2 else q + 1) < dE z n (if atP z n (q + 1) 43 then q + 2 else if atP z n (q + 1) 45 then q + 2 else q + 1)))
  else (q, true)
/-- The fraction, if there is one, behind q. -/
def part2 (z : Nat → Int) (n q : Nat) : Nat × Bool :=
  if atP z n q 46 then (if q + 1 < dE z n (q + 1) then part3 z n (dE z n (q + 1)) else (dE z n (q + 1), false)) else part3 z n q
/-- The integer at q. -/
def part1 (z : Nat → Int) (n q : Nat) : Nat × Bool :=
  if atP z n q 48 then part2 z n (q + 1) else if q < dE z n q then part2 z n (dE z n q) else (dE z n q, false)
/-- What 'number' does at p: where it stops, and its answer. -/
def numP (z : Nat → Int) (n p : Nat) : Nat × Bool := part1 z n (if atP z n p 45 then p + 1 else p)

/-- What a call on the scanner leaves, at a wanted end. -/
def Ends (w : World) (sb : Nat) (ao : Option Addr) (n cap : Nat) (z : Nat → Int) (r : Nat × Bool) (e : Ending) (w' : World) : Prop :=
  e = .returned (.bool r.2) ∧ Ctx w' sb ao n cap z r.1 ∧ Step sb w w'

theorem p3_no {z : Nat → Int} {n q : Nat} (h1 : atP z n q 101 = false) (h2 : atP z n q 69 = false) : part3 z n q = (q, true) := by
  simp [part3, h1, h2]
theorem p3_plus {z : Nat → Int} {n q : Nat} (h : (atP z n q 101 || atP z n q 69) = true) (hp : atP z n (q + 1) 43 = true) : part3 z n q = (dE z n (q + 2), decide (q + 2 < dE z n (q + 2))) := by
  simp only [part3, h, hp, if_true]
theorem p3_else {z : Nat → Int} {n q : Nat} (h : (atP z n q 101 || atP z n q 69) = true) (hp : atP z n (q + 1) 43 = false) : part3 z n q = (dE z n (if atP z n (q + 1) 45 then q + 2 else q + 1), decide ((if atP z n (q + 1) 45 then q + 2 else q + 1) < dE z n (if atP z n (q + 1) 45 then q + 2 else q + 1))) := by
  simp only [part3, h, hp, if_true]; rfl
theorem p2_no {z : Nat → Int} {n q : Nat} (h : atP z n q 46 = false) : part2 z n q = part3 z n q := by simp [part2, h]
theorem p2_yes {z : Nat → Int} {n q : Nat} (h : atP z n q 46 = true) (hd : decide (q + 1 < dE z n (q + 1)) = true) : part2 z n q = part3 z n (dE z n (q + 1)) := by
  simp only [part2, h, if_true, if_pos (of_decide_eq_true hd)]
theorem p2_bad {z : Nat → Int} {n q : Nat} (h : atP z n q 46 = true) (hd : decide (q + 1 < dE z n (q + 1)) = false) : part2 z n q = (dE z n (q + 1), false) := by
  simp only [part2, h, if_true, if_neg (of_decide_eq_false hd)]
theorem p1_zero {z : Nat → Int} {n q : Nat} (h : atP z n q 48 = true) : part1 z n q = part2 z n (q + 1) := by simp [part1, h]
theorem p1_yes {z : Nat → Int} {n q : Nat} (h : atP z n q 48 = false) (hd : decide (q < dE z n q) = true) : part1 z n q = part2 z n (dE z n q) := by
  simp only [part1, h, if_pos (of_decide_eq_true hd)]; rfl
theorem p1_bad {z : Nat → Int} {n q : Nat} (h : atP z n q 48 = false) (hd : decide (q < dE z n q) = false) : part1 z n q = (dE z n q, false) := by
  simp only [part1, h, if_neg (of_decide_eq_false hd)]; rfl

theorem ends_of {w : World} {sb : Nat} {ao : Option Addr} {n cap : Nat} {z : Nat → Int} {r r' : Nat × Bool} {e : Ending} {w' : World} (h : r = r') (he : e = .returned (.bool r'.2)) (hc : Ctx w' sb ao n cap z r'.1) (hs : Step sb w w') : Ends w sb ao n cap z r e w' := by
  subst h; exact ⟨he, hc, hs⟩

set_option maxHeartbeats 4000000 in
theorem number27 {w : World} {sb : Nat} {ao : Option Addr} {n cap : Nat} {z : Nat → Int} {p : Nat} (h : Ctx w sb ao n cap z p) :
    Calls Try.prog 27 #[.pointer (some ⟨sb, 0, none⟩)] w fun e w' => Ends w sb ao n cap z (numP z n p) e w' := by
  go_enter Try.func27, Try.ntmps27
  go_wp2_with fail
  refine (skip32 45 h).mono ?_
  rintro e w1 ⟨rfl, h1, s1⟩
  have E1 : Hid (numP z n p = part1 z n (if atP z n p 45 then p + 1 else p)) := hid rfl
  generalize (if atP z n p 45 then p + 1 else p) = p1 at *
  generalize atP z n p 45 = b1
  go_wp2_with fail
  refine (skip32 48 h1).mono ?_
  rintro e w2 ⟨rfl, h2, s2⟩
  cases c2 : atP z n p1 48 with
  | true =>
    rw [if_pos c2] at h2
    have E2 := hid (E1.out.trans (p1_zero c2))
    clear c2
    generalize p1 + 1 = q at *
    go_wp2_with fail
    refine (skip32 46 h2).mono ?_
    rintro e w3 ⟨rfl, h3, s3⟩
    cases c3 : atP z n q 46 with
    | true =>
      rw [if_pos c3] at h3
      go_wp2_with fail
      refine (digits33 h3).mono ?_
      rintro e wd ⟨rfl, hd, sd⟩
      cases cd : decide (q + 1 < dE z n (q + 1)) with
      | true =>
        have Ed := hid (E2.out.trans (p2_yes c3 cd))
        clear c3 cd
        generalize dE z n (q + 1) = q at *
        go_wp2_with fail
        refine (skip32 101 hd).mono ?_
        rintro e w4 ⟨rfl, h4, s4⟩
        cases c4 : atP z n q 101 with
        | true =>
          rw [if_pos c4] at h4
          have HX : Hid ((atP z n q 101 || atP z n q 69) = true) := hid (by rw [c4]; rfl)
          go_wp2_with fail
          refine (skip32 43 h4).mono ?_
          rintro e w6 ⟨rfl, h6, s6⟩
          cases c6 : atP z n (q + 1) 43 with
          | true =>
            rw [if_pos c6] at h6
            go_wp2_with fail
            refine (digits33 h6).mono ?_
            rintro e w7 ⟨rfl, h7, s7⟩
            go_wp2
            go_ret
            exact ends_of (Ed.out.trans (p3_plus HX.out c6)) rfl h7 ((((((s1.trans s2).trans s3).trans sd).trans s4).trans s6).trans s7)
          | false =>
            rw [if_neg (by simp [c6])] at h6
            go_wp2_with fail
            refine (skip32 45 h6).mono ?_
            rintro e w7 ⟨rfl, h7, s7⟩
            have E7 := hid (Ed.out.trans (p3_else HX.out c6))
            generalize (if atP z n (q + 1) 45 then q + 1 + 1 else q + 1) = r at *
            generalize atP z n (q + 1) 45 = b7
            go_wp2_with fail
            refine (digits33 h7).mono ?_
            rintro e w8 ⟨rfl, h8, s8⟩
            go_wp2
            go_ret
            exact ends_of E7.out rfl h8 (((((((s1.trans s2).trans s3).trans sd).trans s4).trans s6).trans s7).trans s8)
        | false =>
          rw [if_neg (by simp [c4])] at h4
          go_wp2_with fail
          refine (skip32 69 h4).mono ?_
          rintro e w5 ⟨rfl, h5, s5⟩
          cases c5 : atP z n q 69 with
          | true =>
            rw [if_pos c5] at h5
            have HX : Hid ((atP z n q 101 || atP z n q 69) = true) := hid (by rw [c4, c5]; rfl)
            go_wp2_with fail
            refine (skip32 43 h5).mono ?_
            rintro e w6 ⟨rfl, h6, s6⟩
            cases c6 : atP z n (q + 1) 43 with
            | true =>
              rw [if_pos c6] at h6
              go_wp2_with fail
              refine (digits33 h6).mono ?_
              rintro e w7 ⟨rfl, h7, s7⟩
              go_wp2
              go_ret
              exact ends_of (Ed.out.trans (p3_plus HX.out c6)) rfl h7 (((((((s1.trans s2).trans s3).trans sd).trans s4).trans s5).trans s6).trans s7)
            | false =>
              rw [if_neg (by simp [c6])] at h6
              go_wp2_with fail
              refine (skip32 45 h6).mono ?_
              rintro e w7 ⟨rfl, h7, s7⟩
              have E7 := hid (Ed.out.trans (p3_else HX.out c6))
              generalize (if atP z n (q + 1) 45 then q + 1 + 1 else q + 1) = r at *
              generalize atP z n (q + 1) 45 = b7
              go_wp2_with fail
              refine (digits33 h7).mono ?_
              rintro e w8 ⟨rfl, h8, s8⟩
              go_wp2
              go_ret
              exact ends_of E7.out rfl h8 ((((((((s1.trans s2).trans s3).trans sd).trans s4).trans s5).trans s6).trans s7).trans s8)
          | false =>
            rw [if_neg (by simp [c5])] at h5
            go_wp2
            go_ret
            exact ends_of (Ed.out.trans (p3_no c4 c5)) rfl h5 (((((s1.trans s2).trans s3).trans sd).trans s4).trans s5)
      | false =>
        go_wp2
        go_ret
        exact ends_of (E2.out.trans (p2_bad c3 cd)) rfl hd (((s1.trans s2).trans s3).trans sd)
    | false =>
      rw [if_neg (by simp [c3])] at h3
      have Ed := hid (E2.out.trans (p2_no c3))
      go_wp2_with fail
      refine (skip32 101 h3).mono ?_
      rintro e w4 ⟨rfl, h4, s4⟩
      cases c4 : atP z n q 101 with
      | true =>
        rw [if_pos c4] at h4
        have HX : Hid ((atP z n q 101 || atP z n q 69) = true) := hid (by rw [c4]; rfl)
        go_wp2_with fail
        refine (skip32 43 h4).mono ?_
        rintro e w6 ⟨rfl, h6, s6⟩
        cases c6 : atP z n (q + 1) 43 with
        | true =>
          rw [if_pos c6] at h6
          go_wp2_with fail
          refine (digits33 h6).mono ?_
          rintro e w7 ⟨rfl, h7, s7⟩
          go_wp2
          go_ret
          exact ends_of (Ed.out.trans (p3_plus HX.out c6)) rfl h7 (((((s1.trans s2).trans s3).trans s4).trans s6).trans s7)
        | false =>
          rw [if_neg (by simp [c6])] at h6
          go_wp2_with fail
          refine (skip32 45 h6).mono ?_
          rintro e w7 ⟨rfl, h7, s7⟩
          have E7 := hid (Ed.out.trans (p3_else HX.out c6))
          generalize (if atP z n (q + 1) 45 then q + 1 + 1 else q + 1) = r at *
          generalize atP z n (q + 1) 45 = b7
          go_wp2_with fail
          refine (digits33 h7).mono ?_
          rintro e w8 ⟨rfl, h8, s8⟩
          go_wp2
          go_ret
          exact ends_of E7.out rfl h8 ((((((s1.trans s2).trans s3).trans s4).trans s6).trans s7).trans s8)
      | false =>
        rw [if_neg (by simp [c4])] at h4
        go_wp2_with fail
        refine (skip32 69 h4).mono ?_
        rintro e w5 ⟨rfl, h5, s5⟩
        cases c5 : atP z n q 69 with
        | true =>
          rw [if_pos c5] at h5
          have HX : Hid ((atP z n q 101 || atP z n q 69) = true) := hid (by rw [c4, c5]; rfl)
          go_wp2_with fail
          refine (skip32 43 h5).mono ?_
          rintro e w6 ⟨rfl, h6, s6⟩
          cases c6 : atP z n (q + 1) 43 with
          | true =>
            rw [if_pos c6] at h6
            go_wp2_with fail
            refine (digits33 h6).mono ?_
            rintro e w7 ⟨rfl, h7, s7⟩
            go_wp2
            go_ret
            exact ends_of (Ed.out.trans (p3_plus HX.out c6)) rfl h7 ((((((s1.trans s2).trans s3).trans s4).trans s5).trans s6).trans s7)
          | false =>
            rw [if_neg (by simp [c6])] at h6
            go_wp2_with fail
            refine (skip32 45 h6).mono ?_
            rintro e w7 ⟨rfl, h7, s7⟩
            have E7 := hid (Ed.out.trans (p3_else HX.out c6))
            generalize (if atP z n (q + 1) 45 then q + 1 + 1 else q + 1) = r at *
            generalize atP z n (q + 1) 45 = b7
            go_wp2_with fail
            refine (digits33 h7).mono ?_
            rintro e w8 ⟨rfl, h8, s8⟩
            go_wp2
            go_ret
            exact ends_of E7.out rfl h8 (((((((s1.trans s2).trans s3).trans s4).trans s5).trans s6).trans s7).trans s8)
        | false =>
          rw [if_neg (by simp [c5])] at h5
          go_wp2
          go_ret
          exact ends_of (Ed.out.trans (p3_no c4 c5)) rfl h5 ((((s1.trans s2).trans s3).trans s4).trans s5)
  | false =>
    rw [if_neg (by simp [c2])] at h2
    go_wp2_with fail
    refine (digits33 h2).mono ?_
    rintro e w2d ⟨rfl, h2d, s2d⟩
    cases c2d : decide (p1 < dE z n p1) with
    | true =>
      have E2 := hid (E1.out.trans (p1_yes c2 c2d))
      clear c2 c2d
      generalize dE z n p1 = q at *
      go_wp2_with fail
      refine (skip32 46 h2d).mono ?_
      rintro e w3 ⟨rfl, h3, s3⟩
      cases c3 : atP z n q 46 with
      | true =>
        rw [if_pos c3] at h3
        go_wp2_with fail
        refine (digits33 h3).mono ?_
        rintro e wd ⟨rfl, hd, sd⟩
        cases cd : decide (q + 1 < dE z n (q + 1)) with
        | true =>
          have Ed := hid (E2.out.trans (p2_yes c3 cd))
          clear c3 cd
          generalize dE z n (q + 1) = q at *
          go_wp2_with fail
          refine (skip32 101 hd).mono ?_
          rintro e w4 ⟨rfl, h4, s4⟩
          cases c4 : atP z n q 101 with
          | true =>
            rw [if_pos c4] at h4
            have HX : Hid ((atP z n q 101 || atP z n q 69) = true) := hid (by rw [c4]; rfl)
            go_wp2_with fail
            refine (skip32 43 h4).mono ?_
            rintro e w6 ⟨rfl, h6, s6⟩
            cases c6 : atP z n (q + 1) 43 with
            | true =>
              rw [if_pos c6] at h6
              go_wp2_with fail
              refine (digits33 h6).mono ?_
              rintro e w7 ⟨rfl, h7, s7⟩
              go_wp2
              go_ret
              exact ends_of (Ed.out.trans (p3_plus HX.out c6)) rfl h7 (((((((s1.trans s2).trans s2d).trans s3).trans sd).trans s4).trans s6).trans s7)
            | false =>
              rw [if_neg (by simp [c6])] at h6
              go_wp2_with fail
              refine (skip32 45 h6).mono ?_
              rintro e w7 ⟨rfl, h7, s7⟩
              have E7 := hid (Ed.out.trans (p3_else HX.out c6))
              generalize (if atP z n (q + 1) 45 then q + 1 + 1 else q + 1) = r at *
              generalize atP z n (q + 1) 45 = b7
              go_wp2_with fail
              refine (digits33 h7).mono ?_
              rintro e w8 ⟨rfl, h8, s8⟩
              go_wp2
              go_ret
              exact ends_of E7.out rfl h8 ((((((((s1.trans s2).trans s2d).trans s3).trans sd).trans s4).trans s6).trans s7).trans s8)
          | false =>
            rw [if_neg (by simp [c4])] at h4
            go_wp2_with fail
            refine (skip32 69 h4).mono ?_
            rintro e w5 ⟨rfl, h5, s5⟩
            cases c5 : atP z n q 69 with
            | true =>
              rw [if_pos c5] at h5
              have HX : Hid ((atP z n q 101 || atP z n q 69) = true) := hid (by rw [c4, c5]; rfl)
              go_wp2_with fail
              refine (skip32 43 h5).mono ?_
              rintro e w6 ⟨rfl, h6, s6⟩
              cases c6 : atP z n (q + 1) 43 with
              | true =>
                rw [if_pos c6] at h6
                go_wp2_with fail
                refine (digits33 h6).mono ?_
                rintro e w7 ⟨rfl, h7, s7⟩
                go_wp2
                go_ret
                exact ends_of (Ed.out.trans (p3_plus HX.out c6)) rfl h7 ((((((((s1.trans s2).trans s2d).trans s3).trans sd).trans s4).trans s5).trans s6).trans s7)
              | false =>
                rw [if_neg (by simp [c6])] at h6
                go_wp2_with fail
                refine (skip32 45 h6).mono ?_
                rintro e w7 ⟨rfl, h7, s7⟩
                have E7 := hid (Ed.out.trans (p3_else HX.out c6))
                generalize (if atP z n (q + 1) 45 then q + 1 + 1 else q + 1) = r at *
                generalize atP z n (q + 1) 45 = b7
                go_wp2_with fail
                refine (digits33 h7).mono ?_
                rintro e w8 ⟨rfl, h8, s8⟩
                go_wp2
                go_ret
                exact ends_of E7.out rfl h8 (((((((((s1.trans s2).trans s2d).trans s3).trans sd).trans s4).trans s5).trans s6).trans s7).trans s8)
            | false =>
              rw [if_neg (by simp [c5])] at h5
              go_wp2
              go_ret
              exact ends_of (Ed.out.trans (p3_no c4 c5)) rfl h5 ((((((s1.trans s2).trans s2d).trans s3).trans sd).trans s4).trans s5)
        | false =>
          go_wp2
          go_ret
          exact ends_of (E2.out.trans (p2_bad c3 cd)) rfl hd ((((s1.trans s2).trans s2d).trans s3).trans sd)
      | false =>
        rw [if_neg (by simp [c3])] at h3
        have Ed := hid (E2.out.trans (p2_no c3))
        go_wp2_with fail
        refine (skip32 101 h3).mono ?_
        rintro e w4 ⟨rfl, h4, s4⟩
        cases c4 : atP z n q 101 with
        | true =>
          rw [if_pos c4] at h4
          have HX : Hid ((atP z n q 101 || atP z n q 69) = true) := hid (by rw [c4]; rfl)
          go_wp2_with fail
          refine (skip32 43 h4).mono ?_
          rintro e w6 ⟨rfl, h6, s6⟩
          cases c6 : atP z n (q + 1) 43 with
          | true =>
            rw [if_pos c6] at h6
            go_wp2_with fail
            refine (digits33 h6).mono ?_
            rintro e w7 ⟨rfl, h7, s7⟩
            go_wp2
            go_ret
            exact ends_of (Ed.out.trans (p3_plus HX.out c6)) rfl h7 ((((((s1.trans s2).trans s2d).trans s3).trans s4).trans s6).trans s7)
          | false =>
            rw [if_neg (by simp [c6])] at h6
            go_wp2_with fail
            refine (skip32 45 h6).mono ?_
            rintro e w7 ⟨rfl, h7, s7⟩
            have E7 := hid (Ed.out.trans (p3_else HX.out c6))
            generalize (if atP z n (q + 1) 45 then q + 1 + 1 else q + 1) = r at *
            generalize atP z n (q + 1) 45 = b7
            go_wp2_with fail
            refine (digits33 h7).mono ?_
            rintro e w8 ⟨rfl, h8, s8⟩
            go_wp2
            go_ret
            exact ends_of E7.out rfl h8 (((((((s1.trans s2).trans s2d).trans s3).trans s4).trans s6).trans s7).trans s8)
        | false =>
          rw [if_neg (by simp [c4])] at h4
          go_wp2_with fail
          refine (skip32 69 h4).mono ?_
          rintro e w5 ⟨rfl, h5, s5⟩
          cases c5 : atP z n q 69 with
          | true =>
            rw [if_pos c5] at h5
            have HX : Hid ((atP z n q 101 || atP z n q 69) = true) := hid (by rw [c4, c5]; rfl)
            go_wp2_with fail
            refine (skip32 43 h5).mono ?_
            rintro e w6 ⟨rfl, h6, s6⟩
            cases c6 : atP z n (q + 1) 43 with
            | true =>
              rw [if_pos c6] at h6
              go_wp2_with fail
              refine (digits33 h6).mono ?_
              rintro e w7 ⟨rfl, h7, s7⟩
              go_wp2
              go_ret
              exact ends_of (Ed.out.trans (p3_plus HX.out c6)) rfl h7 (((((((s1.trans s2).trans s2d).trans s3).trans s4).trans s5).trans s6).trans s7)
            | false =>
              rw [if_neg (by simp [c6])] at h6
              go_wp2_with fail
              refine (skip32 45 h6).mono ?_
              rintro e w7 ⟨rfl, h7, s7⟩
              have E7 := hid (Ed.out.trans (p3_else HX.out c6))
              generalize (if atP z n (q + 1) 45 then q + 1 + 1 else q + 1) = r at *
              generalize atP z n (q + 1) 45 = b7
              go_wp2_with fail
              refine (digits33 h7).mono ?_
              rintro e w8 ⟨rfl, h8, s8⟩
              go_wp2
              go_ret
              exact ends_of E7.out rfl h8 ((((((((s1.trans s2).trans s2d).trans s3).trans s4).trans s5).trans s6).trans s7).trans s8)
          | false =>
            rw [if_neg (by simp [c5])] at h5
            go_wp2
            go_ret
            exact ends_of (Ed.out.trans (p3_no c4 c5)) rfl h5 (((((s1.trans s2).trans s2d).trans s3).trans s4).trans s5)
    | false =>
      go_wp2
      go_ret
      exact ends_of (E1.out.trans (p1_bad c2 c2d)) rfl h2d ((s1.trans s2).trans s2d)

end Go.Proofs.Qxb6603012a
