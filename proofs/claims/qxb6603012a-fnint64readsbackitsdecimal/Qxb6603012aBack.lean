import Derived.Test.Qxb6603012aDec
namespace Go.Proofs.Qxb6603012a
open Go.ChangeShapes Go.WideShapes Go.ChangeAt Go.RowKit

/-- A slice of bytes that came in. -/
structure Arg (w : World) (ao : Option Addr) (len cap : Nat) (A : List Int) : Prop where
  alen : A.length = len
  anil : ao = none → len = 0 ∧ cap = 0
  acells : ∀ ad, ao = some ad → ∀ j u, (A.map (Value.int .u8))[j]? = some u → w.cell? (ad.add j) = some u

theorem Arg.first {w : World} {ao : Option Addr} {len cap : Nat} {A : List Int} (h : Arg w ao len cap A) (hp : 0 < len) : ∃ b off, ao = some ⟨b, off, none⟩ ∧ w.cell? ⟨b, off, none⟩ = some (.int .u8 (A.getD 0 0)) := by
  cases ao with
  | none => have := h.anil rfl; omega
  | some x =>
    have hl := h.alen
    have hc : ∀ i, i < A.length → w.cell? (x.add i) = some (.int .u8 (A.getD i 0)) := by
      intro i hi
      refine h.acells x rfl i _ ?_
      rw [List.getElem?_map, List.getD, List.getElem?_eq_getElem hi]; rfl
    obtain ⟨b, off, rfl, hj⟩ := ints_at hc (by omega)
    exact ⟨b, off, rfl, hj 0 (by omega)⟩

def contB (c : Int) : Bool := decide (48 ≤ c ∧ c ≤ 57) || (c == 46 || (c == 101 || c == 69))
theorem contB_no {c : Int} : contB c = false ↔ ¬ (48 ≤ c ∧ c ≤ 57) ∧ c ≠ 46 ∧ c ≠ 101 ∧ c ≠ 69 := by
  simp only [contB, Bool.or_eq_false_iff, decide_eq_false_iff_not, beq_eq_false_iff_ne, ne_eq]

theorem cont22 (c : Int) (w : World) :
    Calls Try.prog 22 #[.int .u8 c] w fun e w' => e = .returned (.bool (contB c)) ∧ w = w' := by
  by_cases hd : 48 ≤ c ∧ c ≤ 57
  · have e : contB c = true := by simp [contB, hd]
    have E := hid e
    obtain ⟨h1, h2⟩ := hd
    clear e
    go_enter Try.func22, Try.ntmps22
    go_wp2
    go_ret
    rw [E.out]
    exact ⟨rfl, rfl⟩
  · have e : contB c = (c == 46 || (c == 101 || c == 69)) := by simp [contB, hd]
    have E := hid e
    clear e
    by_cases h46 : c = 46
    · subst h46
      clear hd
      go_enter Try.func22, Try.ntmps22
      go_wp2
      go_ret
      rw [E.out]
      exact ⟨rfl, rfl⟩
    · have b46 : (c == 46) = false := by simpa using h46
      by_cases h101 : c = 101
      · subst h101
        clear hd
        go_enter Try.func22, Try.ntmps22
        go_wp2
        go_ret
        rw [E.out]
        exact ⟨rfl, rfl⟩
      · have b101 : (c == 101) = false := by simpa using h101
        have e : contB c = (c == 69) := by rw [E.out, b46, b101]; rfl
        have E2 := hid e
        clear e E
        by_cases h48 : 48 ≤ c
        · have h57 : ¬ c ≤ 57 := by omega
          have d57 : decide (c ≤ 57) = false := by simpa using h57
          clear hd
          go_enter Try.func22, Try.ntmps22
          go_wp2
          go_ret
          rw [E2.out]
          exact ⟨by simp, rfl⟩
        · have d48 : decide (48 ≤ c) = false := by simpa using h48
          clear hd
          go_enter Try.func22, Try.ntmps22
          go_wp2
          go_ret
          rw [E2.out]
          exact ⟨by simp, rfl⟩

theorem bytes21_ok (a b : Option Addr) (la ca lb cb : Nat) (v d : Int) (w : World) (h : (la : Int) + lb ≤ 1048576) :
    Calls Try.prog 21 #[.slice a la ca, .int .i64 v, .slice b lb cb, .int .i64 d] w fun e w' => e = .returned (.bool true) ∧ w = w' := by
  have h1 : (la : Int) ≤ 1048576 := by omega
  have h2 : (lb : Int) ≤ 1048576 := by omega
  go_enter Try.func21, Try.ntmps21
  go_wp2
  go_ret
  exact ⟨rfl, rfl⟩
theorem bytes21_no (a b : Option Addr) (la ca lb cb : Nat) (v d : Int) (w : World) (h : ¬ (la : Int) + lb ≤ 1048576) (ha : la ≤ maxLen) (hb : lb ≤ maxLen) :
    Calls Try.prog 21 #[.slice a la ca, .int .i64 v, .slice b lb cb, .int .i64 d] w fun e w' => e = .returned (.bool false) ∧ w = w' := by
  unfold maxLen at ha hb
  by_cases h1 : (la : Int) ≤ 1048576
  · by_cases h2 : (lb : Int) ≤ 1048576
    · go_enter Try.func21, Try.ntmps21
      go_wp2
      go_ret
      exact ⟨rfl, rfl⟩
    · go_enter Try.func21, Try.ntmps21
      go_wp2
      go_ret
      exact ⟨rfl, rfl⟩
  · go_enter Try.func21, Try.ntmps21
    go_wp2
    go_ret
    exact ⟨rfl, rfl⟩

theorem over8 (a b : Option Addr) (la ca lb cb : Nat) (v d : Int) (w : World) (h : ¬ (la : Int) + lb ≤ 1048576) (ha : la ≤ maxLen) (hb : lb ≤ maxLen) :
    Calls Try.prog 8 #[.slice a la ca, .int .i64 v, .slice b lb cb, .int .i64 d] w fun e w' => e = .returned (.bool true) ∧ Below w.heap.size w w' := by
  go_enter Try.func8, Try.ntmps8
  go_wp2_with (go_at_call 21; refine (bytes21_no _ _ _ _ _ _ _ _ _ h ha hb).mono ?_; rintro e w' ⟨rfl, rfl⟩)
  go_ret
  exact ⟨rfl, Below.refl _ _⟩

theorem cont8 (a b : Option Addr) (la ca lb cb : Nat) (v d : Int) (w : World) (P : List Int) (h : (la : Int) + lb ≤ 1048576) (hp : Arg w b lb cb P) (h0 : 0 < lb) (hc : contB (P.getD 0 0) = true) :
    Calls Try.prog 8 #[.slice a la ca, .int .i64 v, .slice b lb cb, .int .i64 d] w fun e w' => e = .returned (.bool true) ∧ Below w.heap.size w w' := by
  obtain ⟨b', off, rfl, hx⟩ := hp.first h0
  have h0' : 0 < (lb : Int) := by omega
  have hct := cont22 (P.getD 0 0) w
  rw [hc] at hct
  generalize P.getD 0 0 = c at *
  clear hp hc
  go_enter Try.func8, Try.ntmps8
  go_wp2_with (first
    | (go_at_call 21; refine (bytes21_ok _ _ _ _ _ _ _ _ _ h).mono ?_; rintro e w' ⟨rfl, rfl⟩)
    | (go_at_call 22; refine hct.mono ?_; rintro e w' ⟨rfl, rfl⟩))
  go_ret
  exact ⟨rfl, Below.refl _ _⟩

theorem getD_mid {A T P : List Int} {i : Nat} (h : i < T.length) : (A ++ T ++ P).getD (A.length + i) 0 = T.getD i 0 := by
  rw [List.getD, List.getElem?_append_left (by simp; omega), List.getElem?_append_right (by omega)]
  simp [List.getD]
theorem getD_end {A T P : List Int} : (A ++ T ++ P).getD (A.length + T.length) 0 = P.getD 0 0 := by
  rw [List.getD, List.getElem?_append_right (by simp)]
  simp [List.getD]

/-- The plain law: what stands between pre and post is read back. -/
theorem back_law {w w1 : World} {v d : Int} {e : Ending} {ds A P : List Int} (hv : -9223372036854775808 ≤ v ∧ v ≤ 9223372036854775807) (ho : DecOut w w1 v e ds) (hP : 0 < P.length → contB (P.getD 0 0) = false) :
    numP (fun i => (A ++ (if v < 0 then 45 :: ds else ds) ++ P).getD i 0) (A.length + (if v < 0 then 45 :: ds else ds).length + P.length) A.length = (A.length + (if v < 0 then 45 :: ds else ds).length, true) ∧
    i64P (fun i => (A ++ (if v < 0 then 45 :: ds else ds) ++ P).getD i 0) (A.length + (if v < 0 then 45 :: ds else ds).length + P.length) A.length d = (v, true) := by
  obtain ⟨s, hs⟩ : ∃ s, s = if v < 0 then A.length + 1 else A.length := ⟨_, rfl⟩
  obtain ⟨T, hT⟩ : ∃ T, T = if v < 0 then 45 :: ds else ds := ⟨_, rfl⟩
  rw [← hT]
  have hlen : A.length + T.length = s + ds.length := by
    by_cases h : v < 0
    · rw [hT, hs, if_pos h, if_pos h]; simp; omega
    · rw [hT, hs, if_neg h, if_neg h]
  have hz : ∀ i, i < ds.length → (A ++ T ++ P).getD (s + i) 0 = ds.getD i 0 := by
    intro i hi
    by_cases h : v < 0
    · rw [hs, if_pos h, show A.length + 1 + i = A.length + (i + 1) by omega, getD_mid (by rw [hT, if_pos h]; simp; omega), hT, if_pos h]; rfl
    · rw [hs, if_neg h, getD_mid (by rw [hT, if_neg h]; exact hi), hT, if_neg h]
  have hneg : v < 0 → (A ++ T ++ P).getD A.length 0 = 45 := by
    intro h
    have := getD_mid (A := A) (T := T) (P := P) (i := 0) (by rw [hT, if_pos h]; simp)
    rw [Nat.add_zero] at this
    rw [this, hT, if_pos h]; rfl
  have hb := i64_back (z := fun i => (A ++ T ++ P).getD i 0) (n := A.length + T.length + P.length) (p := A.length) (d := d) hv ho.pos ho.short ho.dig ho.lead ho.eq s hs (by omega) hneg hz ?_
  · rw [hlen]; rw [hlen] at hb; exact hb
  · intro hlt
    have e : (A ++ T ++ P).getD (s + ds.length) 0 = P.getD 0 0 := by rw [← hlen]; exact getD_end
    have := contB_no.1 (hP (by omega))
    show ¬ (48 ≤ (A ++ T ++ P).getD (s + ds.length) 0 ∧ (A ++ T ++ P).getD (s + ds.length) 0 ≤ 57) ∧ _
    rw [e]
    exact this

theorem gB0 {w1 w2 : World} (hg : w1.grownBy w2 none) : Below w1.heap.size w1 w2 := (Below.refl _ _).grown hg (Nat.le_refl _) (by simp)
theorem gB {w1 w2 w3 : World} (h : Below w1.heap.size w1 w2) (hg : w2.grownBy w3 (some w1.heap.size)) : Below w1.heap.size w1 w3 :=
  h.grown hg h.size (by intro k hk; injection hk with hk; omega)
theorem arg_cells {w w1 wk : World} {a : Option Addr} {la ca : Nat} {A : List Int} (ha : Arg w a la ca A) (hb : Below w.heap.size w w1) (h : Below w1.heap.size w1 wk) :
    ∀ ad, a = some ad → ∀ j u, (A.map (Value.int .u8))[j]? = some u → wk.cell? (ad.add j) = some u :=
  fun ad had j u hu => cell_later (hb.trans (h.mono hb.size)) (ha.acells ad had j u hu)
theorem txt_cells {w1 wk : World} {B g L : Nat} {T : List Int} (ho : w1.ownsRow B 5 1 (.slice (some ⟨g, 0, none⟩) L 21) L (T.map (Value.int .u8))) (h : Below w1.heap.size w1 wk) :
    ∀ ad, some (⟨g, 0, none⟩ : Addr) = some ad → ∀ j u, (T.map (Value.int .u8))[j]? = some u → wk.cell? (ad.add j) = some u := by
  intro ad had j u hu
  obtain rfl := Option.some.inj had
  have hj : j < (T.map (Value.int .u8)).length := (List.getElem?_eq_some_iff.1 hu).1
  have hl := ho.1
  have := ho.cellAt j (by omega)
  rw [Addr.add_lit, Nat.zero_add]
  exact cell_later h (this.trans hu)
theorem row_own {w : World} {g n cap : Nat} {xs : List Int} (h : w.ownsRow g 5 1 (.slice (some ⟨g, 0, none⟩) n cap) n (xs.map (Value.int .u8))) : RowOf w (some ⟨g, 0, none⟩) n (fun i => xs.getD i 0) := by
  intro j hj
  have hl : xs.length = n := by simpa using h.1
  have := h.cellAt j (by omega)
  refine ⟨g, 0, rfl, ?_⟩
  show w.cell? ⟨g, 0 + j, none⟩ = some (.int .u8 (xs.getD j 0))
  rw [Nat.zero_add, this, List.getElem?_map, List.getD, List.getElem?_eq_getElem (show j < xs.length by omega)]
  rfl

set_option maxHeartbeats 1000000 in
theorem walk8_empty (a b : Option Addr) (la ca lb cb : Nat) (v d : Int) (w : World) (A P : List Int) (hv : -9223372036854775808 ≤ v ∧ v ≤ 9223372036854775807) (h : (la : Int) + lb ≤ 1048576) (ha : Arg w a la ca A) (hp : Arg w b lb cb P) (h0 : lb = 0) :
    Calls Try.prog 8 #[.slice a la ca, .int .i64 v, .slice b lb cb, .int .i64 d] w fun e w' => e = .returned (.bool true) ∧ Below w.heap.size w w' := by
  obtain ⟨i, hi, hz0, hz1, hz2⟩ := info_parts Try.info5d
  have h0' : decide (0 < (lb : Int)) = false := by rw [h0]; decide
  have hnl : (lb : Int) ≤ 0 := by omega
  have HB := hid (fun (w1 : World) (e : Ending) (ds : List Int) (ho : DecOut w w1 v e ds) => back_law (A := A) (P := P) (d := d) hv ho (fun hh => by have := hp.alen; omega))
  skip
  have HA := hid ha
  have HP := hid hp
  clear ha hp h0
  go_enter Try.func8, Try.ntmps8
  go_wp2_with (first
    | (go_at_call 21; refine (bytes21_ok _ _ _ _ _ _ _ _ _ h).mono ?_; rintro e w' ⟨rfl, rfl⟩))
  refine (dec23 v w hv).mono ?_
  rintro e w1 ⟨ds, ho⟩
  have hr := HB.out w1 e ds ho
  have hout := ho.out
  have hown := ho.own
  have hbel := ho.bel
  have hls : (if v < 0 then 45 :: ds else ds).length ≤ 20 := by have := ho.short; split <;> simp <;> omega
  obtain ⟨T, hT⟩ : ∃ T, (if v < 0 then 45 :: ds else ds) = T := ⟨_, rfl⟩
  rw [hT] at hr hout hown hls
  subst hout
  obtain ⟨L, hL⟩ : ∃ L, T.length = L := ⟨_, rfl⟩
  rw [hL] at hr hown hls ⊢
  rw [HA.out.alen, HP.out.alen] at hr
  have HO := hid hown
  have HR := hid hr
  have HL := hid hL
  clear ho hr hown hT hL
  go_wp2_with (first
    | (at_make; refine wpList_make_own _ rfl _ _ 22 rfl w1.heap.size 5 i _ 1 Try.underlying22 hi hz0 hz1 _ _ _ (la + L + lb) rfl rfl (by omega) (by rw [hz2]; omega) (by unfold maxLen; omega) (Nat.le_refl _) ?_; intro w2 hown2 hgrow2)
    | (at_builtin; refine wpList_append_fits_any _ rfl _ _ 22 rfl w1.heap.size 5 i 1 Try.underlying22 hi hz1 w1.heap.size (la + L) (la + L + lb) _ rfl hown4 b lb cb (P.map (Value.int .u8)) rfl (by simp [HP.out.alen]) HP.out.anil (arg_cells HP.out hbel (gB (gB (gB0 hgrow2) hgrow3) hgrow4)) (ints_oneCell _ _) (by omega) ?_; intro w5 hown5 hgrow5)
    | (at_builtin; refine wpList_append_fits_any _ rfl _ _ 22 rfl w1.heap.size 5 i 1 Try.underlying22 hi hz1 w1.heap.size la (la + L + lb) _ rfl hown3 (some ⟨w.heap.size + 1, 0, none⟩) L 21 (T.map (Value.int .u8)) rfl (by simp [HL.out]) (by simp) (txt_cells HO.out (gB (gB0 hgrow2) hgrow3)) (ints_oneCell _ _) (by omega) ?_; intro w4 hown4 hgrow4)
    | (at_builtin; refine wpList_append_fits_any _ rfl _ _ 22 rfl w1.heap.size 5 i 1 Try.underlying22 hi hz1 w1.heap.size 0 (la + L + lb) _ rfl hown2 a la ca (A.map (Value.int .u8)) rfl (by simp [HA.out.alen]) HA.out.anil (arg_cells HA.out hbel (gB0 hgrow2)) (ints_oneCell _ _) (by omega) ?_; intro w3 hown3 hgrow3; rw [Nat.zero_add] at hown3))
  have hrow : RowOf w5 (some ⟨w1.heap.size, 0, none⟩) (la + L + lb) (fun i => (A ++ T ++ P).getD i 0) := row_own (cap := la + L + lb) (by simpa using hown5)
  have hb5 := gB (gB (gB (gB0 hgrow2) hgrow3) hgrow4) hgrow5
  refine (zz19 (p := la) (d := d) hrow (by omega) (by omega) (Nat.le_refl _)).mono ?_
  rintro e w6 ⟨rfl, hb6⟩
  rw [HR.out.1, HR.out.2]
  clear hrow hown2 hown3 hown4 hown5 hgrow2 hgrow3 hgrow4 hgrow5
  go_wp2
  go_ret
  exact ⟨by simp, (hbel.trans (hb5.mono hbel.size)).trans (hb6.mono (Nat.le_trans hbel.size hb5.size))⟩

set_option maxHeartbeats 1000000 in
theorem walk8_more (a b : Option Addr) (la ca lb cb : Nat) (v d : Int) (w : World) (A P : List Int) (hv : -9223372036854775808 ≤ v ∧ v ≤ 9223372036854775807) (h : (la : Int) + lb ≤ 1048576) (ha : Arg w a la ca A) (hp : Arg w b lb cb P) (h0 : 0 < lb) (hcn : contB (P.getD 0 0) = false) :
    Calls Try.prog 8 #[.slice a la ca, .int .i64 v, .slice b lb cb, .int .i64 d] w fun e w' => e = .returned (.bool true) ∧ Below w.heap.size w w' := by
  obtain ⟨i, hi, hz0, hz1, hz2⟩ := info_parts Try.info5d
  obtain ⟨b', off, rfl, hx⟩ := hp.first h0
  have h0' : 0 < (lb : Int) := by omega
  have hct := cont22 (P.getD 0 0) w
  rw [hcn] at hct
  have HB := hid (fun (w1 : World) (e : Ending) (ds : List Int) (ho : DecOut w w1 v e ds) => back_law (A := A) (P := P) (d := d) hv ho (fun _ => hcn))
  generalize P.getD 0 0 = c0 at *
  have HA := hid ha
  have HP := hid hp
  clear ha hp hcn
  go_enter Try.func8, Try.ntmps8
  go_wp2_with (first
    | (go_at_call 21; refine (bytes21_ok _ _ _ _ _ _ _ _ _ h).mono ?_; rintro e w' ⟨rfl, rfl⟩)
    | (go_at_call 22; refine hct.mono ?_; rintro e w' ⟨rfl, rfl⟩))
  refine (dec23 v w hv).mono ?_
  rintro e w1 ⟨ds, ho⟩
  have hr := HB.out w1 e ds ho
  have hout := ho.out
  have hown := ho.own
  have hbel := ho.bel
  have hls : (if v < 0 then 45 :: ds else ds).length ≤ 20 := by have := ho.short; split <;> simp <;> omega
  obtain ⟨T, hT⟩ : ∃ T, (if v < 0 then 45 :: ds else ds) = T := ⟨_, rfl⟩
  rw [hT] at hr hout hown hls
  subst hout
  obtain ⟨L, hL⟩ : ∃ L, T.length = L := ⟨_, rfl⟩
  rw [hL] at hr hown hls ⊢
  rw [HA.out.alen, HP.out.alen] at hr
  have HO := hid hown
  have HR := hid hr
  have HL := hid hL
  clear ho hr hown hT hL
  go_wp2_with (first
    | (at_make; refine wpList_make_own _ rfl _ _ 22 rfl w1.heap.size 5 i _ 1 Try.underlying22 hi hz0 hz1 _ _ _ (la + L + lb) rfl rfl (by omega) (by rw [hz2]; omega) (by unfold maxLen; omega) (Nat.le_refl _) ?_; intro w2 hown2 hgrow2)
    | (at_builtin; refine wpList_append_fits_any _ rfl _ _ 22 rfl w1.heap.size 5 i 1 Try.underlying22 hi hz1 w1.heap.size (la + L) (la + L + lb) _ rfl hown4 (some ⟨b', off, none⟩) lb cb (P.map (Value.int .u8)) rfl (by simp [HP.out.alen]) HP.out.anil (arg_cells HP.out hbel (gB (gB (gB0 hgrow2) hgrow3) hgrow4)) (ints_oneCell _ _) (by omega) ?_; intro w5 hown5 hgrow5)
    | (at_builtin; refine wpList_append_fits_any _ rfl _ _ 22 rfl w1.heap.size 5 i 1 Try.underlying22 hi hz1 w1.heap.size la (la + L + lb) _ rfl hown3 (some ⟨w.heap.size + 1, 0, none⟩) L 21 (T.map (Value.int .u8)) rfl (by simp [HL.out]) (by simp) (txt_cells HO.out (gB (gB0 hgrow2) hgrow3)) (ints_oneCell _ _) (by omega) ?_; intro w4 hown4 hgrow4)
    | (at_builtin; refine wpList_append_fits_any _ rfl _ _ 22 rfl w1.heap.size 5 i 1 Try.underlying22 hi hz1 w1.heap.size 0 (la + L + lb) _ rfl hown2 a la ca (A.map (Value.int .u8)) rfl (by simp [HA.out.alen]) HA.out.anil (arg_cells HA.out hbel (gB0 hgrow2)) (ints_oneCell _ _) (by omega) ?_; intro w3 hown3 hgrow3; rw [Nat.zero_add] at hown3))
  have hrow : RowOf w5 (some ⟨w1.heap.size, 0, none⟩) (la + L + lb) (fun i => (A ++ T ++ P).getD i 0) := row_own (cap := la + L + lb) (by simpa using hown5)
  have hb5 := gB (gB (gB (gB0 hgrow2) hgrow3) hgrow4) hgrow5
  refine (zz19 (p := la) (d := d) hrow (by omega) (by omega) (Nat.le_refl _)).mono ?_
  rintro e w6 ⟨rfl, hb6⟩
  rw [HR.out.1, HR.out.2]
  clear hrow hown2 hown3 hown4 hown5 hgrow2 hgrow3 hgrow4 hgrow5
  go_wp2
  go_ret
  exact ⟨by simp, (hbel.trans (hb5.mono hbel.size)).trans (hb6.mono (Nat.le_trans hbel.size hb5.size))⟩

theorem walk8 (a b : Option Addr) (la ca lb cb : Nat) (v d : Int) (w : World) (A P : List Int) (hv : -9223372036854775808 ≤ v ∧ v ≤ 9223372036854775807) (ha : Arg w a la ca A) (hp : Arg w b lb cb P) (hla : la ≤ maxLen) (hlb : lb ≤ maxLen) :
    Calls Try.prog 8 #[.slice a la ca, .int .i64 v, .slice b lb cb, .int .i64 d] w fun e w' => e = .returned (.bool true) ∧ Below w.heap.size w w' := by
  by_cases h : (la : Int) + lb ≤ 1048576
  · by_cases h0 : 0 < lb
    · cases hc : contB (P.getD 0 0) with
      | true => exact cont8 a b la ca lb cb v d w P h hp h0 hc
      | false => exact walk8_more a b la ca lb cb v d w A P hv h ha hp h0 hc
    · exact walk8_empty a b la ca lb cb v d w A P hv h ha hp (by omega)
  · exact over8 a b la ca lb cb v d w h hla hlb

end Go.Proofs.Qxb6603012a
