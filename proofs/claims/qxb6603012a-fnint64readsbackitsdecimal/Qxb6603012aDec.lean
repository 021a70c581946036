import Derived.Test.Qxb6603012aBackPlain
namespace Go.Proofs.Qxb6603012a
open Go.ChangeShapes Go.WideShapes Go.ChangeAt Go.RowKit

theorem Try.info5d : (Try.prog.info? 5).map (fun i => (i.zero, i.size, i.bytes)) = some (some (.int .u8 0), 1, 1) := by kernel_rfl

/-- The array of digits, filled from behind down to k. -/
structure DRel (w wr : World) (T : Nat) (u0 u : Int) (k : Nat) (ds : List Int) : Prop where
  len : ds.length + k = 20
  cells : ∀ i, i < 20 → ∃ x, wr.cell? ⟨T, i, none⟩ = some (.int .u8 x)
  dcell : ∀ i, i < ds.length → wr.cell? ⟨T, k + i, none⟩ = some (.int .u8 (ds.getD i 0))
  frz : ∀ i, wr.frozen? ⟨T, i, none⟩ = false
  bel : Below T w wr
  size : wr.heap.size = T + 1
  dig : ∀ i, i < ds.length → 48 ≤ ds.getD i 0 ∧ ds.getD i 0 ≤ 57
  eq : u * 10 ^ ds.length + valL ds = u0
  nn : 0 ≤ u

theorem pow_le {l : Nat} {u r u0 : Int} (hu : 0 < u) (hr : 0 ≤ r) (h : u * 10 ^ l + r = u0) (hb : u0 ≤ 9223372036854775808) : l ≤ 18 := by
  by_cases hl : l ≤ 18
  · exact hl
  · exfalso
    have h1 := pow_mono (show 19 ≤ l by omega)
    have e : (10 : Int) ^ 19 = 10000000000000000000 := by decide
    have h2 : (1 : Int) * 10 ^ l ≤ u * 10 ^ l := Int.mul_le_mul_of_nonneg_right (by omega) (by omega)
    omega
theorem valL_nn : ∀ ds : List Int, (∀ i, i < ds.length → 48 ≤ ds.getD i 0 ∧ ds.getD i 0 ≤ 57) → 0 ≤ valL ds
  | [], _ => by simp [valL]
  | d :: ds, h => by
    have h0 : 48 ≤ d := (h 0 (by simp)).1
    have ih := valL_nn ds (fun i hi => by have := h (i + 1) (by simp; omega); simpa using this)
    have hp : (0 : Int) ≤ 10 ^ ds.length := Int.le_of_lt (Int.pow_pos (by decide))
    have := Int.mul_nonneg (show 0 ≤ d - 48 by omega) hp
    simp only [valL]; omega

theorem d_step {w wr : World} {T : Nat} {u0 u : Int} {k : Nat} {ds : List Int} (h : DRel w wr T u0 u (k + 1) ds) :
    DRel w (wr.setCell ⟨T, k, none⟩ (.int .u8 (48 + u % 10))) T u0 (u / 10) k ((48 + u % 10) :: ds) := by
  have hk := h.len
  refine ⟨by simp; omega, ?_, ?_, ?_, h.bel.setCell (Nat.le_refl _) _, by simpa using h.size, ?_, ?_, by have := h.nn; omega⟩
  · intro i hi
    by_cases e : i = k
    · subst e
      obtain ⟨x, hx⟩ := h.cells i hi
      exact ⟨_, World.cell?_setCell_same _ _ _ hx⟩
    · obtain ⟨x, hx⟩ := h.cells i hi
      exact ⟨x, by rw [World.cell?_setCell_other _ _ _ _ (by intro he; injection he with _ he2 _; omega)]; exact hx⟩
  · intro i hi
    by_cases e : i = 0
    · subst e
      obtain ⟨x, hx⟩ := h.cells k (by omega)
      rw [Nat.add_zero, World.cell?_setCell_same _ _ _ hx]; rfl
    · obtain ⟨j, rfl⟩ : ∃ j, i = j + 1 := ⟨i - 1, by omega⟩
      rw [World.cell?_setCell_other _ _ _ _ (by intro he; injection he with _ he2 _; omega), show k + (j + 1) = k + 1 + j by omega, h.dcell j (by simpa using hi)]
      rfl
  · intro i
    have := h.frz i
    simp [this]
  · intro i hi
    by_cases e : i = 0
    · subst e
      have := h.nn
      show 48 ≤ 48 + u % 10 ∧ 48 + u % 10 ≤ 57
      omega
    · obtain ⟨j, rfl⟩ : ∃ j, i = j + 1 := ⟨i - 1, by omega⟩
      exact h.dig j (by simpa using hi)
  · have e := h.eq
    have e2 : u = u / 10 * 10 + u % 10 := by omega
    have e3 : 48 + u % 10 - 48 = u % 10 := by omega
    simp only [valL, List.length_cons, Int.pow_succ]
    rw [← e, e3]
    conv => rhs; rw [e2]
    rw [Int.add_mul, ← Int.mul_assoc, Int.mul_right_comm]
    omega

/-- What decimalOf hands back. -/
structure DecOut (w w' : World) (v : Int) (e : Ending) (ds : List Int) : Prop where
  out : e = .returned (.slice (some ⟨w.heap.size + 1, 0, none⟩) (if v < 0 then 45 :: ds else ds).length 21)
  own : w'.ownsRow w.heap.size 5 1 (.slice (some ⟨w.heap.size + 1, 0, none⟩) (if v < 0 then 45 :: ds else ds).length 21) (if v < 0 then 45 :: ds else ds).length ((if v < 0 then 45 :: ds else ds).map (Value.int .u8))
  bel : Below w.heap.size w w'
  pos : 0 < ds.length
  short : ds.length ≤ 19
  dig : ∀ i, i < ds.length → 48 ≤ ds.getD i 0 ∧ ds.getD i 0 ≤ 57
  lead : ds.getD 0 0 = 48 → ds.length = 1
  eq : valL ds = if v < 0 then -v else v

theorem Try.len48 : Try.prog.arrayLen 48 = 20 := by kernel_rfl
theorem Try.elem48 : Try.prog.elem 48 = 5 := by kernel_rfl
theorem Try.arr48 : Try.prog.underlying 48 = some (.array (Try.prog.arrayLen 48) (Try.prog.elem 48)) := by kernel_rfl
theorem slice48 (T k : Nat) (hk : k < 20) (w : World) :
    (Instr.sliceAt 48 (.pointer (some ⟨T, 0, none⟩)) (some (.int .i64 (k : Int))) none none).run Try.prog w = .ok (.slice (some ⟨T, k, none⟩) (20 - k) (20 - k)) w := by
  rw [run_sliceAt_array_l w 48 ⟨T, 0, none⟩ Try.arr48 .i64 k (by omega) (by rw [Try.len48]; omega), Try.elem48, Try.len48]
  obtain ⟨i, hi, hz0, hz1, hz2⟩ := info_parts Try.info5d
  have hs : (sizeOf 5).run Try.prog w = .ok 1 w := by simp [sizeOf, typeInfo, hi, hz1]
  rw [hs]
  simp only [Result.andThen, slicedAt, Int.toNat_natCast]
  rw [if_neg (by omega)]
  simp [Addr.add]
  omega

theorem dec_cells {w W w2 : World} {T : Nat} {u0 u : Int} {k : Nat} {es : List Int} (h : DRel w W T u0 u k es) (hb : Below (T + 1) W w2) :
    ∀ j x, (es.map (Value.int .u8))[j]? = some x → w2.cell? ((⟨T, k, none⟩ : Addr).add j) = some x := by
  intro j x hx
  have hj : j < es.length := by
    have := (List.getElem?_eq_some_iff.1 hx).1
    simpa using this
  rw [Addr.add_lit, hb.cell (p := ⟨T, k + j, none⟩) (Nat.lt_succ_self _), h.dcell j hj, ← hx, List.getElem?_map, List.getD, List.getElem?_eq_getElem hj]
  rfl
theorem bel_one {W w1 : World} {B : Nat} (hs : W.heap.size = B) (hg : W.grownBy w1 none) : Below B W w1 :=
  (Below.refl _ _).grown hg (by omega) (by simp)
theorem bel_two {W w1 w2 : World} {B : Nat} {o : Obj} (hs : W.heap.size = B) (hg : W.grownBy w1 none) (hg2 : (w1.alloc o).grownBy w2 (some B)) : Below B W w2 :=
  ((bel_one hs hg).alloc (by have := hg.size; omega) _).grown hg2 (by have := hg.size; simp; omega) (by intro k hk; injection hk with hk; omega)

theorem dec_lead {u : Int} {ds es : List Int} (hes : (48 + u % 10) :: ds = es) (hz : u / 10 = 0) (hor : ds = [] ∨ 0 < u) : es.getD 0 0 = 48 → es.length = 1 := by
  subst hes
  intro h
  have h' : 48 + u % 10 = 48 := h
  rcases hor with rfl | hu
  · rfl
  · omega

theorem start_rel (w : World) (u0 : Int) (h : 0 ≤ u0) : DRel w (w.alloc (.cells #[.int .u8 0, .int .u8 0, .int .u8 0, .int .u8 0, .int .u8 0, .int .u8 0, .int .u8 0, .int .u8 0, .int .u8 0, .int .u8 0, .int .u8 0, .int .u8 0, .int .u8 0, .int .u8 0, .int .u8 0, .int .u8 0, .int .u8 0, .int .u8 0, .int .u8 0, .int .u8 0] 48)) w.heap.size u0 u0 20 [] := by
  refine ⟨rfl, ?_, by simp, by intro i; simp, (Below.refl _ _).alloc (Nat.le_refl _) _, by simp, by simp, by simp [valL], h⟩
  intro i hi
  have : i = 0 ∨ i = 1 ∨ i = 2 ∨ i = 3 ∨ i = 4 ∨ i = 5 ∨ i = 6 ∨ i = 7 ∨ i = 8 ∨ i = 9 ∨ i = 10 ∨ i = 11 ∨ i = 12 ∨ i = 13 ∨ i = 14 ∨ i = 15 ∨ i = 16 ∨ i = 17 ∨ i = 18 ∨ i = 19 := by omega
  rcases this with rfl | rfl | rfl | rfl | rfl | rfl | rfl | rfl | rfl | rfl | rfl | rfl | rfl | rfl | rfl | rfl | rfl | rfl | rfl | rfl <;> exact ⟨0, by simp⟩

set_option maxHeartbeats 1000000 in
theorem dec_neg (v : Int) (w : World) (h0 : v < 0) (h1 : -9223372036854775808 ≤ v) :
    Calls Try.prog 23 #[.int .i64 v] w fun e w' => ∃ ds, DecOut w w' v e ds := by
  obtain ⟨i, hi, hz0, hz1, hz2⟩ := info_parts Try.info5d
  go_enter Try.func23, Try.ntmps23
  go_wp2_with fail
  go_loopw [6, 4] (fun v6 v4 wr => ∃ (k : Nat) (u : Int) (ds : List Int), v6 = .int .i64 k ∧ v4 = .int .u64 u ∧ DRel w wr w.heap.size (-(v + 1) + 1) u k ds ∧ (ds = [] ∨ 0 < u)) (fun v6 _ _ => (intOf v6).toNat)
  case atStart => exact ⟨20, (-(v + 1) + 1), [], rfl, rfl, start_rel w _ (by omega), .inl rfl⟩
  case round =>
    obtain ⟨k1, u, ds, rfl, rfl, hrel, hor⟩ := hrel
    have hlen : ds.length ≤ 18 := by
      rcases hor with rfl | hu
      · simp
      · exact pow_le hu (valL_nn ds hrel.dig) hrel.eq (by omega)
    obtain ⟨k, rfl⟩ : ∃ k, k1 = k + 1 := ⟨k1 - 1, by have := hrel.len; omega⟩
    have hk20 : (k : Int) < 20 := by have := hrel.len; omega
    have hk1 : 1 ≤ k := by have := hrel.len; omega
    obtain ⟨x, hx⟩ := hrel.cells k (by omega)
    have hf := hrel.frz k
    have hnn := hrel.nn
    have hub : u ≤ 9223372036854775808 := by
      have e := hrel.eq
      have h3 := valL_nn ds hrel.dig
      have h4 : u * 1 ≤ u * 10 ^ ds.length := Int.mul_le_mul_of_nonneg_left (by have := pow_mono (Nat.zero_le ds.length); simpa using this) hnn
      omega
    have HD := hid (d_step hrel)
    have HO := hid hor
    have HL := hid hlen
    clear hrel hor hlen
    by_cases hz : u / 10 = 0
    · have hzb : (u / 10 == 0) = true := by simp [hz]
      have HZ := hid hz
      clear hz
      obtain ⟨W, hW⟩ : ∃ W, wr.setCell ⟨w.heap.size, k, none⟩ (.int .u8 (48 + u % 10)) = W := ⟨_, rfl⟩
      obtain ⟨es, hes⟩ : ∃ es, (48 + u % 10) :: ds = es := ⟨_, rfl⟩
      rw [hW, hes] at HD
      have HS := hid HD.out.size
      have HN := hid HD.out.len
      have HW := hid hW
      have HE := hid hes
      clear hW hes
      have hsl := slice48 w.heap.size k (by omega)
      go_wp2_with (first
        | (at_make; refine wpList_make_own _ rfl _ _ 22 rfl w.heap.size 5 i _ 1 Try.underlying22 hi hz0 hz1 _ _ _ 21 rfl rfl rfl (by rw [hz2]; decide) (by decide) (by rw [HW.out, HS.out]; omega) ?_; rw [HW.out, HS.out]; intro w1 hown hgrow)
        | (at_builtin; refine wpList_append_fits _ rfl _ _ 22 rfl w.heap.size 5 i 1 Try.underlying22 hi hz1 (w.heap.size + 1) 0 21 [] rfl (hown.alloc _) ⟨w1.heap.size, 0, none⟩ 1 1 [_] rfl rfl (cell_one_new _ _ _) (by intro u hu; simp at hu; subst hu; rfl) (by omega) ?_; intro w2 hown2 hgrow2)
        | (at_builtin; refine wpList_append_fits _ rfl _ _ 22 rfl w.heap.size 5 i 1 Try.underlying22 hi hz1 (w.heap.size + 1) (0 + 1) 21 _ rfl hown2 ⟨w.heap.size, k, none⟩ (20 - k) (20 - k) (es.map (Value.int .u8)) rfl (by have := HN.out; simp; omega) (dec_cells HD.out (bel_two HS.out hgrow hgrow2)) (ints_oneCell _ _) (by omega) ?_; intro w3 hown3 hgrow3))
      go_ret
      have hlen : es.length = 20 - k := by have := HN.out; omega
      have heq : valL es = (-(v + 1) + 1) := by have := HD.out.eq; rw [HZ.out] at this; omega
      refine ⟨es, ?_, ?_, ?_, by omega, by omega, HD.out.dig, dec_lead HE.out HZ.out HO.out, ?_⟩
      · rw [if_pos h0]
        rw [show (45 :: es).length = 0 + 1 + (20 - k) by simp; omega]
        rfl
      · rw [if_pos h0]
        rw [show (45 :: es).length = 0 + 1 + (20 - k) by simp; omega]
        simpa using hown3
      · exact (HD.out.bel.trans ((bel_two HS.out hgrow hgrow2).mono (Nat.le_succ _))).grown hgrow3 (by have := (bel_two HS.out hgrow hgrow2).size; have := HS.out; omega) (by intro k hk; injection hk with hk; omega)
      · rw [if_pos h0]; omega
    · have hzb : (u / 10 == 0) = false := by simpa using hz
      have hu10 : 0 < u / 10 := by omega
      clear hz
      go_wp2
      go_roundw
      case rel => exact ⟨k, u / 10, _, rfl, rfl, HD.out, .inr hu10⟩
      case measure => simp [intOf]

set_option maxHeartbeats 1000000 in
theorem dec_pos (v : Int) (w : World) (h0 : 0 ≤ v) (h1 : v ≤ 9223372036854775807) :
    Calls Try.prog 23 #[.int .i64 v] w fun e w' => ∃ ds, DecOut w w' v e ds := by
  obtain ⟨i, hi, hz0, hz1, hz2⟩ := info_parts Try.info5d
  go_enter Try.func23, Try.ntmps23
  go_wp2_with fail
  go_loopw [6, 4] (fun v6 v4 wr => ∃ (k : Nat) (u : Int) (ds : List Int), v6 = .int .i64 k ∧ v4 = .int .u64 u ∧ DRel w wr w.heap.size v u k ds ∧ (ds = [] ∨ 0 < u)) (fun v6 _ _ => (intOf v6).toNat)
  case atStart => exact ⟨20, v, [], rfl, rfl, start_rel w _ (by omega), .inl rfl⟩
  case round =>
    obtain ⟨k1, u, ds, rfl, rfl, hrel, hor⟩ := hrel
    have hlen : ds.length ≤ 18 := by
      rcases hor with rfl | hu
      · simp
      · exact pow_le hu (valL_nn ds hrel.dig) hrel.eq (by omega)
    obtain ⟨k, rfl⟩ : ∃ k, k1 = k + 1 := ⟨k1 - 1, by have := hrel.len; omega⟩
    have hk20 : (k : Int) < 20 := by have := hrel.len; omega
    have hk1 : 1 ≤ k := by have := hrel.len; omega
    obtain ⟨x, hx⟩ := hrel.cells k (by omega)
    have hf := hrel.frz k
    have hnn := hrel.nn
    have hub : u ≤ 9223372036854775808 := by
      have e := hrel.eq
      have h3 := valL_nn ds hrel.dig
      have h4 : u * 1 ≤ u * 10 ^ ds.length := Int.mul_le_mul_of_nonneg_left (by have := pow_mono (Nat.zero_le ds.length); simpa using this) hnn
      omega
    have HD := hid (d_step hrel)
    have HO := hid hor
    have HL := hid hlen
    clear hrel hor hlen
    by_cases hz : u / 10 = 0
    · have hzb : (u / 10 == 0) = true := by simp [hz]
      have HZ := hid hz
      clear hz
      obtain ⟨W, hW⟩ : ∃ W, wr.setCell ⟨w.heap.size, k, none⟩ (.int .u8 (48 + u % 10)) = W := ⟨_, rfl⟩
      obtain ⟨es, hes⟩ : ∃ es, (48 + u % 10) :: ds = es := ⟨_, rfl⟩
      rw [hW, hes] at HD
      have HS := hid HD.out.size
      have HN := hid HD.out.len
      have HW := hid hW
      have HE := hid hes
      clear hW hes
      have hsl := slice48 w.heap.size k (by omega)
      go_wp2_with (first
        | (at_make; refine wpList_make_own _ rfl _ _ 22 rfl w.heap.size 5 i _ 1 Try.underlying22 hi hz0 hz1 _ _ _ 21 rfl rfl rfl (by rw [hz2]; decide) (by decide) (by rw [HW.out, HS.out]; omega) ?_; rw [HW.out, HS.out]; intro w1 hown hgrow)
        | (at_builtin; refine wpList_append_fits _ rfl _ _ 22 rfl w.heap.size 5 i 1 Try.underlying22 hi hz1 (w.heap.size + 1) 0 21 _ rfl hown ⟨w.heap.size, k, none⟩ (20 - k) (20 - k) (es.map (Value.int .u8)) rfl (by have := HN.out; simp; omega) (dec_cells HD.out (bel_one HS.out hgrow)) (ints_oneCell _ _) (by omega) ?_; intro w3 hown3 hgrow3))
      go_ret
      have hlen : es.length = 20 - k := by have := HN.out; omega
      have heq : valL es = v := by have := HD.out.eq; rw [HZ.out] at this; omega
      refine ⟨es, ?_, ?_, ?_, by omega, by omega, HD.out.dig, dec_lead HE.out HZ.out HO.out, ?_⟩
      · rw [if_neg (by omega)]
        rw [hlen]
        rfl
      · rw [if_neg (by omega)]
        rw [hlen]
        simpa using hown3
      · exact (HD.out.bel.trans ((bel_one HS.out hgrow).mono (Nat.le_succ _))).grown hgrow3 (by have := (bel_one HS.out hgrow).size; have := HS.out; omega) (by intro k hk; injection hk with hk; omega)
      · rw [if_neg (by omega)]; omega
    · have hzb : (u / 10 == 0) = false := by simpa using hz
      have hu10 : 0 < u / 10 := by omega
      clear hz
      go_wp2
      go_roundw
      case rel => exact ⟨k, u / 10, _, rfl, rfl, HD.out, .inr hu10⟩
      case measure => simp [intOf]

theorem dec23 (v : Int) (w : World) (h : -9223372036854775808 ≤ v ∧ v ≤ 9223372036854775807) :
    Calls Try.prog 23 #[.int .i64 v] w fun e w' => ∃ ds, DecOut w w' v e ds := by
  by_cases h0 : v < 0
  · exact dec_neg v w h0 h.1
  · exact dec_pos v w (by omega) h.2

end Go.Proofs.Qxb6603012a
