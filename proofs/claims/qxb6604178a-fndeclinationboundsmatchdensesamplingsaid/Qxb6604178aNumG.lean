/-
  Where the interpolation turns: the word against the number.
-/
import Derived.Test.Qxb6604178aNumF
namespace Go.Proofs.Qxb6604178a.Fl

theorem eta_two : p2 (-1074) = 2 * eta := by
  unfold eta
  rw [show (-1074 : Int) = -1075 + 1 from rfl, p2_add, p2_one]
  generalize p2 (-1075) = a
  grind

/-- Every finite word's number is a whole number of least units. -/
theorem val_int {x : Nat} (hx : fin x = true) : ∃ z : Int, val x = (z : Rat) * p2 (-1074) := by
  obtain ⟨e1, e2, e3, e4, _⟩ := double_facts
  have hf : x % 9223372036854775808 < 9218868437227405312 := of_decide_eq_true hx
  unfold val Ieee.Format.read
  dsimp only
  rw [e1, e2, e3, e4]
  have hsg : ∀ b : Bool, ∃ s : Int, sg b = (s : Rat) := fun b => by
    cases b
    · exact ⟨1, rfl⟩
    · exact ⟨-1, rfl⟩
  obtain ⟨s, hs⟩ := hsg (x / 9223372036854775808 % 2 == 1)
  by_cases hb : x % 9223372036854775808 < 4503599627370496
  · rw [if_pos hb]
    simp only [dval]
    rw [hs]
    refine ⟨s * ((x % 9223372036854775808 : Nat) : Int), ?_⟩
    rw [Rat.intCast_mul, Rat.intCast_natCast]
  · rw [if_neg hb, if_pos hf]
    simp only [dval]
    rw [hs, p2_add, p2_nat]
    refine ⟨s * ((4503599627370496 + x % 9223372036854775808 % 4503599627370496 : Nat) : Int) * ((2 ^ (x % 9223372036854775808 / 4503599627370496 - 1) : Nat) : Int), ?_⟩
    rw [Rat.intCast_mul, Rat.intCast_mul, Rat.intCast_natCast, Rat.intCast_natCast]
    grind

theorem least_unit {z : Int} {v : Rat} (h : v = (z : Rat) * p2 (-1074)) (h0 : v ≠ 0) : 2 * eta ≤ ab v := by
  have hp := p2_pos (-1074)
  rw [← eta_two]
  have hz : z ≠ 0 := fun hz => by rw [hz] at h; simp at h; exact h0 h
  by_cases h1 : 1 ≤ z
  · have : (1 : Rat) ≤ (z : Rat) := by
      have := Rat.intCast_le_intCast.2 h1
      simpa using this
    have := Rat.mul_le_mul_of_nonneg_right this (Rat.le_of_lt hp)
    rcases ab_cases v with ⟨a, b⟩ | ⟨a, b⟩ <;> grind
  · have h2 : z ≤ -1 := by omega
    have : (z : Rat) ≤ -1 := by
      have := Rat.intCast_le_intCast.2 h2
      simpa using this
    have := Rat.mul_le_mul_of_nonneg_right this (Rat.le_of_lt hp)
    rcases ab_cases v with ⟨a, b⟩ | ⟨a, b⟩ <;> grind

theorem dvs_of {x : Nat} (hx : fin x = true) (h0 : val x ≠ 0) : dvs x = true := by
  unfold dvs
  rw [hx]
  simp only [Bool.true_and, bne_iff_ne, ne_eq]
  intro h
  apply h0
  obtain ⟨e1, e2, e3, e4, _⟩ := double_facts
  unfold val Ieee.Format.read
  dsimp only
  rw [e1, e3, e4, h, if_pos (by omega)]
  simp [dval]

/-- A difference is zero just where the numbers are one. -/
theorem sub_zero {x y : Nat} {B : Rat} (hx : fin x = true) (hy : fin y = true) (h1 : val x - val y ≤ B) (h2 : -B ≤ val x - val y) (hB : B ≤ p2 1000) :
    (val x = val y → val (fsub x y) = 0) ∧ (val x ≠ val y → val (fsub x y) ≠ 0) := by
  have hpe : 0 < eta := p2_pos _
  constructor
  · intro h
    obtain ⟨n1, _, n3, n4⟩ := sub_val (x := x) (y := y) (B := 0) hx hy (by grind) (by grind) (Rat.le_of_lt (p2_pos _))
    refine Classical.byContradiction fun h0 => ?_
    obtain ⟨z, hz⟩ := val_int n1
    have := least_unit hz h0
    have e0 : val x - val y = 0 := by grind
    rw [e0] at n3 n4
    rcases ab_cases (val (fsub x y)) with ⟨a, b⟩ | ⟨a, b⟩ <;> grind
  · intro h
    have hab : ab (val x - val y) ≤ p2 1000 := by rcases ab_cases (val x - val y) with ⟨a, b⟩ | ⟨a, b⟩ <;> grind
    obtain ⟨n1, _, n3, n4⟩ := sub_val (x := x) (y := y) (B := ab (val x - val y)) hx hy (by rcases ab_cases (val x - val y) with ⟨a, b⟩ | ⟨a, b⟩ <;> grind) (by rcases ab_cases (val x - val y) with ⟨a, b⟩ | ⟨a, b⟩ <;> grind) hab
    obtain ⟨z, hz⟩ := val_int hx
    obtain ⟨z', hz'⟩ := val_int hy
    have hl := least_unit (v := val x - val y) (z := z - z') (by rw [hz, hz', Rat.intCast_sub]; grind) (by intro h0; apply h; grind)
    intro h0
    rw [h0] at n3 n4
    have hq : ab (val x - val y) * uu ≤ ab (val x - val y) * (1 / 4) := Rat.mul_le_mul_of_nonneg_left (by decide +kernel) (by grind)
    generalize ab (val x - val y) * uu = w at *
    rcases ab_cases (val x - val y) with ⟨a, b⟩ | ⟨a, b⟩ <;> grind

theorem order_inf (b : Bool) {y : Nat} (hy : fin y = true) : FloatKind.f64.format.order (Ieee.double.word b 9218868437227405312) y = some (if b then .lt else .gt) := by
  obtain ⟨s, m, e, hr⟩ := read_fin hy
  have h : Ieee.double.read (Ieee.double.word b 9218868437227405312) = .infinity b := by cases b <;> decide +kernel
  simp only [FloatKind.format, Ieee.Format.order, hr, h, Ieee.Datum.order]

/-- THE TURN: M: the divisor's number; e: the true quotient. -/
theorem turn {S R : Rat} {a b d : Nat} (h : SR S R) (ha : fin a = true) (hb : fin b = true) (hab1 : val b - val a ≤ 5 * S) (hab2 : -(5 * S) ≤ val b - val a)
    (hs : Ap (fadd a b) (val (fadd a b)) 0 (5 * S)) (hc : Ap (fsub b a) (val (fsub b a)) 0 (5 * S)) (hd : fin d = true) (hD1 : val d ≤ R - 1) (hD2 : -(R - 1) ≤ val d)
    (hL : fin (lastF d) = true) (hL1 : val (lastF d) - (1 + val d) ≤ 4 * (uu * R)) (hL2 : 1 + val d - val (lastF d) ≤ 4 * (uu * R)) (hne : feq b a = false) :
    fin (fneg (fadd a b)) = true ∧ dvs (fmul 4611686018427387904 (fsub b a)) = true ∧ val (fsub b a) ≠ 0 ∧
    ∃ M e : Rat, val (fadd a b) = -(M * e) ∧ M ≤ 15 * S ∧ -(15 * S) ≤ M ∧ (0 < val (fsub b a) → 0 < M) ∧ (val (fsub b a) < 0 → M < 0) ∧
      M - 2 * val (fsub b a) ≤ 11 * (uu * S) ∧ 2 * val (fsub b a) - M ≤ 11 * (uu * S) ∧
      ((fgt (trn a b) d && flt (trn a b) (lastF d)) = true → fin (trn a b) = true ∧ trn a b < 18446744073709551616 ∧ val d < val (trn a b) ∧ val (trn a b) < val (lastF d) ∧ val (trn a b) - e ≤ 7 * (uu * R) ∧ e - val (trn a b) ≤ 7 * (uu * R)) ∧
      ((fgt (trn a b) d && flt (trn a b) (lastF d)) = false → e ≤ val d + 8 * (uu * R) ∨ val (lastF d) - 8 * (uu * R) ≤ e) := by
  obtain ⟨r1, s0, rr, sr, srr, okR, okS, _, _⟩ := h.facts
  have hr2 := h.r2
  have hSl := h.s1
  have hpe : 0 < eta := p2_pos _
  have hpS : 5 * S ≤ p2 1000 := by
    have : (15000005 : Rat) ≤ p2 1000 := by decide +kernel
    have := h.s2
    generalize p2 1000 = c at *
    grind
  have heS : eta ≤ uu * S * (1 / 4) := (okS S (by grind) (by grind)).facts.2.1
  have heR : eta ≤ uu * R * (1 / 4) := (okR R (by grind) (by grind)).facts.2.1
  have hvne : val b ≠ val a := fun he => by
    have := (feq_iff hb ha).2 he
    rw [hne] at this; cases this
  have hc0 : val (fsub b a) ≠ 0 := (sub_zero hb ha hab1 hab2 hpS).2 hvne
  obtain ⟨zc, hzc⟩ := val_int hc.1
  have hcl := least_unit hzc hc0
  generalize hcv : val (fsub b a) = c at *
  generalize hsv : val (fadd a b) = σ at *
  have hcS1 : c ≤ 5 * S := by have := hc.2.2.1; exact this
  have hcS2 : -(5 * S) ≤ c := by have := hc.2.2.2.1; exact this
  have habc : ab c ≤ 5 * S := by rcases ab_cases c with ⟨x, y⟩ | ⟨x, y⟩ <;> grind
  -- the divisor
  obtain ⟨m1, _, m3, m4⟩ := mul_val (x := 4611686018427387904) (y := fsub b a) (B := 2 * ab c) fin_two hc.1 (by rw [val_two, hcv]; rcases ab_cases c with ⟨x, y⟩ | ⟨x, y⟩ <;> grind) (by rw [val_two, hcv]; rcases ab_cases c with ⟨x, y⟩ | ⟨x, y⟩ <;> grind)
    (by have : (30000010 : Rat) ≤ p2 1000 := by decide +kernel
        have := h.s2
        generalize p2 1000 = c at *
        grind)
  rw [val_two, hcv] at m3 m4
  generalize hMv : val (fmul 4611686018427387904 (fsub b a)) = M at *
  have hu4 : 2 * ab c * uu ≤ 2 * ab c * (1 / 4) := Rat.mul_le_mul_of_nonneg_left (by decide +kernel) (by rcases ab_cases c with ⟨x, y⟩ | ⟨x, y⟩ <;> grind)
  have huS : ab c * uu ≤ 5 * S * uu := Rat.mul_le_mul_of_nonneg_right habc (by decide +kernel)
  have hM0 : M ≠ 0 := fun h0 => by rw [h0] at m3 m4; rcases ab_cases c with ⟨x, y⟩ | ⟨x, y⟩ <;> grind
  have hfn : fin (fneg (fadd a b)) = true := fneg_fin hs.2.1 hs.1
  have hdv : dvs (fmul 4611686018427387904 (fsub b a)) = true := dvs_of m1 (by rw [hMv]; exact hM0)
  refine ⟨hfn, hdv, hc0, M, -σ / M, ?_, ?_, ?_, ?_, ?_, ?_, ?_, ?_⟩
  · have : -σ / M * M = -σ := Rat.div_mul_cancel hM0
    grind
  · rcases ab_cases c with ⟨x, y⟩ | ⟨x, y⟩ <;> grind
  · rcases ab_cases c with ⟨x, y⟩ | ⟨x, y⟩ <;> grind
  · intro hp; rcases ab_cases c with ⟨x, y⟩ | ⟨x, y⟩ <;> grind
  · intro hp; rcases ab_cases c with ⟨x, y⟩ | ⟨x, y⟩ <;> grind
  · grind
  · grind
  · have heq : -σ / M * val (fmul 4611686018427387904 (fsub b a)) = val (fneg (fadd a b)) := by
      rw [hMv, fneg_val hs.2.1 hs.1, hsv]; exact Rat.div_mul_cancel hM0
    generalize -σ / M = e at *
    have hany := div_any (x := fneg (fadd a b)) (y := fmul 4611686018427387904 (fsub b a)) (e := e) (B := ab e) hfn hdv heq (by rcases ab_cases e with ⟨x, y⟩ | ⟨x, y⟩ <;> grind) (by rcases ab_cases e with ⟨x, y⟩ | ⟨x, y⟩ <;> grind)
    have habe : 0 ≤ ab e := by rcases ab_cases e with ⟨x, y⟩ | ⟨x, y⟩ <;> grind
    have hb1 : ab e * uu ≤ ab e * (1 / 1000) := Rat.mul_le_mul_of_nonneg_left (by decide +kernel) habe
    have hbig : (4000008 : Rat) ≤ p2 1000 := by decide +kernel
    have e3 : ab e * (3 * uu) = 3 * (ab e * uu) := by grind
    rw [e3] at hany
    have hRu : ∀ x : Rat, ab e ≤ 3 * R → x ≤ 3 * (ab e * uu) + eta → x ≤ 10 * (uu * R) := fun x h1 h2 => by
      have := Rat.mul_le_mul_of_nonneg_right h1 (show (0 : Rat) ≤ uu by decide +kernel)
      grind
    unfold uu at hL1 hL2
    have hLb1 : val (lastF d) ≤ R + 1 / 1000 := by grind
    have hLb2 : -(R + 1 / 1000) ≤ val (lastF d) := by grind
    have hsm : eta ≤ 1 / 1000 := by decide +kernel
    constructor
    · intro hi
      rw [Bool.and_eq_true] at hi
      obtain ⟨i1, i2⟩ := hi
      rcases hany with ⟨q1, q2, q3, q4⟩ | ⟨q1, q2⟩ | ⟨q1, q2⟩
      · have hev : trn a b = fdiv (fneg (fadd a b)) (fmul 4611686018427387904 (fsub b a)) := rfl
        rw [← hev] at q1 q2 q3 q4
        have j1 := (fgt_iff q1 hd).1 i1
        have j2 := (flt_iff q1 hL).1 i2
        refine ⟨q1, q2, j1, j2, ?_⟩
        generalize val (trn a b) = n at *
        have habe2 : ab e ≤ R * (21 / 20) := by rcases ab_cases e with ⟨x, y⟩ | ⟨x, y⟩ <;> grind
        have := Rat.mul_le_mul_of_nonneg_right habe2 (show (0 : Rat) ≤ uu by decide +kernel)
        constructor <;> grind
      · exfalso
        have := order_inf false hL
        have hev : trn a b = fdiv (fneg (fadd a b)) (fmul 4611686018427387904 (fsub b a)) := rfl
        unfold flt at i2
        rw [hev, q1, this] at i2
        cases i2
      · exfalso
        have := order_inf true hd
        have hev : trn a b = fdiv (fneg (fadd a b)) (fmul 4611686018427387904 (fsub b a)) := rfl
        unfold fgt at i1
        rw [hev, q1, this] at i1
        cases i1
    · intro hi
      rcases hany with ⟨q1, q2, q3, q4⟩ | ⟨q1, q2⟩ | ⟨q1, q2⟩
      · have hev : trn a b = fdiv (fneg (fadd a b)) (fmul 4611686018427387904 (fsub b a)) := rfl
        rw [← hev] at q1 q2 q3 q4
        by_cases i1 : fgt (trn a b) d = true
        · right
          rw [i1, Bool.true_and] at hi
          have j2 : ¬ val (trn a b) < val (lastF d) := fun hh => by
            have := (flt_iff q1 hL).2 hh
            rw [hi] at this; cases this
          generalize val (trn a b) = n at *
          by_cases hle : val (lastF d) ≤ e
          · have := uA0 (show 0 ≤ R by grind); grind
          · have habe2 : ab e ≤ R * (21 / 20) := by rcases ab_cases e with ⟨x, y⟩ | ⟨x, y⟩ <;> grind
            have := Rat.mul_le_mul_of_nonneg_right habe2 (show (0 : Rat) ≤ uu by decide +kernel)
            grind
        · left
          have j1 : ¬ val d < val (trn a b) := fun hh => i1 ((fgt_iff q1 hd).2 hh)
          generalize val (trn a b) = n at *
          by_cases hle : e ≤ val d
          · have := uA0 (show 0 ≤ R by grind); grind
          · have habe2 : ab e ≤ R * (21 / 20) := by rcases ab_cases e with ⟨x, y⟩ | ⟨x, y⟩ <;> grind
            have := Rat.mul_le_mul_of_nonneg_right habe2 (show (0 : Rat) ≤ uu by decide +kernel)
            grind
      · right
        have := uA0 (show 0 ≤ R by grind)
        generalize p2 1000 = w at *
        rcases ab_cases e with ⟨x, y⟩ | ⟨x, y⟩ <;> grind
      · left
        have := uA0 (show 0 ≤ R by grind)
        generalize p2 1000 = w at *
        rcases ab_cases e with ⟨x, y⟩ | ⟨x, y⟩ <;> grind
end Go.Proofs.Qxb6604178a.Fl
