/-
  THE PLAIN LAW of FnDeclinationBoundsMatchDenseSampling, put together.
-/
import Derived.Test.Qxb6604178aNumH
namespace Go.Proofs.Qxb6604178a.Fl

theorem cast_succ (j : Nat) : (((j : Int) + 1 : Int) : Rat) = ((j + 1 : Nat) : Rat) := by
  rw [Rat.intCast_add, Rat.natCast_add, Rat.intCast_natCast, Rat.intCast_one]; rfl
theorem cast_le {j : Nat} (hj : j ≤ 1024) : 0 ≤ ((j : Nat) : Rat) ∧ ((j : Nat) : Rat) ≤ 1024 := by
  refine ⟨Rat.natCast_nonneg, ?_⟩
  have : ((j : Nat) : Rat) ≤ ((1024 : Nat) : Rat) := Rat.natCast_le_natCast.2 hj
  exact this

variable {y0 y1 y2 d a b : Nat} {S0 S R : Rat}

theorem tw_near {v k : Rat} (r1 : 1 ≤ R) (k1 : 0 ≤ k) (k2 : k ≤ 1024) {x : Nat} (hD1 : v ≤ R - 1) (hD2 : -(R - 1) ≤ v) (a : Ap x (v + k * (1 / 1024)) 9 (R + R)) :
    Ap x (val x) 0 (2 * R) ∧ val x - (v + k * (1 / 1024)) ≤ 20 * (uu * R) ∧ v + k * (1 / 1024) - val x ≤ 20 * (uu * R) := by
  have huR0 : 0 ≤ uu * R := uA0 (by grind)
  have huR := uS (show 0 ≤ R by grind)
  obtain ⟨a1, a2, a3, a4, a5, a6⟩ := a
  have e : 9 * (uu * (R + R)) = 18 * (uu * R) := by grind
  rw [e] at a5 a6
  generalize uu * R = z at *
  exact ⟨Ap.exact a1 a2 (by grind) (by grind), by grind, by grind⟩

theorem tw_ap (c : Cx y0 y1 y2 d a b S0 S R) : ∀ j : Nat, j ≤ 1024 → Ap (tw d j) (val (tw d j)) 0 (2 * R) ∧ val (tw d j) - (val d + (j : Rat) * (1 / 1024)) ≤ 20 * (uu * R) ∧ val d + (j : Rat) * (1 / 1024) - val (tw d j) ≤ 20 * (uu * R)
  | 0, _ => by
    have r1 := c.h.r1
    have huR0 : 0 ≤ uu * R := uA0 (by grind)
    have e : val d + ((0 : Nat) : Rat) * (1 / 1024) = val d := by rw [show ((0 : Nat) : Rat) = 0 from rfl]; grind
    rw [e]
    have e2 : tw d 0 = d := rfl
    rw [e2]
    exact ⟨c.Ad.weaken (by grind) (by grind) (by grind), by grind, by grind⟩
  | j + 1, hj => by
    obtain ⟨k1, k2⟩ := cast_le hj
    exact tw_near c.h.r1 k1 k2 c.hD1 c.hD2 (samp c.h c.Ad ((j : Int) + 1) _ (cast_succ j) k1 k2).2.2

theorem q_near {N V Y0 Y1 Y2 σ cc : Rat} (h : SR S R) (n1 : N ≤ 2 * R) (n2 : -(2 * R) ≤ N) (Es1 : σ - (Y2 - Y0) ≤ 16 * (uu * S)) (Es2 : (Y2 - Y0) - σ ≤ 16 * (uu * S)) (Ec1 : cc - (Y2 - 2 * Y1 + Y0) ≤ 16 * (uu * S)) (Ec2 : (Y2 - 2 * Y1 + Y0) - cc ≤ 16 * (uu * S))
    (t5 : V - (Y1 + N * (1 / 2) * (Y2 - Y0) + N * N * (1 / 2) * (Y2 - 2 * Y1 + Y0)) ≤ 17 * (uu * (15 * (S * R * R)))) (t6 : (Y1 + N * (1 / 2) * (Y2 - Y0) + N * N * (1 / 2) * (Y2 - 2 * Y1 + Y0)) - V ≤ 17 * (uu * (15 * (S * R * R)))) :
    V - Qf Y1 σ cc N ≤ 310 * (uu * (S * R * R)) ∧ Qf Y1 σ cc N - V ≤ 310 * (uu * (S * R * R)) := by
  obtain ⟨r1, s0, rr, sr, srr, okR, okS, rru, srru⟩ := h.facts
  obtain ⟨m1, m2⟩ := mul_abs (a := N) (b := σ - (Y2 - Y0)) n1 n2 Es1 (by grind)
  obtain ⟨q1, q2⟩ := mul_abs (a := N) (b := N) n1 n2 n1 n2
  obtain ⟨p1, p2⟩ := mul_abs (a := N * N) (b := cc - (Y2 - 2 * Y1 + Y0)) q1 q2 Ec1 (by grind)
  have g1 : 2 * R * (16 * (uu * S)) = 32 * (uu * (S * R)) := by grind
  have g2 : 2 * R * (2 * R) * (16 * (uu * S)) = 64 * (uu * (S * R * R)) := by grind
  have g3 : uu * (S * R) ≤ uu * (S * R * R) := Rat.mul_le_mul_of_nonneg_left srr (by decide +kernel)
  have g4 : 17 * (uu * (15 * (S * R * R))) = 255 * (uu * (S * R * R)) := by grind
  rw [g1] at m1 m2
  rw [g2] at p1 p2
  rw [g4] at t5 t6
  have e : Qf Y1 σ cc N - (Y1 + N * (1 / 2) * (Y2 - Y0) + N * N * (1 / 2) * (Y2 - 2 * Y1 + Y0)) = (1 / 2) * (N * (σ - (Y2 - Y0))) + (1 / 2) * (N * N * (cc - (Y2 - 2 * Y1 + Y0))) := by unfold Qf; grind
  clear Es1 Es2 Ec1 Ec2 q1 q2 okR okS
  generalize uu * (S * R * R) = z at *
  generalize uu * (S * R) = z2 at *
  generalize N * (σ - (Y2 - Y0)) = z3 at *
  generalize N * N * (cc - (Y2 - 2 * Y1 + Y0)) = z4 at *
  generalize Qf Y1 σ cc N = z5 at *
  generalize Y1 + N * (1 / 2) * (Y2 - Y0) + N * N * (1 / 2) * (Y2 - 2 * Y1 + Y0) = z6 at *
  constructor <;> grind

theorem tp_near (c : Cx y0 y1 y2 d a b S0 S R) (j : Nat) (hj : j ≤ 1024) : TpOk y0 y1 y2 (tw d j) ∧ fin (tp y0 y1 y2 (tw d j)) = true ∧
    val (tp y0 y1 y2 (tw d j)) - Qf (val y1) (val (fadd a b)) (val (fsub b a)) (val (tw d j)) ≤ 310 * (uu * (S * R * R)) ∧ Qf (val y1) (val (fadd a b)) (val (fsub b a)) (val (tw d j)) - val (tp y0 y1 y2 (tw d j)) ≤ 310 * (uu * (S * R * R)) := by
  have At := (tw_ap c j hj).1
  obtain ⟨ok, t⟩ := tp_ap c.h c.A0 c.A1 c.A2 At
  exact ⟨ok, t.1, q_near c.h At.2.2.1 At.2.2.2.1 c.Es1 c.Es2 c.Ec1 c.Ec2 t.2.2.2.2.1 t.2.2.2.2.2⟩

/-- The interpolation at a place. -/
theorem ip_near (c : Cx y0 y1 y2 d a b S0 S R) {n : Nat} (hn : Ap n (val n) 0 (2 * R)) : IpOk y1 (fsub y1 y0) (fsub y2 y1) n ∧ fin (ip y0 y1 y2 n) = true ∧
    val (ip y0 y1 y2 n) - Qf (val y1) (val (fadd a b)) (val (fsub b a)) (val n) ≤ 240 * (uu * (S * R * R)) ∧ Qf (val y1) (val (fadd a b)) (val (fsub b a)) (val n) - val (ip y0 y1 y2 n) ≤ 240 * (uu * (S * R * R)) := by
  obtain ⟨ok, t⟩ := ip_ap c.h c.A1 c.fa c.fb c.hs c.hc hn
  have e : ip y0 y1 y2 n = ipq y1 a b n := by rw [← c.ha, ← c.hb]; rfl
  have e2 : 15 * (uu * (16 * (S * R * R))) = 240 * (uu * (S * R * R)) := by grind
  rw [c.ha, c.hb, e]
  have t5 := t.2.2.2.2.1
  have t6 := t.2.2.2.2.2
  rw [e2] at t5 t6
  exact ⟨ok, t.1, t5, t6⟩

/-- The turn, in the samples' terms: for either sign. -/
theorem turn_side (c : Cx y0 y1 y2 d a b S0 S R) (hne : feq b a = false) :
    fin (fneg (fadd a b)) = true ∧ dvs (fmul 4611686018427387904 (fsub b a)) = true ∧
    ((fgt (trn a b) d && flt (trn a b) (lastF d)) = true → Ap (trn a b) (val (trn a b)) 0 (2 * R) ∧ val d < val (trn a b) ∧ val (trn a b) < val (lastF d) ∧
      val (fadd a b) + 2 * val (fsub b a) * val (trn a b) ≤ 200 * (uu * (S * R)) ∧ -(200 * (uu * (S * R))) ≤ val (fadd a b) + 2 * val (fsub b a) * val (trn a b)) ∧
    ((fgt (trn a b) d && flt (trn a b) (lastF d)) = false → 0 < val (fsub b a) → -(200 * (uu * (S * R))) ≤ val (fadd a b) + 2 * val (fsub b a) * val d ∨ val (fadd a b) + 2 * val (fsub b a) * val (lastF d) ≤ 200 * (uu * (S * R))) ∧
    ((fgt (trn a b) d && flt (trn a b) (lastF d)) = false → val (fsub b a) < 0 → val (fadd a b) + 2 * val (fsub b a) * val d ≤ 200 * (uu * (S * R)) ∨ -(200 * (uu * (S * R))) ≤ val (fadd a b) + 2 * val (fsub b a) * val (lastF d)) := by
  obtain ⟨r1, s0, rr, sr, srr, okR, okS, rru, srru⟩ := c.h.facts
  obtain ⟨g1, g2, _, M, e, hσ, M1, M2, M3, M4, M5, M6, hin, hout⟩ := turn c.h c.fa c.fb c.hab1 c.hab2 c.hs c.hc c.Ad.1 c.hD1 c.hD2 c.AL.1 c.hL1 c.hL2 hne
  have hD1 := c.hD1
  have hD2 := c.hD2
  have L1 := c.AL.2.2.1
  have L2 := c.AL.2.2.2.1
  generalize val (fadd a b) = σ at *
  generalize val (fsub b a) = cc at *
  generalize hLv : val (lastF d) = L at *
  generalize hDv : val d = D at *
  have hu1 : 15 * S * (7 * (uu * R)) = 105 * (uu * (S * R)) := by grind
  have hu2 : 11 * (uu * S) * (2 * R) = 22 * (uu * (S * R)) := by grind
  have hu3 : 15 * S * (8 * (uu * R)) = 120 * (uu * (S * R)) := by grind
  have hz : 0 ≤ uu * (S * R) := uA0 (by grind)
  refine ⟨g1, g2, ?_, ?_, ?_⟩
  · intro hi
    obtain ⟨q1, q2, q3, q4, q5, q6⟩ := hin hi
    have An : val (trn a b) ≤ 2 * R → -(2 * R) ≤ val (trn a b) → Ap (trn a b) (val (trn a b)) 0 (2 * R) := fun x y => Ap.exact q1 q2 x y
    generalize val (trn a b) = n at *
    have n1 : n ≤ 2 * R := by grind
    have n2 : -(2 * R) ≤ n := by grind
    refine ⟨An n1 n2, q3, q4, ?_⟩
    obtain ⟨m1, m2⟩ := mul_abs (a := M) (b := n - e) M1 M2 q5 (by grind)
    obtain ⟨p1, p2⟩ := mul_abs (a := 2 * cc - M) (b := n) M6 (by grind) n1 n2
    rw [hu1] at m1 m2
    rw [hu2] at p1 p2
    have e1 : σ + 2 * cc * n = M * (n - e) + (2 * cc - M) * n := by rw [hσ]; grind
    rw [e1]
    generalize uu * (S * R) = z at *
    constructor <;> grind
  · intro hi hc
    have hMp := M3 hc
    rcases hout hi with ho | ho
    · left
      obtain ⟨p1, p2⟩ := mul_abs (a := 2 * cc - M) (b := D) M6 (by grind) (B := 2 * R) (by grind) (by grind)
      have k1 := Rat.mul_nonneg (Rat.le_of_lt hMp) (show 0 ≤ D + 8 * (uu * R) - e by grind)
      have k2 := Rat.mul_le_mul_of_nonneg_right M1 (show 0 ≤ 8 * (uu * R) from by have := uA0 (show 0 ≤ R by grind); grind)
      rw [hu3] at k2
      rw [hu2] at p1 p2
      have e1 : σ + 2 * cc * D = (M * (D + 8 * (uu * R) - e) - M * (8 * (uu * R))) + (2 * cc - M) * D := by rw [hσ]; grind
      rw [e1]
      generalize uu * (S * R) = z at *
      grind
    · right
      obtain ⟨p1, p2⟩ := mul_abs (a := 2 * cc - M) (b := L) M6 (by grind) (B := 2 * R) (by grind) (by grind)
      have k1 := Rat.mul_nonneg (Rat.le_of_lt hMp) (show 0 ≤ e - (L - 8 * (uu * R)) by grind)
      have k2 := Rat.mul_le_mul_of_nonneg_right M1 (show 0 ≤ 8 * (uu * R) from by have := uA0 (show 0 ≤ R by grind); grind)
      rw [hu3] at k2
      rw [hu2] at p1 p2
      have e1 : σ + 2 * cc * L = (M * (8 * (uu * R)) - M * (e - (L - 8 * (uu * R)))) + (2 * cc - M) * L := by rw [hσ]; grind
      rw [e1]
      generalize uu * (S * R) = z at *
      grind
  · intro hi hc
    have hMp := M4 hc
    rcases hout hi with ho | ho
    · left
      obtain ⟨p1, p2⟩ := mul_abs (a := 2 * cc - M) (b := D) M6 (by grind) (B := 2 * R) (by grind) (by grind)
      have k1 := Rat.mul_nonneg (show 0 ≤ -M by grind) (show 0 ≤ D + 8 * (uu * R) - e by grind)
      have k2 := Rat.mul_le_mul_of_nonneg_right (show -M ≤ 15 * S by grind) (show 0 ≤ 8 * (uu * R) from by have := uA0 (show 0 ≤ R by grind); grind)
      rw [hu3] at k2
      rw [hu2] at p1 p2
      have e1 : σ + 2 * cc * D = (-M * (8 * (uu * R)) - -M * (D + 8 * (uu * R) - e)) + (2 * cc - M) * D := by rw [hσ]; grind
      rw [e1]
      generalize uu * (S * R) = z at *
      grind
    · right
      obtain ⟨p1, p2⟩ := mul_abs (a := 2 * cc - M) (b := L) M6 (by grind) (B := 2 * R) (by grind) (by grind)
      have k1 := Rat.mul_nonneg (show 0 ≤ -M by grind) (show 0 ≤ e - (L - 8 * (uu * R)) by grind)
      have k2 := Rat.mul_le_mul_of_nonneg_right (show -M ≤ 15 * S by grind) (show 0 ≤ 8 * (uu * R) from by have := uA0 (show 0 ≤ R by grind); grind)
      rw [hu3] at k2
      rw [hu2] at p1 p2
      have e1 : σ + 2 * cc * L = (-M * (e - (L - 8 * (uu * R))) - -M * (8 * (uu * R))) + (2 * cc - M) * L := by rw [hσ]; grind
      rw [e1]
      generalize uu * (S * R) = z at *
      grind

/-- The turn as the walk has it: 'inF'. -/
theorem in_side (c : Cx y0 y1 y2 d a b S0 S R) :
    (feq b a = false → fin (fneg (fadd a b)) = true ∧ dvs (fmul 4611686018427387904 (fsub b a)) = true) ∧
    (inF y0 y1 y2 d = true → Ap (trnF y0 y1 y2) (val (trnF y0 y1 y2)) 0 (2 * R) ∧ val d < val (trnF y0 y1 y2) ∧ val (trnF y0 y1 y2) < val (lastF d) ∧
      val (fadd a b) + 2 * val (fsub b a) * val (trnF y0 y1 y2) ≤ 200 * (uu * (S * R)) ∧ -(200 * (uu * (S * R))) ≤ val (fadd a b) + 2 * val (fsub b a) * val (trnF y0 y1 y2)) ∧
    (¬ inF y0 y1 y2 d = true → 0 < val (fsub b a) → -(200 * (uu * (S * R))) ≤ val (fadd a b) + 2 * val (fsub b a) * val d ∨ val (fadd a b) + 2 * val (fsub b a) * val (lastF d) ≤ 200 * (uu * (S * R))) ∧
    (¬ inF y0 y1 y2 d = true → val (fsub b a) < 0 → val (fadd a b) + 2 * val (fsub b a) * val d ≤ 200 * (uu * (S * R)) ∨ -(200 * (uu * (S * R))) ≤ val (fadd a b) + 2 * val (fsub b a) * val (lastF d)) := by
  have et : trnF y0 y1 y2 = trn a b := by unfold trnF; rw [c.ha, c.hb]
  have ei : inF y0 y1 y2 d = (!(feq b a) && (fgt (trn a b) d && flt (trn a b) (lastF d))) := by unfold inF; rw [et, c.ha, c.hb]
  rw [et, ei]
  cases hne : feq b a with
  | false =>
    obtain ⟨g1, g2, g3, g4, g5⟩ := turn_side c hne
    rw [Bool.not_false, Bool.true_and]
    refine ⟨fun _ => ⟨g1, g2⟩, g3, fun h => g4 (by simpa using h), fun h => g5 (by simpa using h)⟩
  | true =>
    have hz : val (fsub b a) = 0 := by
      have hpS : 5 * S ≤ p2 1000 := by
        have : (15000005 : Rat) ≤ p2 1000 := by decide +kernel
        have := c.h.s2
        generalize p2 1000 = c at *
        grind
      exact (sub_zero c.fb c.fa c.hab1 c.hab2 hpS).1 ((feq_iff c.fb c.fa).1 hne)
    rw [hz]
    refine ⟨fun h => (by cases h), fun h => (by simp at h), fun _ h => ?_, fun _ h => ?_⟩
    · exact absurd h (by decide)
    · exact absurd h (by decide)

theorem lo_spec (fD : fin (ip y0 y1 y2 d) = true) (fL : fin (ip y0 y1 y2 (lastF d)) = true) (fn : inF y0 y1 y2 d = true → fin (ip y0 y1 y2 (trnF y0 y1 y2)) = true) :
    fin (loF y0 y1 y2 d) = true ∧ val (loF y0 y1 y2 d) ≤ val (ip y0 y1 y2 d) ∧ val (loF y0 y1 y2 d) ≤ val (ip y0 y1 y2 (lastF d)) ∧ (inF y0 y1 y2 d = true → val (loF y0 y1 y2 d) ≤ val (ip y0 y1 y2 (trnF y0 y1 y2))) ∧
    (val (loF y0 y1 y2 d) = val (ip y0 y1 y2 d) ∨ val (loF y0 y1 y2 d) = val (ip y0 y1 y2 (lastF d)) ∨ (inF y0 y1 y2 d = true ∧ val (loF y0 y1 y2 d) = val (ip y0 y1 y2 (trnF y0 y1 y2)))) := by
  have h0 : (lo0 y0 y1 y2 d = ip y0 y1 y2 d ∨ lo0 y0 y1 y2 d = ip y0 y1 y2 (lastF d)) ∧ val (lo0 y0 y1 y2 d) ≤ val (ip y0 y1 y2 d) ∧ val (lo0 y0 y1 y2 d) ≤ val (ip y0 y1 y2 (lastF d)) := by
    unfold lo0
    by_cases h : fgt (ip y0 y1 y2 d) (ip y0 y1 y2 (lastF d)) = true
    · rw [if_pos h]
      have := (fgt_iff fD fL).1 h
      exact ⟨Or.inr rfl, Rat.le_of_lt this, Rat.le_refl⟩
    · rw [if_neg h]
      have : ¬ _ := fun hh => h ((fgt_iff fD fL).2 hh)
      exact ⟨Or.inl rfl, Rat.le_refl, by grind⟩
  obtain ⟨e0, a1, a2⟩ := h0
  have f0 : fin (lo0 y0 y1 y2 d) = true := by rcases e0 with e | e <;> rw [e] <;> assumption
  unfold loF
  by_cases hi : inF y0 y1 y2 d = true
  · rw [if_pos hi]
    obtain ⟨m1, m2, m3⟩ := fmin_val f0 (fn hi)
    have fm : fin (fmin (lo0 y0 y1 y2 d) (ip y0 y1 y2 (trnF y0 y1 y2))) = true := by
      rcases m1 with e | e
      · rw [e]; exact f0
      · rw [e]; exact fn hi
    refine ⟨fm, by grind, by grind, fun _ => m3, ?_⟩
    rcases m1 with e | e
    · rw [e]
      rcases e0 with e | e
      · rw [e]; exact Or.inl rfl
      · rw [e]; exact Or.inr (Or.inl rfl)
    · rw [e]; exact Or.inr (Or.inr ⟨hi, rfl⟩)
  · rw [if_neg hi]
    refine ⟨f0, a1, a2, fun h => absurd h hi, ?_⟩
    rcases e0 with e | e
    · rw [e]; exact Or.inl rfl
    · rw [e]; exact Or.inr (Or.inl rfl)

theorem hi_spec (fD : fin (ip y0 y1 y2 d) = true) (fL : fin (ip y0 y1 y2 (lastF d)) = true) (fn : inF y0 y1 y2 d = true → fin (ip y0 y1 y2 (trnF y0 y1 y2)) = true) :
    fin (hiF y0 y1 y2 d) = true ∧ val (ip y0 y1 y2 d) ≤ val (hiF y0 y1 y2 d) ∧ val (ip y0 y1 y2 (lastF d)) ≤ val (hiF y0 y1 y2 d) ∧ (inF y0 y1 y2 d = true → val (ip y0 y1 y2 (trnF y0 y1 y2)) ≤ val (hiF y0 y1 y2 d)) ∧
    (val (hiF y0 y1 y2 d) = val (ip y0 y1 y2 d) ∨ val (hiF y0 y1 y2 d) = val (ip y0 y1 y2 (lastF d)) ∨ (inF y0 y1 y2 d = true ∧ val (hiF y0 y1 y2 d) = val (ip y0 y1 y2 (trnF y0 y1 y2)))) := by
  have h0 : (hi0 y0 y1 y2 d = ip y0 y1 y2 d ∨ hi0 y0 y1 y2 d = ip y0 y1 y2 (lastF d)) ∧ val (ip y0 y1 y2 d) ≤ val (hi0 y0 y1 y2 d) ∧ val (ip y0 y1 y2 (lastF d)) ≤ val (hi0 y0 y1 y2 d) := by
    unfold hi0
    by_cases h : fgt (ip y0 y1 y2 d) (ip y0 y1 y2 (lastF d)) = true
    · rw [if_pos h]
      have := (fgt_iff fD fL).1 h
      exact ⟨Or.inl rfl, Rat.le_refl, Rat.le_of_lt this⟩
    · rw [if_neg h]
      have : ¬ _ := fun hh => h ((fgt_iff fD fL).2 hh)
      exact ⟨Or.inr rfl, by grind, Rat.le_refl⟩
  obtain ⟨e0, a1, a2⟩ := h0
  have f0 : fin (hi0 y0 y1 y2 d) = true := by rcases e0 with e | e <;> rw [e] <;> assumption
  unfold hiF
  by_cases hi : inF y0 y1 y2 d = true
  · rw [if_pos hi]
    obtain ⟨m1, m2, m3⟩ := fmax_val f0 (fn hi)
    have fm : fin (fmax (hi0 y0 y1 y2 d) (ip y0 y1 y2 (trnF y0 y1 y2))) = true := by
      rcases m1 with e | e
      · rw [e]; exact f0
      · rw [e]; exact fn hi
    refine ⟨fm, by grind, by grind, fun _ => m3, ?_⟩
    rcases m1 with e | e
    · rw [e]
      rcases e0 with e | e
      · rw [e]; exact Or.inl rfl
      · rw [e]; exact Or.inr (Or.inl rfl)
    · rw [e]; exact Or.inr (Or.inr ⟨hi, rfl⟩)
  · rw [if_neg hi]
    refine ⟨f0, a1, a2, fun h => absurd h hi, ?_⟩
    rcases e0 with e | e
    · rw [e]; exact Or.inl rfl
    · rw [e]; exact Or.inr (Or.inl rfl)

/-- The tolerance covers what the roundings and the samples' width cost. -/
theorem tol_covers {C cc E T : Rat} (h : SR S R) (hS : S0 + p2 (-100) = S) (hS00 : 0 ≤ S0) (c1 : cc - C ≤ 16 * (uu * S)) (c2 : C - cc ≤ 16 * (uu * S))
    (E1 : 999999999999 / 1000000000000000000000000 ≤ E) (hcb : ab cc ≤ 5 * S)
    (hT : E * (1 + 4 * S0 * (1 + R + R * R)) + ab C * (1 / 8000000) - 26 * (uu * ((2 / 1000000000000) * (1 + 12 * S * (3 * R + 4 * (R * R))) + 4 * S * (1 / 8000000))) ≤ T) :
    (1400 * (uu * (S * R * R)) + ab cc * (1 / 8388608)) + (1400 * (uu * (S * R * R)) + ab cc * (1 / 8388608)) * uu + eta ≤ T ∧ 1400 * (uu * (S * R * R)) + ab cc * (1 / 8388608) ≤ p2 1000 ∧ 0 ≤ ab cc := by
  obtain ⟨r1, s0, rr, sr, srr, okR, okS, rru, srru⟩ := h.facts
  have hp : p2 (-100) ≤ 1 / 1000000000000000000000000000000 := by decide +kernel
  have hp0 : 0 < p2 (-100) := p2_pos _
  have habc : ab cc ≤ ab C + 16 * (uu * S) := by rcases ab_cases cc with ⟨a, b⟩ | ⟨a, b⟩ <;> rcases ab_cases C with ⟨a', b'⟩ | ⟨a', b'⟩ <;> grind
  have habc0 : 0 ≤ ab cc := by rcases ab_cases cc with ⟨a, b⟩ | ⟨a, b⟩ <;> grind
  have habC0 : 0 ≤ ab C := by rcases ab_cases C with ⟨a, b⟩ | ⟨a, b⟩ <;> grind
  have hsm : eta ≤ 1 / 1000000000000000 := by decide +kernel
  have hs2 := h.s2
  have hr2 := h.r2
  generalize p2 (-100) = δ at *
  -- S0 in the place of S
  have k1 : δ * (R * R) ≤ 1 / 1000000000000000000000000000000 * (R * R) := Rat.mul_le_mul_of_nonneg_right hp (by grind)
  have k2 : S * R * R = S0 * (R * R) + δ * (R * R) := by rw [← hS]; grind
  have hSR0 : 0 ≤ S0 * (R * R) := Rat.mul_nonneg hS00 (by grind)
  have hSR1 : 0 ≤ S0 * R := Rat.mul_nonneg hS00 (by grind)
  -- E at its least
  have hEm : 0 ≤ 1 + 4 * S0 * (1 + R + R * R) := by
    have e : 1 + 4 * S0 * (1 + R + R * R) = 1 + 4 * S0 + 4 * (S0 * R) + 4 * (S0 * (R * R)) := by grind
    rw [e]; grind
  have hE := Rat.mul_le_mul_of_nonneg_right E1 hEm
  have e1 : 999999999999 / 1000000000000000000000000 * (1 + 4 * S0 * (1 + R + R * R)) = 999999999999 / 1000000000000000000000000 + 999999999999 / 250000000000000000000000 * (S0 + S0 * R + S0 * (R * R)) := by grind
  rw [e1] at hE
  have e2 : 26 * (uu * ((2 / 1000000000000) * (1 + 12 * S * (3 * R + 4 * (R * R))) + 4 * S * (1 / 8000000))) = uu * (52 / 1000000000000 + 1872 / 1000000000000 * (S * R) + 2496 / 1000000000000 * (S * R * R) + 104 / 8000000 * S) := by grind
  rw [e2] at hT
  unfold uu at *
  have hlast : (1000000000000 : Rat) ≤ p2 1000 := by decide +kernel
  refine ⟨?_, ?_, habc0⟩
  · clear hlast okR okS
    generalize S0 * (R * R) = a1 at *
    generalize S0 * R = a2 at *
    generalize δ * (R * R) = a3 at *
    generalize R * R = a4 at *
    grind
  · generalize p2 1000 = w at *
    grind

theorem all_ok (y0 y1 y2 d : Nat) (l0 : y0 < 2 ^ 64) (l1 : y1 < 2 ^ 64) (l2 : y2 < 2 ^ 64) (ld : d < 2 ^ 64) (wd : wiF d = true) (w0 : wiF y0 = true) (w1 : wiF y1 = true) (w2 : wiF y2 = true) : AllOk y0 y1 y2 d := by
  obtain ⟨a, b, S0, S, R, c⟩ := cx_of y0 y1 y2 d l0 l1 l2 ld wd w0 w1 w2
  obtain ⟨r1, s0, rr, sr, srr, okR, okS, rru, srru⟩ := c.h.facts
  have Ad2 : Ap d (val d) 0 (2 * R) := c.Ad.weaken (by grind) (by grind) (by grind)
  obtain ⟨iD, fD, eD1, eD2⟩ := ip_near c Ad2
  obtain ⟨iL, fL, eL1, eL2⟩ := ip_near c c.AL
  obtain ⟨g1, g2, g3, g4⟩ := in_side c
  have hin : ∀ hi : inF y0 y1 y2 d = true, IpOk y1 (fsub y1 y0) (fsub y2 y1) (trnF y0 y1 y2) ∧ fin (ip y0 y1 y2 (trnF y0 y1 y2)) = true ∧
      val (ip y0 y1 y2 (trnF y0 y1 y2)) - Qf (val y1) (val (fadd a b)) (val (fsub b a)) (val (trnF y0 y1 y2)) ≤ 240 * (uu * (S * R * R)) ∧ Qf (val y1) (val (fadd a b)) (val (fsub b a)) (val (trnF y0 y1 y2)) - val (ip y0 y1 y2 (trnF y0 y1 y2)) ≤ 240 * (uu * (S * R * R)) := fun hi => ip_near c (g2 hi).1
  obtain ⟨o1, o2, o3, o4, o5⟩ := lo_spec fD fL (fun hi => (hin hi).2.1)
  obtain ⟨q1, q2, q3, q4, q5⟩ := hi_spec fD fL (fun hi => (hin hi).2.1)
  have hft : ∀ j, j ≤ 1024 → fin (tp y0 y1 y2 (tw d j)) = true := fun j hj => (tp_near c j hj).2.1
  obtain ⟨⟨jl, hjl, el⟩, ll⟩ := low_spec 1024 hft 1024 (Nat.le_refl _)
  obtain ⟨⟨jh, hjh, eh⟩, hh⟩ := high_spec 1024 hft 1024 (Nat.le_refl _)
  have fl : fin (lowF y0 y1 y2 d 1024) = true := by rw [el]; exact hft _ hjl
  have fh : fin (highF y0 y1 y2 d 1024) = true := by rw [eh]; exact hft _ hjh
  obtain ⟨⟨t1, t2, t3, t4, t5, t6, t7, t8, t9, t10, t11, t12, t13, t14, t15, t16, t17, t18, t19, t20⟩, tv⟩ := tol_ap c.h c.A0 c.A1 c.A2 c.Ad
  rw [c.hS0, c.hR] at tv
  have hS00 : 0 ≤ S0 := by
    rw [← c.hS0]
    rcases ab_cases (val y0) with ⟨a, b⟩ | ⟨a, b⟩ <;> rcases ab_cases (val y1) with ⟨a', b'⟩ | ⟨a', b'⟩ <;> rcases ab_cases (val y2) with ⟨a'', b''⟩ | ⟨a'', b''⟩ <;> grind
  have hcb : ab (val (fsub b a)) ≤ 5 * S := by
    have h1 := c.hc.2.2.1
    have h2 := c.hc.2.2.2.1
    rcases ab_cases (val (fsub b a)) with ⟨x, y⟩ | ⟨x, y⟩ <;> grind
  obtain ⟨tc1, tc2, tc3⟩ := tol_covers c.h c.hS hS00 c.Ec1 c.Ec2 val_e12.1 hcb tv
  -- the two sides
  have lside := side (q0 := val y1) (σ := val (fadd a b)) (c := val (fsub b a)) (n := val (trnF y0 y1 y2)) (lo := val (loF y0 y1 y2 d)) (low := val (lowF y0 y1 y2 d 1024)) (ipD := val (ip y0 y1 y2 d)) (ipL := val (ip y0 y1 y2 (lastF d))) (ipn := val (ip y0 y1 y2 (trnF y0 y1 y2)))
    (t := fun k => val (tw d k)) (tpv := fun k => val (tp y0 y1 y2 (tw d k))) (ins := inF y0 y1 y2 d = true) c.h c.hs.2.2.1 c.hs.2.2.2.1 c.hc.2.2.1 c.hc.2.2.2.1 c.hD1 c.hD2 c.hL1 c.hL2 (fun hi => (g2 hi).2) g3 (fun k hk => (tw_ap c k hk).2) eD1 eD2 eL1 eL2 (fun hi => (hin hi).2.2)
    (fun k hk => (tp_near c k hk).2.2) o2 o3 o4 o5 ll ⟨jl, hjl, by rw [el]⟩
  have hside := side (q0 := -val y1) (σ := -val (fadd a b)) (c := -val (fsub b a)) (n := val (trnF y0 y1 y2)) (lo := -val (hiF y0 y1 y2 d)) (low := -val (highF y0 y1 y2 d 1024)) (ipD := -val (ip y0 y1 y2 d)) (ipL := -val (ip y0 y1 y2 (lastF d))) (ipn := -val (ip y0 y1 y2 (trnF y0 y1 y2)))
    (t := fun k => val (tw d k)) (tpv := fun k => -val (tp y0 y1 y2 (tw d k))) (ins := inF y0 y1 y2 d = true) c.h (by have := c.hs.2.2.2.1; grind) (by have := c.hs.2.2.1; grind) (by have := c.hc.2.2.2.1; grind) (by have := c.hc.2.2.1; grind) c.hD1 c.hD2 c.hL1 c.hL2
    (fun hi => by obtain ⟨_, x1, x2, x3, x4⟩ := g2 hi; exact ⟨x1, x2, by grind, by grind⟩)
    (fun hi hc => by
      rcases g4 hi (by grind) with x | x
      · left; grind
      · right; grind)
    (fun k hk => (tw_ap c k hk).2) (by rw [Qf_neg]; grind) (by rw [Qf_neg]; grind) (by rw [Qf_neg]; grind) (by rw [Qf_neg]; grind)
    (fun hi => by obtain ⟨_, _, x1, x2⟩ := hin hi; rw [Qf_neg]; exact ⟨by grind, by grind⟩)
    (fun k hk => by obtain ⟨_, _, x1, x2⟩ := tp_near c k hk; rw [Qf_neg]; exact ⟨by grind, by grind⟩)
    (by grind) (by grind) (fun hi => by have := q4 hi; grind)
    (by rcases q5 with x | x | ⟨x, y⟩
        · left; rw [x]
        · right; left; rw [x]
        · right; right; exact ⟨x, by rw [y]⟩)
    (fun k hk => by have := hh k hk; grind) ⟨jh, hjh, by rw [eh]⟩
  rw [ab_neg] at hside
  obtain ⟨ls1, ls2⟩ := lside
  obtain ⟨hs1, hs2⟩ := hside
  have v1 : fle (loF y0 y1 y2 d) (hiF y0 y1 y2 d) = true := (fle_iff o1 q1).2 (by grind)
  have v2 : fle (fabs (fsub (loF y0 y1 y2 d) (lowF y0 y1 y2 d 1024))) (tolF y0 y1 y2 d) = true := small_ok o1 fl t20 (by grind) (by grind) tc2 tc1
  have v3 : fle (fabs (fsub (hiF y0 y1 y2 d) (highF y0 y1 y2 d 1024))) (tolF y0 y1 y2 d) = true := small_ok q1 fh t20 (by grind) (by grind) tc2 tc1
  have hbd : BdOk y0 y1 y2 d := ⟨c.A0.1, c.A1.1, c.A2.1, c.Ad.1, iD, iL, fun hne => by rw [c.ha, c.hb] at hne ⊢; exact g1 hne, fun hi => (hin hi).1⟩
  have hks : ∀ j : Nat, j < 1024 → fin (floatOfInt .f64 ((j : Int) + 1)) = true ∧ fin (kf ((j : Int) + 1)) = true ∧ TpOk y0 y1 y2 (tk d ((j : Int) + 1)) := fun j hj => by
    obtain ⟨k1, k2⟩ := cast_le (j := j + 1) hj
    obtain ⟨x1, x2, _⟩ := samp c.h c.Ad ((j : Int) + 1) _ (cast_succ j) k1 k2
    exact ⟨x1, x2, (tp_near c (j + 1) hj).1⟩
  exact ⟨hbd, (tp_near c 0 (Nat.zero_le _)).1, hks, t1, t2, t3, t4, t5, t6, t7, t8, t9, t10, t11, t12, t13, t14, t15, t16, t17, t18, t19, o1, q1, fl, fh, v1, v2, v3⟩
end Go.Proofs.Qxb6604178a.Fl
