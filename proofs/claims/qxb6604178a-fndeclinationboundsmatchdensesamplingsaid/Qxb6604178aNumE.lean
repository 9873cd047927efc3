/-
  The rounding errors of threePoint and interpolate.
-/
import Derived.Test.Qxb6604178aNumD
namespace Go.Proofs.Qxb6604178a.Fl

/-- The scales: S of the declinations, R of the places. -/
structure SR (S R : Rat) : Prop where
  r1 : 1 ≤ R
  r2 : R ≤ 1000001
  s1 : p2 (-100) ≤ S
  s2 : S ≤ 3000001

structure SRfacts (S R : Rat) : Prop where
  r1 : 1 ≤ R
  s0 : 0 < S
  rr : R ≤ R * R
  sr : S ≤ S * R
  srr : S * R ≤ S * R * R
  okR : ∀ A, 1 ≤ A * 16 → A ≤ 1000 * (R * R) → OkA A
  okS : ∀ A, S ≤ A * 16 → A ≤ 1000 * (S * R * R) → OkA A
  rru : R * R ≤ 1000002000001
  srru : S * R * R ≤ 3000010000000000000

theorem SR.facts {S R : Rat} (h : SR S R) : SRfacts S R := by
  obtain ⟨r1, r2, s1, s2⟩ := h
  have s0 : 0 < S := by have := p2_pos (-100); grind
  have rr : R * 1 ≤ R * R := Rat.mul_le_mul_of_nonneg_left r1 (by grind)
  have sr : S * 1 ≤ S * R := Rat.mul_le_mul_of_nonneg_left r1 (by grind)
  have srr : S * R * 1 ≤ S * R * R := Rat.mul_le_mul_of_nonneg_left r1 (by grind)
  have u1 : R * R ≤ R * 1000001 := Rat.mul_le_mul_of_nonneg_left r2 (by grind)
  have u2 : S * R ≤ S * 1000001 := Rat.mul_le_mul_of_nonneg_left r2 (by grind)
  have u3 : S * R * R ≤ S * R * 1000001 := Rat.mul_le_mul_of_nonneg_left r2 (by grind)
  have l1 : p2 (-900) * 16 ≤ p2 (-100) := by decide +kernel
  have l2 : p2 (-900) * 16 ≤ 1 := by decide +kernel
  have l3 : (3000010000000000000000000000 : Rat) ≤ p2 400 := by decide +kernel
  refine ⟨r1, s0, by grind, by grind, by grind, ?_, ?_, by grind, by grind⟩
  · intro A h1 h2
    exact ⟨by generalize p2 (-900) = c at *; grind, by generalize p2 400 = d at *; grind⟩
  · intro A h1 h2
    exact ⟨by generalize p2 (-900) = c at *; grind, by generalize p2 400 = d at *; grind⟩

theorem ap_one {S R : Rat} (h : SR S R) : Ap 4607182418800017408 1 0 R := by
  have := Ap.exact (x := 4607182418800017408) (A := R) fin_one (by decide) (by rw [val_one]; exact h.r1) (by rw [val_one]; have := h.r1; grind)
  rwa [val_one] at this

theorem tp_ap {S R Y0 Y1 Y2 N : Rat} {y0 y1 y2 n : Nat} (h : SR S R) (h0 : Ap y0 Y0 0 S) (h1 : Ap y1 Y1 0 S) (h2 : Ap y2 Y2 0 S) (hn : Ap n N 0 (2 * R)) :
    TpOk y0 y1 y2 n ∧ Ap (tp y0 y1 y2 n) (Y1 + N * (1 / 2) * (Y2 - Y0) + N * N * (1 / 2) * (Y2 - 2 * Y1 + Y0)) 17 (15 * (S * R * R)) := by
  obtain ⟨r1, s0, rr, sr, srr, okR, okS, _, _⟩ := h.facts
  have one := ap_one h
  have a1 := hn.sub one (K := 0) (okR _ (by grind) (by grind)) (by grind) (by grind) (by grind)
  have a2 := hn.mul a1 (okR _ (by grind) (by grind)) (by grind) (by grind)
  have a3 := a2.half (okR _ (by grind) (by grind)) (by grind)
  have a4 := h0.mul a3 (okS _ (by grind) (by grind)) (by grind) (by grind)
  have b1 := one.sub hn (K := 0) (okR _ (by grind) (by grind)) (by grind) (by grind) (by grind)
  have b2 := one.add hn (K := 0) (okR _ (by grind) (by grind)) (by grind) (by grind) (by grind)
  have b3 := b1.mul b2 (okR _ (by grind) (by grind)) (by grind) (by grind)
  have b4 := h1.mul b3 (okS _ (by grind) (by grind)) (by grind) (by grind)
  have b5 := a4.add b4 (K := 13) (okS _ (by grind) (by grind)) (by grind) (by grind) (by grind)
  have c1 := hn.add one (K := 0) (okR _ (by grind) (by grind)) (by grind) (by grind) (by grind)
  have c2 := hn.mul c1 (okR _ (by grind) (by grind)) (by grind) (by grind)
  have c3 := c2.half (okR _ (by grind) (by grind)) (by grind)
  have c4 := h2.mul c3 (okS _ (by grind) (by grind)) (by grind) (by grind)
  have c5 := b5.add c4 (K := 15) (okS _ (by grind) (by grind)) (by grind) (by grind) (by grind)
  refine ⟨⟨h0.1, h1.1, h2.1, hn.1, a1.1, a2.1, a3.1, a4.1, b1.1, b2.1, b3.1, b4.1, b5.1, c1.1, c2.1, c3.1, c4.1, c5.1⟩, ?_⟩
  have := c5.weaken (k' := 17) (A' := 15 * (S * R * R)) (by grind) (by grind) (by grind)
  have e : Y0 * (N * (N - 1) * (1 / 2)) + Y1 * ((1 - N) * (1 + N)) + Y2 * (N * (N + 1) * (1 / 2)) = Y1 + N * (1 / 2) * (Y2 - Y0) + N * N * (1 / 2) * (Y2 - 2 * Y1 + Y0) := by grind
  rw [e] at this
  exact this

/-- The interpolation, from its own words on. -/
theorem ip_ap {S R Y1 N : Rat} {y1 a b n : Nat} (h : SR S R) (h1 : Ap y1 Y1 0 S) (ha : fin a = true) (hb : fin b = true)
    (hs : Ap (fadd a b) (val (fadd a b)) 0 (5 * S)) (hc : Ap (fsub b a) (val (fsub b a)) 0 (5 * S)) (hn : Ap n N 0 (2 * R)) :
    IpOk y1 a b n ∧ Ap (ipq y1 a b n) (Y1 + N * (1 / 2) * (val (fadd a b) + N * val (fsub b a))) 15 (16 * (S * R * R)) := by
  obtain ⟨r1, s0, rr, sr, srr, okR, okS, _, _⟩ := h.facts
  have g1 := hn.half (okR _ (by grind) (by grind)) (by grind)
  have g2 := hn.mul hc (okS _ (by grind) (by grind)) (by grind) (by grind)
  have g3 := hs.add g2 (K := 3) (okS _ (by grind) (by grind)) (by grind) (by grind) (by grind)
  have g4 := g1.mul g3 (okS _ (by grind) (by grind)) (by grind) (by grind)
  have g5 := h1.add g4 (K := 13) (okS _ (by grind) (by grind)) (by grind) (by grind) (by grind)
  refine ⟨⟨h1.1, ha, hb, hn.1, g1.1, hs.1, hc.1, g2.1, g3.1, g4.1, g5.1⟩, ?_⟩
  exact g5.weaken (k' := 15) (A' := 16 * (S * R * R)) (by grind) (by grind) (by grind)
end Go.Proofs.Qxb6604178a.Fl
