/-
  A small calculus of rounding errors: 'Ap x v k A': the word x stands for v, |v| ≤ A, up to k half units of A.
-/
import Derived.Test.Qxb6604178aNumC
namespace Go.Proofs.Qxb6604178a.Fl

def Ap (x : Nat) (v k A : Rat) : Prop := fin x = true ∧ x < 18446744073709551616 ∧ v ≤ A ∧ -A ≤ v ∧ val x - v ≤ k * (uu * A) ∧ v - val x ≤ k * (uu * A)

/-- Neither too small nor too great. -/
def OkA (A : Rat) : Prop := p2 (-900) ≤ A ∧ A ≤ p2 400
theorem OkA.facts {A : Rat} (h : OkA A) : 0 < A ∧ eta ≤ uu * A * (1 / 4) ∧ 4 * A ≤ p2 1000 := by
  obtain ⟨h1, h2⟩ := h
  refine ⟨by have := p2_pos (-900); grind, ?_, ?_⟩
  · have e : eta ≤ uu * p2 (-900) * (1 / 4) := by decide +kernel
    have := Rat.mul_le_mul_of_nonneg_left h1 (show (0 : Rat) ≤ uu by decide +kernel)
    grind
  · have e : 4 * p2 400 ≤ p2 1000 := by decide +kernel
    grind
theorem OkA.mid {A B C : Rat} (ha : OkA A) (hc : OkA C) (h1 : A ≤ B) (h2 : B ≤ C) : OkA B := ⟨by have := ha.1; grind, by have := hc.2; grind⟩

theorem Ap.A0 {x : Nat} {v k A : Rat} (h : Ap x v k A) : 0 ≤ A := by obtain ⟨_, _, a, b, _⟩ := h; grind

theorem uA0 {A : Rat} (h : 0 ≤ A) : 0 ≤ uu * A := Rat.mul_nonneg (by decide +kernel) h

/-- A few half units of A are less than a quarter of A. -/
theorem few {k A : Rat} (hk : k ≤ 1000) (hA : 0 ≤ A) : k * (uu * A) ≤ A * (1 / 1000000) := by
  have h1 : k * (uu * A) ≤ 1000 * (uu * A) := Rat.mul_le_mul_of_nonneg_right hk (uA0 hA)
  have h2 : 1000 * (uu * A) = A * (1000 * uu) := by grind
  have h3 : A * (1000 * uu) ≤ A * (1 / 1000000) := Rat.mul_le_mul_of_nonneg_left (by decide +kernel) hA
  grind

theorem Ap.weaken {x : Nat} {v k A k' A' : Rat} (h : Ap x v k A) (hk0 : 0 ≤ k) (hk : k ≤ k') (hA : A ≤ A') : Ap x v k' A' := by
  have hA0 := h.A0
  obtain ⟨a, b, c, d, e, f⟩ := h
  have h1 : uu * A ≤ uu * A' := Rat.mul_le_mul_of_nonneg_left hA (by decide +kernel)
  have h2 : k * (uu * A) ≤ k * (uu * A') := Rat.mul_le_mul_of_nonneg_left h1 hk0
  have h3 : k * (uu * A') ≤ k' * (uu * A') := Rat.mul_le_mul_of_nonneg_right hk (uA0 (by grind))
  exact ⟨a, b, by grind, by grind, by grind, by grind⟩

theorem Ap.exact {x : Nat} {A : Rat} (h : fin x = true) (hl : x < 18446744073709551616) (h1 : val x ≤ A) (h2 : -A ≤ val x) : Ap x (val x) 0 A :=
  ⟨h, hl, h1, h2, by grind, by grind⟩

theorem Ap.add {x y : Nat} {v w k l K A B : Rat} (hx : Ap x v k A) (hy : Ap y w l B) (ok : OkA (A + B)) (hk : k ≤ K) (hl : l ≤ K) (hK : K ≤ 1000) : Ap (fadd x y) (v + w) (K + 2) (A + B) := by
  have hA := hx.A0
  have hB := hy.A0
  obtain ⟨o1, o2, o3⟩ := ok.facts
  obtain ⟨a, _, c, d, e, f⟩ := hx
  obtain ⟨a', _, c', d', e', f'⟩ := hy
  have h1 : k * (uu * A) ≤ K * (uu * A) := Rat.mul_le_mul_of_nonneg_right hk (uA0 hA)
  have h2 : l * (uu * B) ≤ K * (uu * B) := Rat.mul_le_mul_of_nonneg_right hl (uA0 hB)
  have h3 : K * (uu * (A + B)) = K * (uu * A) + K * (uu * B) := by grind
  have h4 := few hK (show 0 ≤ A + B by grind)
  obtain ⟨n1, n2, n3, n4⟩ := add_val (x := x) (y := y) (B := (A + B) * (5 / 4)) a a' (by grind) (by grind) (by grind)
  have h5 : (A + B) * (5 / 4) * uu = (5 / 4) * (uu * (A + B)) := by grind
  have h6 : (K + 2) * (uu * (A + B)) = K * (uu * (A + B)) + 2 * (uu * (A + B)) := by grind
  have h7 : uu * (A + B) * (1 / 4) = (1 / 4) * (uu * (A + B)) := by grind
  have h8 := uA0 (show 0 ≤ A + B by grind)
  rw [h5] at n3 n4
  rw [h7] at o2
  refine ⟨n1, n2, by grind, by grind, ?_, ?_⟩
  · rw [h6]
    generalize uu * (A + B) = z at *
    grind
  · rw [h6]
    generalize uu * (A + B) = z at *
    grind
theorem Ap.sub {x y : Nat} {v w k l K A B : Rat} (hx : Ap x v k A) (hy : Ap y w l B) (ok : OkA (A + B)) (hk : k ≤ K) (hl : l ≤ K) (hK : K ≤ 1000) : Ap (fsub x y) (v - w) (K + 2) (A + B) := by
  have hA := hx.A0
  have hB := hy.A0
  obtain ⟨o1, o2, o3⟩ := ok.facts
  obtain ⟨a, _, c, d, e, f⟩ := hx
  obtain ⟨a', _, c', d', e', f'⟩ := hy
  have h1 : k * (uu * A) ≤ K * (uu * A) := Rat.mul_le_mul_of_nonneg_right hk (uA0 hA)
  have h2 : l * (uu * B) ≤ K * (uu * B) := Rat.mul_le_mul_of_nonneg_right hl (uA0 hB)
  have h3 : K * (uu * (A + B)) = K * (uu * A) + K * (uu * B) := by grind
  have h4 := few hK (show 0 ≤ A + B by grind)
  obtain ⟨n1, n2, n3, n4⟩ := sub_val (x := x) (y := y) (B := (A + B) * (5 / 4)) a a' (by grind) (by grind) (by grind)
  have h5 : (A + B) * (5 / 4) * uu = (5 / 4) * (uu * (A + B)) := by grind
  have h6 : (K + 2) * (uu * (A + B)) = K * (uu * (A + B)) + 2 * (uu * (A + B)) := by grind
  have h7 : uu * (A + B) * (1 / 4) = (1 / 4) * (uu * (A + B)) := by grind
  have h8 := uA0 (show 0 ≤ A + B by grind)
  rw [h5] at n3 n4
  rw [h7] at o2
  refine ⟨n1, n2, by grind, by grind, ?_, ?_⟩
  · rw [h6]
    generalize uu * (A + B) = z at *
    grind
  · rw [h6]
    generalize uu * (A + B) = z at *
    grind

theorem mul_abs {a b A B : Rat} (h1 : a ≤ A) (h2 : -A ≤ a) (h3 : b ≤ B) (h4 : -B ≤ b) : a * b ≤ A * B ∧ -(A * B) ≤ a * b := by
  have p1 := Rat.mul_nonneg (show 0 ≤ A - a by grind) (show 0 ≤ B - b by grind)
  have p2 := Rat.mul_nonneg (show 0 ≤ A + a by grind) (show 0 ≤ B + b by grind)
  have p3 := Rat.mul_nonneg (show 0 ≤ A - a by grind) (show 0 ≤ B + b by grind)
  have p4 := Rat.mul_nonneg (show 0 ≤ A + a by grind) (show 0 ≤ B - b by grind)
  constructor <;> grind

theorem Ap.mul {x y : Nat} {v w k l A B : Rat} (hx : Ap x v k A) (hy : Ap y w l B) (ok : OkA (A * B)) (hk : k ≤ 1000) (hl : l ≤ 1000) : Ap (fmul x y) (v * w) (k + l + 3) (A * B) := by
  have hA := hx.A0
  have hB := hy.A0
  obtain ⟨o1, o2, o3⟩ := ok.facts
  obtain ⟨a, _, c, d, e, f⟩ := hx
  obtain ⟨a', _, c', d', e', f'⟩ := hy
  have fk := few hk hA
  have fl := few hl hB
  have hAB : 0 ≤ A * B := Rat.mul_nonneg hA hB
  -- the product of the words
  obtain ⟨m1, m2⟩ := mul_abs (a := val x) (b := val y) (A := A * (1000001 / 1000000)) (B := B * (1000001 / 1000000)) (by grind) (by grind) (by grind) (by grind)
  have e1 : A * (1000001 / 1000000) * (B * (1000001 / 1000000)) = A * B * ((1000001 / 1000000) * (1000001 / 1000000)) := by grind
  have e2 : A * B * ((1000001 / 1000000) * (1000001 / 1000000)) ≤ A * B * (5 / 4) := Rat.mul_le_mul_of_nonneg_left (by decide +kernel) hAB
  obtain ⟨n1, n2, n3, n4⟩ := mul_val (x := x) (y := y) (B := A * B * (5 / 4)) a a' (by grind) (by grind) (by grind)
  -- the difference of the products
  obtain ⟨q1, q2⟩ := mul_abs (a := val x - v) (b := val y) (A := k * (uu * A)) (B := B * (1000001 / 1000000)) e (by grind) (by grind) (by grind)
  obtain ⟨r1, r2⟩ := mul_abs (a := v) (b := val y - w) (A := A) (B := l * (uu * B)) c d e' (by grind)
  have s1 : val x * val y - v * w = (val x - v) * val y + v * (val y - w) := by grind
  have s2 : A * (l * (uu * B)) = l * (uu * (A * B)) := by grind
  have s3 : k * (uu * A) * (B * (1000001 / 1000000)) = k * (uu * (A * B)) + (1 / 1000000) * (k * (uu * (A * B))) := by grind
  have s4 : (1 / 1000000) * (k * (uu * (A * B))) ≤ (1 / 1000) * (uu * (A * B)) := by
    have := Rat.mul_le_mul_of_nonneg_right hk (uA0 hAB)
    grind
  have s5 : A * B * (5 / 4) * uu = (5 / 4) * (uu * (A * B)) := by grind
  have s6 : uu * (A * B) * (1 / 4) = (1 / 4) * (uu * (A * B)) := by grind
  have s7 : (k + l + 3) * (uu * (A * B)) = k * (uu * (A * B)) + l * (uu * (A * B)) + 3 * (uu * (A * B)) := by grind
  have s8 := uA0 hAB
  obtain ⟨t1, t2⟩ := mul_abs c d c' d'
  rw [s5] at n3 n4
  rw [s6] at o2
  rw [s3] at q1 q2
  rw [s2] at r1 r2
  refine ⟨n1, n2, t1, t2, ?_, ?_⟩
  · rw [s7]
    generalize uu * (A * B) = z at *
    generalize k * z = kz at *
    generalize l * z = lz at *
    grind
  · rw [s7]
    generalize uu * (A * B) = z at *
    generalize k * z = kz at *
    generalize l * z = lz at *
    grind

theorem Ap.divc {x y : Nat} {v k A m : Rat} (hx : Ap x v k A) (hd : dvs y = true) (hm : m * val y = 1) (hm0 : 0 ≤ m) (ok : OkA (A * m)) (hk : k ≤ 1000) : Ap (fdiv x y) (v * m) (k + 5) (A * m) := by
  have hA := hx.A0
  obtain ⟨o1, o2, o3⟩ := ok.facts
  obtain ⟨a, _, c, d, e, f⟩ := hx
  have fk := few hk hA
  have c1 := Rat.mul_le_mul_of_nonneg_right c hm0
  have d1 := Rat.mul_le_mul_of_nonneg_right d hm0
  have e1 := Rat.mul_le_mul_of_nonneg_right e hm0
  have f1 := Rat.mul_le_mul_of_nonneg_right f hm0
  have g1 := Rat.mul_le_mul_of_nonneg_right fk hm0
  have e0 : (val x - v) * m = val x * m - v * m := by grind
  have f0 : (v - val x) * m = v * m - val x * m := by grind
  have d0 : -A * m = -(A * m) := by grind
  have k0 : k * (uu * A) * m = k * (uu * (A * m)) := by grind
  have g0 : A * (1 / 1000000) * m = A * m * (1 / 1000000) := by grind
  rw [e0, k0] at e1
  rw [f0, k0] at f1
  rw [d0] at d1
  rw [k0, g0] at g1
  have hq : val x * m * val y = val x := by
    have : val x * m * val y = val x * (m * val y) := by grind
    rw [this, hm]; grind
  have h8 := uA0 (Rat.le_of_lt o1)
  have h3 : (k + 5) * (uu * (A * m)) = k * (uu * (A * m)) + 5 * (uu * (A * m)) := by grind
  generalize hAm : A * m = Am at *
  generalize val x * m = X at *
  generalize v * m = V at *
  obtain ⟨n1, n2, n3, n4⟩ := div_val (x := x) (y := y) (e := X) (B := Am * (5 / 4)) a hd hq (by grind) (by grind) (by grind)
  have h1 : Am * (5 / 4) * (3 * uu) = (15 / 4) * (uu * Am) := by grind
  have h2 : uu * Am * (1 / 4) = (1 / 4) * (uu * Am) := by grind
  rw [h1] at n3 n4
  rw [h2] at o2
  refine ⟨n1, n2, c1, d1, ?_, ?_⟩
  · rw [h3]
    generalize uu * Am = z at *
    generalize k * z = kz at *
    grind
  · rw [h3]
    generalize uu * Am = z at *
    generalize k * z = kz at *
    grind
theorem Ap.half {x : Nat} {v k A : Rat} (hx : Ap x v k A) (ok : OkA (A * (1 / 2))) (hk : k ≤ 1000) : Ap (fdiv x 4611686018427387904) (v * (1 / 2)) (k + 5) (A * (1 / 2)) :=
  hx.divc dvs_two (by rw [val_two]; decide +kernel) (by decide +kernel) ok hk

/-- The magnitude. -/
def ab (v : Rat) : Rat := if v < 0 then -v else v
theorem ab_cases (v : Rat) : (ab v = v ∧ 0 ≤ v) ∨ (ab v = -v ∧ v < 0) := by
  unfold ab; split
  · exact Or.inr ⟨rfl, by assumption⟩
  · exact Or.inl ⟨rfl, by grind⟩
theorem Ap.abs {x : Nat} {v k A : Rat} (hx : Ap x v k A) : Ap (fabs x) (ab v) k A := by
  obtain ⟨a, b, c, d, e, f⟩ := hx
  obtain ⟨g1, g2, g3, g4⟩ := fabs_val b a
  rcases ab_cases v with ⟨h1, h2⟩ | ⟨h1, h2⟩ <;> rcases g4 with g4 | g4 <;> exact ⟨g1, g2, by grind, by grind, by grind, by grind⟩

theorem Ap.neg {x : Nat} {v k A : Rat} (hx : Ap x v k A) : Ap (fneg x) (-v) k A := by
  obtain ⟨a, b, c, d, e, f⟩ := hx
  have := fneg_val b a
  exact ⟨fneg_fin b a, fneg_lt b, by grind, by grind, by grind, by grind⟩
end Go.Proofs.Qxb6604178a.Fl
