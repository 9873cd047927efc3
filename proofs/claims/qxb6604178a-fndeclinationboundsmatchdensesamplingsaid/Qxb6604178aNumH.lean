/-
  THE PLAIN LAW of FnDeclinationBoundsMatchDenseSampling.
-/
import Derived.Test.Qxb6604178aNumG
namespace Go.Proofs.Qxb6604178a.Fl

/-- The words of the places that are sampled. -/
def tw (d : Nat) : Nat → Nat
  | 0 => d
  | j + 1 => tk d ((j : Int) + 1)

theorem low_spec {y0 y1 y2 d : Nat} (K : Nat) (hf : ∀ j, j ≤ K → fin (tp y0 y1 y2 (tw d j)) = true) : ∀ k, k ≤ K →
    (∃ j, j ≤ k ∧ lowF y0 y1 y2 d k = tp y0 y1 y2 (tw d j)) ∧ (∀ j, j ≤ k → val (lowF y0 y1 y2 d k) ≤ val (tp y0 y1 y2 (tw d j)))
  | 0, _ => ⟨⟨0, Nat.le_refl _, rfl⟩, fun j hj => by
      have e : j = 0 := Nat.le_zero.1 hj
      subst e
      exact Rat.le_refl⟩
  | k + 1, hk => by
    obtain ⟨⟨j, hj, e⟩, hle⟩ := low_spec K hf k (by omega)
    have f1 : fin (tp y0 y1 y2 (tk d ((k : Int) + 1))) = true := hf (k + 1) hk
    have f2 : fin (lowF y0 y1 y2 d k) = true := by rw [e]; exact hf j (by omega)
    unfold lowF
    by_cases h : flt (tp y0 y1 y2 (tk d ((k : Int) + 1))) (lowF y0 y1 y2 d k) = true
    · rw [if_pos h]
      have hv := (flt_iff f1 f2).1 h
      refine ⟨⟨k + 1, Nat.le_refl _, rfl⟩, fun i hi => ?_⟩
      by_cases hi2 : i = k + 1
      · subst hi2; exact Rat.le_refl
      · have := hle i (by omega); grind
    · rw [if_neg h]
      have hv : ¬ _ := fun hh => h ((flt_iff f1 f2).2 hh)
      refine ⟨⟨j, by omega, e⟩, fun i hi => ?_⟩
      by_cases hi2 : i = k + 1
      · subst hi2
        have : tw d (k + 1) = tk d ((k : Int) + 1) := rfl
        rw [this]; grind
      · exact hle i (by omega)
theorem high_spec {y0 y1 y2 d : Nat} (K : Nat) (hf : ∀ j, j ≤ K → fin (tp y0 y1 y2 (tw d j)) = true) : ∀ k, k ≤ K →
    (∃ j, j ≤ k ∧ highF y0 y1 y2 d k = tp y0 y1 y2 (tw d j)) ∧ (∀ j, j ≤ k → val (tp y0 y1 y2 (tw d j)) ≤ val (highF y0 y1 y2 d k))
  | 0, _ => ⟨⟨0, Nat.le_refl _, rfl⟩, fun j hj => by
      have e : j = 0 := Nat.le_zero.1 hj
      subst e
      exact Rat.le_refl⟩
  | k + 1, hk => by
    obtain ⟨⟨j, hj, e⟩, hle⟩ := high_spec K hf k (by omega)
    have f1 : fin (tp y0 y1 y2 (tk d ((k : Int) + 1))) = true := hf (k + 1) hk
    have f2 : fin (highF y0 y1 y2 d k) = true := by rw [e]; exact hf j (by omega)
    unfold highF
    by_cases h : fgt (tp y0 y1 y2 (tk d ((k : Int) + 1))) (highF y0 y1 y2 d k) = true
    · rw [if_pos h]
      have hv := (fgt_iff f1 f2).1 h
      refine ⟨⟨k + 1, Nat.le_refl _, rfl⟩, fun i hi => ?_⟩
      by_cases hi2 : i = k + 1
      · subst hi2; exact Rat.le_refl
      · have := hle i (by omega); grind
    · rw [if_neg h]
      have hv : ¬ _ := fun hh => h ((fgt_iff f1 f2).2 hh)
      refine ⟨⟨j, by omega, e⟩, fun i hi => ?_⟩
      by_cases hi2 : i = k + 1
      · subst hi2
        have : tw d (k + 1) = tk d ((k : Int) + 1) := rfl
        rw [this]; grind
      · exact hle i (by omega)

/-- A difference that is small is called small. -/
theorem small_ok {x y t : Nat} {X : Rat} (hx : fin x = true) (hy : fin y = true) (ht : fin t = true) (h1 : val x - val y ≤ X) (h2 : val y - val x ≤ X) (hX : X ≤ p2 1000) (hT : X + X * uu + eta ≤ val t) : fle (fabs (fsub x y)) t = true := by
  obtain ⟨n1, n2, n3, n4⟩ := sub_val (B := X) hx hy h1 (by grind) hX
  obtain ⟨a1, _, _, a4⟩ := fabs_val n2 n1
  refine (fle_iff a1 ht).2 ?_
  generalize X * uu = z at *
  rcases a4 with a4 | a4 <;> grind

/-- The tolerance's number. -/
theorem tol_ap {S R : Rat} {y0 y1 y2 d : Nat} (h : SR S R) (h0 : Ap y0 (val y0) 0 S) (h1 : Ap y1 (val y1) 0 S) (h2 : Ap y2 (val y2) 0 S) (hd : Ap d (val d) 0 R) :
    (fin (fabs y0) = true ∧ fin (fabs y1) = true ∧ fin (fabs y2) = true ∧ fin (fabs d) = true ∧ fin (reachF d) = true ∧ fin (fadd (fabs y0) (fabs y1)) = true ∧ fin (sumF y0 y1 y2) = true ∧
      fin (fmul 4616189618054758400 (sumF y0 y1 y2)) = true ∧ fin (fadd 4607182418800017408 (reachF d)) = true ∧ fin (fmul (reachF d) (reachF d)) = true ∧ fin (polF d) = true ∧ fin (scaleF y0 y1 y2 d) = true ∧
      fin (fadd 4607182418800017408 (scaleF y0 y1 y2 d)) = true ∧ fin (fmul 4427486594234968593 (fadd 4607182418800017408 (scaleF y0 y1 y2 d))) = true ∧ fin (fmul 4611686018427387904 y1) = true ∧
      fin (fsub y2 (fmul 4611686018427387904 y1)) = true ∧ fin (secF y0 y1 y2) = true ∧ fin (fabs (secF y0 y1 y2)) = true ∧ fin (fdiv (fabs (secF y0 y1 y2)) 4710347945566797824) = true ∧ fin (tolF y0 y1 y2 d) = true) ∧
    val 4427486594234968593 * (1 + 4 * (ab (val y0) + ab (val y1) + ab (val y2)) * (1 + (ab (val d) + 1) + (ab (val d) + 1) * (ab (val d) + 1))) + ab (val y2 - 2 * val y1 + val y0) * (1 / 8000000)
      - 26 * (uu * ((2 / 1000000000000) * (1 + 12 * S * (3 * R + 4 * (R * R))) + 4 * S * (1 / 8000000))) ≤ val (tolF y0 y1 y2 d) := by
  obtain ⟨r1, s0, rr, sr, srr, okR, okS, rru, srru⟩ := h.facts
  have one := ap_one h
  have q0 := h0.abs
  have q1 := h1.abs
  have q2 := h2.abs
  have qd := hd.abs
  have s1 := q0.add q1 (K := 0) (okS _ (by grind) (by grind)) (by grind) (by grind) (by grind)
  have s2 := s1.add q2 (K := 2) (okS _ (by grind) (by grind)) (by grind) (by grind) (by grind)
  have four : Ap 4616189618054758400 4 0 4 := by
    have := Ap.exact (x := 4616189618054758400) (A := 4) fin_four (by decide) (by rw [val_four]; grind) (by rw [val_four]; grind)
    rwa [val_four] at this
  have s3 := four.mul s2 (okS _ (by grind) (by grind)) (by grind) (by grind)
  have re := qd.add one (K := 0) (okR _ (by grind) (by grind)) (by grind) (by grind) (by grind)
  have p1 := one.add re (K := 2) (okR _ (by grind) (by grind)) (by grind) (by grind) (by grind)
  have p2' := re.mul re (okR _ (by grind) (by grind)) (by grind) (by grind)
  have p3 := p1.add p2' (K := 7) (okR _ (by grind) (by grind)) (by grind) (by grind) (by grind)
  have c1 := s3.mul p3 (okS _ (by grind) (by grind)) (by grind) (by grind)
  have big : OkA (1000 * (R * R) + 1000 * (S * R * R)) := by
    have := okR (1000 * (R * R)) (by grind) (by grind)
    refine ⟨by have := this.1; grind, ?_⟩
    have l3 : (3000012000002000010000000000 : Rat) ≤ p2 400 := by decide +kernel
    generalize p2 400 = c at *
    grind
  have lowA : OkA (1 / 1000000000000) := ⟨by decide +kernel, by decide +kernel⟩
  have one' : Ap 4607182418800017408 1 0 1 := by
    have := Ap.exact (x := 4607182418800017408) (A := 1) fin_one (by decide) (by rw [val_one]; grind) (by rw [val_one]; grind)
    rwa [val_one] at this
  have c2 := one'.add c1 (K := 0 + 4 + 3 + (7 + 2) + 3) (lowA.mid big (by grind) (by grind)) (by grind) (by grind) (by grind)
  obtain ⟨v1, v2⟩ := val_e12
  have e12 : Ap 4427486594234968593 (val 4427486594234968593) 0 (2 / 1000000000000) := Ap.exact fin_e12 (by decide) (by grind) (by grind)
  have c3 := e12.mul c2 (lowA.mid big (by grind) (by grind)) (by grind) (by grind)
  have two : Ap 4611686018427387904 2 0 2 := by
    have := Ap.exact (x := 4611686018427387904) (A := 2) fin_two (by decide) (by rw [val_two]; grind) (by rw [val_two]; grind)
    rwa [val_two] at this
  have d1 := two.mul h1 (okS _ (by grind) (by grind)) (by grind) (by grind)
  have d2 := h2.sub d1 (K := 3) (okS _ (by grind) (by grind)) (by grind) (by grind) (by grind)
  have d3 := d2.add h0 (K := 5) (okS _ (by grind) (by grind)) (by grind) (by grind) (by grind)
  have d4 := d3.abs
  have smallS : OkA (S * (1 / 8000000)) := by
    have l1 : p2 (-900) * 8000000 ≤ p2 (-100) := by decide +kernel
    have := h.s1
    have l3 : (3000001 : Rat) ≤ p2 400 := by decide +kernel
    have := h.s2
    exact ⟨by generalize p2 (-900) = c at *; generalize p2 (-100) = e at *; grind, by generalize p2 400 = c at *; grind⟩
  have d5 := d4.divc dvs_8e6 (m := 1 / 8000000) (by rw [val_8e6]; decide +kernel) (by decide +kernel) (smallS.mid big (by grind) (by grind)) (by grind)
  have t := c3.add d5 (K := 24) (lowA.mid big (by grind) (by grind)) (by grind) (by grind) (by grind)
  refine ⟨⟨q0.1, q1.1, q2.1, qd.1, re.1, s1.1, s2.1, s3.1, p1.1, p2'.1, p3.1, c1.1, c2.1, c3.1, d1.1, d2.1, d3.1, d4.1, d5.1, t.1⟩, ?_⟩
  have t6 := t.2.2.2.2.2
  have hA : 2 / 1000000000000 * (1 + 4 * (S + S + S) * (R + (R + R) + (R + R) * (R + R))) + (S + 2 * S + S) * (1 / 8000000) = (2 / 1000000000000) * (1 + 12 * S * (3 * R + 4 * (R * R))) + 4 * S * (1 / 8000000) := by grind
  rw [hA] at t6
  generalize uu * ((2 / 1000000000000) * (1 + 12 * S * (3 * R + 4 * (R * R))) + 4 * S * (1 / 8000000)) = z at *
  grind

theorem Qf_neg (q0 σ c t : Rat) : Qf (-q0) (-σ) (-c) t = - Qf q0 σ c t := by unfold Qf; grind

theorem ab_neg (c : Rat) : ab (-c) = ab c := by
  rcases ab_cases c with ⟨a, b⟩ | ⟨a, b⟩ <;> rcases ab_cases (-c) with ⟨a', b'⟩ | ⟨a', b'⟩ <;> grind

/-- What is known of the arguments and of their differences. -/
structure Cx (y0 y1 y2 d a b : Nat) (S0 S R : Rat) : Prop where
  h : SR S R
  hS0 : ab (val y0) + ab (val y1) + ab (val y2) = S0
  hS : S0 + p2 (-100) = S
  hR : ab (val d) + 1 = R
  A0 : Ap y0 (val y0) 0 S
  A1 : Ap y1 (val y1) 0 S
  A2 : Ap y2 (val y2) 0 S
  Ad : Ap d (val d) 0 R
  hD1 : val d ≤ R - 1
  hD2 : -(R - 1) ≤ val d
  ha : fsub y1 y0 = a
  hb : fsub y2 y1 = b
  fa : fin a = true
  fb : fin b = true
  Es1 : val (fadd a b) - (val y2 - val y0) ≤ 16 * (uu * S)
  Es2 : (val y2 - val y0) - val (fadd a b) ≤ 16 * (uu * S)
  Ec1 : val (fsub b a) - (val y2 - 2 * val y1 + val y0) ≤ 16 * (uu * S)
  Ec2 : (val y2 - 2 * val y1 + val y0) - val (fsub b a) ≤ 16 * (uu * S)
  hs : Ap (fadd a b) (val (fadd a b)) 0 (5 * S)
  hc : Ap (fsub b a) (val (fsub b a)) 0 (5 * S)
  hab1 : val b - val a ≤ 5 * S
  hab2 : -(5 * S) ≤ val b - val a
  hL1 : val (lastF d) - (1 + val d) ≤ 4 * (uu * R)
  hL2 : 1 + val d - val (lastF d) ≤ 4 * (uu * R)
  AL : Ap (lastF d) (val (lastF d)) 0 (2 * R)

theorem uS {S : Rat} (h : 0 ≤ S) : uu * S ≤ S * (1 / 1000) := by
  have := Rat.mul_le_mul_of_nonneg_right (show uu ≤ 1 / 1000 by decide +kernel) h
  grind

theorem cx_of (y0 y1 y2 d : Nat) (l0 : y0 < 2 ^ 64) (l1 : y1 < 2 ^ 64) (l2 : y2 < 2 ^ 64) (ld : d < 2 ^ 64) (wd : wiF d = true) (w0 : wiF y0 = true) (w1 : wiF y1 = true) (w2 : wiF y2 = true) :
    ∃ a b S0 S R, Cx y0 y1 y2 d a b S0 S R := by
  obtain ⟨f0, u0, v0⟩ := wiF_val w0
  obtain ⟨f1, u1, v1⟩ := wiF_val w1
  obtain ⟨f2, u2, v2⟩ := wiF_val w2
  obtain ⟨fd, ud, vd⟩ := wiF_val wd
  have e64 : 2 ^ 64 = 18446744073709551616 := by decide
  rw [e64] at l0 l1 l2 ld
  clear w0 w1 w2 wd
  -- the scales
  obtain ⟨S0, hS0⟩ : ∃ S0, ab (val y0) + ab (val y1) + ab (val y2) = S0 := ⟨_, rfl⟩
  obtain ⟨S, hS⟩ : ∃ S, S0 + p2 (-100) = S := ⟨_, rfl⟩
  obtain ⟨R, hR⟩ : ∃ R, ab (val d) + 1 = R := ⟨_, rfl⟩
  have hp100 : 0 < p2 (-100) := p2_pos _
  have hp100' : p2 (-100) ≤ 1 / 1000000000000000000000000000000 := by decide +kernel
  have b0 : 0 ≤ ab (val y0) ∧ val y0 ≤ ab (val y0) ∧ -ab (val y0) ≤ val y0 ∧ ab (val y0) ≤ 1000000 := by rcases ab_cases (val y0) with ⟨a, b⟩ | ⟨a, b⟩ <;> grind
  have b1 : 0 ≤ ab (val y1) ∧ val y1 ≤ ab (val y1) ∧ -ab (val y1) ≤ val y1 ∧ ab (val y1) ≤ 1000000 := by rcases ab_cases (val y1) with ⟨a, b⟩ | ⟨a, b⟩ <;> grind
  have b2 : 0 ≤ ab (val y2) ∧ val y2 ≤ ab (val y2) ∧ -ab (val y2) ≤ val y2 ∧ ab (val y2) ≤ 1000000 := by rcases ab_cases (val y2) with ⟨a, b⟩ | ⟨a, b⟩ <;> grind
  have bd : 0 ≤ ab (val d) ∧ val d ≤ ab (val d) ∧ -ab (val d) ≤ val d ∧ ab (val d) ≤ 1000000 := by rcases ab_cases (val d) with ⟨a, b⟩ | ⟨a, b⟩ <;> grind
  have h : SR S R := by
    refine ⟨by grind, by grind, ?_, ?_⟩
    · rw [← hS]; generalize p2 (-100) = c at *; grind
    · rw [← hS]; generalize p2 (-100) = c at *; grind
  have hS' : S0 ≤ S := by rw [← hS]; generalize p2 (-100) = c at *; grind
  obtain ⟨r1, s0, rr, sr, srr, okR, okS, rru, srru⟩ := h.facts
  have A0 : Ap y0 (val y0) 0 S := Ap.exact f0 l0 (by grind) (by grind)
  have A1 : Ap y1 (val y1) 0 S := Ap.exact f1 l1 (by grind) (by grind)
  have A2 : Ap y2 (val y2) 0 S := Ap.exact f2 l2 (by grind) (by grind)
  have Ad : Ap d (val d) 0 R := Ap.exact fd ld (by grind) (by grind)
  have hD1 : val d ≤ R - 1 := by grind
  have hD2 : -(R - 1) ≤ val d := by grind
  clear b0 b1 b2 bd u0 v0 u1 v1 u2 v2 ud vd
  -- the differences
  have Aa := A1.sub A0 (K := 0) (okS _ (by grind) (by grind)) (by grind) (by grind) (by grind)
  have Ab := A2.sub A1 (K := 0) (okS _ (by grind) (by grind)) (by grind) (by grind) (by grind)
  have As := Aa.add Ab (K := 2) (okS _ (by grind) (by grind)) (by grind) (by grind) (by grind)
  have Ac := Ab.sub Aa (K := 2) (okS _ (by grind) (by grind)) (by grind) (by grind) (by grind)
  obtain ⟨a, ha⟩ : ∃ a, fsub y1 y0 = a := ⟨_, rfl⟩
  obtain ⟨b, hb⟩ : ∃ b, fsub y2 y1 = b := ⟨_, rfl⟩
  rw [ha] at Aa As Ac
  rw [hb] at Ab As Ac
  have hu0 : 0 ≤ uu * S := uA0 (by grind)
  have huS := uS (show 0 ≤ S by grind)
  have Es1 : val (fadd a b) - (val y2 - val y0) ≤ 16 * (uu * S) := by have := As.2.2.2.2.1; grind
  have Es2 : (val y2 - val y0) - val (fadd a b) ≤ 16 * (uu * S) := by have := As.2.2.2.2.2; grind
  have Ec1 : val (fsub b a) - (val y2 - 2 * val y1 + val y0) ≤ 16 * (uu * S) := by have := Ac.2.2.2.2.1; grind
  have Ec2 : (val y2 - 2 * val y1 + val y0) - val (fsub b a) ≤ 16 * (uu * S) := by have := Ac.2.2.2.2.2; grind
  have hs : Ap (fadd a b) (val (fadd a b)) 0 (5 * S) := Ap.exact As.1 As.2.1 (by have := As.2.2.1; have := As.2.2.2.1; grind) (by have := As.2.2.1; have := As.2.2.2.1; grind)
  have hc : Ap (fsub b a) (val (fsub b a)) 0 (5 * S) := Ap.exact Ac.1 Ac.2.1 (by have := Ac.2.2.1; have := Ac.2.2.2.1; grind) (by have := Ac.2.2.1; have := Ac.2.2.2.1; grind)
  have hab1 : val b - val a ≤ 5 * S := by have := Ab.2.2.1; have := Ab.2.2.2.1; have := Ab.2.2.2.2.1; have := Aa.2.2.1; have := Aa.2.2.2.1; have := Aa.2.2.2.2.2; grind
  have hab2 : -(5 * S) ≤ val b - val a := by have := Ab.2.2.1; have := Ab.2.2.2.1; have := Ab.2.2.2.2.2; have := Aa.2.2.1; have := Aa.2.2.2.1; have := Aa.2.2.2.2.1; grind
  -- the day's end
  have one := ap_one h
  have AL := one.add Ad (K := 0) (okR _ (by grind) (by grind)) (by grind) (by grind) (by grind)
  have huR := uS (show 0 ≤ R by grind)
  have hL1 : val (lastF d) - (1 + val d) ≤ 4 * (uu * R) := by have := AL.2.2.2.2.1; grind
  have hL2 : 1 + val d - val (lastF d) ≤ 4 * (uu * R) := by have := AL.2.2.2.2.2; grind
  have AL2 : Ap (lastF d) (val (lastF d)) 0 (2 * R) := Ap.exact AL.1 AL.2.1 (by grind) (by grind)
  exact ⟨a, b, S0, S, R, ⟨h, hS0, hS, hR, A0, A1, A2, Ad, hD1, hD2, ha, hb, Aa.1, Ab.1, Es1, Es2, Ec1, Ec2, hs, hc, hab1, hab2, hL1, hL2, AL2⟩⟩

/-- The word of a sample's place. -/
theorem samp {S R : Rat} {d : Nat} (h : SR S R) (Ad : Ap d (val d) 0 R) (i : Int) (k : Rat) (hik : (i : Rat) = k) (k1 : 0 ≤ k) (k2 : k ≤ 1024) :
    fin (floatOfInt .f64 i) = true ∧ fin (kf i) = true ∧ Ap (tk d i) (val d + k * (1 / 1024)) 9 (R + R) := by
  obtain ⟨r1, s0, rr, sr, srr, okR, okS, rru, srru⟩ := h.facts
  obtain ⟨n1, n2, n3, n4⟩ := ofInt_val (n := i) (B := 1024) (by rw [hik]; exact k2) (by rw [hik]; grind) (by decide +kernel)
  rw [hik] at n3 n4
  have he : eta ≤ uu := by decide +kernel
  have a1 : Ap (floatOfInt .f64 i) k 2 1024 := by
    refine ⟨n1, n2, k2, by grind, ?_, ?_⟩
    · generalize val (floatOfInt .f64 i) = v at *
      generalize uu = z at *
      generalize eta = e at *
      clear Ad h okR okS
      grind
    · generalize val (floatOfInt .f64 i) = v at *
      generalize uu = z at *
      generalize eta = e at *
      clear Ad h okR okS
      grind
  have a2 := a1.divc dvs_1024 (m := 1 / 1024) (by rw [val_1024]; decide +kernel) (by decide +kernel) (okR _ (by grind) (by grind)) (by grind)
  have a3 := a2.weaken (k' := 7) (A' := R) (by grind) (by grind) (by grind)
  exact ⟨n1, a2.1, (Ad.add a3 (K := 7) (okR _ (by grind) (by grind)) (by grind) (by grind) (by grind)).weaken (by grind) (by grind) (by grind)⟩
end Go.Proofs.Qxb6604178a.Fl
