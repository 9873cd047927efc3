/-
  A parabola against its samples: no words of Go here.
-/
import Derived.Test.Qxb6604178aNumE
namespace Go.Proofs.Qxb6604178a.Fl

/-- The parabola. -/
def Qf (q0 σ c t : Rat) : Rat := q0 + t * (1 / 2) * (σ + t * c)

theorem Qf_diff (q0 σ c t s : Rat) : Qf q0 σ c t - Qf q0 σ c s = (t - s) * (1 / 2) * (σ + c * (t + s)) := by unfold Qf; grind
theorem Qf_diff2 (q0 σ c t s : Rat) : Qf q0 σ c t - Qf q0 σ c s = (t - s) * (1 / 2) * (σ + 2 * c * s) + c * ((t - s) * (t - s)) * (1 / 2) := by unfold Qf; grind

theorem lip {S R q0 σ c t s d : Rat} (h : SR S R) (hσ1 : σ ≤ 5 * S) (hσ2 : -(5 * S) ≤ σ) (hc1 : c ≤ 5 * S) (hc2 : -(5 * S) ≤ c)
    (t1 : t ≤ 2 * R) (t2 : -(2 * R) ≤ t) (s1 : s ≤ 2 * R) (s2 : -(2 * R) ≤ s) (d1 : t - s ≤ d) (d2 : s - t ≤ d) :
    Qf q0 σ c t - Qf q0 σ c s ≤ d * (13 * (S * R)) ∧ Qf q0 σ c s - Qf q0 σ c t ≤ d * (13 * (S * R)) := by
  obtain ⟨r1, s0, rr, sr, srr, _, _, _, _⟩ := h.facts
  obtain ⟨m1, m2⟩ := mul_abs (a := c) (b := t + s) (A := 5 * S) (B := 4 * R) hc1 hc2 (by grind) (by grind)
  obtain ⟨n1, n2⟩ := mul_abs (a := t - s) (b := (1 / 2) * (σ + c * (t + s))) (A := d) (B := 13 * (S * R)) d1 (by grind) (by grind) (by grind)
  have e := Qf_diff q0 σ c t s
  have e2 : (t - s) * (1 / 2) * (σ + c * (t + s)) = (t - s) * ((1 / 2) * (σ + c * (t + s))) := by grind
  rw [e2] at e
  constructor <;> grind

/-- Every place of the day lies no lower than the lowest of the ends and the turn, but for a few roundings. -/
theorem cover {S R D L q0 σ c n t : Rat} {ins : Prop} (h : SR S R) (hσ1 : σ ≤ 5 * S) (hσ2 : -(5 * S) ≤ σ) (hc1 : c ≤ 5 * S) (hc2 : -(5 * S) ≤ c)
    (hD1 : D ≤ R - 1) (hD2 : -(R - 1) ≤ D) (hL1 : L - (1 + D) ≤ 4 * (uu * R)) (hL2 : 1 + D - L ≤ 4 * (uu * R))
    (hn : ins → D < n ∧ n < L ∧ σ + 2 * c * n ≤ 200 * (uu * (S * R)) ∧ -(200 * (uu * (S * R))) ≤ σ + 2 * c * n)
    (ho : ¬ ins → 0 < c → -(200 * (uu * (S * R))) ≤ σ + 2 * c * D ∨ σ + 2 * c * L ≤ 200 * (uu * (S * R)))
    (t1 : t ≤ D + 1 + 20 * (uu * R)) (t2 : D - 20 * (uu * R) ≤ t) :
    Qf q0 σ c D - Qf q0 σ c t ≤ 832 * (uu * (S * R * R)) ∨ Qf q0 σ c L - Qf q0 σ c t ≤ 832 * (uu * (S * R * R)) ∨ (ins ∧ Qf q0 σ c n - Qf q0 σ c t ≤ 832 * (uu * (S * R * R))) := by
  obtain ⟨r1, s0, rr, sr, srr, _, _, rru, srru⟩ := h.facts
  have hr2 := h.r2
  unfold uu at hL1 hL2 hn ho t1 t2 ⊢
  have tb1 : t ≤ 2 * R := by grind
  have tb2 : -(2 * R) ≤ t := by grind
  have Lb1 : L ≤ 2 * R := by grind
  have Lb2 : -(2 * R) ≤ L := by grind
  -- near an end
  have nearD : t < D → Qf q0 σ c D - Qf q0 σ c t ≤ 832 * (1 / 9007199254740992 * (S * R * R)) := fun hlt => by
    have := (lip (q0 := q0) (d := 64 * (1 / 9007199254740992 * R)) h hσ1 hσ2 hc1 hc2 tb1 tb2 (s := D) (by grind) (by grind) (by grind) (by grind)).2
    grind
  have nearL : L < t → Qf q0 σ c L - Qf q0 σ c t ≤ 832 * (1 / 9007199254740992 * (S * R * R)) := fun hlt => by
    have := (lip (q0 := q0) (d := 64 * (1 / 9007199254740992 * R)) h hσ1 hσ2 hc1 hc2 tb1 tb2 (s := L) (by grind) (by grind) (by grind) (by grind)).2
    grind
  have hpos : 0 ≤ S * R * R := by grind
  by_cases hc : c ≤ 0
  · by_cases hs : 0 ≤ σ + c * (t + D)
    · left
      by_cases htD : D ≤ t
      · have e := Qf_diff q0 σ c t D
        have : 0 ≤ (t - D) * (1 / 2) * (σ + c * (t + D)) := Rat.mul_nonneg (by grind) hs
        grind
      · exact nearD (by grind)
    · right; left
      by_cases htL : t ≤ L
      · have e := Qf_diff q0 σ c t L
        have h1 : 0 ≤ (-c) * (L - D) := Rat.mul_nonneg (by grind) (by grind)
        have h2 : σ + c * (t + L) ≤ 0 := by grind
        have : 0 ≤ (L - t) * (1 / 2) * -(σ + c * (t + L)) := Rat.mul_nonneg (by grind) (by grind)
        grind
      · exact nearL (by grind)
  · have hc0 : 0 < c := by grind
    have sq : ∀ s : Rat, 0 ≤ c * ((t - s) * (t - s)) * (1 / 2) := fun s => by
      have h1 : 0 ≤ (t - s) * (t - s) := by
        by_cases h : 0 ≤ t - s
        · exact Rat.mul_nonneg h h
        · have := Rat.mul_nonneg (show 0 ≤ -(t - s) by grind) (show 0 ≤ -(t - s) by grind)
          grind
      have := Rat.mul_nonneg (Rat.le_of_lt hc0) h1
      grind
    by_cases hi : ins
    · right; right
      obtain ⟨n1, n2, n3, n4⟩ := hn hi
      refine ⟨hi, ?_⟩
      have e := Qf_diff2 q0 σ c t n
      have s1 := sq n
      obtain ⟨m1, m2⟩ := mul_abs (a := t - n) (b := σ + 2 * c * n) (A := 2) (B := 200 * (1 / 9007199254740992 * (S * R))) (by grind) (by grind) n3 n4
      grind
    · rcases ho hi hc0 with ho | ho
      · left
        by_cases htD : D ≤ t
        · have e := Qf_diff2 q0 σ c t D
          have s1 := sq D
          have h1 : 0 ≤ (t - D) * (σ + 2 * c * D + 200 * (1 / 9007199254740992 * (S * R))) := Rat.mul_nonneg (by grind) (by grind)
          have h2 : (t - D) * (200 * (1 / 9007199254740992 * (S * R))) ≤ 2 * (200 * (1 / 9007199254740992 * (S * R))) := Rat.mul_le_mul_of_nonneg_right (by grind) (by grind)
          grind
        · exact nearD (by grind)
      · right; left
        by_cases htL : t ≤ L
        · have e := Qf_diff2 q0 σ c t L
          have s1 := sq L
          have h1 : 0 ≤ (L - t) * (200 * (1 / 9007199254740992 * (S * R)) - (σ + 2 * c * L)) := Rat.mul_nonneg (by grind) (by grind)
          have h2 : (L - t) * (200 * (1 / 9007199254740992 * (S * R))) ≤ 2 * (200 * (1 / 9007199254740992 * (S * R))) := Rat.mul_le_mul_of_nonneg_right (by grind) (by grind)
          grind
        · exact nearL (by grind)

/-- The sample next to a place of the day. -/
theorem index {D L R n : Rat} (hR2 : R ≤ 1000001) (hL1 : L - (1 + D) ≤ 4 * (uu * R)) (h1 : D < n) (h2 : n < L) :
    ∃ k : Nat, k ≤ 1024 ∧ D + (k : Rat) * (1 / 1024) - n ≤ 1 / 2048 ∧ n - (D + (k : Rat) * (1 / 1024)) ≤ 1 / 2048 := by
  unfold uu at hL1
  obtain ⟨z, hz⟩ : ∃ z, ((n - D) * 1024 + 1 / 2).floor = z := ⟨_, rfl⟩
  have f1 : (z : Rat) ≤ (n - D) * 1024 + 1 / 2 := by rw [← hz]; exact Rat.floor_le _
  have f2 : (n - D) * 1024 + 1 / 2 < (z : Rat) + 1 := by
    have := Rat.lt_floor_add_one ((n - D) * 1024 + 1 / 2)
    rw [hz, Rat.intCast_add, Rat.intCast_one] at this; exact this
  have z0 : -1 < z := by
    have : ((-1 : Int) : Rat) < (z : Rat) := by
      have : ((-1 : Int) : Rat) = -1 := by decide +kernel
      rw [this]; grind
    exact Rat.intCast_lt_intCast.1 this
  have z1 : z < 1025 := by
    have : (z : Rat) < ((1025 : Int) : Rat) := by
      have : ((1025 : Int) : Rat) = 1025 := by decide +kernel
      rw [this]; grind
    exact Rat.intCast_lt_intCast.1 this
  refine ⟨z.toNat, by omega, ?_⟩
  have e : ((z.toNat : Nat) : Rat) = (z : Rat) := by
    rw [← Rat.intCast_natCast]; congr 1; omega
  rw [e]
  constructor <;> grind

/-- The lowest of the ends and the turn against the lowest sample. -/
theorem side {S R D L q0 σ c n lo low ipD ipL ipn : Rat} {t tpv : Nat → Rat} {ins : Prop} (h : SR S R) (hσ1 : σ ≤ 5 * S) (hσ2 : -(5 * S) ≤ σ) (hc1 : c ≤ 5 * S) (hc2 : -(5 * S) ≤ c)
    (hD1 : D ≤ R - 1) (hD2 : -(R - 1) ≤ D) (hL1 : L - (1 + D) ≤ 4 * (uu * R)) (hL2 : 1 + D - L ≤ 4 * (uu * R))
    (hn : ins → D < n ∧ n < L ∧ σ + 2 * c * n ≤ 200 * (uu * (S * R)) ∧ -(200 * (uu * (S * R))) ≤ σ + 2 * c * n)
    (ho : ¬ ins → 0 < c → -(200 * (uu * (S * R))) ≤ σ + 2 * c * D ∨ σ + 2 * c * L ≤ 200 * (uu * (S * R)))
    (ht : ∀ k : Nat, k ≤ 1024 → t k - (D + (k : Rat) * (1 / 1024)) ≤ 20 * (uu * R) ∧ D + (k : Rat) * (1 / 1024) - t k ≤ 20 * (uu * R))
    (eD1 : ipD - Qf q0 σ c D ≤ 240 * (uu * (S * R * R))) (eD2 : Qf q0 σ c D - ipD ≤ 240 * (uu * (S * R * R)))
    (eL1 : ipL - Qf q0 σ c L ≤ 240 * (uu * (S * R * R))) (eL2 : Qf q0 σ c L - ipL ≤ 240 * (uu * (S * R * R)))
    (en : ins → ipn - Qf q0 σ c n ≤ 240 * (uu * (S * R * R)) ∧ Qf q0 σ c n - ipn ≤ 240 * (uu * (S * R * R)))
    (et : ∀ k : Nat, k ≤ 1024 → tpv k - Qf q0 σ c (t k) ≤ 310 * (uu * (S * R * R)) ∧ Qf q0 σ c (t k) - tpv k ≤ 310 * (uu * (S * R * R)))
    (lD : lo ≤ ipD) (lL : lo ≤ ipL) (ln : ins → lo ≤ ipn) (le : lo = ipD ∨ lo = ipL ∨ (ins ∧ lo = ipn))
    (wl : ∀ k : Nat, k ≤ 1024 → low ≤ tpv k) (we : ∃ k : Nat, k ≤ 1024 ∧ low = tpv k) :
    lo - low ≤ 1400 * (uu * (S * R * R)) ∧ low - lo ≤ 1400 * (uu * (S * R * R)) + ab c * (1 / 8388608) := by
  obtain ⟨r1, s0, rr, sr, srr, _, _, rru, srru⟩ := h.facts
  have hr2 := h.r2
  have hp : 0 ≤ uu * (S * R * R) := uA0 (by grind)
  have habc : 0 ≤ ab c := by rcases ab_cases c with ⟨a, b⟩ | ⟨a, b⟩ <;> grind
  have htb : ∀ k : Nat, k ≤ 1024 → t k ≤ D + 1 + 20 * (uu * R) ∧ D - 20 * (uu * R) ≤ t k := fun k hk => by
    obtain ⟨a, b⟩ := ht k hk
    have h1 : (0 : Rat) ≤ (k : Rat) := by exact_mod_cast Nat.zero_le k
    have h2 : (k : Rat) ≤ 1024 := by
      have : ((k : Nat) : Rat) ≤ ((1024 : Nat) : Rat) := by exact_mod_cast hk
      exact this
    constructor <;> grind
  constructor
  · obtain ⟨k, hk, hl⟩ := we
    obtain ⟨t1, t2⟩ := htb k hk
    obtain ⟨e1, e2⟩ := et k hk
    rw [hl]
    rcases cover (q0 := q0) h hσ1 hσ2 hc1 hc2 hD1 hD2 hL1 hL2 hn ho t1 t2 with hh | hh | ⟨hi, hh⟩
    · generalize uu * (S * R * R) = z at *; grind
    · generalize uu * (S * R * R) = z at *; grind
    · have := ln hi
      obtain ⟨a, b⟩ := en hi
      generalize uu * (S * R * R) = z at *; grind
  · rcases le with hl | hl | ⟨hi, hl⟩
    · have w0 := wl 0 (by omega)
      obtain ⟨e1, e2⟩ := et 0 (by omega)
      obtain ⟨t1, t2⟩ := ht 0 (by omega)
      obtain ⟨b1, b2⟩ := htb 0 (by omega)
      rw [show ((0 : Nat) : Rat) = 0 from rfl] at t1 t2
      have hlip := (lip (q0 := q0) (d := 64 * (uu * R)) (t := t 0) (s := D) h hσ1 hσ2 hc1 hc2 (by unfold uu at b1 b2; grind) (by unfold uu at b1 b2; grind) (by grind) (by grind) (by unfold uu at t1 t2 ⊢; grind) (by unfold uu at t1 t2 ⊢; grind)).1
      have e : 64 * (uu * R) * (13 * (S * R)) = 832 * (uu * (S * R * R)) := by grind
      rw [e] at hlip
      rw [hl]
      generalize uu * (S * R * R) = z at *; grind
    · have w0 := wl 1024 (by omega)
      obtain ⟨e1, e2⟩ := et 1024 (by omega)
      obtain ⟨t1, t2⟩ := ht 1024 (by omega)
      obtain ⟨b1, b2⟩ := htb 1024 (by omega)
      rw [show ((1024 : Nat) : Rat) = 1024 from rfl] at t1 t2
      have hlip := (lip (q0 := q0) (d := 64 * (uu * R)) (t := t 1024) (s := L) h hσ1 hσ2 hc1 hc2 (by unfold uu at b1 b2; grind) (by unfold uu at b1 b2; grind) (by unfold uu at hL1 hL2; grind) (by unfold uu at hL1 hL2; grind) (by unfold uu at t1 t2 hL1 hL2 ⊢; grind) (by unfold uu at t1 t2 hL1 hL2 ⊢; grind)).1
      have e : 64 * (uu * R) * (13 * (S * R)) = 832 * (uu * (S * R * R)) := by grind
      rw [e] at hlip
      rw [hl]
      generalize uu * (S * R * R) = z at *; grind
    · obtain ⟨n1, n2, n3, n4⟩ := hn hi
      obtain ⟨a, b⟩ := en hi
      obtain ⟨k, hk, i1, i2⟩ := index hr2 hL1 n1 n2
      have w0 := wl k hk
      obtain ⟨e1, e2⟩ := et k hk
      obtain ⟨t1, t2⟩ := ht k hk
      have e := Qf_diff2 q0 σ c (t k) n
      have d1 : t k - n ≤ 1 / 2048 + 20 * (uu * R) := by grind
      have d2 : -(1 / 2048 + 20 * (uu * R)) ≤ t k - n := by grind
      obtain ⟨m1, m2⟩ := mul_abs (a := t k - n) (b := σ + 2 * c * n) (A := 1) (B := 200 * (uu * (S * R))) (by unfold uu at d1; grind) (by unfold uu at d2; grind) n3 n4
      obtain ⟨q1, q2⟩ := mul_abs d1 d2 d1 d2
      have hsq : 0 ≤ (t k - n) * (t k - n) := by
        by_cases h : 0 ≤ t k - n
        · exact Rat.mul_nonneg h h
        · have := Rat.mul_nonneg (show 0 ≤ -(t k - n) by grind) (show 0 ≤ -(t k - n) by grind)
          grind
      have g1 : c * ((t k - n) * (t k - n)) ≤ ab c * ((t k - n) * (t k - n)) := Rat.mul_le_mul_of_nonneg_right (by rcases ab_cases c with ⟨a, b⟩ | ⟨a, b⟩ <;> grind) hsq
      have g2 : ab c * ((t k - n) * (t k - n)) ≤ ab c * ((1 / 2048 + 20 * (uu * R)) * (1 / 2048 + 20 * (uu * R))) := Rat.mul_le_mul_of_nonneg_left q1 habc
      have hRu : 20 * (uu * R) ≤ 1 / 2048 := by unfold uu; grind
      have hRu0 : 0 ≤ uu * R := uA0 (by grind)
      have g3 : (20 * (uu * R)) * (20 * (uu * R)) ≤ (1 / 2048) * (20 * (uu * R)) := Rat.mul_le_mul_of_nonneg_right hRu (by grind)
      have g4 : (1 / 2048 + 20 * (uu * R)) * (1 / 2048 + 20 * (uu * R)) ≤ 1 / 4194304 + (1 / 30) * (uu * R) := by grind
      have g5 := Rat.mul_le_mul_of_nonneg_left g4 habc
      have habS : ab c ≤ 5 * S := by rcases ab_cases c with ⟨a, b⟩ | ⟨a, b⟩ <;> grind
      have g6 : ab c * (uu * R) ≤ 5 * S * (uu * R) := Rat.mul_le_mul_of_nonneg_right habS hRu0
      have g7 : 5 * S * (uu * R) = 5 * (uu * (S * R)) := by grind
      have g8 : uu * (S * R) ≤ uu * (S * R * R) := Rat.mul_le_mul_of_nonneg_left srr (by decide +kernel)
      have g9 : 0 ≤ uu * (S * R) := uA0 (by grind)
      have g10 : ab c * (1 / 4194304 + (1 / 30) * (uu * R)) = ab c * (1 / 4194304) + (1 / 30) * (ab c * (uu * R)) := by grind
      rw [g10] at g5
      rw [g7] at g6
      rw [hl]
      have e' : Qf q0 σ c (t k) - Qf q0 σ c n = (1 / 2) * ((t k - n) * (σ + 2 * c * n)) + (1 / 2) * (c * ((t k - n) * (t k - n))) := by rw [e]; grind
      clear e d1 d2 q1 q2 g3 g4 n3 n4 t1 t2 i1 i2 hn ho hL1 hL2 ht et en eD1 eD2 eL1 eL2
      generalize uu * (S * R * R) = z at *
      generalize uu * (S * R) = z2 at *
      generalize c * ((t k - n) * (t k - n)) = z3 at *
      generalize (t k - n) * (σ + 2 * c * n) = z4 at *
      grind
end Go.Proofs.Qxb6604178a.Fl
