/-
  A sum with all multipliers zero: the phase, or no number where a polynomial is not finite.
-/
import Derived.Test.Qxb6604178aElpO
namespace Go.Proofs.Qxb6604178a.Elp
open Go.RowKit Fl

theorem lp : Ieee.double.leastPlace = -1074 := by decide +kernel
theorem fb : Ieee.double.fractionBits = 52 := by decide +kernel
theorem cut_exact (s : Bool) (M k : Nat) (hM : 0 < M) : Ieee.Toward.even.cut s (M * 2 ^ k) k = M := by
  unfold Ieee.Toward.cut
  have hlog : k ≤ (M * 2 ^ k).log2 := by
    rw [Nat.le_log2 (Nat.ne_of_gt (Nat.mul_pos hM (Nat.two_pow_pos k)))]
    exact Nat.le_mul_of_pos_left _ hM
  have hmin : min k ((M * 2 ^ k).log2 + 2) = k := Nat.min_eq_left (by omega)
  simp only [hmin, Nat.one_shiftLeft]
  have h1 : M * 2 ^ k / 2 ^ k = M := Nat.mul_div_cancel _ (Nat.two_pow_pos k)
  have h2 : M * 2 ^ k % 2 ^ k = 0 := Nat.mul_mod_left _ _
  have hp := Nat.two_pow_pos k
  rw [h1, h2]
  have h3 : (2 ^ k == 2 * 0) = false := by simp
  simp [h3]
theorem log2_shift (M k : Nat) (hM : 0 < M) : (M * 2 ^ k).log2 = M.log2 + k := by
  have h1 : M ≠ 0 := by omega
  have h2 : M * 2 ^ k ≠ 0 := Nat.ne_of_gt (Nat.mul_pos hM (Nat.two_pow_pos k))
  have a := Nat.log2_self_le h1
  have b : M < 2 ^ (M.log2 + 1) := Nat.lt_log2_self
  apply Nat.le_antisymm
  · refine Nat.le_of_lt_succ ((Nat.log2_lt h2).2 ?_)
    calc M * 2 ^ k < 2 ^ (M.log2 + 1) * 2 ^ k := Nat.mul_lt_mul_of_pos_right b (Nat.two_pow_pos k)
      _ = 2 ^ (M.log2 + k).succ := by rw [← Nat.pow_add]; congr 1; omega
  · rw [Nat.le_log2 h2, Nat.pow_add]
    exact Nat.mul_le_mul_right _ a
/-- A number that the format has is written as it was. -/
theorem nearest_exact (s : Bool) (r M k : Nat) (e : Int) (hr : 0 < r) (hi : r < 9218868437227405312)
    (hM : (r < 4503599627370496 ∧ M = r ∧ e = -1074) ∨ (4503599627370496 ≤ r ∧ M = 4503599627370496 + r % 4503599627370496 ∧ e = -1074 + (r / 4503599627370496 - 1 : Nat))) :
    Ieee.double.nearest s (M * 2 ^ k) (e - k) = Ieee.double.word s r := by
  have hM0 : 0 < M := by rcases hM with h | h <;> omega
  unfold Ieee.Format.nearest
  rw [if_neg (Nat.ne_of_gt (Nat.mul_pos hM0 (Nat.two_pow_pos k)))]
  simp only [lp, fb, bn, ir, log2_shift M k hM0]
  have hlast : max (e - (k : Int) + ((M.log2 + k : Nat) : Int) - ((52 : Nat) : Int)) (-1074) = e := by
    rcases hM with ⟨h1, rfl, rfl⟩ | ⟨h1, rfl, rfl⟩
    · have : M.log2 < 52 := (Nat.log2_lt (by omega)).2 (by show M < 4503599627370496; exact h1)
      omega
    · have hm : r % 4503599627370496 < 4503599627370496 := Nat.mod_lt _ (by decide)
      have l1 : (4503599627370496 + r % 4503599627370496).log2 < 53 := (Nat.log2_lt (by omega)).2 (by show _ < 9007199254740992; omega)
      have l2 : 52 ≤ (4503599627370496 + r % 4503599627370496).log2 := (Nat.le_log2 (by omega)).2 (by show 4503599627370496 ≤ _; omega)
      omega
  rw [hlast]
  have e1 : (e - (k : Int) - e).toNat = 0 := by omega
  have e2 : (e - (e - (k : Int))).toNat = k := by omega
  rw [e1, e2, Nat.shiftLeft_zero, cut_exact s M k hM0]
  congr 1
  rcases hM with ⟨h1, rfl, rfl⟩ | ⟨h1, rfl, rfl⟩
  · simp; omega
  · have := Nat.div_add_mod r 4503599627370496
    have hd : 1 ≤ r / 4503599627370496 := (Nat.le_div_iff_mul_le (by decide)).2 (by omega)
    have e3 : ((-1074 : Int) + (r / 4503599627370496 - 1 : Nat) - -1074).toNat = r / 4503599627370496 - 1 := by omega
    rw [e3]
    generalize r / 4503599627370496 = q at *
    generalize r % 4503599627370496 = t at *
    omega
theorem read_wordAny (s : Bool) {x : Nat} (hs : s = (x / 9223372036854775808 % 2 == 1)) : Ieee.double.read (Ieee.double.word s (x % 9223372036854775808)) = Ieee.double.read x := by
  have hr : x % 9223372036854775808 < 9223372036854775808 := Nat.mod_lt _ (by decide)
  have h1 : Ieee.double.word s (x % 9223372036854775808) % 9223372036854775808 = x % 9223372036854775808 := by
    unfold Ieee.Format.word
    rw [sw]
    cases s <;> simp
  have h2 : (Ieee.double.word s (x % 9223372036854775808) / 9223372036854775808 % 2 == 1) = (x / 9223372036854775808 % 2 == 1) := by
    rw [← hs]
    unfold Ieee.Format.word
    rw [sw]
    cases s
    · simp [Nat.div_eq_of_lt hr]
    · have : (9223372036854775808 + x % 9223372036854775808) / 9223372036854775808 = 1 := by omega
      simp [this]
  unfold Ieee.Format.read
  dsimp only
  rw [sw, ir, bn, h1, h2]
/-- The word stands for what x stands for; or both are zeros; or neither is a number. -/
def Eqr (a : Option Nat) (x : Nat) : Prop := (a = none ∧ nanW x = true) ∨ ∃ y, a = some y ∧ nanW y = false ∧ (Ieee.double.read y = Ieee.double.read x ∨ (y % 9223372036854775808 = 0 ∧ x % 9223372036854775808 = 0))
theorem eqr_canon (x : Nat) : Eqr (canon x) x := by
  unfold canon
  by_cases h : nanW x = true
  · exact .inl (by simp [h])
  · exact .inr ⟨x, by simp [h], by simpa using h, .inl rfl⟩
theorem eqr_zero : Eqr (some 0) 0 := .inr ⟨0, rfl, by decide, .inl rfl⟩
theorem add_zero {d : Ieee.Datum} {y : Nat} (hy : Ieee.double.read y = d) (hn : nanW y = false) (t : Bool) (j : Int) :
    ∃ v, (d.sum (.number t 0 j)).map Ieee.double.write = some v ∧ nanW v = false ∧ (Ieee.double.read v = Ieee.double.read y ∨ (v % 9223372036854775808 = 0 ∧ y % 9223372036854775808 = 0)) := by
  cases d with
  | nan s q =>
    have := (read_nan y).1 ⟨s, q, hy⟩
    rw [hn] at this
    cases this
  | infinity s =>
    refine ⟨Ieee.double.write (.infinity s), by simp [Ieee.Datum.sum], nan_write _ (by simp), .inl ?_⟩
    rw [hy]
    show Ieee.double.read (Ieee.double.word s Ieee.double.infRung) = _
    unfold Ieee.Format.read Ieee.Format.word
    dsimp only
    rw [sw, ir, bn]
    cases s <;> simp
  | number s M e =>
    have hs : (Ieee.Datum.number s M e).sum (.number t 0 j) = some (.number (if Ieee.signed s M (e - min e j).toNat = 0 then s && t else Ieee.signed s M (e - min e j).toNat < 0) (Ieee.signed s M (e - min e j).toNat).natAbs (min e j)) := by
      simp [Ieee.Datum.sum, signed_zero]
    rw [hs]
    by_cases h0 : y % 9223372036854775808 = 0
    · obtain ⟨s', e'⟩ := read_zero h0
      rw [hy] at e'
      injection e' with _ hM _
      subst hM
      rw [signed_zero]
      refine ⟨_, rfl, nan_nearest _ _ _, .inr ⟨?_, h0⟩⟩
      exact write_zero _ _
    · -- a number other than zero
      have hrd := hy
      unfold Ieee.Format.read at hrd
      dsimp only at hrd
      rw [sw, ir, bn, lp] at hrd
      have hlt : y % 9223372036854775808 < 9218868437227405312 ∧ s = (y / 9223372036854775808 % 2 == 1) ∧ ((y % 9223372036854775808 < 4503599627370496 ∧ M = y % 9223372036854775808 ∧ e = -1074) ∨ (4503599627370496 ≤ y % 9223372036854775808 ∧ M = 4503599627370496 + y % 9223372036854775808 % 4503599627370496 ∧ e = -1074 + (y % 9223372036854775808 / 4503599627370496 - 1 : Nat))) := by
        split at hrd
        · rename_i h
          injection hrd with a b c
          exact ⟨by omega, a.symm, .inl ⟨h, b.symm, c.symm⟩⟩
        · rename_i h
          split at hrd
          · rename_i h'
            injection hrd with a b c
            exact ⟨h', a.symm, .inr ⟨by omega, b.symm, c.symm⟩⟩
          · split at hrd <;> cases hrd
      obtain ⟨h1, h2, h3⟩ := hlt
      have hM0 : 0 < M := by rcases h3 with h | h <;> omega
      generalize hk : (e - min e j).toNat = k
      obtain ⟨P, hP⟩ : ∃ P, P = M * 2 ^ k := ⟨_, rfl⟩
      have hpos : 0 < P := by rw [hP]; exact Nat.mul_pos hM0 (Nat.two_pow_pos k)
      have hsv : Ieee.signed s M k = if s = true then -(P : Int) else (P : Int) := by
        unfold Ieee.signed
        rw [Nat.shiftLeft_eq, ← hP]
      have habs : (Ieee.signed s M k).natAbs = P := by
        rw [hsv]
        cases s <;> simp
      have hne : ¬ Ieee.signed s M k = 0 := by
        rw [hsv]
        cases s <;> simp <;> omega
      have hsg : decide (Ieee.signed s M k < 0) = s := by
        rw [hsv]
        cases s <;> simp <;> omega
      rw [if_neg hne, hsg, habs, hP]
      have hmin : min e j = e - (k : Int) := by omega
      refine ⟨_, rfl, nan_nearest _ _ _, .inl ?_⟩
      show Ieee.double.read (Ieee.double.nearest s (M * 2 ^ k) (min e j)) = _
      rw [hmin, nearest_exact s (y % 9223372036854775808) M k e (by omega) h1 h3, read_wordAny s h2]
theorem eqr_add {a : Option Nat} {x z : Nat} (h : Eqr a x) (hz : z % 9223372036854775808 = 0) : Eqr (oadd a (some z)) x := by
  rcases h with ⟨rfl, hn⟩ | ⟨y, rfl, hn, h⟩
  · exact .inl ⟨rfl, hn⟩
  · obtain ⟨t, ht⟩ := read_zero hz
    obtain ⟨v, h1, h2, h3⟩ := add_zero (y := y) rfl hn t Ieee.double.leastPlace
    refine .inr ⟨v, ?_, h2, ?_⟩
    · show ((Ieee.double.read y).sum (Ieee.double.read z)).map Ieee.double.write = some v
      rw [ht]
      exact h1
    · rcases h with h | ⟨ha, hb⟩
      · rcases h3 with h3 | ⟨h3, h4⟩
        · exact .inl (h3.trans h)
        · obtain ⟨s1, e1⟩ := read_zero h4
          refine .inr ⟨h3, ?_⟩
          rw [e1] at h
          -- x reads as a zero
          have hr := h.symm
          unfold Ieee.Format.read at hr
          dsimp only at hr
          rw [sw, ir, bn] at hr
          split at hr
          · injection hr with _ b _
          · split at hr
            · injection hr with _ b _
              omega
            · split at hr <;> cases hr
      · rcases h3 with h3 | ⟨h3, h4⟩
        · refine .inr ⟨?_, hb⟩
          obtain ⟨s1, e1⟩ := read_zero ha
          rw [e1] at h3
          unfold Ieee.Format.read at h3
          dsimp only at h3
          rw [sw, ir, bn] at h3
          split at h3
          · injection h3 with _ b _
          · split at h3
            · injection h3 with _ b _
              omega
            · split at h3 <;> cases h3
        · exact .inr ⟨h3, hb⟩
theorem zero_int : floatOfInt .f64 0 = 0 := by decide +kernel
theorem mul_fin {x : Nat} (h : fin x = true) : ∃ z, omul (some (floatOfInt .f64 0)) (canon x) = some z ∧ z % 9223372036854775808 = 0 := by
  obtain ⟨s, m, e, hr⟩ := read_fin h
  have hn : nanW x = false := by
    cases hx : nanW x with
    | false => rfl
    | true =>
      obtain ⟨s', t', h'⟩ := (read_nan x).2 hx
      rw [hr] at h'
      cases h'
  obtain ⟨s0, h0⟩ := read_zero (x := 0) rfl
  refine ⟨Ieee.double.write (.number (s0 ^^ s) 0 (Ieee.double.leastPlace + e)), ?_, write_zero _ _⟩
  rw [zero_int]
  simp only [canon, hn, omul, Option.bind_some, Bool.false_eq_true, if_false]
  show ((Ieee.double.read 0).product (Ieee.double.read x)).map Ieee.double.write = _
  rw [h0, hr]
  simp [Ieee.Datum.product]
theorem mul_not_fin {x : Nat} (h : fin x = false) : omul (some (floatOfInt .f64 0)) (canon x) = none := by
  unfold fin at h
  have h := of_decide_eq_false h
  rw [zero_int]
  by_cases hn : nanW x = true
  · simp [canon, hn, omul]
  · simp only [canon, hn, omul, Option.bind_some, Bool.false_eq_true, if_false]
    show ((Ieee.double.read 0).product (Ieee.double.read x)).map Ieee.double.write = _
    obtain ⟨s0, h0⟩ := read_zero (x := 0) rfl
    have hx : ∃ s, Ieee.double.read x = .infinity s := by
      unfold nanW at hn
      simp only [decide_eq_true_eq] at hn
      unfold Ieee.Format.read
      dsimp only
      rw [sw, ir, bn, if_neg (by omega), if_neg (by omega), if_pos (by omega)]
      exact ⟨_, rfl⟩
    obtain ⟨s, hx⟩ := hx
    rw [h0, hx]
    simp [Ieee.Datum.product]
theorem comb_fin {ms : Nat → Int} {X : Nat → Nat} {ph : Option Nat} {x : Nat} (h : Eqr ph x) : ∀ n, (∀ i, i < n → ms i = 0) → (∀ i, i < n → fin (X i) = true) → Eqr (combC ms (fun i => canon (X i)) ph n) x
  | 0, _, _ => h
  | n + 1, h1, h2 => by
    have ih := comb_fin h n (fun i hi => h1 i (by omega)) (fun i hi => h2 i (by omega))
    obtain ⟨z, e1, e2⟩ := mul_fin (h2 n (by omega))
    rw [combC, h1 n (by omega), e1]
    exact eqr_add ih e2
theorem comb_not_fin {ms : Nat → Int} {X : Nat → Nat} {ph : Option Nat} : ∀ n, (∀ i, i < n → ms i = 0) → (∃ i, i < n ∧ fin (X i) = false) → combC ms (fun i => canon (X i)) ph n = none
  | 0, _, ⟨i, hi, _⟩ => by omega
  | n + 1, h1, ⟨i, hi, hf⟩ => by
    rw [combC, h1 n (by omega)]
    by_cases e : i = n
    · subst e
      rw [mul_not_fin hf]
      cases combC ms (fun i => canon (X i)) ph i <;> rfl
    · rw [comb_not_fin n (fun i hi => h1 i (by omega)) ⟨i, by omega, hf⟩]
      rfl
theorem same_eqr {g x : Nat} (h : Eqr (canon g) x) : SameF g x := by
  rcases h with ⟨h1, h2⟩ | ⟨y, h1, h2, h3⟩
  · have hg : nanW g = true := by
      unfold canon at h1
      by_cases e : nanW g = true
      · exact e
      · simp [e] at h1
    exact .inr ⟨feq_nan hg g, feq_nan h2 x⟩
  · obtain rfl : g = y := by
      unfold canon at h1
      by_cases e : nanW g = true
      · simp [e] at h1
      · simpa [e] using h1
    rcases h3 with h3 | ⟨h3, h4⟩
    · left
      have := feq_self h2
      unfold feq at this ⊢
      have e : FloatKind.f64.format.order g x = FloatKind.f64.format.order g g := by
        show (Ieee.double.read g).order (Ieee.double.read x) = (Ieee.double.read g).order (Ieee.double.read g)
        rw [h3]
      rw [e]
      exact this
    · exact .inl (feq_zero h3 h4)
end Go.Proofs.Qxb6604178a.Elp
