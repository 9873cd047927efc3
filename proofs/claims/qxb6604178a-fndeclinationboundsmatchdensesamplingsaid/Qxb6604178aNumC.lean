/-
  Negation, order, constants.
-/
import Derived.Test.Qxb6604178aNumB
namespace Go.Proofs.Qxb6604178a.Fl

theorem xor_low {x : Nat} (h : x < 2 ^ 63) : x ^^^ 2 ^ 63 = 2 ^ 63 + x := by
  apply Nat.eq_of_testBit_eq
  intro k
  rw [Nat.testBit_xor, Nat.testBit_two_pow]
  by_cases h1 : k = 63
  · subst h1
    rw [Nat.testBit_two_pow_add_eq]; simp
  · by_cases h2 : k < 63
    · rw [Nat.testBit_two_pow_add_gt h2]
      have : decide (63 = k) = false := by simp; omega
      rw [this]; simp
    · have hk : 2 ^ 64 ≤ 2 ^ k := Nat.pow_le_pow_right (by omega) (by omega)
      rw [Nat.testBit_lt_two_pow (Nat.lt_of_lt_of_le (by omega) hk), Nat.testBit_lt_two_pow (Nat.lt_of_lt_of_le (by omega) hk)]
      have : decide (63 = k) = false := by simp; omega
      rw [this]; simp

theorem fneg_eq {x : Nat} (hx : x < 18446744073709551616) : fneg x = if x < 9223372036854775808 then x + 9223372036854775808 else x - 9223372036854775808 := by
  have e : fneg x = x ^^^ 2 ^ 63 := rfl
  rw [e]
  by_cases h : x < 9223372036854775808
  · rw [if_pos h, xor_low (by omega)]; omega
  · rw [if_neg h]
    have h2 := xor_low (x := x - 9223372036854775808) (by omega)
    have h3 : 2 ^ 63 + (x - 9223372036854775808) = x := by omega
    rw [h3] at h2
    have h4 : x ^^^ 2 ^ 63 = (x - 9223372036854775808 ^^^ 2 ^ 63) ^^^ 2 ^ 63 := by rw [h2]
    rw [h4, Nat.xor_assoc, Nat.xor_self, Nat.xor_zero]
theorem fneg_lt {x : Nat} (hx : x < 18446744073709551616) : fneg x < 18446744073709551616 := by
  rw [fneg_eq hx]; split <;> omega
theorem fneg_fin {x : Nat} (hx : x < 18446744073709551616) (hf : fin x = true) : fin (fneg x) = true := by
  rw [fneg_eq hx]; unfold fin at *
  have hf := of_decide_eq_true hf
  apply decide_eq_true
  split <;> omega
theorem fneg_val {x : Nat} (hx : x < 18446744073709551616) (hf : fin x = true) : val (fneg x) = - val x := by
  rw [fneg_eq hx]
  unfold val Ieee.Format.read
  obtain ⟨e1, e2, e3, e4, _⟩ := double_facts
  dsimp only
  rw [e1, e2, e3, e4]
  have hf : x % 9223372036854775808 < 9218868437227405312 := of_decide_eq_true hf
  have hr : (if x < 9223372036854775808 then x + 9223372036854775808 else x - 9223372036854775808) % 9223372036854775808 = x % 9223372036854775808 := by split <;> omega
  have hn : ((if x < 9223372036854775808 then x + 9223372036854775808 else x - 9223372036854775808) / 9223372036854775808 % 2 == 1) = !(x / 9223372036854775808 % 2 == 1) := by
    by_cases h : x < 9223372036854775808
    · rw [if_pos h]
      have a : (x + 9223372036854775808) / 9223372036854775808 % 2 = 1 := by omega
      have b : x / 9223372036854775808 % 2 = 0 := by omega
      rw [a, b]; rfl
    · rw [if_neg h]
      have a : (x - 9223372036854775808) / 9223372036854775808 % 2 = 0 := by omega
      have b : x / 9223372036854775808 % 2 = 1 := by omega
      rw [a, b]; rfl
  rw [hr, hn]
  have hs : ∀ b : Bool, sg (!b) = - sg b := by intro b; cases b <;> decide +kernel
  by_cases hb : x % 9223372036854775808 < 4503599627370496
  · rw [if_pos hb, if_pos hb]; simp only [dval]; rw [hs]; grind
  · rw [if_neg hb, if_pos hf, if_neg hb, if_pos hf]; simp only [dval]; rw [hs]; grind

/-- How two finite words stand is how their numbers stand. -/
theorem order_val {x y : Nat} (hx : fin x = true) (hy : fin y = true) :
    (FloatKind.f64.format.order x y = some .lt ↔ val x < val y) ∧ (FloatKind.f64.format.order x y = some .gt ↔ val y < val x) ∧ (FloatKind.f64.format.order x y = some .eq ↔ val x = val y) := by
  obtain ⟨s, m, i, ex⟩ := read_fin hx
  obtain ⟨t, n, j, ey⟩ := read_fin hy
  have vx : val x = sg s * m * p2 i := by unfold val; rw [ex]; rfl
  have vy : val y = sg t * n * p2 j := by unfold val; rw [ey]; rfl
  have e : FloatKind.f64.format.order x y = some (compare (Ieee.signed s m (i - min i j).toNat) (Ieee.signed t n (j - min i j).toNat)) := by
    simp only [FloatKind.format, Ieee.Format.order, ex, ey, Ieee.Datum.order]
  have e1 : p2 (((i - min i j).toNat : Nat) : Int) * p2 (min i j) = p2 i := by
    have e : (((i - min i j).toNat : Nat) : Int) + min i j = i := by omega
    rw [← p2_add, e]
  have e2 : p2 (((j - min i j).toNat : Nat) : Int) * p2 (min i j) = p2 j := by
    have e : (((j - min i j).toNat : Nat) : Int) + min i j = j := by omega
    rw [← p2_add, e]
  have a1 : val x = ((Ieee.signed s m (i - min i j).toNat : Int) : Rat) * p2 (min i j) := by rw [vx, signed_val, ← e1]; grind
  have a2 : val y = ((Ieee.signed t n (j - min i j).toNat : Int) : Rat) * p2 (min i j) := by rw [vy, signed_val, ← e2]; grind
  rw [e, a1, a2]
  have hp := p2_pos (min i j)
  generalize p2 (min i j) = c at *
  generalize Ieee.signed s m (i - min i j).toNat = S at *
  generalize Ieee.signed t n (j - min i j).toNat = T at *
  have k1 : S < T → (S : Rat) * c < (T : Rat) * c := fun h => Rat.mul_lt_mul_of_pos_right (by exact_mod_cast h) hp
  have k2 : T < S → (T : Rat) * c < (S : Rat) * c := fun h => Rat.mul_lt_mul_of_pos_right (by exact_mod_cast h) hp
  have hc : compare S T = if S < T then .lt else if S = T then .eq else .gt := rfl
  rw [hc]
  rcases Int.lt_trichotomy S T with h | h | h
  · rw [if_pos h]
    have := k1 h
    exact ⟨⟨fun _ => this, fun _ => rfl⟩, ⟨(fun h => by cases h), (fun h => by grind)⟩, ⟨(fun h => by cases h), (fun h => by grind)⟩⟩
  · subst h
    rw [if_neg (by omega), if_pos rfl]
    exact ⟨⟨(fun h => by cases h), (fun h => by grind)⟩, ⟨(fun h => by cases h), (fun h => by grind)⟩, ⟨fun _ => rfl, fun _ => rfl⟩⟩
  · rw [if_neg (by omega), if_neg (by omega)]
    have := k2 h
    exact ⟨⟨(fun h => by cases h), (fun h => by grind)⟩, ⟨fun _ => this, fun _ => rfl⟩, ⟨(fun h => by cases h), (fun h => by grind)⟩⟩

theorem flt_iff {x y : Nat} (hx : fin x = true) (hy : fin y = true) : flt x y = true ↔ val x < val y := by
  rw [← (order_val hx hy).1]; unfold flt; simp
theorem fgt_iff {x y : Nat} (hx : fin x = true) (hy : fin y = true) : fgt x y = true ↔ val y < val x := by
  rw [← (order_val hx hy).2.1]; unfold fgt; simp
theorem feq_iff {x y : Nat} (hx : fin x = true) (hy : fin y = true) : feq x y = true ↔ val x = val y := by
  rw [← (order_val hx hy).2.2]; unfold feq; simp
theorem fle_iff {x y : Nat} (hx : fin x = true) (hy : fin y = true) : fle x y = true ↔ val x ≤ val y := by
  unfold fle
  rw [Bool.or_eq_true, flt_iff hx hy, feq_iff hx hy]; grind
theorem fge_iff {x y : Nat} (hx : fin x = true) (hy : fin y = true) : fge x y = true ↔ val y ≤ val x := by
  unfold fge
  rw [Bool.or_eq_true, fgt_iff hx hy, feq_iff hx hy]; grind

theorem fabs_val {x : Nat} (hx : x < 18446744073709551616) (hf : fin x = true) : fin (fabs x) = true ∧ fabs x < 18446744073709551616 ∧ 0 ≤ val (fabs x) ∧ (val (fabs x) = val x ∨ val (fabs x) = - val x) := by
  have h0 : fin 0 = true := by decide +kernel
  have v0 : val 0 = 0 := by decide +kernel
  unfold fabs
  by_cases h : flt x 0 = true
  · rw [if_pos h]
    have := (flt_iff hf h0).1 h
    rw [v0] at this
    refine ⟨fneg_fin hx hf, fneg_lt hx, ?_, Or.inr (fneg_val hx hf)⟩
    rw [fneg_val hx hf]; grind
  · rw [if_neg h]
    have : ¬ val x < val 0 := fun hh => h ((flt_iff hf h0).2 hh)
    rw [v0] at this
    exact ⟨hf, hx, by grind, Or.inl rfl⟩

theorem fmin_val {x y : Nat} (hx : fin x = true) (hy : fin y = true) : (fmin x y = x ∨ fmin x y = y) ∧ val (fmin x y) ≤ val x ∧ val (fmin x y) ≤ val y := by
  obtain ⟨o, ho⟩ := order_some hx hy
  obtain ⟨a, b, c⟩ := order_val hx hy
  unfold fmin
  rw [ho] at a b c ⊢
  cases o
  · have := a.1 rfl; exact ⟨Or.inl rfl, Rat.le_refl, Rat.le_of_lt this⟩
  · have := c.1 rfl
    dsimp only
    split
    · exact ⟨Or.inl rfl, Rat.le_refl, by grind⟩
    · exact ⟨Or.inr rfl, by grind, Rat.le_refl⟩
  · have := b.1 rfl; exact ⟨Or.inr rfl, Rat.le_of_lt this, Rat.le_refl⟩
theorem fmax_val {x y : Nat} (hx : fin x = true) (hy : fin y = true) : (fmax x y = x ∨ fmax x y = y) ∧ val x ≤ val (fmax x y) ∧ val y ≤ val (fmax x y) := by
  obtain ⟨o, ho⟩ := order_some hx hy
  obtain ⟨a, b, c⟩ := order_val hx hy
  unfold fmax
  rw [ho] at a b c ⊢
  cases o
  · have := a.1 rfl; exact ⟨Or.inr rfl, Rat.le_of_lt this, Rat.le_refl⟩
  · have := c.1 rfl
    dsimp only
    split
    · exact ⟨Or.inr rfl, by grind, Rat.le_refl⟩
    · exact ⟨Or.inl rfl, Rat.le_refl, by grind⟩
  · have := b.1 rfl; exact ⟨Or.inl rfl, Rat.le_refl, Rat.le_of_lt this⟩

theorem val_one : val 4607182418800017408 = 1 := by decide +kernel
theorem val_two : val 4611686018427387904 = 2 := by decide +kernel
theorem val_four : val 4616189618054758400 = 4 := by decide +kernel
theorem val_1024 : val 4652218415073722368 = 1024 := by decide +kernel
theorem val_8e6 : val 4710347945566797824 = 8000000 := by decide +kernel
theorem val_1e6 : val 4696837146684686336 = 1000000 := by decide +kernel
theorem val_e12 : 999999999999 / 1000000000000000000000000 ≤ val 4427486594234968593 ∧ val 4427486594234968593 ≤ 1000000000001 / 1000000000000000000000000 := by decide +kernel

theorem wiF_val {x : Nat} (h : wiF x = true) : fin x = true ∧ val x ≤ 1000000 ∧ -1000000 ≤ val x := by
  unfold wiF at h
  rw [Bool.and_eq_true] at h
  obtain ⟨h1, h2⟩ := h
  have f1 : fin 4696837146684686336 = true := by decide +kernel
  have f2 : fin (fneg 4696837146684686336) = true := by decide +kernel
  have v2 : val (fneg 4696837146684686336) = -1000000 := by decide +kernel
  have hf : fin x = true := by
    refine Classical.byContradiction fun hn => ?_
    have hn : ¬ x % 9223372036854775808 < 9218868437227405312 := fun h => hn (decide_eq_true h)
    obtain ⟨e1, e2, e3, e4, _⟩ := double_facts
    obtain ⟨s, m, i, ey⟩ := read_fin f1
    obtain ⟨s', m', i', ey'⟩ := read_fin f2
    unfold fge fgt feq at h1
    unfold fle flt feq at h2
    simp only [FloatKind.format, Ieee.Format.order, ey, ey'] at h1 h2
    have hr : (∃ s, Ieee.double.read x = .infinity s) ∨ ∃ s t, Ieee.double.read x = .nan s t := by
      unfold Ieee.Format.read
      dsimp only
      rw [e1, e2, e3, if_neg (by omega), if_neg hn]
      split
      · exact Or.inl ⟨_, rfl⟩
      · exact Or.inr ⟨_, _, rfl⟩
    rcases hr with ⟨s, hr⟩ | ⟨s, t, hr⟩
    · rw [hr] at h1 h2
      simp only [Ieee.Datum.order] at h1 h2
      cases s
      · simp at h2
      · simp at h1
    · rw [hr] at h1
      simp [Ieee.Datum.order] at h1
  have a := (fge_iff hf f2).1 h1
  have b := (fle_iff hf f1).1 h2
  rw [v2] at a
  rw [val_1e6] at b
  exact ⟨hf, b, a⟩

theorem ofInt_val {n : Int} {B : Rat} (h1 : (n : Rat) ≤ B) (h2 : -B ≤ (n : Rat)) (hB : B ≤ p2 1000) : Near (floatOfInt .f64 n) (n : Rat) (B * uu + eta) := by
  have e : floatOfInt .f64 n = Ieee.double.nearest (n < 0) n.natAbs 0 := rfl
  rw [e]
  refine round_val ?_ h1 h2 hB
  have e0 : p2 0 = 1 := by decide +kernel
  rw [sg_natAbs _ _ (Or.inr rfl), e0]; grind
end Go.Proofs.Qxb6604178a.Fl
