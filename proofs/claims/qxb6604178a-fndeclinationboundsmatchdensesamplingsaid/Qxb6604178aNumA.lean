/-
  Numbers behind the words: the value of a float64 word as a rational; rounding.
-/
import Derived.Test.Qxb6604178aFl
namespace Go.Proofs.Qxb6604178a.Fl

/-- A power of two. -/
def p2 (e : Int) : Rat := (2 : Rat) ^ e
theorem p2_pos (e : Int) : 0 < p2 e := Rat.zpow_pos (by decide)
theorem p2_add (a b : Int) : p2 (a + b) = p2 a * p2 b := Rat.zpow_add (by decide) a b
theorem p2_nat (n : Nat) : p2 (n : Int) = ((2 ^ n : Nat) : Rat) := by
  unfold p2; rw [Rat.zpow_natCast, Rat.natCast_pow]; rfl
theorem p2_mono {a b : Int} (h : a ≤ b) : p2 a ≤ p2 b := by
  obtain ⟨n, rfl⟩ : ∃ n : Nat, b = a + n := ⟨(b - a).toNat, by omega⟩
  rw [p2_add, p2_nat]
  have h1 : (1 : Rat) ≤ ((2 ^ n : Nat) : Rat) := by
    have : (1 : Nat) ≤ 2 ^ n := Nat.one_le_two_pow
    exact_mod_cast this
  have := p2_pos a
  have := Rat.mul_le_mul_of_nonneg_left h1 (Rat.le_of_lt this)
  grind
theorem p2_lt {a b : Int} (h : p2 a < p2 b) : a < b := by
  refine Int.not_le.1 fun hb => ?_
  have := p2_mono hb
  grind

theorem p2_one : p2 1 = 2 := by decide +kernel

/-- The sign. -/
def sg (s : Bool) : Rat := if s then -1 else 1
theorem sg_cases (s : Bool) : sg s = -1 ∨ sg s = 1 := by cases s <;> simp [sg]

def dval : Ieee.Datum → Rat
  | .number s m e => sg s * m * p2 e
  | _ => 0
def val (x : Nat) : Rat := dval (Ieee.double.read x)

theorem double_facts : Ieee.double.signWeight = 9223372036854775808 ∧ Ieee.double.infRung = 9218868437227405312 ∧ Ieee.double.binade = 4503599627370496 ∧ Ieee.double.leastPlace = -1074 ∧ Ieee.double.fractionBits = 52 := by decide +kernel

/-- The number nearest to n / 2^drop lies within half a unit. -/
theorem cut_spec (neg : Bool) (n drop : Nat) : 2 * n ≤ 2 * (Ieee.Toward.even.cut neg n drop) * 2 ^ drop + 2 ^ drop ∧ 2 * (Ieee.Toward.even.cut neg n drop) * 2 ^ drop ≤ 2 * n + 2 ^ drop := by
  unfold Ieee.Toward.cut
  dsimp only
  rw [Nat.one_shiftLeft]
  by_cases hd : drop ≤ n.log2 + 2
  · rw [Nat.min_eq_left hd]
    have hp : 0 < 2 ^ drop := Nat.two_pow_pos _
    generalize 2 ^ drop = g at *
    have hm := Nat.div_add_mod n g
    have hl := Nat.mod_lt n hp
    generalize hq : n / g = q at *
    generalize hr : n % g = r at *
    rw [Nat.mul_comm g q] at hm
    by_cases h1 : g < 2 * r
    · simp [h1]
      rw [Nat.mul_add, Nat.add_mul]
      have : 2 * q * g = 2 * (q * g) := by rw [Nat.mul_assoc]
      omega
    · by_cases h2 : g = 2 * r ∧ q % 2 = 1
      · simp [h2.1, h2.2]
        have e : 2 * (q + 1) * (2 * r) = 2 * (q * (2 * r)) + 2 * (2 * r) := by rw [Nat.mul_add, Nat.add_mul, Nat.mul_assoc]
        have e2 := h2.1
        subst e2
        omega
      · have h3 : (decide (g < 2 * r) || (g == 2 * r && q % 2 == 1)) = false := by
          simp [h1]; intro a; omega
        rw [h3]
        simp
        have : 2 * q * g = 2 * (q * g) := by rw [Nat.mul_assoc]
        omega
  · rw [Nat.min_eq_right (by omega)]
    have hlt : n < 2 ^ (n.log2 + 1) := Nat.lt_log2_self
    have e : 2 ^ (n.log2 + 2) = 2 * 2 ^ (n.log2 + 1) := by rw [Nat.pow_succ, Nat.mul_comm]
    have hpow : 2 ^ (n.log2 + 2) ≤ 2 ^ drop := Nat.pow_le_pow_right (by omega) (by omega)
    have h0 : n / 2 ^ (n.log2 + 2) = 0 := Nat.div_eq_of_lt (by omega)
    have h1 : n % 2 ^ (n.log2 + 2) = n := Nat.mod_eq_of_lt (by omega)
    rw [h0, h1]
    have h2 : ¬ 2 ^ (n.log2 + 2) < 2 * n := by omega
    simp [h2]
    omega

theorem read_word (neg : Bool) (rung : Nat) (h : rung < 9218868437227405312) :
    Ieee.double.read (Ieee.double.word neg rung) = if rung < 4503599627370496 then .number neg rung (-1074) else .number neg (4503599627370496 + rung % 4503599627370496) (-1074 + (rung / 4503599627370496 - 1 : Nat)) := by
  obtain ⟨e1, e2, e3, e4, _⟩ := double_facts
  unfold Ieee.Format.read Ieee.Format.word
  rw [e1, e2, e3, e4]
  have hn : ((if neg then 9223372036854775808 + rung else rung) / 9223372036854775808 % 2 == 1) = neg := by
    cases neg
    · simp; omega
    · simp; omega
  have hr : (if neg then 9223372036854775808 + rung else rung) % 9223372036854775808 = rung := by
    cases neg
    · simp; omega
    · simp; omega
  dsimp only
  rw [hn, hr, if_pos h]
theorem fin_word (neg : Bool) (rung : Nat) (h : rung < 9218868437227405312) : fin (Ieee.double.word neg rung) = true := by
  obtain ⟨e1, _⟩ := double_facts
  unfold fin Ieee.Format.word
  rw [e1]
  cases neg <;> simp <;> omega

theorem val_word (neg : Bool) (k kept : Nat) (h1 : kept ≤ 9007199254740992) (h2 : k = 0 ∨ 4503599627370496 ≤ kept) (h3 : k * 4503599627370496 + kept < 9218868437227405312) :
    val (Ieee.double.word neg (k * 4503599627370496 + kept)) = sg neg * (kept : Rat) * p2 ((k : Int) - 1074) := by
  unfold val
  rw [read_word _ _ h3]
  by_cases hs : k * 4503599627370496 + kept < 4503599627370496
  · rw [if_pos hs]
    have hk : k = 0 := by omega
    subst hk
    simp only [dval]
    congr 2
    simp
  · rw [if_neg hs]
    simp only [dval]
    by_cases hk : kept = 9007199254740992
    · subst hk
      have e1 : (k * 4503599627370496 + 9007199254740992) % 4503599627370496 = 0 := by omega
      have e2 : (k * 4503599627370496 + 9007199254740992) / 4503599627370496 = k + 2 := by omega
      rw [e1, e2]
      have e3 : (-1074 + ((k + 2 - 1 : Nat) : Int)) = (k : Int) - 1074 + 1 := by omega
      rw [e3, p2_add]
      have e4 : p2 1 = 2 := by decide +kernel
      rw [e4]
      have e5 : ((4503599627370496 + 0 : Nat) : Rat) = 4503599627370496 := by decide +kernel
      have e6 : ((9007199254740992 : Nat) : Rat) = 9007199254740992 := by decide +kernel
      rw [e5, e6]
      grind
    · have hk2 : 4503599627370496 ≤ kept := by omega
      have e1 : (k * 4503599627370496 + kept) % 4503599627370496 = kept - 4503599627370496 := by omega
      have e2 : (k * 4503599627370496 + kept) / 4503599627370496 = k + 1 := by omega
      rw [e1, e2]
      have e3 : (-1074 + ((k + 1 - 1 : Nat) : Int)) = (k : Int) - 1074 := by omega
      have e4 : 4503599627370496 + (kept - 4503599627370496) = kept := by omega
      rw [e3, e4]

/-- Half a unit of the last place of 1, and what an underflow may cost (weaker than it is). -/
def uu : Rat := 1 / 9007199254740992
def eta : Rat := p2 (-1075)

theorem half1 {m k a b c d : Rat} (h : a * c = b * d) (k1 : m * a * 2 ≤ k * d * 2 + d) (hc : 0 < c) (hd : 0 < d) : m * b ≤ k * c + c * (1 / 2) := by
  refine Rat.le_of_mul_le_mul_right (c := d) ?_ hd
  have h1 := Rat.mul_le_mul_of_nonneg_right k1 (Rat.le_of_lt hc)
  have h2 : m * a * 2 * c = m * b * d * 2 := by grind
  grind
theorem half2 {m k a b c d : Rat} (h : a * c = b * d) (k1 : k * d * 2 ≤ m * a * 2 + d) (hc : 0 < c) (hd : 0 < d) : k * c ≤ m * b + c * (1 / 2) := by
  refine Rat.le_of_mul_le_mul_right (c := d) ?_ hd
  have h1 := Rat.mul_le_mul_of_nonneg_right k1 (Rat.le_of_lt hc)
  have h2 : m * a * 2 * c = m * b * d * 2 := by grind
  grind

theorem nearest_gen (neg : Bool) (mag : Nat) (place : Int) (hb : (mag : Rat) * p2 place ≤ p2 1000 ∨ fin (Ieee.double.nearest neg mag place) = true) :
    fin (Ieee.double.nearest neg mag place) = true ∧
    val (Ieee.double.nearest neg mag place) - sg neg * mag * p2 place ≤ (mag : Rat) * p2 place * uu + eta ∧
    sg neg * mag * p2 place - val (Ieee.double.nearest neg mag place) ≤ (mag : Rat) * p2 place * uu + eta := by
  have heta : 0 < eta := p2_pos _
  obtain ⟨_, e2, e3, e4, e5⟩ := double_facts
  generalize hw : Ieee.double.nearest neg mag place = word at *
  unfold Ieee.Format.nearest at hw
  by_cases hm : mag = 0
  · subst hm
    rw [if_pos rfl] at hw
    have hv := val_word neg 0 0 (by omega) (Or.inl rfl) (by omega)
    rw [show 0 * 4503599627370496 + 0 = 0 from rfl] at hv
    subst hw
    refine ⟨fin_word _ _ (by omega), ?_, ?_⟩ <;> rw [hv] <;> simp <;> grind
  · rw [if_neg hm] at hw
    dsimp only at hw
    rw [e2, e3, e4, e5] at hw
    have hlog : 2 ^ mag.log2 ≤ mag := Nat.log2_self_le hm
    have hlog2 : mag < 2 ^ (mag.log2 + 1) := Nat.lt_log2_self
    -- the place of the top digit
    have htop : place + mag.log2 ≤ 1000 ∨ fin word = true := by
      rcases hb with hb | hb
      · left
        have h1 : p2 (place + mag.log2) ≤ p2 1000 := by
          rw [p2_add, p2_nat]
          have : ((2 ^ mag.log2 : Nat) : Rat) ≤ (mag : Rat) := by exact_mod_cast hlog
          have := Rat.mul_le_mul_of_nonneg_right this (Rat.le_of_lt (p2_pos place))
          grind
        refine Int.not_lt.1 fun h => ?_
        have h3 : p2 (1000 + 1) ≤ p2 (place + mag.log2) := p2_mono (by omega)
        rw [p2_add, p2_one] at h3
        have h4 := p2_pos 1000
        clear hb hlog hlog2 heta
        generalize p2 1000 = a at *
        generalize p2 (place + (mag.log2 : Int)) = b at *
        grind
      · exact Or.inr hb
    clear hb
    generalize hL : max (place + (mag.log2 : Int) - ((52 : Nat) : Int)) (-1074) = last at hw
    have hL1 : -1074 ≤ last := by omega
    have hL2 : place + mag.log2 - 52 ≤ last := by omega
    have hL3 : last = -1074 ∨ last = place + mag.log2 - 52 := by omega
    generalize hup : (place - last).toNat = up at hw
    generalize hdr : (last - place).toNat = drop at hw
    have hud : (up : Int) - drop = place - last := by omega
    obtain ⟨c1, c2⟩ := cut_spec neg (mag <<< up) drop
    generalize hkept : Ieee.Toward.even.cut neg (mag <<< up) drop = kept at c1 c2 hw
    rw [Nat.shiftLeft_eq] at c1 c2
    obtain ⟨k, hk⟩ : ∃ k : Nat, last = (k : Int) - 1074 := ⟨(last + 1074).toNat, by omega⟩
    have hk2 : (last - -1074).toNat = k := by omega
    rw [hk2] at hw
    have hpd : 0 < 2 ^ drop := Nat.two_pow_pos _
    -- the kept digits
    have hn1 : mag * 2 ^ up < 2 ^ (53 + drop) := by
      have h1 : mag * 2 ^ up < 2 ^ (mag.log2 + 1) * 2 ^ up := Nat.mul_lt_mul_of_pos_right hlog2 (Nat.two_pow_pos _)
      rw [← Nat.pow_add] at h1
      exact Nat.lt_of_lt_of_le h1 (Nat.pow_le_pow_right (by omega) (by omega))
    rw [Nat.pow_add] at hn1
    have e53 : 2 ^ 53 = 9007199254740992 := by decide
    rw [e53] at hn1
    have hkept1 : kept ≤ 9007199254740992 := by
      refine Nat.not_lt.1 fun h => ?_
      have h1 : (9007199254740992 + 1) * 2 ^ drop ≤ kept * 2 ^ drop := Nat.mul_le_mul_right _ h
      rw [Nat.mul_assoc] at c2
      rw [Nat.add_mul] at h1
      omega
    have hkept2 : k = 0 ∨ 4503599627370496 ≤ kept := by
      by_cases hk0 : k = 0
      · exact Or.inl hk0
      · right
        have hl : last = place + mag.log2 - 52 := by omega
        have h1 : 2 ^ (52 + drop) ≤ mag * 2 ^ up := by
          have h2 : 2 ^ mag.log2 * 2 ^ up ≤ mag * 2 ^ up := Nat.mul_le_mul_right _ hlog
          rw [← Nat.pow_add] at h2
          exact Nat.le_trans (Nat.pow_le_pow_right (by omega) (by omega)) h2
        rw [Nat.pow_add] at h1
        have e52 : 2 ^ 52 = 4503599627370496 := by decide
        rw [e52] at h1
        refine Nat.not_lt.1 fun h => ?_
        have h3 : kept * 2 ^ drop ≤ 4503599627370495 * 2 ^ drop := Nat.mul_le_mul_right _ (by omega)
        rw [Nat.mul_assoc] at c1
        omega
    have hrung : k * 4503599627370496 + kept < 9218868437227405312 := by
      rcases htop with h | h
      · omega
      · refine Nat.not_le.1 fun hge => ?_
        rw [Nat.min_eq_right hge] at hw
        have : fin (Ieee.double.word neg 9218868437227405312) = false := by cases neg <;> decide +kernel
        rw [hw, h] at this
        cases this
    rw [Nat.min_eq_left (by omega)] at hw
    subst hw
    refine ⟨fin_word _ _ hrung, ?_⟩
    rw [val_word neg k kept hkept1 hkept2 hrung, ← hk]
    -- half a unit of the last place
    have hE : p2 last * (1 / 2) ≤ (mag : Rat) * p2 place * uu + eta := by
      rcases hL3 with h | h
      · have e1 : p2 last * (1 / 2) = eta := by
          unfold eta
          rw [h, show (-1074 : Int) = -1075 + 1 from rfl, p2_add, p2_one]
          generalize p2 (-1075) = a
          grind
        have : 0 ≤ (mag : Rat) * p2 place * uu := Rat.mul_nonneg (Rat.mul_nonneg (by exact_mod_cast Nat.zero_le _) (Rat.le_of_lt (p2_pos _))) (by decide +kernel)
        grind
      · have e1 : p2 last * 4503599627370496 = p2 place * p2 (mag.log2 : Int) := by
          have e2 : p2 ((52 : Nat) : Int) = 4503599627370496 := by rw [p2_nat]; decide +kernel
          have e6 : last + ((52 : Nat) : Int) = place + mag.log2 := by omega
          rw [← p2_add, ← e2, ← p2_add, e6]
        rw [p2_nat] at e1
        have h1 : ((2 ^ mag.log2 : Nat) : Rat) ≤ (mag : Rat) := by exact_mod_cast hlog
        have h2 := Rat.mul_le_mul_of_nonneg_left h1 (Rat.le_of_lt (p2_pos place))
        have h3 : (mag : Rat) * p2 place * uu = p2 place * (mag : Rat) * (1 / 9007199254740992) := by unfold uu; grind
        rw [h3]
        grind
    -- the cut, in numbers
    have hud2 : p2 up * p2 last = p2 place * p2 drop := by 
      have e6 : (up : Int) + last = place + drop := by omega
      rw [← p2_add, ← p2_add, e6]
    have k1 : (mag : Rat) * p2 up * 2 ≤ (kept : Rat) * p2 drop * 2 + p2 drop := by
      rw [p2_nat, p2_nat]
      have : ((2 * (mag * 2 ^ up) : Nat) : Rat) ≤ ((2 * kept * 2 ^ drop + 2 ^ drop : Nat) : Rat) := by exact_mod_cast c1
      simp only [Rat.natCast_mul, Rat.natCast_add] at this
      grind
    have k2 : (kept : Rat) * p2 drop * 2 ≤ (mag : Rat) * p2 up * 2 + p2 drop := by
      rw [p2_nat, p2_nat]
      have : ((2 * kept * 2 ^ drop : Nat) : Rat) ≤ ((2 * (mag * 2 ^ up) + 2 ^ drop : Nat) : Rat) := by exact_mod_cast c2
      simp only [Rat.natCast_mul, Rat.natCast_add] at this
      grind
    have hdp := p2_pos drop
    have hlp := p2_pos last
    -- times p2 last, over p2 drop
    have j1 : (mag : Rat) * p2 place ≤ (kept : Rat) * p2 last + p2 last * (1 / 2) := half1 hud2 k1 hlp hdp
    have j2 : (kept : Rat) * p2 last ≤ (mag : Rat) * p2 place + p2 last * (1 / 2) := half2 hud2 k2 hlp hdp
    clear k1 k2 hud2 hdp hlp
    generalize (mag : Rat) * p2 place * uu + eta = ee at *
    have g1 : sg neg * (kept : Rat) * p2 last = sg neg * ((kept : Rat) * p2 last) := Rat.mul_assoc _ _ _
    have g2 : sg neg * (mag : Rat) * p2 place = sg neg * ((mag : Rat) * p2 place) := Rat.mul_assoc _ _ _
    rw [g1, g2]
    generalize (mag : Rat) * p2 place = aa at *
    generalize (kept : Rat) * p2 last = bb at *
    generalize p2 last = cc at *
    clear g1 g2
    rcases sg_cases neg with h | h <;> rw [h] <;> constructor <;> grind

theorem nearest_val (neg : Bool) (mag : Nat) (place : Int) (hb : (mag : Rat) * p2 place ≤ p2 1000) :
    fin (Ieee.double.nearest neg mag place) = true ∧
    val (Ieee.double.nearest neg mag place) - sg neg * mag * p2 place ≤ (mag : Rat) * p2 place * uu + eta ∧
    sg neg * mag * p2 place - val (Ieee.double.nearest neg mag place) ≤ (mag : Rat) * p2 place * uu + eta := nearest_gen neg mag place (Or.inl hb)

/-- A word that is not finite is an infinity of the number's own sign. -/
theorem nearest_inf (neg : Bool) (mag : Nat) (place : Int) (h : fin (Ieee.double.nearest neg mag place) = false) :
    Ieee.double.nearest neg mag place = Ieee.double.word neg 9218868437227405312 ∧ p2 1000 < (mag : Rat) * p2 place := by
  refine ⟨?_, ?_⟩
  · obtain ⟨_, e2, e3, e4, e5⟩ := double_facts
    generalize hw : Ieee.double.nearest neg mag place = word at *
    unfold Ieee.Format.nearest at hw
    by_cases hm : mag = 0
    · rw [if_pos hm] at hw
      have := fin_word neg 0 (by omega)
      rw [hw, h] at this; cases this
    · rw [if_neg hm] at hw
      dsimp only at hw
      rw [e2] at hw
      generalize ((max (place + (mag.log2 : Int) - (Ieee.double.fractionBits : Int)) Ieee.double.leastPlace - Ieee.double.leastPlace).toNat * Ieee.double.binade + _) = rung at hw
      by_cases hr : rung < 9218868437227405312
      · rw [Nat.min_eq_left (by omega)] at hw
        have := fin_word neg rung hr
        rw [hw, h] at this; cases this
      · rw [Nat.min_eq_right (by omega)] at hw
        exact hw.symm
  · refine Rat.not_le.1 fun hb => ?_
    have := (nearest_val neg mag place hb).1
    rw [h] at this; cases this
end Go.Proofs.Qxb6604178a.Fl
