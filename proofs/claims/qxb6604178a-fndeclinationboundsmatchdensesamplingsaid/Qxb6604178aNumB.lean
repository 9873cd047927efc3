/-
  The operations' values: each is the exact result up to a half unit of the last place.
-/
import Derived.Test.Qxb6604178aNumA
namespace Go.Proofs.Qxb6604178a.Fl

/-- r stands for a number within 'd' of 'e'. -/
def Near (r : Nat) (e d : Rat) : Prop := fin r = true ∧ r < 18446744073709551616 ∧ val r - e ≤ d ∧ e - val r ≤ d

theorem nearest_lt64 (neg : Bool) (mag : Nat) (place : Int) : Ieee.double.nearest neg mag place < 18446744073709551616 := by
  have h := Ieee.double.nearest_lt neg mag place
  have e : 2 ^ Ieee.double.width = 18446744073709551616 := by decide +kernel
  omega

theorem round_val {neg : Bool} {mag : Nat} {place : Int} {e B : Rat} (he : sg neg * mag * p2 place = e) (h1 : e ≤ B) (h2 : -B ≤ e) (hB : B ≤ p2 1000) :
    Near (Ieee.double.nearest neg mag place) e (B * uu + eta) := by
  have hm : (mag : Rat) * p2 place ≤ B := by
    rcases sg_cases neg with h | h
    · rw [h] at he
      have : (-1 : Rat) * mag * p2 place = -((mag : Rat) * p2 place) := by grind
      grind
    · rw [h] at he
      have : (1 : Rat) * mag * p2 place = (mag : Rat) * p2 place := by grind
      grind
  obtain ⟨a, b, c⟩ := nearest_val neg mag place (by grind)
  rw [he] at b c
  have hu : (mag : Rat) * p2 place * uu ≤ B * uu := Rat.mul_le_mul_of_nonneg_right hm (by decide +kernel)
  exact ⟨a, nearest_lt64 _ _ _, by grind, by grind⟩

theorem signed_val (s : Bool) (m up : Nat) : ((Ieee.signed s m up : Int) : Rat) = sg s * m * p2 up := by
  unfold Ieee.signed
  rw [p2_nat, Nat.shiftLeft_eq]
  cases s
  · simp only [sg, Bool.false_eq_true, if_false, Rat.intCast_natCast, Rat.natCast_mul]; grind
  · simp only [sg, if_true, Rat.intCast_neg, Rat.intCast_natCast, Rat.natCast_mul]; grind

theorem sg_natAbs (T : Int) (b : Bool) (h : T = 0 ∨ b = decide (T < 0)) : sg b * (T.natAbs : Rat) = (T : Rat) := by
  rcases h with rfl | rfl
  · simp
  · by_cases h : T < 0
    · have e : ((T.natAbs : Nat) : Rat) = ((-T : Int) : Rat) := by
        rw [← Rat.intCast_natCast]; congr 1; omega
      rw [e, Rat.intCast_neg]; simp [sg, h]; grind
    · have e : ((T.natAbs : Nat) : Rat) = ((T : Int) : Rat) := by
        rw [← Rat.intCast_natCast]; congr 1; omega
      rw [e]; simp [sg, h]

/-- The exact sum. -/
theorem sum_val (s t : Bool) (m n : Nat) (i j : Int) : ∃ b k place, Ieee.Datum.sum (.number s m i) (.number t n j) = some (.number b k place) ∧ sg b * (k : Rat) * p2 place = sg s * m * p2 i + sg t * n * p2 j := by
  unfold Ieee.Datum.sum
  dsimp only
  refine ⟨_, _, _, rfl, ?_⟩
  rw [sg_natAbs]
  · rw [Rat.intCast_add, signed_val, signed_val]
    have e1 : p2 (((i - min i j).toNat : Nat) : Int) * p2 (min i j) = p2 i := by
      have e : (((i - min i j).toNat : Nat) : Int) + min i j = i := by omega
      rw [← p2_add, e]
    have e2 : p2 (((j - min i j).toNat : Nat) : Int) * p2 (min i j) = p2 j := by
      have e : (((j - min i j).toNat : Nat) : Int) + min i j = j := by omega
      rw [← p2_add, e]
    rw [Rat.add_mul, ← e1, ← e2]
    generalize p2 (min i j) = a
    grind
  · by_cases h : Ieee.signed s m (i - min i j).toNat + Ieee.signed t n (j - min i j).toNat = 0
    · exact Or.inl h
    · right; rw [if_neg h]

theorem add_val {x y : Nat} {B : Rat} (hx : fin x = true) (hy : fin y = true) (h1 : val x + val y ≤ B) (h2 : -B ≤ val x + val y) (hB : B ≤ p2 1000) : Near (fadd x y) (val x + val y) (B * uu + eta) := by
  obtain ⟨s, m, i, ex⟩ := read_fin hx
  obtain ⟨t, n, j, ey⟩ := read_fin hy
  have vx : val x = sg s * m * p2 i := by unfold val; rw [ex]; rfl
  have vy : val y = sg t * n * p2 j := by unfold val; rw [ey]; rfl
  obtain ⟨b, k, place, hs, he⟩ := sum_val s t m n i j
  have e : fadd x y = Ieee.double.nearest b k place := by
    unfold fadd
    simp only [floatBits, FloatKind.format, Ieee.Format.add, ex, ey, hs, Option.map_some, Option.getD_some, Ieee.Format.write]
  rw [e, vx, vy]
  rw [vx, vy] at h1 h2
  exact round_val he h1 h2 hB
theorem sub_val {x y : Nat} {B : Rat} (hx : fin x = true) (hy : fin y = true) (h1 : val x - val y ≤ B) (h2 : -B ≤ val x - val y) (hB : B ≤ p2 1000) : Near (fsub x y) (val x - val y) (B * uu + eta) := by
  obtain ⟨s, m, i, ex⟩ := read_fin hx
  obtain ⟨t, n, j, ey⟩ := read_fin hy
  have vx : val x = sg s * m * p2 i := by unfold val; rw [ex]; rfl
  have vy : val y = sg t * n * p2 j := by unfold val; rw [ey]; rfl
  obtain ⟨b, k, place, hs, he⟩ := sum_val s (!t) m n i j
  have e : fsub x y = Ieee.double.nearest b k place := by
    unfold fsub
    simp only [floatBits, FloatKind.format, Ieee.Format.sub, ex, ey, Ieee.Datum.opposite, hs, Option.map_some, Option.getD_some, Ieee.Format.write]
  have hsg : sg (!t) = - sg t := by cases t <;> decide +kernel
  have he2 : sg b * (k : Rat) * p2 place = sg s * m * p2 i - sg t * n * p2 j := by
    rw [he, hsg]; grind
  rw [e, vx, vy]
  rw [vx, vy] at h1 h2
  exact round_val he2 h1 h2 hB
theorem mul_val {x y : Nat} {B : Rat} (hx : fin x = true) (hy : fin y = true) (h1 : val x * val y ≤ B) (h2 : -B ≤ val x * val y) (hB : B ≤ p2 1000) : Near (fmul x y) (val x * val y) (B * uu + eta) := by
  obtain ⟨s, m, i, ex⟩ := read_fin hx
  obtain ⟨t, n, j, ey⟩ := read_fin hy
  have vx : val x = sg s * m * p2 i := by unfold val; rw [ex]; rfl
  have vy : val y = sg t * n * p2 j := by unfold val; rw [ey]; rfl
  have e : fmul x y = Ieee.double.nearest (s ^^ t) (m * n) (i + j) := by
    unfold fmul
    simp only [floatBits, FloatKind.format, Ieee.Format.mul, ex, ey, Ieee.Datum.product, Option.map_some, Option.getD_some, Ieee.Format.write]
  have hsg : sg (s ^^ t) = sg s * sg t := by cases s <;> cases t <;> decide +kernel
  have he2 : sg (s ^^ t) * ((m * n : Nat) : Rat) * p2 (i + j) = sg s * m * p2 i * (sg t * n * p2 j) := by
    rw [hsg, Rat.natCast_mul, p2_add]; grind
  rw [e, vx, vy]
  rw [vx, vy] at h1 h2
  exact round_val he2 h1 h2 hB

theorem quot_nat {m n : Nat} (hn : n ≠ 0) : ∀ (more : Nat), 54 + n.log2 - m.log2 = more →
    (2 * (m <<< more / n) + (m <<< more % n != 0).toNat) * n ≤ 2 * (m * 2 ^ more) + n ∧ 2 * (m * 2 ^ more) ≤ (2 * (m <<< more / n) + (m <<< more % n != 0).toNat) * n + n ∧
    (m ≠ 0 → n * 9007199254740992 ≤ m * 2 ^ more) := by
  intro more hmore
  rw [Nat.shiftLeft_eq]
  have hm := Nat.div_add_mod (m * 2 ^ more) n
  have hl := Nat.mod_lt (m * 2 ^ more) (Nat.pos_of_ne_zero hn)
  refine ⟨?_, ?_, ?_⟩
  · generalize hD : m * 2 ^ more = D at *
    generalize D / n = Q at *
    generalize D % n = r at *
    rw [Nat.add_mul, Nat.mul_assoc, Nat.mul_comm Q n]
    by_cases h : r = 0
    · subst h; simp; omega
    · have : (r != 0) = true := by simpa using h
      rw [this]; simp; omega
  · generalize hD : m * 2 ^ more = D at *
    generalize D / n = Q at *
    generalize D % n = r at *
    rw [Nat.add_mul, Nat.mul_assoc, Nat.mul_comm Q n]
    by_cases h : r = 0
    · subst h; simp; omega
    · have : (r != 0) = true := by simpa using h
      rw [this]; simp; omega
  · intro h0
    have h1 : 2 ^ m.log2 ≤ m := Nat.log2_self_le h0
    have h2 : n < 2 ^ (n.log2 + 1) := Nat.lt_log2_self
    have h3 : 2 ^ m.log2 * 2 ^ more ≤ m * 2 ^ more := Nat.mul_le_mul_right _ h1
    rw [← Nat.pow_add] at h3
    have h4 : 2 ^ (53 + (n.log2 + 1)) ≤ 2 ^ (m.log2 + more) := Nat.pow_le_pow_right (by omega) (by omega)
    rw [Nat.pow_add] at h4
    have e53 : 2 ^ 53 = 9007199254740992 := by decide
    rw [e53] at h4
    omega

/-- The quotient with its sticky digit against the true one. -/
theorem quot_near {E N q D z a P : Rat} (hNa : 0 < N) (ha : 0 < a) (hz : z * a = P) (hP : 0 < P) (hE : E * N * a = 2 * D * P)
    (h1 : q * N ≤ 2 * D + N) (h2 : 2 * D ≤ q * N + N) (h3 : N * 9007199254740992 ≤ D) : q * z - E ≤ E * uu ∧ E - q * z ≤ E * uu := by
  have hKp : 0 < N * a := Rat.mul_pos hNa ha
  have e1 : (q * z - E) * (N * a) = (q * N - 2 * D) * P := by grind
  have e2 : N * P ≤ E * uu * (N * a) := by
    have := Rat.mul_le_mul_of_nonneg_right h3 (Rat.le_of_lt hP)
    have e3 : E * uu * (N * a) = (E * N * a) * uu := by grind
    have hNP := Rat.mul_pos hNa hP
    rw [e3, hE]; unfold uu; grind
  constructor
  · refine Rat.le_of_mul_le_mul_right (c := N * a) ?_ hKp
    have := Rat.mul_le_mul_of_nonneg_right h1 (Rat.le_of_lt hP)
    grind
  · refine Rat.le_of_mul_le_mul_right (c := N * a) ?_ hKp
    have := Rat.mul_le_mul_of_nonneg_right h2 (Rat.le_of_lt hP)
    grind

theorem div_raw {x y : Nat} {e B : Rat} (hx : fin x = true) (hy : dvs y = true) (he : e * val y = val x) (h1 : e ≤ B) (h2 : -B ≤ e) :
    ∃ (b : Bool) (q : Nat) (place : Int), fdiv x y = Ieee.double.nearest b q place ∧ sg b * q * p2 place - e ≤ B * uu ∧ e - sg b * q * p2 place ≤ B * uu := by
  obtain ⟨s, m, i, ex⟩ := read_fin hx
  obtain ⟨t, n, j, hn, ey⟩ := read_dvs hy
  have vx : val x = sg s * m * p2 i := by unfold val; rw [ex]; rfl
  have vy : val y = sg t * n * p2 j := by unfold val; rw [ey]; rfl
  obtain ⟨more, hmore⟩ : ∃ more, 54 + n.log2 - m.log2 = more := ⟨_, rfl⟩
  obtain ⟨q1, q2, q3⟩ := quot_nat (m := m) hn more hmore
  obtain ⟨q, hq⟩ : ∃ q, 2 * (m <<< more / n) + (m <<< more % n != 0).toNat = q := ⟨_, rfl⟩
  rw [hq] at q1 q2
  have ed : fdiv x y = Ieee.double.nearest (s ^^ t) q (i - j - more - 1) := by
    have e54 : Ieee.double.fractionBits + 2 = 54 := by decide +kernel
    unfold fdiv
    simp only [floatBits, FloatKind.format, Ieee.Format.div, ex, ey, Ieee.Datum.quotient, if_neg hn, Option.map_some, Option.getD_some, Ieee.Format.write, e54, hmore, hq]
  rw [ed]
  have hNp : (0 : Rat) < (n : Rat) := by exact_mod_cast Nat.pos_of_ne_zero hn
  have hsg : sg (s ^^ t) = sg s * sg t := by cases s <;> cases t <;> decide +kernel
  have hss : sg s * sg s = 1 := by cases s <;> decide +kernel
  have htt : sg t * sg t = 1 := by cases t <;> decide +kernel
  -- |e|
  obtain ⟨E, hE⟩ : ∃ E, sg (s ^^ t) * e = E := ⟨_, rfl⟩
  have heE : e = sg (s ^^ t) * E := by rw [← hE, hsg]; grind
  have hEN : E * n * p2 j = m * p2 i := by
    rw [vx, vy] at he
    rw [← hE, hsg]
    have : sg s * (e * (sg t * ↑n * p2 j)) = sg s * (sg s * ↑m * p2 i) := by rw [he]
    grind
  have hzz : p2 (i - j - more - 1) * (p2 j * 2 * p2 more) = p2 i := by
    have e1 : i = i - j - more - 1 + j + 1 + more := by omega
    have e2 : p2 i = p2 (i - j - more - 1) * p2 j * p2 1 * p2 more := by rw [← p2_add, ← p2_add, ← p2_add, ← e1]
    rw [e2, p2_one]; grind
  by_cases hm : m = 0
  · subst hm
    have hq0 : q = 0 := by
      have : q * n ≤ n := by simpa using q1
      have h0 : (0 : Nat) <<< more = 0 := by rw [Nat.shiftLeft_eq]; simp
      rw [← hq, h0]; simp
    have hE0 : E = 0 := by
      have : E * n * p2 j = 0 := by rw [hEN]; simp
      have := p2_pos j
      have h3 := Rat.mul_eq_zero.1 ‹E * n * p2 j = 0›
      rcases h3 with h3 | h3
      · rcases Rat.mul_eq_zero.1 h3 with h4 | h4
        · exact h4
        · exfalso; grind
      · exfalso; grind
    have he0 : e = 0 := by rw [heE, hE0]; simp
    subst hq0
    have hB0 : 0 ≤ B * uu := Rat.mul_nonneg (show (0 : Rat) ≤ B by rw [he0] at h1; exact h1) (show (0 : Rat) ≤ uu by decide +kernel)
    have hz : ∀ c : Rat, sg (s ^^ t) * ((0 : Nat) : Rat) * c = 0 := by intro c; simp
    refine ⟨_, _, _, rfl, ?_, ?_⟩
    · rw [he0, hz]; generalize B * uu = z at *; grind
    · rw [he0, hz]; generalize B * uu = z at *; grind
  · have hEpos : 0 ≤ E := by
      have hp : 0 < E * (n * p2 j) := by
        have h5 : E * (n * p2 j) = m * p2 i := by rw [← hEN]; grind
        rw [h5]
        exact Rat.mul_pos (by exact_mod_cast Nat.pos_of_ne_zero hm) (p2_pos _)
      have := (Rat.mul_pos_iff_of_pos_right (Rat.mul_pos hNp (p2_pos j))).1 hp
      grind
    have hEB : E ≤ B := by
      rcases sg_cases (s ^^ t) with h | h <;> rw [h] at heE <;> grind
    obtain ⟨n1, n2⟩ := quot_near (E := E) (N := (n : Rat)) (q := (q : Rat)) (D := ((m * 2 ^ more : Nat) : Rat)) (z := p2 (i - j - more - 1)) (a := p2 j * 2 * p2 more) (P := p2 i) hNp
      (Rat.mul_pos (Rat.mul_pos (p2_pos _) (by decide)) (p2_pos _)) hzz (p2_pos _)
      (by rw [Rat.natCast_mul, ← p2_nat]; grind)
      (by have : ((q * n : Nat) : Rat) ≤ ((2 * (m * 2 ^ more) + n : Nat) : Rat) := by exact_mod_cast q1
          simpa only [Rat.natCast_mul, Rat.natCast_add, Rat.natCast_ofNat] using this)
      (by have : ((2 * (m * 2 ^ more) : Nat) : Rat) ≤ ((q * n + n : Nat) : Rat) := by exact_mod_cast q2
          simpa only [Rat.natCast_mul, Rat.natCast_add, Rat.natCast_ofNat] using this)
      (by have : ((n * 9007199254740992 : Nat) : Rat) ≤ ((m * 2 ^ more : Nat) : Rat) := by exact_mod_cast q3 hm
          simpa only [Rat.natCast_mul, Rat.natCast_ofNat] using this)
    have hu0 : (0 : Rat) ≤ uu := by decide +kernel
    have hEu : E * uu ≤ B * uu := Rat.mul_le_mul_of_nonneg_right hEB hu0
    obtain ⟨v, hv⟩ : ∃ v, sg (s ^^ t) * q * p2 (i - j - more - 1) = v := ⟨_, rfl⟩
    refine ⟨_, _, _, rfl, ?_⟩
    rw [hv]
    have : v = sg (s ^^ t) * (q * p2 (i - j - more - 1)) := by rw [← hv]; grind
    rcases sg_cases (s ^^ t) with h | h <;> rw [h] at heE this <;> constructor <;> grind

theorem div_val {x y : Nat} {e B : Rat} (hx : fin x = true) (hy : dvs y = true) (he : e * val y = val x) (h1 : e ≤ B) (h2 : -B ≤ e) (hB : 2 * B ≤ p2 1000) : Near (fdiv x y) e (B * (3 * uu) + eta) := by
  obtain ⟨b, q, place, hd, n1, n2⟩ := div_raw hx hy he h1 h2
  rw [hd]
  have hB0 : 0 ≤ B := by grind
  have hu1 : uu ≤ 1 / 4 := by decide +kernel
  have hu0 : (0 : Rat) ≤ uu := by decide +kernel
  have hBu : B * uu ≤ B * (1 / 4) := Rat.mul_le_mul_of_nonneg_left hu1 hB0
  have hBuu : B * uu * uu ≤ B * (1 / 4) * uu := Rat.mul_le_mul_of_nonneg_right hBu hu0
  obtain ⟨v, hv⟩ : ∃ v, sg b * q * p2 place = v := ⟨_, rfl⟩
  rw [hv] at n1 n2
  have hp1000 : B + B * uu ≤ p2 1000 := by
    generalize p2 1000 = c at *; grind
  obtain ⟨a, b, c, d⟩ := round_val (B := B + B * uu) hv (by grind) (by grind) hp1000
  refine ⟨a, b, ?_, ?_⟩ <;> grind

/-- A quotient of finite numbers, whatever its size: near the true one, or an infinity of its sign. -/
theorem div_any {x y : Nat} {e B : Rat} (hx : fin x = true) (hy : dvs y = true) (he : e * val y = val x) (h1 : e ≤ B) (h2 : -B ≤ e) :
    Near (fdiv x y) e (B * (3 * uu) + eta) ∨ (fdiv x y = Ieee.double.word false 9218868437227405312 ∧ p2 1000 - B * uu ≤ e) ∨ (fdiv x y = Ieee.double.word true 9218868437227405312 ∧ e ≤ -(p2 1000 - B * uu)) := by
  obtain ⟨b, q, place, hd, n1, n2⟩ := div_raw hx hy he h1 h2
  rw [hd]
  have hB0 : 0 ≤ B := by grind
  have hu1 : uu ≤ 1 / 4 := by decide +kernel
  have hu0 : (0 : Rat) ≤ uu := by decide +kernel
  have hBu : B * uu ≤ B * (1 / 4) := Rat.mul_le_mul_of_nonneg_left hu1 hB0
  have hBuu : B * uu * uu ≤ B * (1 / 4) * uu := Rat.mul_le_mul_of_nonneg_right hBu hu0
  obtain ⟨v, hv⟩ : ∃ v, sg b * q * p2 place = v := ⟨_, rfl⟩
  have hv2 : sg b * (q * p2 place) = v := by rw [← hv]; grind
  cases hf : fin (Ieee.double.nearest b q place) with
  | true =>
    left
    obtain ⟨_, c1, c2⟩ := nearest_gen b q place (Or.inr hf)
    rw [hv] at n1 n2 c1 c2
    have hq : (q : Rat) * p2 place ≤ B + B * uu := by
      rcases sg_cases b with h | h <;> rw [h] at hv2 <;> grind
    have hqu := Rat.mul_le_mul_of_nonneg_right hq hu0
    refine ⟨hf, nearest_lt64 _ _ _, ?_, ?_⟩ <;> grind
  | false =>
    right
    obtain ⟨c1, c2⟩ := nearest_inf b q place hf
    rw [hv] at n1 n2
    cases b
    · left
      refine ⟨c1, ?_⟩
      have : sg false = 1 := rfl
      rw [this] at hv2
      generalize p2 1000 = c at *
      grind
    · right
      refine ⟨c1, ?_⟩
      have : sg true = -1 := rfl
      rw [this] at hv2
      generalize p2 1000 = c at *
      grind
end Go.Proofs.Qxb6604178a.Fl
