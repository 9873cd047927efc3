/-
  Negation: the sums of negated polynomials are the negated sums, up to a zero's sign and a NaN's bits.
-/
import Derived.Test.Qxb6604178aElpL
namespace Go.Proofs.Qxb6604178a.Elp
open Go.RowKit Fl

theorem flip_eq (x : Nat) : fneg x = x ^^^ 9223372036854775808 := rfl
theorem xor_top (x : Nat) : (x ^^^ 9223372036854775808) % 9223372036854775808 = x % 9223372036854775808 ∧ ((x ^^^ 9223372036854775808) / 9223372036854775808) % 2 = 1 - (x / 9223372036854775808) % 2 := by
  have e : (9223372036854775808 : Nat) = 2 ^ 63 := by decide
  constructor
  · rw [e, Nat.xor_mod_two_pow]
    simp
  · rw [e, Nat.xor_div_two_pow, Nat.div_self (by decide)]
    have := Nat.xor_mod_two_pow (a := x / 2 ^ 63) (b := 1) (n := 1)
    simp only [Nat.pow_one] at this
    rw [this]
    rcases Nat.mod_two_eq_zero_or_one (x / 2 ^ 63) with h | h <;> rw [h] <;> decide
theorem nan_neg (x : Nat) : nanW (fneg x) = nanW x := by
  unfold nanW
  rw [flip_eq, (xor_top x).1]
theorem read_neg (x : Nat) : Ieee.double.read (fneg x) = (Ieee.double.read x).opposite := by
  unfold Ieee.Format.read
  dsimp only
  rw [sw, ir, bn, flip_eq, (xor_top x).1]
  have h := (xor_top x).2
  have hn : ((x ^^^ 9223372036854775808) / 9223372036854775808 % 2 == 1) = !(x / 9223372036854775808 % 2 == 1) := by
    rw [h]
    rcases Nat.mod_two_eq_zero_or_one (x / 9223372036854775808) with h | h <;> simp [h]
  rw [hn]
  split
  · rfl
  · split
    · rfl
    · split
      · rfl
      · rfl
theorem word_neg (s : Bool) (r : Nat) (h : r < 9223372036854775808) : Ieee.double.word (!s) r = fneg (Ieee.double.word s r) := by
  unfold Ieee.Format.word
  rw [sw, flip_eq]
  have e : (9223372036854775808 : Nat) = 2 ^ 63 := by decide
  have h0 : r ^^^ 9223372036854775808 = 9223372036854775808 + r := by
    have d : (r ^^^ 9223372036854775808) / 9223372036854775808 = 1 := by
      rw [e, Nat.xor_div_two_pow, Nat.div_eq_of_lt (by rwa [← e])]
      decide
    have m := (xor_top r).1
    rw [Nat.mod_eq_of_lt h] at m
    have := Nat.div_add_mod (r ^^^ 9223372036854775808) 9223372036854775808
    omega
  cases s
  · simp [h0]
  · simp only [Bool.not_true, if_true]
    simp only [Bool.false_eq_true, if_false]
    rw [← h0, Nat.xor_assoc, Nat.xor_self, Nat.xor_zero]
theorem nearest_neg (s : Bool) (m : Nat) (e : Int) : Ieee.double.nearest (!s) m e = fneg (Ieee.double.nearest s m e) := by
  unfold Ieee.Format.nearest
  split
  · exact word_neg s 0 (by omega)
  · dsimp only
    have hc : ∀ (n d : Nat), Ieee.Toward.even.cut (!s) n d = Ieee.Toward.even.cut s n d := fun n d => rfl
    rw [hc]
    exact word_neg s _ (by rw [ir]; omega)
theorem write_neg (d : Ieee.Datum) (h : ∀ s t, d ≠ .nan s t) : Ieee.double.write d.opposite = fneg (Ieee.double.write d) := by
  cases d with
  | number s m e => exact nearest_neg s m e
  | infinity s => exact word_neg s _ (by rw [ir]; omega)
  | nan s t => exact absurd rfl (h s t)
theorem write_zero (s : Bool) (e : Int) : Ieee.double.write (.number s 0 e) % 9223372036854775808 = 0 := by
  show Ieee.double.nearest s 0 e % _ = 0
  unfold Ieee.Format.nearest Ieee.Format.word
  rw [sw]
  cases s <;> simp
theorem signed_neg (s : Bool) (m u : Nat) : Ieee.signed (!s) m u = - Ieee.signed s m u := by
  unfold Ieee.signed
  cases s <;> simp
theorem signed_zero (s : Bool) (u : Nat) : Ieee.signed s 0 u = 0 := by
  unfold Ieee.signed
  cases s <;> simp

/-- One is the other negated; or both are zeros; or neither is a number. -/
def Opp (a b : Option Nat) : Prop := (a = none ∧ b = none) ∨ ∃ x y, a = some x ∧ b = some y ∧ nanW x = false ∧ nanW y = false ∧ (y = fneg x ∨ (x % 9223372036854775808 = 0 ∧ y % 9223372036854775808 = 0))
/-- One is the other negated, to the bit; or neither is a number. -/
def Flip (a b : Option Nat) : Prop := (a = none ∧ b = none) ∨ ∃ x, a = some x ∧ b = some (fneg x) ∧ nanW x = false
theorem Flip.opp {a b : Option Nat} (h : Flip a b) : Opp a b := by
  rcases h with h | ⟨x, h1, h2, h3⟩
  · exact .inl h
  · exact .inr ⟨x, _, h1, h2, h3, by rw [nan_neg]; exact h3, .inl rfl⟩
theorem flip_canon (x : Nat) : Flip (canon x) (canon (fneg x)) := by
  unfold canon
  rw [nan_neg]
  by_cases h : nanW x = true
  · exact .inl (by simp [h])
  · exact .inr ⟨x, by simp [h], by simp [h], by simpa using h⟩
theorem opp_zero : Opp (some 0) (some 0) := .inr ⟨0, 0, rfl, rfl, by decide, by decide, .inr ⟨rfl, rfl⟩⟩

theorem product_opp (d e : Ieee.Datum) : d.product e.opposite = (d.product e).map Ieee.Datum.opposite := by
  cases d with
  | nan s t => simp [Ieee.Datum.product]
  | infinity s =>
    cases e with
    | nan s' t' => simp [Ieee.Datum.product, Ieee.Datum.opposite]
    | infinity s' => cases s <;> cases s' <;> simp [Ieee.Datum.product, Ieee.Datum.opposite]
    | number s' m i => by_cases h : m = 0 <;> cases s <;> cases s' <;> simp [Ieee.Datum.product, Ieee.Datum.opposite, h]
  | number s m i =>
    cases e with
    | nan s' t' => simp [Ieee.Datum.product, Ieee.Datum.opposite]
    | infinity s' => by_cases h : m = 0 <;> cases s <;> cases s' <;> simp [Ieee.Datum.product, Ieee.Datum.opposite, h]
    | number s' m' i' => cases s <;> cases s' <;> simp [Ieee.Datum.product, Ieee.Datum.opposite]
theorem flip_mul (k : Nat) {a b : Option Nat} (h : Flip a b) : Flip (omul (some k) a) (omul (some k) b) := by
  rcases h with ⟨rfl, rfl⟩ | ⟨x, rfl, rfl, hn⟩
  · exact .inl ⟨rfl, rfl⟩
  · show Flip (((Ieee.double.read k).product (Ieee.double.read x)).map Ieee.double.write) (((Ieee.double.read k).product (Ieee.double.read (fneg x))).map Ieee.double.write)
    rw [read_neg, product_opp]
    cases hp : (Ieee.double.read k).product (Ieee.double.read x) with
    | none => exact .inl ⟨rfl, rfl⟩
    | some d => exact .inr ⟨Ieee.double.write d, rfl, by simp [write_neg d (product_not_nan hp)], nan_write d (product_not_nan hp)⟩

/-- The same of what the words stand for. -/
def DOpp (a b : Option Ieee.Datum) : Prop := (a = none ∧ b = none) ∨ (∃ d, a = some d ∧ b = some d.opposite) ∨ ∃ s e s' e', a = some (.number s 0 e) ∧ b = some (.number s' 0 e')
theorem sums_opp {s t s' : Bool} {m n : Nat} {i j : Int} (h0 : ∀ u, Ieee.signed s' m u = - Ieee.signed s m u) :
    DOpp ((Ieee.Datum.number s m i).sum (.number t n j)) ((Ieee.Datum.number s' m i).sum (.number (!t) n j)) := by
  unfold Ieee.Datum.sum
  simp only [h0, signed_neg]
  generalize Ieee.signed s m (i - min i j).toNat = A
  generalize Ieee.signed t n (j - min i j).toNat = C
  by_cases h : A + C = 0
  · have h' : -A + -C = 0 := by omega
    refine .inr (.inr ⟨s && t, min i j, s' && !t, min i j, ?_, ?_⟩)
    · simp [h]
    · simp [h']
  · have h' : ¬ -A + -C = 0 := by omega
    refine .inr (.inl ⟨_, rfl, ?_⟩)
    simp only [if_neg h, if_neg h', Ieee.Datum.opposite]
    congr 2
    · by_cases q : A + C < 0
      · simp [q]; omega
      · simp [q]; omega
    · omega
theorem sum_opp {d d' e : Ieee.Datum} (hd : d' = d.opposite ∨ ∃ s i s', d = .number s 0 i ∧ d' = .number s' 0 i) (nd : ∀ s t, d ≠ .nan s t) : DOpp (d.sum e) (d'.sum e.opposite) := by
  rcases hd with rfl | ⟨s, i, s', rfl, rfl⟩
  · cases d with
    | nan s t => exact absurd rfl (nd s t)
    | infinity s =>
      cases e with
      | nan s' t' => exact .inl ⟨by simp [Ieee.Datum.sum], by simp [Ieee.Datum.sum, Ieee.Datum.opposite]⟩
      | number s' m' i' => exact .inr (.inl ⟨.infinity s, by simp [Ieee.Datum.sum], by simp [Ieee.Datum.sum, Ieee.Datum.opposite]⟩)
      | infinity s' =>
        by_cases h : s = s'
        · exact .inr (.inl ⟨.infinity s, by simp [Ieee.Datum.sum, h], by simp [Ieee.Datum.sum, Ieee.Datum.opposite, h]⟩)
        · exact .inl ⟨by simp [Ieee.Datum.sum, h], by simp [Ieee.Datum.sum, Ieee.Datum.opposite, h]⟩
    | number s m i =>
      cases e with
      | nan s' t' => exact .inl ⟨by simp [Ieee.Datum.sum], by simp [Ieee.Datum.sum, Ieee.Datum.opposite]⟩
      | infinity s' => exact .inr (.inl ⟨.infinity s', by simp [Ieee.Datum.sum], by simp [Ieee.Datum.sum, Ieee.Datum.opposite]⟩)
      | number s' m' i' => exact sums_opp (fun u => signed_neg s m u)
  · cases e with
    | nan s2 t2 => exact .inl ⟨by simp [Ieee.Datum.sum], by simp [Ieee.Datum.sum, Ieee.Datum.opposite]⟩
    | infinity s2 => exact .inr (.inl ⟨.infinity s2, by simp [Ieee.Datum.sum], by simp [Ieee.Datum.sum, Ieee.Datum.opposite]⟩)
    | number s2 m2 i2 => exact sums_opp (fun u => by rw [signed_zero, signed_zero]; rfl)
theorem read_zero {x : Nat} (h : x % 9223372036854775808 = 0) : ∃ s, Ieee.double.read x = .number s 0 Ieee.double.leastPlace := by
  unfold Ieee.Format.read
  dsimp only
  rw [sw, ir, bn, h, if_pos (by decide)]
  exact ⟨_, rfl⟩
theorem opp_add {a a' b b' : Option Nat} (h : Opp a a') (k : Flip b b') : Opp (oadd a b) (oadd a' b') := by
  rcases h with ⟨rfl, rfl⟩ | ⟨x, y, rfl, rfl, nx, ny, h⟩
  · exact .inl ⟨rfl, rfl⟩
  · rcases k with ⟨rfl, rfl⟩ | ⟨z, rfl, rfl, nz⟩
    · exact .inl ⟨rfl, rfl⟩
    · show Opp (((Ieee.double.read x).sum (Ieee.double.read z)).map Ieee.double.write) (((Ieee.double.read y).sum (Ieee.double.read (fneg z))).map Ieee.double.write)
      rw [read_neg]
      have nd : ∀ s t, Ieee.double.read x ≠ .nan s t := fun s t e => by
        have := (read_nan x).1 ⟨s, t, e⟩
        rw [nx] at this
        cases this
      have hd : Ieee.double.read y = (Ieee.double.read x).opposite ∨ ∃ s i s', Ieee.double.read x = .number s 0 i ∧ Ieee.double.read y = .number s' 0 i := by
        rcases h with rfl | ⟨h1, h2⟩
        · exact .inl (read_neg x)
        · obtain ⟨s, e1⟩ := read_zero h1
          obtain ⟨s', e2⟩ := read_zero h2
          exact .inr ⟨s, _, s', e1, e2⟩
      have hs : ∀ d, (Ieee.double.read x).sum (Ieee.double.read z) = some d → ∀ s t, d ≠ .nan s t := fun d e => sum_not_nan e
      have hs' : ∀ d, (Ieee.double.read y).sum (Ieee.double.read z).opposite = some d → ∀ s t, d ≠ .nan s t := fun d e => sum_not_nan e
      rcases sum_opp (e := Ieee.double.read z) hd nd with ⟨h1, h2⟩ | ⟨d, h1, h2⟩ | ⟨s, e, s', e', h1, h2⟩
      · rw [h1, h2]
        exact .inl ⟨rfl, rfl⟩
      · have n1 := hs d h1
        have n2 := hs' _ h2
        rw [h1, h2]
        exact .inr ⟨_, _, rfl, rfl, nan_write d n1, nan_write _ n2, .inl (write_neg d n1)⟩
      · have n1 := hs _ h1
        have n2 := hs' _ h2
        rw [h1, h2]
        exact .inr ⟨_, _, rfl, rfl, nan_write _ n1, nan_write _ n2, .inr ⟨write_zero s e, write_zero s' e'⟩⟩
theorem opp_comb {ms : Nat → Int} {X : Nat → Nat} {ph ph' : Option Nat} (h : Opp ph ph') : ∀ n, Opp (combC ms (fun i => canon (X i)) ph n) (combC ms (fun i => canon (fneg (X i))) ph' n)
  | 0 => h
  | n + 1 => opp_add (opp_comb h n) (flip_mul _ (flip_canon (X n)))
theorem feq_zero {x y : Nat} (hx : x % 9223372036854775808 = 0) (hy : y % 9223372036854775808 = 0) : feq x y = true := by
  obtain ⟨s, e1⟩ := read_zero hx
  obtain ⟨s', e2⟩ := read_zero hy
  have : FloatKind.f64.format.order x y = some .eq := by
    show (Ieee.double.read x).order (Ieee.double.read y) = some .eq
    rw [e1, e2]
    simp [Ieee.Datum.order, signed_zero, compare, compareOfLessAndEq]
  simp [feq, this]
/-- What 'oppositeTerm' asks. -/
theorem same_of_opp {g1 g2 : Nat} (h : Opp (canon g1) (canon g2)) : SameF g2 (fneg g1) := by
  have cn : ∀ x, canon x = none → nanW x = true := fun x h => by
    unfold canon at h
    by_cases e : nanW x = true
    · exact e
    · simp [e] at h
  have cs : ∀ x y, canon x = some y → x = y := fun x y h => by
    unfold canon at h
    by_cases e : nanW x = true
    · simp [e] at h
    · simpa [e] using h
  rcases h with ⟨h1, h2⟩ | ⟨x, y, h1, h2, n1, n2, h⟩
  · exact .inr ⟨feq_nan (cn _ h2) _, feq_nan (by rw [nan_neg]; exact cn _ h1) _⟩
  · obtain rfl := cs _ _ h1
    obtain rfl := cs _ _ h2
    rcases h with rfl | ⟨z1, z2⟩
    · exact .inl (feq_self n2)
    · exact .inl (feq_zero z2 (by rw [flip_eq, (xor_top _).1]; exact z1))
end Go.Proofs.Qxb6604178a.Elp
