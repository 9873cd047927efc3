/-
  Plain lists of bytes: the answer told place by place.
-/
import Derived.Test.Qxb6604182aPlain
import Derived.Below
namespace Go.Proofs.Qxb6604182a
open Go.RowKit

/-- How many digits stand from place s on. -/
def run (T : List Int) (s : Nat) : Nat := ((T.drop s).takeWhile isD).length

theorem span_of (L : List Int) : ∀ (n : Nat), n ≤ L.length → (∀ i, i < n → isD (L.getD i 0) = true) → (n < L.length → isD (L.getD n 0) = false) → L.takeWhile isD = L.take n ∧ L.dropWhile isD = L.drop n := by
  induction L with
  | nil => intro n hn _ _; simp
  | cons a L ih =>
    intro n hn h1 h2
    cases n with
    | zero =>
      have := h2 (by simp)
      simp at this
      simp [this]
    | succ n =>
      have ha : isD a = true := by have := h1 0 (by omega); simpa using this
      have := ih n (by simpa using hn) (fun i hi => by have := h1 (i + 1) (by omega); simpa using this) (fun h => by have := h2 (by simpa using h); simpa using this)
      simp [ha, this.1, this.2]
theorem run_le (T : List Int) (s : Nat) : run T s ≤ T.length - s := by
  unfold run
  have : ((T.drop s).takeWhile isD).length ≤ (T.drop s).length := List.Sublist.length_le (List.takeWhile_sublist isD)
  simpa using this
theorem getD_drop (T : List Int) (s i : Nat) : (T.drop s).getD i 0 = T.getD (s + i) 0 := by simp [List.getD_eq_getElem?_getD]
theorem run_of (T : List Int) (s n : Nat) (hn : n ≤ T.length - s) (h1 : ∀ i, i < n → isD (T.getD (s + i) 0) = true) (h2 : n < T.length - s → isD (T.getD (s + n) 0) = false) : n = run T s := by
  have := (span_of (T.drop s) n (by simpa using hn) (fun i hi => by rw [getD_drop]; exact h1 i hi) (fun h => by rw [getD_drop]; exact h2 (by simpa using h))).1
  unfold run
  rw [this]
  simp; omega

/-- The byte at place i, behind a name. -/
def zT (T : List Int) (i : Nat) : Int := T.getD i 0

/-- The byte at place s is c. -/
def at_ (T : List Int) (s : Nat) (c : Int) : Bool := decide ((T.drop s).head? = some c)
theorem at_t {T : List Int} {s : Nat} {c : Int} (h : at_ T s c = true) : s < T.length ∧ zT T s = c := by
  unfold at_ at h
  have h := of_decide_eq_true h
  rw [List.head?_drop] at h
  obtain ⟨hl, he⟩ := List.getElem?_eq_some_iff.1 h
  exact ⟨hl, by unfold zT; rw [List.getD_eq_getElem?_getD, h]; rfl⟩
theorem at_f {T : List Int} {s : Nat} {c : Int} (h : at_ T s c = false) (hs : s < T.length) : zT T s ≠ c := by
  unfold zT
  unfold at_ at h
  have h := of_decide_eq_false h
  intro he
  apply h
  rw [List.head?_drop, List.getElem?_eq_getElem hs]
  rw [List.getD_eq_getElem?_getD, List.getElem?_eq_getElem hs] at he
  simpa using he

/-- Where the digits begin. -/
def sgn (T : List Int) : Nat := if at_ T 0 45 then 1 else 0
theorem sgn_le (T : List Int) : sgn T ≤ T.length := by
  unfold sgn
  split
  · rename_i h; have := (at_t h).1; omega
  · omega
/-- The whole digits are refused. -/
def rej1 (T : List Int) (s : Nat) : Bool := decide (run T s = 0 ∨ (1 < run T s ∧ at_ T s 48 = true))

theorem rej1_0 {T : List Int} {s : Nat} (h : run T s = 0) : Hid (rej1 T s = true) := show rej1 T s = true by unfold rej1; simp [h]
theorem rej1_z {T : List Int} {s : Nat} (h1 : 1 < run T s) (h : at_ T s 48 = true) : Hid (rej1 T s = true) := show rej1 T s = true by unfold rej1; simp [h1, h]
theorem rej1_f {T : List Int} {s : Nat} (h0 : ¬ run T s = 0) (h : 1 < run T s → at_ T s 48 = false) : Hid (rej1 T s = false) := show rej1 T s = false by
  unfold rej1; simp only [decide_eq_false_iff_not, not_or, not_and]
  exact ⟨h0, fun h1 => by rw [h h1]; simp⟩

/-! ### The plain answer, place by place -/
theorem takeWhile_take (L : List Int) : L.takeWhile isD = L.take (L.takeWhile isD).length := by
  induction L with
  | nil => simp
  | cons a L ih =>
    by_cases h : isD a = true
    · simp [h]; exact ih
    · simp [h]
theorem dropWhile_drop (L : List Int) : L.dropWhile isD = L.drop (L.takeWhile isD).length := by
  induction L with
  | nil => simp
  | cons a L ih =>
    by_cases h : isD a = true
    · simp [h]; exact ih
    · simp [h]
/-- The digits from place s on. -/
def digs (T : List Int) (s : Nat) : List Int := (T.drop s).take (run T s)
theorem takeW (T : List Int) (s : Nat) : (T.drop s).takeWhile isD = digs T s := takeWhile_take _
theorem dropW (T : List Int) (s : Nat) : (T.drop s).dropWhile isD = T.drop (s + run T s) := by
  rw [dropWhile_drop, List.drop_drop]; rfl
theorem digs_len (T : List Int) (s : Nat) : (digs T s).length = run T s := by
  rw [← takeW]; rfl
theorem digs_nil (T : List Int) (s : Nat) : digs T s = [] ↔ run T s = 0 := by
  rw [← digs_len, List.length_eq_zero_iff]
theorem digs_get (T : List Int) (s i : Nat) (hi : i < run T s) : (digs T s).getD i 0 = zT T (s + i) := by
  unfold digs zT
  simp only [List.getD_eq_getElem?_getD]
  rw [List.getElem?_take, if_pos hi, List.getElem?_drop]
theorem at_eq (T : List Int) (s : Nat) (c : Int) : ((T.drop s).head? = some c) = (at_ T s c = true) := by
  unfold at_; simp
theorem tail_drop (T : List Int) (s : Nat) : (T.drop s).tail = T.drop (s + 1) := by rw [List.tail_drop]

theorem parse_eq (T : List Int) : parseP T = if rej1 T (sgn T) then none else fracP (at_ T 0 45) (digs T (sgn T)) (T.drop (sgn T + run T (sgn T))) := by
  have key : ∀ (neg : Bool) (s : Nat), wholeP neg (T.drop s) = if rej1 T s then none else fracP neg (digs T s) (T.drop (s + run T s)) := fun neg s => by
    unfold wholeP rej1
    simp only [takeW, dropW, digs_len, digs_nil, at_eq, decide_eq_true_eq]
  have h0 : T.head? = (T.drop 0).head? := by simp
  unfold parseP
  rw [h0]
  simp only [at_eq]
  unfold sgn
  cases h : at_ T 0 45
  · have := key false 0
    simpa using this
  · have := key true 1
    have e : T.tail = T.drop 1 := by simp
    rw [e]
    simp only [if_true]
    exact this
theorem frac_eq (neg : Bool) (ds T : List Int) (p : Nat) : fracP neg ds (T.drop p) = if at_ T p 46 then (if run T (p + 1) = 0 then none else tailP neg (ds ++ digs T (p + 1)) (-(run T (p + 1) : Int)) (T.drop (p + 1 + run T (p + 1)))) else tailP neg ds 0 (T.drop p) := by
  unfold fracP
  simp only [at_eq, tail_drop, takeW, dropW, digs_len, digs_nil]
theorem tail_end (neg : Bool) (ds T : List Int) (e : Int) (p : Nat) (h : T.length ≤ p) : tailP neg ds e (T.drop p) = some (neg, ds, e, true) := by
  rw [List.drop_eq_nil_of_le h]; rfl
/-- Behind 'e' and its sign. -/
def expQ (T : List Int) (p : Nat) : Nat := if at_ T (p + 1) 45 || at_ T (p + 1) 43 then p + 2 else p + 1
theorem tail_exp (neg : Bool) (ds T : List Int) (e : Int) (p : Nat) (h : (at_ T p 101 || at_ T p 69) = true) :
    tailP neg ds e (T.drop p) = if run T (expQ T p) = 0 then none else some (neg, ds, e + (if at_ T (p + 1) 45 then -expP (digs T (expQ T p)) else expP (digs T (expQ T p))), decide (T.length ≤ expQ T p + run T (expQ T p))) := by
  have hp : p < T.length := by
    rw [Bool.or_eq_true] at h
    rcases h with h | h <;> exact (at_t h).1
  obtain ⟨c, hc⟩ : ∃ c, T.drop p = c :: T.drop (p + 1) := ⟨T[p], List.drop_eq_getElem_cons hp⟩
  have hcc : c = 101 ∨ c = 69 := by
    rw [Bool.or_eq_true] at h
    unfold at_ at h
    rw [hc] at h
    simp only [decide_eq_true_eq, List.head?_cons, Option.some.injEq] at h
    exact h
  rw [hc]
  unfold tailP
  simp only [hcc, if_true]
  have e1 : (if (T.drop (p + 1)).head? = some 45 ∨ (T.drop (p + 1)).head? = some 43 then (T.drop (p + 1)).tail else T.drop (p + 1)) = T.drop (expQ T p) := by
    unfold expQ
    simp only [at_eq, tail_drop, Bool.or_eq_true]
    split <;> rfl
  rw [e1]
  simp only [takeW, dropW, digs_nil, at_eq]
  have e2 : (T.drop (expQ T p + run T (expQ T p))).isEmpty = decide (T.length ≤ expQ T p + run T (expQ T p)) := by
    rw [Bool.eq_iff_iff]; simp
  rw [e2]
theorem tail_other (neg : Bool) (ds T : List Int) (e : Int) (p : Nat) (hp : p < T.length) (h : (at_ T p 101 || at_ T p 69) = false) : tailP neg ds e (T.drop p) = some (neg, ds, e, false) := by
  obtain ⟨c, hc⟩ : ∃ c, T.drop p = c :: T.drop (p + 1) := ⟨T[p], List.drop_eq_getElem_cons hp⟩
  have hcc : ¬ (c = 101 ∨ c = 69) := by
    unfold at_ at h
    rw [hc] at h
    simp only [List.head?_cons, Option.some.injEq, Bool.or_eq_false_iff, decide_eq_false_iff_not] at h
    exact fun hh => by rcases hh with hh | hh; exact h.1 hh; exact h.2 hh
  rw [hc]
  unfold tailP
  simp only [if_neg hcc]

end Go.Proofs.Qxb6604182a
