/-
  Plain lists of bytes: parseDecimal's answer, the state machine's answer, and that they are one. No Go in sight.
-/
import Derived.Test.Qxb6604182aWalkA
namespace Go.Proofs.Qxb6604182a

/-- 2^40. -/
def capE : Int := 1099511627776
def eP (e c : Int) : Int := min (e * 10 + (c - 48)) capE
def expP (es : List Int) : Int := es.foldl eP 0

/-- 'none': refused. -/
abbrev Res := Option (Bool × List Int × Int × Bool)

def tailP (neg : Bool) (ds : List Int) (e : Int) (r : List Int) : Res :=
  match r with
  | [] => some (neg, ds, e, true)
  | c :: r1 =>
    if c = 101 ∨ c = 69 then
      let r2 := if r1.head? = some 45 ∨ r1.head? = some 43 then r1.tail else r1
      if r2.takeWhile isD = [] then none
      else some (neg, ds, e + (if r1.head? = some 45 then -expP (r2.takeWhile isD) else expP (r2.takeWhile isD)), (r2.dropWhile isD).isEmpty)
    else some (neg, ds, e, false)

def fracP (neg : Bool) (ds r : List Int) : Res :=
  if r.head? = some 46 then
    if r.tail.takeWhile isD = [] then none
    else tailP neg (ds ++ r.tail.takeWhile isD) (-((r.tail.takeWhile isD).length : Int)) (r.tail.dropWhile isD)
  else tailP neg ds 0 r

def wholeP (neg : Bool) (t : List Int) : Res :=
  if t.takeWhile isD = [] ∨ (1 < (t.takeWhile isD).length ∧ t.head? = some 48) then none
  else fracP neg (t.takeWhile isD) (t.dropWhile isD)

def parseP (t : List Int) : Res := if t.head? = some 45 then wholeP true t.tail else wholeP false t

/-! ### The state machine -/
structure St where
  state : Nat
  neg : Bool
  mant : List Int
  frac : Int
  eneg : Bool
  sig : Int
  v : Int
  stopped : Bool

def expS (sv : Int × Int) (c : Int) : Int × Int :=
  if sv.1 = 0 ∧ c = 48 then sv
  else
    let sig := if sv.1 < 14 then sv.1 + 1 else sv.1
    (sig, if sig ≤ 13 then sv.2 * 10 + (c - 48) else sv.2)

def stepM (s : St) (c : Int) : Option St :=
  if s.state = 0 then
    if c = 45 then some { s with neg := true, state := 1 }
    else if c = 48 then some { s with mant := s.mant ++ [c], state := 2 }
    else if isD c then some { s with mant := s.mant ++ [c], state := 3 }
    else none
  else if s.state = 1 then
    if c = 48 then some { s with mant := s.mant ++ [c], state := 2 }
    else if isD c then some { s with mant := s.mant ++ [c], state := 3 }
    else none
  else if s.state = 2 then
    if isD c then none
    else if c = 46 then some { s with state := 4 }
    else if c = 101 ∨ c = 69 then some { s with state := 6 }
    else some { s with stopped := true }
  else if s.state = 3 then
    if isD c then some { s with mant := s.mant ++ [c] }
    else if c = 46 then some { s with state := 4 }
    else if c = 101 ∨ c = 69 then some { s with state := 6 }
    else some { s with stopped := true }
  else if s.state = 4 then
    if isD c then some { s with mant := s.mant ++ [c], frac := s.frac + 1, state := 5 }
    else none
  else if s.state = 5 then
    if isD c then some { s with mant := s.mant ++ [c], frac := s.frac + 1 }
    else if c = 101 ∨ c = 69 then some { s with state := 6 }
    else some { s with stopped := true }
  else if s.state = 6 then
    if c = 45 then some { s with eneg := true, state := 7 }
    else if c = 43 then some { s with state := 7 }
    else if isD c then some { s with sig := (expS (s.sig, s.v) c).1, v := (expS (s.sig, s.v) c).2, state := 8 }
    else none
  else if s.state = 7 then
    if isD c then some { s with sig := (expS (s.sig, s.v) c).1, v := (expS (s.sig, s.v) c).2, state := 8 }
    else none
  else
    if isD c then some { s with sig := (expS (s.sig, s.v) c).1, v := (expS (s.sig, s.v) c).2 }
    else some { s with stopped := true }

def mach : St → List Int → Option St
  | s, [] => some s
  | s, c :: cs => if s.stopped then some s else (stepM s c).bind fun s' => mach s' cs

/-- The exponent's magnitude. -/
def magM (sig v : Int) : Int := if 13 < sig ∨ capE < v then capE else v
def finS (s : St) : Res :=
  if s.stopped = false ∧ (s.state = 0 ∨ s.state = 1 ∨ s.state = 4 ∨ s.state = 6 ∨ s.state = 7) then none
  else some (s.neg, s.mant, (if s.eneg then -magM s.sig s.v else magM s.sig s.v) - s.frac, !s.stopped)
def M (s : St) (t : List Int) : Res := (mach s t).bind finS
def s0 : St := ⟨0, false, [], 0, false, 0, 0, false⟩

/-! ### The exponent -/
/-- What is known of the machine's count, its number, and of parseDecimal's own. -/
def ExpInv (sig v e : Int) : Prop :=
  (∃ n : Nat, n ≤ 13 ∧ sig = n ∧ 0 ≤ v ∧ v < 10 ^ n ∧ (0 < n → 10 ^ n ≤ v * 10) ∧ e = min v capE) ∨ (sig = 14 ∧ e = capE)

theorem ExpInv.step {sig v e c : Int} (hc : 48 ≤ c ∧ c ≤ 57) (h : ExpInv sig v e) : ExpInv (expS (sig, v) c).1 (expS (sig, v) c).2 (eP e c) := by
  unfold expS eP
  simp only
  rcases h with ⟨n, hn, rfl, h0, h1, h2, rfl⟩ | ⟨rfl, rfl⟩
  · by_cases hz : (n : Int) = 0 ∧ c = 48
    · rw [if_pos hz]
      obtain ⟨hz, rfl⟩ := hz
      have hn0 : n = 0 := by omega
      subst hn0
      have hv : v < 1 := by simpa using h1
      left
      refine ⟨0, by omega, rfl, h0, h1, fun h => absurd h (by omega), ?_⟩
      simp only [capE]; omega
    · rw [if_neg hz]
      have hlt : (n : Int) < 14 := by omega
      rw [if_pos hlt]
      by_cases h13 : (n : Int) + 1 ≤ 13
      · rw [if_pos h13]
        left
        have e10 : (10 : Int) ^ (n + 1) = 10 * 10 ^ n := by rw [Int.pow_succ, Int.mul_comm]
        refine ⟨n + 1, by omega, by simp, by simp only; omega, ?_, ?_, ?_⟩
        · simp only; rw [e10]; omega
        · intro _
          simp only; rw [e10]
          by_cases hn0 : n = 0
          · subst hn0
            have : (10 : Int) ^ 0 = 1 := rfl
            rw [this] at h1 ⊢
            omega
          · have := h2 (by omega)
            omega
        · simp only [capE]; omega
      · rw [if_neg h13]
        right
        have hn13 : n = 13 := by omega
        subst hn13
        have h3 := h2 (by omega)
        have e13 : (10 : Int) ^ 13 = 10000000000000 := by decide
        rw [e13] at h3
        refine ⟨by simp only; omega, ?_⟩
        simp only [capE]; omega
  · rw [if_neg (by omega), if_neg (by omega), if_neg (by omega)]
    right
    refine ⟨rfl, ?_⟩
    simp only [capE]; omega
theorem ExpInv.mag {sig v e : Int} (h : ExpInv sig v e) : e = magM sig v := by
  unfold magM
  rcases h with ⟨n, hn, rfl, h0, h1, h2, rfl⟩ | ⟨rfl, rfl⟩
  · by_cases hc : capE < v
    · rw [if_pos (Or.inr hc)]; omega
    · rw [if_neg (by omega)]; omega
  · rw [if_pos (Or.inl (by omega))]

theorem exp_inv : ∀ (es : List Int), (∀ c ∈ es, isD c = true) → ∀ (sv : Int × Int) (e : Int), ExpInv sv.1 sv.2 e →
    es.foldl eP e = magM (es.foldl expS sv).1 (es.foldl expS sv).2
  | [], _, sv, e, h => h.mag
  | c :: es, hd, sv, e, h => by
    have hc := isD_t (hd c (List.mem_cons_self ..))
    simp only [List.foldl_cons]
    exact exp_inv es (fun c hc => hd c (List.mem_cons_of_mem _ hc)) (expS sv c) (eP e c) (h.step hc)
theorem expP_eq (es : List Int) (hd : ∀ c ∈ es, isD c = true) : expP es = magM (es.foldl expS (0, 0)).1 (es.foldl expS (0, 0)).2 :=
  exp_inv es hd (0, 0) 0 (Or.inl ⟨0, by omega, rfl, by simp, by simp, fun h => absurd h (by omega), by decide⟩)

theorem takeWhile_all (t : List Int) : ∀ c ∈ t.takeWhile isD, isD c = true := by
  intro c hc
  induction t with
  | nil => simp at hc
  | cons a t ih =>
    rw [List.takeWhile_cons] at hc
    split at hc
    · rename_i ha
      rcases List.mem_cons.1 hc with rfl | hc
      · exact ha
      · exact ih hc
    · simp at hc

/-! ### The machine, state by state -/
theorem M_cons (s : St) (c : Int) (cs : List Int) (h : s.stopped = false) : M s (c :: cs) = (stepM s c).bind fun s' => M s' cs := by
  unfold M
  rw [mach, if_neg (by rw [h]; simp)]
  cases stepM s c <;> rfl
theorem M_stopped (s : St) (cs : List Int) (h : s.stopped = true) : M s cs = some (s.neg, s.mant, (if s.eneg then -magM s.sig s.v else magM s.sig s.v) - s.frac, false) := by
  have e : mach s cs = some s := by cases cs <;> simp [mach, h]
  unfold M
  rw [e]
  simp [finS, h]

theorem M_exp : ∀ (t : List Int) (s : St), s.state = 8 → s.stopped = false →
    M s t = some (s.neg, s.mant, (if s.eneg then -magM ((t.takeWhile isD).foldl expS (s.sig, s.v)).1 ((t.takeWhile isD).foldl expS (s.sig, s.v)).2 else magM ((t.takeWhile isD).foldl expS (s.sig, s.v)).1 ((t.takeWhile isD).foldl expS (s.sig, s.v)).2) - s.frac, (t.dropWhile isD).isEmpty)
  | [], s, h8, hs => by simp [M, mach, finS, h8, hs]
  | c :: cs, s, h8, hs => by
    rw [M_cons s c cs hs]
    unfold stepM
    by_cases hd : isD c = true
    · simp only [h8, hd, if_true, List.takeWhile_cons, List.dropWhile_cons, List.foldl_cons]
      have := M_exp cs { s with sig := (expS (s.sig, s.v) c).1, v := (expS (s.sig, s.v) c).2 } h8 hs
      simpa [h8] using this
    · simp only [h8, hd, List.takeWhile_cons, List.dropWhile_cons]
      simp [M_stopped]

/-- The digits of an exponent, from the first on. -/
theorem M_digits (t : List Int) (s s' : St) (c : Int) (hd : isD c = true) (h8 : s'.state = 8) (hs : s'.stopped = false) (h1 : (s'.sig, s'.v) = expS (0, 0) c) (h2 : s'.neg = s.neg) (h3 : s'.mant = s.mant) (h4 : s'.eneg = s.eneg) (h5 : s'.frac = s.frac) :
    M s' t = some (s.neg, s.mant, (if s.eneg then -expP ((c :: t).takeWhile isD) else expP ((c :: t).takeWhile isD)) - s.frac, ((c :: t).dropWhile isD).isEmpty) := by
  have e : (c :: t).takeWhile isD = c :: t.takeWhile isD := by rw [List.takeWhile_cons, if_pos hd]
  have e2 : (c :: t).dropWhile isD = t.dropWhile isD := by rw [List.dropWhile_cons, if_pos hd]
  have hall : ∀ x ∈ c :: t.takeWhile isD, isD x = true := fun x hx => by
    rcases List.mem_cons.1 hx with rfl | hx
    · exact hd
    · exact takeWhile_all t x hx
  rw [e, e2, expP_eq _ hall, List.foldl_cons, M_exp t s' h8 hs, h1, h2, h3, h4, h5]

theorem M_7 (t : List Int) (s : St) (h7 : s.state = 7) (hs : s.stopped = false) (h0 : s.sig = 0) (hv : s.v = 0) :
    M s t = if t.takeWhile isD = [] then none else some (s.neg, s.mant, (if s.eneg then -expP (t.takeWhile isD) else expP (t.takeWhile isD)) - s.frac, (t.dropWhile isD).isEmpty) := by
  cases t with
  | nil => simp [M, mach, finS, h7, hs]
  | cons c cs =>
    rw [M_cons s c cs hs]
    by_cases hd : isD c = true
    · have e : (c :: cs).takeWhile isD ≠ [] := by rw [List.takeWhile_cons, if_pos hd]; simp
      rw [if_neg e]
      have hst : stepM s c = some { s with sig := (expS (s.sig, s.v) c).1, v := (expS (s.sig, s.v) c).2, state := 8 } := by
        unfold stepM; simp [h7, hd]
      rw [hst]
      exact M_digits cs s _ c hd rfl hs (by rw [h0, hv]) rfl rfl rfl rfl
    · have e : (c :: cs).takeWhile isD = [] := by rw [List.takeWhile_cons, if_neg hd]
      rw [if_pos e]
      have hst : stepM s c = none := by unfold stepM; simp [h7, hd]
      rw [hst]; rfl

/-- What a machine that has read the mantissa has in hand. -/
def Fresh (s : St) : Prop := s.stopped = false ∧ s.sig = 0 ∧ s.v = 0 ∧ s.eneg = false

theorem isD_45 : isD 45 = false := by decide
theorem isD_43 : isD 43 = false := by decide
theorem isD_46 : isD 46 = false := by decide
theorem isD_48 : isD 48 = true := by decide

theorem M_6 (r1 : List Int) (s : St) (h6 : s.state = 6) (hf : Fresh s) :
    M s r1 = (if (if r1.head? = some 45 ∨ r1.head? = some 43 then r1.tail else r1).takeWhile isD = [] then none
      else some (s.neg, s.mant, -s.frac + (if r1.head? = some 45 then -expP ((if r1.head? = some 45 ∨ r1.head? = some 43 then r1.tail else r1).takeWhile isD) else expP ((if r1.head? = some 45 ∨ r1.head? = some 43 then r1.tail else r1).takeWhile isD)),
        ((if r1.head? = some 45 ∨ r1.head? = some 43 then r1.tail else r1).dropWhile isD).isEmpty)) := by
  obtain ⟨hs, h0, hv, he⟩ := hf
  cases r1 with
  | nil => simp [M, mach, finS, h6, hs]
  | cons c cs =>
    rw [M_cons s c cs hs]
    have hcomm : ∀ x : Int, -s.frac + x = x - s.frac := fun x => by omega
    by_cases h45 : c = 45
    · subst h45
      have hst : stepM s 45 = some { s with eneg := true, state := 7 } := by unfold stepM; simp [h6]
      rw [hst, Option.bind_some, M_7 cs { s with eneg := true, state := 7 } rfl hs h0 hv]
      simp [hcomm]
    · by_cases h43 : c = 43
      · subst h43
        have hst : stepM s 43 = some { s with state := 7 } := by unfold stepM; simp [h6]
        rw [hst, Option.bind_some, M_7 cs { s with state := 7 } rfl hs h0 hv]
        simp [hcomm, he]
      · have e : ¬ ((c :: cs).head? = some 45 ∨ (c :: cs).head? = some 43) := by simp [h45, h43]
        have e2 : ¬ (c :: cs).head? = some 45 := by simp [h45]
        rw [if_neg e, if_neg e2]
        by_cases hd : isD c = true
        · have e3 : (c :: cs).takeWhile isD ≠ [] := by rw [List.takeWhile_cons, if_pos hd]; simp
          rw [if_neg e3]
          have hst : stepM s c = some { s with sig := (expS (s.sig, s.v) c).1, v := (expS (s.sig, s.v) c).2, state := 8 } := by
            unfold stepM; simp [h6, h45, h43, hd]
          rw [hst, Option.bind_some, M_digits cs s { s with sig := (expS (s.sig, s.v) c).1, v := (expS (s.sig, s.v) c).2, state := 8 } c hd rfl hs (by rw [h0, hv]) rfl rfl rfl rfl, he, hcomm]
          rfl
        · have e3 : (c :: cs).takeWhile isD = [] := by rw [List.takeWhile_cons, if_neg hd]
          rw [if_pos e3]
          have hst : stepM s c = none := by unfold stepM; simp [h6, h45, h43, hd]
          rw [hst]; rfl

/-- At the end of the mantissa: the text ends, an exponent follows, or another byte stops the machine. -/
theorem M_tail (r : List Int) (s : St) (hf : Fresh s) (hst : s.state = 2 ∨ s.state = 3 ∨ s.state = 5) (hd : ∀ c, r.head? = some c → isD c = false) (h46 : s.state = 5 ∨ r.head? ≠ some 46) :
    M s r = tailP s.neg s.mant (-s.frac) r := by
  have hf' := hf
  obtain ⟨hs, h0, hv, he⟩ := hf
  cases r with
  | nil =>
    have : magM 0 0 = 0 := by decide
    rcases hst with h | h | h <;> simp [M, mach, finS, h, hs, tailP, h0, hv, he, this]
  | cons c cs =>
    rw [M_cons s c cs hs]
    have hdc := hd c rfl
    have hc46 : s.state = 5 ∨ c ≠ 46 := by simpa using h46
    unfold tailP
    by_cases hE : c = 101 ∨ c = 69
    · have hstep : stepM s c = some { s with state := 6 } := by
        unfold stepM
        have h46 : c ≠ 46 := by omega
        rcases hst with h | h | h <;> simp [h, hdc, hE, h46]
      rw [hstep, Option.bind_some]
      simp only [hE, if_true]
      rw [M_6 cs { s with state := 6 } rfl hf']
    · have hstep : stepM s c = some { s with stopped := true } := by
        unfold stepM
        rcases hst with h | h | h
        · have : c ≠ 46 := by omega
          simp [h, hdc, hE, this]
        · have : c ≠ 46 := by omega
          simp [h, hdc, hE, this]
        · simp [h, hdc, hE]
      rw [hstep, Option.bind_some, M_stopped _ _ rfl]
      have : magM 0 0 = 0 := by decide
      simp [hE, h0, hv, he, this]

theorem head_dropWhile (t : List Int) : ∀ c, (t.dropWhile isD).head? = some c → isD c = false := by
  intro c hc
  induction t with
  | nil => simp at hc
  | cons a t ih =>
    rw [List.dropWhile_cons] at hc
    split at hc
    · exact ih hc
    · rename_i ha
      simp at hc
      subst hc
      simpa using ha

theorem M_5 : ∀ (t : List Int) (s : St), s.state = 5 → Fresh s → M s t = tailP s.neg (s.mant ++ t.takeWhile isD) (-(s.frac + (t.takeWhile isD).length)) (t.dropWhile isD)
  | [], s, h5, hf => by
    rw [M_tail [] s hf (Or.inr (Or.inr h5)) (by simp) (Or.inl h5)]
    simp
  | c :: cs, s, h5, hf => by
    by_cases hd : isD c = true
    · rw [M_cons s c cs hf.1]
      have hstep : stepM s c = some { s with mant := s.mant ++ [c], frac := s.frac + 1 } := by unfold stepM; simp [h5, hd]
      rw [hstep, Option.bind_some, M_5 cs { s with mant := s.mant ++ [c], frac := s.frac + 1 } h5 hf]
      simp only [List.takeWhile_cons, List.dropWhile_cons, hd, if_true, List.append_assoc, List.singleton_append, List.length_cons]
      congr 1
      simp; omega
    · rw [M_tail (c :: cs) s hf (Or.inr (Or.inr h5)) (by simpa using hd) (Or.inl h5)]
      simp [hd]

theorem M_4 (t : List Int) (s : St) (h4 : s.state = 4) (hf : Fresh s) (h0 : s.frac = 0) : M s t = if t.takeWhile isD = [] then none else tailP s.neg (s.mant ++ t.takeWhile isD) (-((t.takeWhile isD).length : Int)) (t.dropWhile isD) := by
  cases t with
  | nil => simp [M, mach, finS, h4, hf.1]
  | cons c cs =>
    rw [M_cons s c cs hf.1]
    by_cases hd : isD c = true
    · have hstep : stepM s c = some { s with mant := s.mant ++ [c], frac := s.frac + 1, state := 5 } := by unfold stepM; simp [h4, hd]
      rw [hstep, Option.bind_some, M_5 cs { s with mant := s.mant ++ [c], frac := s.frac + 1, state := 5 } rfl hf]
      simp only [List.takeWhile_cons, List.dropWhile_cons, hd, if_true, List.append_assoc, List.singleton_append, List.length_cons, h0]
      rw [if_neg (by simp)]
      congr 1
      simp; omega
    · have hstep : stepM s c = none := by unfold stepM; simp [h4, hd]
      rw [hstep]
      simp [hd]

/-- Behind the whole digits. -/
theorem M_frac (r : List Int) (s : St) (hf : Fresh s) (h0 : s.frac = 0) (hst : s.state = 2 ∨ s.state = 3) (hd : ∀ c, r.head? = some c → isD c = false) :
    M s r = fracP s.neg s.mant r := by
  unfold fracP
  by_cases h46 : r.head? = some 46
  · rw [if_pos h46]
    cases r with
    | nil => simp at h46
    | cons c cs =>
      simp at h46
      subst h46
      rw [M_cons s 46 cs hf.1]
      have hstep : stepM s 46 = some { s with state := 4 } := by
        unfold stepM
        rcases hst with h | h <;> simp [h, isD_46]
      rw [hstep, Option.bind_some, M_4 cs { s with state := 4 } rfl hf h0]
      rfl
  · rw [if_neg h46, M_tail r s hf (by omega) hd (Or.inr h46), h0]
    rfl

theorem M_3 : ∀ (t : List Int) (s : St), s.state = 3 → Fresh s → s.frac = 0 → M s t = fracP s.neg (s.mant ++ t.takeWhile isD) (t.dropWhile isD)
  | [], s, h3, hf, h0 => by
    rw [M_frac [] s hf h0 (Or.inr h3) (by simp)]; simp
  | c :: cs, s, h3, hf, h0 => by
    by_cases hd : isD c = true
    · rw [M_cons s c cs hf.1]
      have hstep : stepM s c = some { s with mant := s.mant ++ [c] } := by unfold stepM; simp [h3, hd]
      rw [hstep, Option.bind_some, M_3 cs { s with mant := s.mant ++ [c] } h3 hf h0]
      simp [hd]
    · rw [M_frac (c :: cs) s hf h0 (Or.inr h3) (by simpa using hd)]
      simp [hd]

/-- From the sign on, or from the start where no sign stands there. -/
theorem M_whole (t : List Int) (s : St) (hf : Fresh s) (h0 : s.frac = 0) (hm : s.mant = []) (hst : s.state = 1 ∨ (s.state = 0 ∧ t.head? ≠ some 45)) : M s t = wholeP s.neg t := by
  unfold wholeP
  cases t with
  | nil => rcases hst with h | ⟨h, _⟩ <;> simp [M, mach, finS, h, hf.1]
  | cons c cs =>
    rw [M_cons s c cs hf.1]
    have hst' : s.state = 1 ∨ (s.state = 0 ∧ c ≠ 45) := by simpa using hst
    by_cases h48 : c = 48
    · subst h48
      have hstep : stepM s 48 = some { s with mant := s.mant ++ [48], state := 2 } := by
        unfold stepM
        rcases hst' with h | ⟨h, _⟩ <;> simp [h]
      rw [hstep, Option.bind_some]
      have e1 : (48 :: cs).takeWhile isD = 48 :: cs.takeWhile isD := by rw [List.takeWhile_cons, if_pos isD_48]
      have e2 : (48 :: cs).dropWhile isD = cs.dropWhile isD := by rw [List.dropWhile_cons, if_pos isD_48]
      rw [e1, e2]
      cases cs with
      | nil =>
        rw [M_frac [] { s with mant := s.mant ++ [48], state := 2 } hf h0 (Or.inl rfl) (by simp)]
        simp [hm]
      | cons x xs =>
        by_cases hx : isD x = true
        · have e3 : (x :: xs).takeWhile isD = x :: xs.takeWhile isD := by rw [List.takeWhile_cons, if_pos hx]
          rw [e3, if_pos (by simp)]
          rw [M_cons { s with mant := s.mant ++ [48], state := 2 } x xs hf.1]
          have hstep : stepM { s with mant := s.mant ++ [48], state := 2 } x = none := by unfold stepM; simp [hx]
          rw [hstep]; rfl
        · have e3 : (x :: xs).takeWhile isD = [] := by rw [List.takeWhile_cons, if_neg hx]
          have e4 : (x :: xs).dropWhile isD = x :: xs := by rw [List.dropWhile_cons, if_neg hx]
          rw [e3, e4, if_neg (by simp)]
          rw [M_frac (x :: xs) { s with mant := s.mant ++ [48], state := 2 } hf h0 (Or.inl rfl) (by simpa using hx)]
          simp [hm]
    · by_cases hd : isD c = true
      · have hstep : stepM s c = some { s with mant := s.mant ++ [c], state := 3 } := by
          unfold stepM
          rcases hst' with h | ⟨h, h45⟩
          · simp [h, h48, hd]
          · simp [h, h48, hd, h45]
        rw [hstep, Option.bind_some, M_3 cs { s with mant := s.mant ++ [c], state := 3 } rfl hf h0]
        simp [hd, h48, hm]
      · have hstep : stepM s c = none := by
          unfold stepM
          rcases hst' with h | ⟨h, h45⟩
          · simp [h, h48, hd]
          · simp [h, h48, hd, h45]
        rw [hstep]
        simp [hd]

/-- THE PLAIN LAW. -/
theorem machine_is_parse (t : List Int) : M s0 t = parseP t := by
  have hf : Fresh s0 := ⟨rfl, rfl, rfl, rfl⟩
  unfold parseP
  by_cases h45 : t.head? = some 45
  · rw [if_pos h45]
    cases t with
    | nil => simp at h45
    | cons c cs =>
      simp at h45
      subst h45
      rw [M_cons s0 45 cs rfl]
      have hstep : stepM s0 45 = some { s0 with neg := true, state := 1 } := by unfold stepM; simp [s0]
      rw [hstep, Option.bind_some, M_whole cs { s0 with neg := true, state := 1 } hf rfl rfl (Or.inl rfl)]
      rfl
  · rw [if_neg h45, M_whole t s0 hf rfl rfl (Or.inr ⟨rfl, h45⟩)]
    rfl
end Go.Proofs.Qxb6604182a
