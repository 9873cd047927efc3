/-
  sameFloat, walked.
-/
import Derived.Test.Qxb6604178aElpA
import Derived.Deep.QuietTactic
import Derived.BigQuiet
namespace Go.Proofs.Qxb6604178a.Elp
open Go.RowKit Fl

def SameF (a b : Nat) : Prop := feq a b = true ∨ (feq a a = false ∧ feq b b = false)
theorem order_self (d : Ieee.Datum) (h : ∀ s t, d ≠ .nan s t) : d.order d = some .eq := by
  cases d with
  | number s m e => simp [Ieee.Datum.order, compare, compareOfLessAndEq]
  | infinity s => cases s <;> simp [Ieee.Datum.order, compare, compareOfLessAndEq]
  | nan s t => exact absurd rfl (h s t)
theorem feq_self {x : Nat} (h : nanW x = false) : feq x x = true := by
  have hn : ∀ s t, Ieee.double.read x ≠ .nan s t := fun s t e => by
    have := (read_nan x).1 ⟨s, t, e⟩
    rw [h] at this
    cases this
  have : FloatKind.f64.format.order x x = some .eq := order_self _ hn
  simp [feq, this]
theorem feq_nan {x : Nat} (h : nanW x = true) (y : Nat) : feq x y = false := by
  obtain ⟨s, t, e⟩ := (read_nan x).2 h
  have : FloatKind.f64.format.order x y = none := by
    show (Ieee.double.read x).order (Ieee.double.read y) = none
    rw [e]
    simp [Ieee.Datum.order]
  simp [feq, this]
theorem same_canon {a b : Nat} (h : canon a = canon b) : SameF a b := by
  unfold canon at h
  by_cases h1 : nanW a = true
  · by_cases h2 : nanW b = true
    · exact .inr ⟨feq_nan h1 a, feq_nan h2 b⟩
    · simp [h1, h2] at h
  · by_cases h2 : nanW b = true
    · simp [h1, h2] at h
    · simp [h1, h2] at h
      subst h
      exact .inl (feq_self (by simpa using h1))

set_option maxRecDepth 100000 in
set_option maxHeartbeats 4000000 in
theorem same_any (a b : Nat) (w : World) (h : SameF a b) : Calls Try.prog 14 #[.float .f64 a, .float .f64 b] w fun x w' => x = .returned (.bool true) ∧ But [] w w' := by
  go_enter Try.func14, Try.ntmps14
  rcases h with h | ⟨h1, h2⟩
  · have h' : FloatKind.f64.format.order a b = some Ordering.eq := by simpa [feq] using h
    clear h
    go_wp2
    go_ret
    exact ⟨by simp, But.refl _ _⟩
  · have h1' : ¬ FloatKind.f64.format.order a a = some Ordering.eq := by simpa [feq] using h1
    have h2' : ¬ FloatKind.f64.format.order b b = some Ordering.eq := by simpa [feq] using h2
    clear h1 h2
    go_wp2
    all_goals go_ret
    all_goals exact ⟨by simp [*], But.refl _ _⟩
end Go.Proofs.Qxb6604178a.Elp
