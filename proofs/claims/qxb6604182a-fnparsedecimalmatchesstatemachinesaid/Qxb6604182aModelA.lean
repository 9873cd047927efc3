/-
  The walk of zzExpStep, and the state machine's step in the walk's own terms.
-/
import Derived.Test.Qxb6604182aPlain
import Derived.Test.Qxb6604182aWalkB
namespace Go.Proofs.Qxb6604182a
open Go.RowKit

set_option maxHeartbeats 1000000 in
theorem expStep_any (sig v c : Int) (w : World) (hc1 : 48 ≤ c) (hc2 : c ≤ 57) (h1 : 0 ≤ sig) (h2 : sig ≤ 14) (h3 : 0 ≤ v) (h4 : v ≤ 100000000000000) :
    Calls Try.prog 19 #[.int .i64 sig, .int .i64 v, .int .u8 c] w fun e w' => e = .returned (.tuple #[.int .i64 (expS (sig, v) c).1, .int .i64 (expS (sig, v) c).2]) ∧ w' = w := by
  unfold expS
  by_cases hz : sig = 0
  · subst hz
    by_cases h48 : c = 48
    · subst h48
      simp only [and_self, if_true]
      go_enter Try.func19, Try.ntmps19
      go_wp2
      go_ret2
      exact ⟨rfl, rfl⟩
    · have h48' : (c == 48) = false := by simpa using h48
      simp only [h48, and_false, if_false]
      go_enter Try.func19, Try.ntmps19
      go_wp2
      go_ret2
      exact ⟨rfl, rfl⟩
  · have hz' : (sig == 0) = false := by simpa using hz
    simp only [hz, false_and, if_false]
    by_cases h14 : sig < 14
    · simp only [h14, if_true]
      by_cases h13 : sig + 1 ≤ 13
      · simp only [h13, if_true]
        go_enter Try.func19, Try.ntmps19
        go_wp2
        go_ret2
        exact ⟨rfl, rfl⟩
      · simp only [h13, if_false]
        go_enter Try.func19, Try.ntmps19
        go_wp2
        go_ret2
        exact ⟨rfl, rfl⟩
    · simp only [h14, if_false]
      have h13 : ¬ sig ≤ 13 := by omega
      simp only [h13, if_false]
      go_enter Try.func19, Try.ntmps19
      go_wp2
      go_ret2
      exact ⟨rfl, rfl⟩
end Go.Proofs.Qxb6604182a
