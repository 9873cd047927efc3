/-
  The walks of the small float functions: within, threePoint, absf, interpolate.
-/
import Derived.Test.Qxb6604178aRows
import Derived.Test.Qxb6604178aFl
import Derived.WalkKit
import Derived.WalkSpells
import Derived.WalkLawsBesides
import Derived.Deep.QuietTactic
import Derived.BigQuiet
namespace Go.Proofs.Qxb6604178a
open Go.RowKit Fl

set_option maxHeartbeats 400000 in
theorem within_any (x b : Nat) (w : World) :
    Calls Try.prog 23 #[.float .f64 x, .float .f64 b] w fun e w' => e = .returned (.bool (fge x (fneg b) && fle x b)) ∧ w' = w := by
  go_enter Try.func23, Try.ntmps23
  go_wp2
  · go_ret
    exact ⟨rfl, rfl⟩
  · go_ret
    rename_i h
    refine ⟨?_, rfl⟩
    have e : fge x (fneg b) = false := by unfold fge fgt feq; simpa using h
    rw [e]; rfl

set_option maxHeartbeats 400000 in
theorem threePoint_any (y0 y1 y2 n : Nat) (w : World) (h : TpOk y0 y1 y2 n) :
    Calls Try.prog 25 #[.float .f64 y0, .float .f64 y1, .float .f64 y2, .float .f64 n] w fun e w' => e = .returned (.float .f64 (tp y0 y1 y2 n)) ∧ w' = w := by
  go_enter Try.func25, Try.ntmps25
  go_wp2_with (first
    | simp only [run_sub h.hn fin_one] | simp only [run_mul h.hn h.ha1] | simp only [run_quo h.ha2 dvs_two] | simp only [run_mul h.hy0 h.ha3]
    | simp only [run_sub fin_one h.hn] | simp only [run_add fin_one h.hn] | simp only [run_mul h.hb1 h.hb2] | simp only [run_mul h.hy1 h.hb3] | simp only [run_add h.ha4 h.hb4]
    | simp only [run_add h.hn fin_one] | simp only [run_mul h.hn h.hc1] | simp only [run_quo h.hc2 dvs_two] | simp only [run_mul h.hy2 h.hc3] | simp only [run_add h.hb5 h.hc4])
  go_ret
  exact ⟨rfl, rfl⟩

set_option maxHeartbeats 400000 in
theorem absf_any (x : Nat) (w : World) :
    Calls Try.prog 26 #[.float .f64 x] w fun e w' => e = .returned (.float .f64 (fabs x)) ∧ w' = w := by
  by_cases h : (FloatKind.f64.format.order x 0 == some .lt) = true
  · have e1 : fabs x = fneg x := by unfold fabs flt; rw [if_pos h]
    rw [e1]
    go_enter Try.func26, Try.ntmps26
    go_wp2
    go_ret
    exact ⟨rfl, rfl⟩
  · have e1 : fabs x = x := by unfold fabs flt; rw [if_neg h]
    have h : (FloatKind.f64.format.order x 0 == some .lt) = false := by simpa using h
    rw [e1]
    go_enter Try.func26, Try.ntmps26
    go_wp2
    go_ret
    exact ⟨rfl, rfl⟩

set_option maxHeartbeats 400000 in
theorem interpolate_any (y0 y1 y2 n : Nat) (w : World) (h0 : fin y0 = true) (h1 : fin y1 = true) (h2 : fin y2 = true) (h : IpOk y1 (fsub y1 y0) (fsub y2 y1) n) :
    Calls Try.prog 34 #[.agg #[.float .f64 y0, .float .f64 y1, .float .f64 y2], .float .f64 n] w fun e w' => e = .returned (.float .f64 (ip y0 y1 y2 n)) ∧ Below w.heap.size w w' := by
  go_enter Try.func34, Try.ntmps34
  have q1 := fun t w => run_sub (P := Try.prog) h1 h0 t w
  have q2 := fun t w => run_sub (P := Try.prog) h2 h1 t w
  go_wp2
  go_quiet (fail)
  go_wp2_with (first
    | simp only [run_quo h.hn dvs_two] | simp only [run_add h.ha h.hb] | simp only [run_sub h.hb h.ha] | simp only [run_mul h.hn h.hc]
    | simp only [run_add h.hab h.hnc] | simp only [run_mul h.hh h.hs] | simp only [run_add h.hy1 h.hp])
  go_ret
  exact ⟨rfl, below_drewN ((Below.refl _ _).alloc (Nat.le_refl _) _) _⟩
end Go.Proofs.Qxb6604178a
