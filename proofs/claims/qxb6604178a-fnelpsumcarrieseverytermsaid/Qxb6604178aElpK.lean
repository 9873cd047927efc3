/-
  The sum's readers, walked.
-/
import Derived.Test.Qxb6604178aElpH
namespace Go.Proofs.Qxb6604178a.Elp
open Go.RowKit Fl

theorem Grid.seven {w : World} {b n : Nat} {G : Nat → Nat → Nat} (h : Grid w b n G) {i : Nat} (hi : i < n) :
    w.cell? ⟨b, i * 7, none⟩ = some (.float .f64 (G i 0)) ∧ w.cell? ⟨b, i * 7 + 1, none⟩ = some (.float .f64 (G i 1)) ∧ w.cell? ⟨b, i * 7 + 2, none⟩ = some (.float .f64 (G i 2)) ∧ w.cell? ⟨b, i * 7 + 3, none⟩ = some (.float .f64 (G i 3)) ∧ w.cell? ⟨b, i * 7 + 4, none⟩ = some (.float .f64 (G i 4)) ∧ w.cell? ⟨b, i * 7 + 5, none⟩ = some (.float .f64 (G i 5)) ∧ w.cell? ⟨b, i * 7 + 6, none⟩ = some (.float .f64 (G i 6)) := (h.fourteen hi).1
set_option maxRecDepth 100000 in
set_option maxHeartbeats 4000000 in
theorem mainPowers_any (B n : Nat) (v : Value) (T : Nat → MT) (K : Nat) (L : Nat → Nat) (R : Nat → Nat → PT) (X : Nat → Nat → Nat) (ph : Nat) (w : World) (h : SumAt w B v n T K L R X ph) :
    Calls Try.prog 11 #[v] w fun x w' => x = .returned (.int .i64 1) ∧ But [] w w' := by
  obtain ⟨b1, bm, bp, -, rfl, -⟩ := h
  go_enter Try.func11, Try.ntmps11
  go_wp2
  go_ret
  exact ⟨rfl, (But.refl _ _).alloc _⟩

set_option maxRecDepth 100000 in
set_option maxHeartbeats 4000000 in
theorem pertPowers_any (B n : Nat) (v : Value) (T : Nat → MT) (K : Nat) (L : Nat → Nat) (R : Nat → Nat → PT) (X : Nat → Nat → Nat) (ph : Nat) (w : World) (h : SumAt w B v n T K L R X ph) :
    Calls Try.prog 17 #[v] w fun x w' => x = .returned (.int .i64 K) ∧ But [] w w' := by
  obtain ⟨b1, bm, bp, -, rfl, -⟩ := h
  go_enter Try.func17, Try.ntmps17
  go_wp2
  go_ret
  exact ⟨rfl, (But.refl _ _).alloc _⟩

set_option maxRecDepth 100000 in
set_option maxHeartbeats 4000000 in
theorem mainCount_any (B n : Nat) (v : Value) (T : Nat → MT) (K : Nat) (L : Nat → Nat) (R : Nat → Nat → PT) (X : Nat → Nat → Nat) (ph : Nat) (w : World) (h : SumAt w B v n T K L R X ph) :
    Calls Try.prog 12 #[v, .int .i64 0] w fun x w' => x = .returned (.int .i64 n) ∧ But [] w w' := by
  obtain ⟨b1, bm, bp, -, rfl, h1, -⟩ := h
  have hl := World.block_lt_of_cell? w _ h1
  go_enter Try.func12, Try.ntmps12
  go_wp2
  go_ret
  exact ⟨rfl, (But.refl _ _).alloc _⟩

set_option maxRecDepth 100000 in
set_option maxHeartbeats 4000000 in
theorem pertCount_any (B n : Nat) (v : Value) (T : Nat → MT) (K : Nat) (L : Nat → Nat) (R : Nat → Nat → PT) (X : Nat → Nat → Nat) (ph : Nat) (k : Nat) (w : World) (h : SumAt w B v n T K L R X ph) (hk : k < K) :
    Calls Try.prog 18 #[v, .int .i64 k] w fun x w' => x = .returned (.int .i64 (L k)) ∧ But [] w w' := by
  obtain ⟨b1, bm, bp, -, rfl, -, -, hr⟩ := h
  obtain ⟨bk, -, -, h1, -⟩ := hr.done k hk
  have hl := World.block_lt_of_cell? w _ h1
  clear hr
  go_enter Try.func18, Try.ntmps18
  go_wp2
  go_ret
  exact ⟨rfl, (But.refl _ _).alloc _⟩

set_option maxRecDepth 100000 in
set_option maxHeartbeats 4000000 in
theorem mainTerm_any (B n : Nat) (v : Value) (T : Nat → MT) (K : Nat) (L : Nat → Nat) (R : Nat → Nat → PT) (X : Nat → Nat → Nat) (ph : Nat) (i : Nat) (w : World) (h : SumAt w B v n T K L R X ph) (hi : i < n) :
    Calls Try.prog 13 #[v, .int .i64 0, .int .i64 i] w fun x w' => ∃ g : Nat → Nat, x = .returned (.tuple #[.float .f64 (T i).a, .agg #[.float .f64 (g 0), .float .f64 (g 1), .float .f64 (g 2), .float .f64 (g 3), .float .f64 (g 4), .float .f64 (g 5)]]) ∧ (∀ j, j < 6 → canon (g j) = coefM T X ph i j) ∧ But [] w w' := by
  obtain ⟨b1, bm, bp, -, rfl, h1, ⟨G, hg, hv⟩, -⟩ := h
  have hl := World.block_lt_of_cell? w _ h1
  obtain ⟨d0, d1, d2, d3, d4, d5, d6⟩ := hg.seven hi
  have hl2 := World.block_lt_of_cell? w _ d0
  have HV : Hid _ := hv i hi
  clear hv hg
  go_enter Try.func13, Try.ntmps13
  go_wp2
  go_region
  all_goals go_wp2
  all_goals
    refine bodyPost_ret (v := .tuple #[.float .f64 (G i 0), .agg #[.float .f64 (G i 1), .float .f64 (G i 2), .float .f64 (G i 3), .float .f64 (G i 4), .float .f64 (G i 5), .float .f64 (G i 6)]]) (by simp [results, Try.results13, go_sem]) rfl ⟨fun j => G i (j + 1), ?_, HV.out.2, (by repeat (first | with_reducible exact But.refl _ _ | apply But.alloc | apply But.drewN | apply But.drew))⟩
    have ha : G i 0 = (T i).a := HV.out.1
    rw [ha]

set_option maxRecDepth 100000 in
set_option maxHeartbeats 4000000 in
theorem pertTerm_any (B n : Nat) (v : Value) (T : Nat → MT) (K : Nat) (L : Nat → Nat) (R : Nat → Nat → PT) (X : Nat → Nat → Nat) (ph : Nat) (k i : Nat) (w : World) (h : SumAt w B v n T K L R X ph) (hk : k < K) (hi : i < L k) :
    Calls Try.prog 19 #[v, .int .i64 k, .int .i64 i] w fun x w' => ∃ g : Nat → Nat, x = .returned (.tuple #[.float .f64 (R k i).a, .agg #[.float .f64 (g 0), .float .f64 (g 1), .float .f64 (g 2), .float .f64 (g 3), .float .f64 (g 4), .float .f64 (g 5)]]) ∧ (∀ j, j < 6 → canon (g j) = coefP (R k) X i j) ∧ But [] w w' := by
  obtain ⟨b1, bm, bp, -, rfl, -, -, hr⟩ := h
  obtain ⟨bk, -, -, h1, ⟨G, hg, hv⟩⟩ := hr.done k hk
  clear hr
  have hl := World.block_lt_of_cell? w _ h1
  obtain ⟨d0, d1, d2, d3, d4, d5, d6⟩ := hg.seven hi
  have hl2 := World.block_lt_of_cell? w _ d0
  have HV : Hid _ := hv i hi
  clear hv hg
  go_enter Try.func19, Try.ntmps19
  go_wp2
  go_region
  all_goals go_wp2
  all_goals
    refine bodyPost_ret (v := .tuple #[.float .f64 (G i 0), .agg #[.float .f64 (G i 1), .float .f64 (G i 2), .float .f64 (G i 3), .float .f64 (G i 4), .float .f64 (G i 5), .float .f64 (G i 6)]]) (by simp [results, Try.results19, go_sem]) rfl ⟨fun j => G i (j + 1), ?_, HV.out.2, (by repeat (first | with_reducible exact But.refl _ _ | apply But.alloc | apply But.drewN | apply But.drew))⟩
    have ha : G i 0 = (R k i).a := HV.out.1
    rw [ha]

end Go.Proofs.Qxb6604178a.Elp
