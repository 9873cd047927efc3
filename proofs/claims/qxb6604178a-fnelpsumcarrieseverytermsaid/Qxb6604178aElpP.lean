/-
  oppositeTerm, walked.
-/
import Derived.Test.Qxb6604178aElpL
import Derived.Deep.RegionWith
import Derived.Deep.CutBlock
import Derived.Deep.DeepCutAuto
namespace Go.Proofs.Qxb6604178a.Elp
open Go.RowKit Fl

/-- Six floats in a block. -/
def Six (w : World) (p : Nat) (g : Nat → Nat) : Prop := ∀ j, j < 6 → w.cell? ⟨p, j, none⟩ = some (.float .f64 (g j))
theorem Six.but {w w' : World} {p : Nat} {g : Nat → Nat} (h : Six w p g) (hb : But [] w w') : Six w' p g := fun j hj => hb.has (h j hj)
theorem Six.of {w : World} {p : Nat} {g : Nat → Nat} {t : TypeId} (h : w.heap[p]? = some (.cells #[.float .f64 (g 0), .float .f64 (g 1), .float .f64 (g 2), .float .f64 (g 3), .float .f64 (g 4), .float .f64 (g 5)] t)) : Six w p g := fun j hj => by
  rw [cell_of_row _ _ _ _ _ _ h]
  rcases (show j = 0 ∨ j = 1 ∨ j = 2 ∨ j = 3 ∨ j = 4 ∨ j = 5 by omega) with rfl | rfl | rfl | rfl | rfl | rfl <;> rfl
theorem two_olds (w : World) (o1 o2 : Obj) : ((w.alloc o1).alloc o2).heap[w.heap.size]? = some o1 ∧ ((w.alloc o1).alloc o2).heap[w.heap.size + 1]? = some o2 := by
  refine ⟨?_, ?_⟩
  · rw [Below.heap_alloc _ _ _ (by simp)]
    exact heap_alloc_new w o1
  · have := heap_alloc_new (w.alloc o1) o2
    simpa using this

set_option maxRecDepth 100000 in
set_option maxHeartbeats 4000000 in
theorem oppTerm_any (a1 a2 : Nat) (g1 g2 : Nat → Nat) (w : World) (ha : SameF a1 a2) (hg : ∀ j, j < 6 → SameF (g2 j) (fneg (g1 j))) :
    Calls Try.prog 21 #[.float .f64 a1, .agg #[.float .f64 (g1 0), .float .f64 (g1 1), .float .f64 (g1 2), .float .f64 (g1 3), .float .f64 (g1 4), .float .f64 (g1 5)], .float .f64 a2, .agg #[.float .f64 (g2 0), .float .f64 (g2 1), .float .f64 (g2 2), .float .f64 (g2 3), .float .f64 (g2 4), .float .f64 (g2 5)]] w
    fun x w' => x = .returned (.bool true) ∧ But [] w w' := by
  have HA : Hid _ := ha
  have HG : Hid (∀ j, j < 6 → SameF (g2 j) (fneg (g1 j))) := hg
  clear ha hg
  go_enter Try.func21, Try.ntmps21
  go_upto_region 1 with fail
  have H1 : Hid _ := Six.of (g := g1) (two_olds w (.cells #[.float .f64 (g1 0), .float .f64 (g1 1), .float .f64 (g1 2), .float .f64 (g1 3), .float .f64 (g1 4), .float .f64 (g1 5)] 25) (.cells #[.float .f64 (g2 0), .float .f64 (g2 1), .float .f64 (g2 2), .float .f64 (g2 3), .float .f64 (g2 4), .float .f64 (g2 5)] 25)).1
  have H2 : Hid _ := Six.of (g := g2) (two_olds w (.cells #[.float .f64 (g1 0), .float .f64 (g1 1), .float .f64 (g1 2), .float .f64 (g1 3), .float .f64 (g1 4), .float .f64 (g1 5)] 25) (.cells #[.float .f64 (g2 0), .float .f64 (g2 1), .float .f64 (g2 2), .float .f64 (g2 3), .float .f64 (g2 4), .float .f64 (g2 5)] 25)).2
  have HB : Hid (But [] w ((w.alloc (.cells #[.float .f64 (g1 0), .float .f64 (g1 1), .float .f64 (g1 2), .float .f64 (g1 3), .float .f64 (g1 4), .float .f64 (g1 5)] 25)).alloc (.cells #[.float .f64 (g2 0), .float .f64 (g2 1), .float .f64 (g2 2), .float .f64 (g2 3), .float .f64 (g2 4), .float .f64 (g2 5)] 25))) := ((But.refl [] w).alloc _).alloc _
  generalize World.alloc (World.alloc w _) _ = w0 at H1 H2 HB ⊢
  generalize w.heap.size + 1 = p2 at H2 ⊢
  generalize w.heap.size = p1 at H1 ⊢
  go_wp2_with (go_at_call 14; refine (same_any _ _ _ HA.out).mono ?_; rintro e w1 ⟨rfl, hb1⟩; have HB1 : Hid _ := hb1; clear hb1)
  have K1 : Hid _ := Six.but H1.out HB1.out
  have K2 : Hid _ := Six.but H2.out HB1.out
  have HBw : Hid _ := HB.out.trans HB1.out
  clear H1 H2 HB HB1
  go_loopw [9] (fun i wr => ∃ j : Nat, j ≤ 6 ∧ i = .int .i64 j ∧ But [] w1 wr) (fun i _ => 6 - (intOf i).toNat)
  case atStart => exact ⟨0, Nat.zero_le _, rfl, But.refl _ _⟩
  case round =>
    obtain ⟨j, hj, rfl, hb⟩ := hrel
    have HB2 : Hid _ := hb
    clear hb
    by_cases hlj : j < 6
    · have c1 := Six.but K1.out HB2.out j hlj
      have c2 := Six.but K2.out HB2.out j hlj
      have HS : Hid _ := HG.out j hlj
      go_wp2
      go_region_with (first | (go_at_call 14; refine (same_any _ _ _ HS.out).mono ?_; rintro e w2 ⟨rfl, hb2⟩; have HB3 : Hid _ := hb2; clear hb2))
      all_goals go_wp2
      all_goals
        refine ⟨⟨j + 1, by omega, by simp, HB2.out.trans (But.trans (by repeat (first | with_reducible exact But.refl _ _ | apply But.drewN | apply But.drew)) (But.trans HB3.out (by repeat (first | with_reducible exact But.refl _ _ | apply But.drewN | apply But.drew))))⟩, by simp [intOf]; omega⟩
    · go_wp2
      go_ret
      exact ⟨rfl, HBw.out.trans HB2.out⟩
end Go.Proofs.Qxb6604178a.Elp
