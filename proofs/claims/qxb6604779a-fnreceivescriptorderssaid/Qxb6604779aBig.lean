/-
  Rows out of bounds: the law passes them by.
-/
import Derived.Test.Qxb6604779aMid
import Derived.Deep.DeepCutAuto
namespace Go.Proofs.Qxb6604779a
open Go.RowKit

set_option maxRecDepth 100000 in
set_option maxHeartbeats 4000000 in
theorem script_big (me size ol oz oe round pl pz pe : Int) (a5 a6 a7 : Option Addr) (l5 c5 l6 c6 l7 c7 : Nat) (w : World) (hbig : ¬ (l5 ≤ 4096 ∧ l6 ≤ 4096 ∧ l7 ≤ 8192)) :
    Calls Try.prog 4 #[.int .i64 me, .int .i64 size, .agg #[.int .i64 ol, .int .i64 oz, .int .i64 oe], .int .i64 round, .agg #[.int .i64 pl, .int .i64 pz, .int .i64 pe], .slice a5 l5 c5, .slice a6 l6 c6, .slice a7 l7 c7] w
    fun x w' => x = .returned (.bool true) ∧ Below w.heap.size w w' := by
  have HBig : Hid _ := hbig
  clear hbig
  go_enter Try.func4, Try.ntmps4
  go_upto_region 9 with (go_at_call 12; refine (bytes12_any _ _ _ _ _ _ _ _ _ _ _ _ _ _ _ _ _ _ _).mono ?_; rintro e w1 ⟨⟨b, rfl⟩, hb⟩; have HB0 : Hid (Below w.heap.size w w1) := ((((But.refl [] w).alloc _).alloc _).trans hb).below (Nat.le_refl _) (by simp); clear hb; cases b)
  all_goals first
    | (go_ret; exact ⟨rfl, HB0.out⟩)
    | (exfalso; exact HBig.out ⟨by omega, by omega, by omega⟩)
end Go.Proofs.Qxb6604779a
