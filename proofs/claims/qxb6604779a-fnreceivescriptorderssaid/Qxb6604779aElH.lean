/-
  The guard; the maker of an election out of plain rows.
-/
import Derived.Test.Qxb6604779aElG
namespace Go.Proofs.Qxb6604779a
open Go.RowKit

set_option maxHeartbeats 1000000 in
theorem bytes12_any (me size round ol oz oe pl pz pe : Int) (a5 a6 a7 : Option Addr) (l5 c5 l6 c6 l7 c7 : Nat) (w : World) :
    Calls Try.prog 12 #[.int .i64 me, .int .i64 size, .agg #[.int .i64 ol, .int .i64 oz, .int .i64 oe], .int .i64 round, .agg #[.int .i64 pl, .int .i64 pz, .int .i64 pe], .slice a5 l5 c5, .slice a6 l6 c6, .slice a7 l7 c7] w
    fun e w' => (∃ b : Bool, e = .returned (.bool b)) ∧ But [] w w' := by
  by_cases h5 : l5 ≤ 1048576
  · by_cases h6 : l6 ≤ 1048576
    · by_cases h56 : l5 + l6 ≤ 1048576
      · by_cases h7 : l7 ≤ 1048576
        · by_cases h567 : l5 + l6 + l7 ≤ 1048576
          · have i1 : (l5 : Int) + (l6 : Int) ≤ 1048576 := by omega
            have i2 : (l5 : Int) + (l6 : Int) + (l7 : Int) ≤ 1048576 := by omega
            go_enter Try.func12, Try.ntmps12
            go_wp2
            go_ret
            exact ⟨⟨_, rfl⟩, ((But.refl _ _).alloc _).alloc _⟩
          · go_enter Try.func12, Try.ntmps12
            go_wp2
            go_ret
            exact ⟨⟨_, rfl⟩, ((But.refl _ _).alloc _).alloc _⟩
        · go_enter Try.func12, Try.ntmps12
          go_wp2
          go_ret
          exact ⟨⟨_, rfl⟩, ((But.refl _ _).alloc _).alloc _⟩
      · go_enter Try.func12, Try.ntmps12
        go_wp2
        go_ret
        exact ⟨⟨_, rfl⟩, ((But.refl _ _).alloc _).alloc _⟩
    · go_enter Try.func12, Try.ntmps12
      go_wp2
      go_ret
      exact ⟨⟨_, rfl⟩, ((But.refl _ _).alloc _).alloc _⟩
  · go_enter Try.func12, Try.ntmps12
    go_wp2
    go_ret
    exact ⟨⟨_, rfl⟩, ((But.refl _ _).alloc _).alloc _⟩
end Go.Proofs.Qxb6604779a
