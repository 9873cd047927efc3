/-
  The walk of zzClone.
-/
import Derived.Test.Qxb6604182aWalkA
import Derived.OpenShut
namespace Go.Proofs.Qxb6604182a
open Go.RowKit

theorem clone_nil (w : World) : Calls Try.prog 7 #[.slice none 0 0] w fun e w' => e = .returned (.slice none 0 0) ∧ w' = w := by
  have hq := fun w => Go.Lib.run_eql_slice_nil (P := Try.prog) w 22 5 none 0 0 0 0 Try.underlying22
  go_enter Try.func7, Try.ntmps7
  go_wp2
  go_ret
  exact ⟨rfl, rfl⟩

set_option maxHeartbeats 1000000 in
theorem clone_any (b off len cap : Nat) (z : Nat → Int) (w : World) (hl : len ≤ 1048576) (hc : Row w b off len z) :
    Calls Try.prog 7 #[.slice (some ⟨b, off, none⟩) len cap] w fun e w' => e = .returned (.slice (some ⟨w.heap.size, 0, none⟩) len len) ∧ Below w.heap.size w w' ∧ w'.rowIs w.heap.size 5 len (fun i => .int .u8 (z i)) := by
  have hmk := run_make_row' (P := Try.prog) 22 5 (.int .u8 0) 1 Try.underlying22 Try.info5 rfl .i64 .i64 len (by omega) (by omega)
  have hq := fun w => Go.Lib.run_eql_slice_nil (P := Try.prog) w 22 5 (some ⟨b, off, none⟩) len cap 0 0 Try.underlying22
  have hrow0 := World.rowIs_made w (.int .u8 0) len 5
  have HB : Hid (Below w.heap.size w (w.alloc (.cells (madeCells #[.int .u8 0] len) 5))) := (Below.refl _ _).alloc (Nat.le_refl _) _
  go_enter Try.func7, Try.ntmps7
  go_wp2
  go_loopw [4] (fun i wr => ∃ k : Nat, k ≤ len ∧ i = .int .i64 k ∧ Below w.heap.size w wr ∧ wr.rowIs w.heap.size 5 len (fun i => if i < k then .int .u8 (z i) else .int .u8 0)) (fun i _ => len - (intOf i).toNat)
  case atStart => exact ⟨0, Nat.zero_le _, rfl, HB.out, hrow0.congr (fun i _ => by simp)⟩
  case round =>
    obtain ⟨k, hk, rfl, hb, hrow⟩ := hrel
    by_cases hlt : k < len
    · have hck := hc k hlt
      have hbl := block_lt hck
      have hck2 : wr.cell? ⟨b, off + k, none⟩ = some (.int .u8 (z k)) := (hb.cell (p := ⟨b, off + k, none⟩) hbl).trans hck
      have hcr := hrow.cell hlt
      simp only [Nat.lt_irrefl, if_false] at hcr
      have hfr := hrow.frozen k
      have HR : Hid (wr.rowIs w.heap.size 5 len (fun i => if i < k then .int .u8 (z i) else .int .u8 0)) := hrow
      clear hrow
      go_wp2
      go_roundw
      case rel =>
        refine ⟨k + 1, by omega, by go_num, hb.setCell (Nat.le_refl _) _, (HR.out.set k _).congr fun i hi => ?_⟩
        by_cases e : i = k
        · subst e; simp
        · have : (i < k + 1) = (i < k) := by simp; omega
          simp [e, this]
      case measure => simp [intOf]; omega
    · have HR : Hid (wr.rowIs w.heap.size 5 len (fun i => if i < k then .int .u8 (z i) else .int .u8 0)) := hrow
      clear hrow
      go_wp2
      go_ret
      exact ⟨rfl, hb, HR.out.congr fun i hi => by rw [if_pos (by omega)]⟩

set_option maxHeartbeats 1000000 in
theorem clone_empty (x : Addr) (len cap : Nat) (w : World) (h0 : len < 1) :
    Calls Try.prog 7 #[.slice (some x) len cap] w fun e w' => e = .returned (.slice (some ⟨w.heap.size, 0, none⟩) len len) ∧ Below w.heap.size w w' ∧ w'.rowIs w.heap.size 5 len (fun _ => .int .u8 0) := by
  have hmk := run_make_row' (P := Try.prog) 22 5 (.int .u8 0) 1 Try.underlying22 Try.info5 rfl .i64 .i64 len (by omega) (by omega)
  have hq := fun w => Go.Lib.run_eql_slice_nil (P := Try.prog) w 22 5 (some x) len cap 0 0 Try.underlying22
  have HR : Hid _ := World.rowIs_made w (.int .u8 0) len 5
  have HB : Hid (Below w.heap.size w (w.alloc (.cells (madeCells #[.int .u8 0] len) 5))) := (Below.refl _ _).alloc (Nat.le_refl _) _
  go_enter Try.func7, Try.ntmps7
  go_wp2
  go_loop [4] (fun i => i = .int .i64 0) (fun _ => 0)
  case atStart => rfl
  case round =>
    subst hrel
    go_wp2
    go_ret
    exact ⟨rfl, HB.out, HR.out⟩

/-- WHAT THE WALK IS TOLD OF A SLICE OF BYTES THAT CAME IN. -/
def IsRow (k : IntKind) (w : World) (a : Option Addr) (len cap : Nat) (zs : List Int) : Prop :=
  (a = none ∧ len = 0 ∧ cap = 0 ∧ zs = []) ∨
  ∃ x, a = some x ∧ len ≤ cap ∧ cap ≤ maxLen ∧ zs.length = cap ∧ (∀ i, i < zs.length → w.cell? (x.add i) = some (.int k (zs.getD i 0))) ∧ ∀ n ∈ zs, (Lit.int k n).wf = true

/-- THE CLONE OF A SLICE THAT CAME IN: nil, or a row of bytes in a new block. -/
theorem clone_row (a : Option Addr) (len cap : Nat) (zs : List Int) (w : World) (hl : len ≤ 1048576) (h : IsRow .u8 w a len cap zs) (hne : a ≠ none) :
    Calls Try.prog 7 #[.slice a len cap] w fun e w' => ∃ z : Nat → Int, (∀ i, 0 ≤ z i ∧ z i ≤ 255) ∧ e = .returned (.slice (some ⟨w.heap.size, 0, none⟩) len len) ∧ Below w.heap.size w w' ∧ w'.rowIs w.heap.size 5 len (fun i => .int .u8 (z i)) := by
  rcases h with ⟨h, _⟩ | ⟨x, rfl, hlc, _, hz, hcell, hwf⟩
  · exact absurd h hne
  · by_cases h0 : 0 < zs.length
    · obtain ⟨b, off, rfl, hc⟩ := ints_at hcell h0
      refine (clone_any b off len cap (fun i => zs.getD i 0) w hl (fun i hi => hc i (by omega))).mono ?_
      rintro e w' ⟨rfl, hb, hr⟩
      refine ⟨fun i => zs.getD i 0, fun i => ?_, rfl, hb, hr⟩
      by_cases hi : i < zs.length
      · have := hwf (zs.getD i 0) (by rw [List.getD_eq_getElem?_getD, List.getElem?_eq_getElem hi]; simp)
        simp [Lit.wf] at this
        simp only [List.getD_eq_getElem?_getD]
        exact this
      · have e : zs.getD i 0 = 0 := by rw [List.getD_eq_getElem?_getD, List.getElem?_eq_none (by omega)]; rfl
        show 0 ≤ zs.getD i 0 ∧ zs.getD i 0 ≤ 255
        rw [e]; decide
    · refine (clone_empty x len cap w (by omega)).mono ?_
      rintro e w' ⟨rfl, hb, hr⟩
      exact ⟨fun _ => 0, fun _ => ⟨Int.le_refl 0, (by omega : (0 : Int) ≤ 255)⟩, rfl, hb, hr⟩
end Go.Proofs.Qxb6604182a
