/-
  The order of votes, walked; the maker of an election.
-/
import Derived.Test.Qxb6604779aElB
namespace Go.Proofs.Qxb6604779a
open Go.RowKit

theorem four_new (w : World) (o1 o2 o3 o4 : Obj) : ((((w.alloc o1).alloc o2).alloc o3).alloc o4).heap[w.heap.size + 2]? = some o3 ∧ ((((w.alloc o1).alloc o2).alloc o3).alloc o4).heap[w.heap.size + 3]? = some o4 := by
  constructor
  · rw [Below.heap_alloc _ _ _ (by simp)]
    have := (MapKept.heap_alloc ((w.alloc o1).alloc o2) o3).1
    simpa [Nat.add_assoc] using this
  · have := (MapKept.heap_alloc (((w.alloc o1).alloc o2).alloc o3) o4).1
    simpa [Nat.add_assoc] using this

set_option maxRecDepth 100000 in
set_option maxHeartbeats 2000000 in
theorem cmp_any (al az ae bl bz be : Int) (w : World) : Calls Try.prog 13 #[.agg #[.int .i64 al, .int .i64 az, .int .i64 ae], .agg #[.int .i64 bl, .int .i64 bz, .int .i64 be]] w
    fun x w' => x = .returned (.int .i64 (cmpP al az ae bl bz be)) ∧ But [] w w' := by
  go_enter Try.func13, Try.ntmps13
  go_wp2
  go_loopw [7] (fun i wr => (∃ k : Nat, k ≤ 3 ∧ i = .int .i64 k ∧ (1 ≤ k → ae = be) ∧ (2 ≤ k → az = bz) ∧ (3 ≤ k → al = bl)) ∧ But [] w wr ∧
      wr.heap[w.heap.size + 2]? = some (.cells #[.int .i64 ae, .int .i64 az, .int .i64 al] 53) ∧ wr.heap[w.heap.size + 3]? = some (.cells #[.int .i64 be, .int .i64 bz, .int .i64 bl] 53)) (fun i _ => 3 - (intOf i).toNat)
  case atStart =>
    exact ⟨⟨0, by omega, rfl, fun h => by omega, fun h => by omega, fun h => by omega⟩, ((((But.refl _ _).alloc _).alloc _).alloc _).alloc _, four_new _ _ _ _ _⟩
  case round =>
    obtain ⟨⟨k, hk, rfl, q0, q1, q2⟩, hb, n1, n2⟩ := hrel
    have HB : Hid (But [] w wr) := hb
    have N1 : Hid (wr.heap[w.heap.size + 2]? = some (.cells #[.int .i64 ae, .int .i64 az, .int .i64 al] 53)) := n1
    have N2 : Hid (wr.heap[w.heap.size + 3]? = some (.cells #[.int .i64 be, .int .i64 bz, .int .i64 bl] 53)) := n2
    obtain ⟨a0, a1, a2, _, _, _⟩ := cells3 n1
    obtain ⟨b0, b1, b2, _, _, _⟩ := cells3 n2
    clear hb n1 n2
    rcases (show k = 0 ∨ k = 1 ∨ k = 2 ∨ k = 3 by omega) with rfl | rfl | rfl | rfl
    · have Q : Hid ((True) ∧ (True)) := ⟨trivial, trivial⟩
      clear q0 q1 q2
      by_cases h1 : ae < be
      · go_wp2
        go_quiet (fail)
        go_wp2
        go_ret
        refine ⟨?_, HB.out.drewN _⟩
        obtain ⟨e1, e2⟩ := Q.out
        have hc : cmpP al az ae bl bz be = -1 := by unfold cmpP; repeat' split <;> omega
        rw [hc]; rfl
      · by_cases h2 : be < ae
        · have h3 : ae > be := h2
          go_wp2
          go_quiet (fail)
          go_wp2
          go_quiet (fail)
          go_wp2
          go_ret
          refine ⟨?_, (HB.out.drewN _).drewN _⟩
          obtain ⟨e1, e2⟩ := Q.out
          have hc : cmpP al az ae bl bz be = 1 := by unfold cmpP; repeat' split <;> omega
          rw [hc]; rfl
        · have h3 : ¬ ae > be := h2
          go_wp2
          go_quiet (fail)
          go_wp2
          go_quiet (fail)
          go_wp2
          go_roundw
          case rel =>
            obtain ⟨e1, e2⟩ := Q.out
            exact ⟨⟨0+1, by omega, by go_num, fun h => by omega, fun h => by omega, fun h => by omega⟩, HB.out.drewN _, N1.out, N2.out⟩
          case measure => simp [intOf]
    · have Q : Hid ((ae = be) ∧ (True)) := ⟨q0 (by omega), trivial⟩
      clear q0 q1 q2
      by_cases h1 : az < bz
      · go_wp2
        go_quiet (fail)
        go_wp2
        go_ret
        refine ⟨?_, HB.out.drewN _⟩
        obtain ⟨e1, e2⟩ := Q.out
        have hc : cmpP al az ae bl bz be = -1 := by unfold cmpP; repeat' split <;> omega
        rw [hc]; rfl
      · by_cases h2 : bz < az
        · have h3 : az > bz := h2
          go_wp2
          go_quiet (fail)
          go_wp2
          go_quiet (fail)
          go_wp2
          go_ret
          refine ⟨?_, (HB.out.drewN _).drewN _⟩
          obtain ⟨e1, e2⟩ := Q.out
          have hc : cmpP al az ae bl bz be = 1 := by unfold cmpP; repeat' split <;> omega
          rw [hc]; rfl
        · have h3 : ¬ az > bz := h2
          go_wp2
          go_quiet (fail)
          go_wp2
          go_quiet (fail)
          go_wp2
          go_roundw
          case rel =>
            obtain ⟨e1, e2⟩ := Q.out
            exact ⟨⟨1+1, by omega, by go_num, fun h => by omega, fun h => by omega, fun h => by omega⟩, HB.out.drewN _, N1.out, N2.out⟩
          case measure => simp [intOf]
    · have Q : Hid ((ae = be) ∧ (az = bz)) := ⟨q0 (by omega), q1 (by omega)⟩
      clear q0 q1 q2
      by_cases h1 : al < bl
      · go_wp2
        go_quiet (fail)
        go_wp2
        go_ret
        refine ⟨?_, HB.out.drewN _⟩
        obtain ⟨e1, e2⟩ := Q.out
        have hc : cmpP al az ae bl bz be = -1 := by unfold cmpP; repeat' split <;> omega
        rw [hc]; rfl
      · by_cases h2 : bl < al
        · have h3 : al > bl := h2
          go_wp2
          go_quiet (fail)
          go_wp2
          go_quiet (fail)
          go_wp2
          go_ret
          refine ⟨?_, (HB.out.drewN _).drewN _⟩
          obtain ⟨e1, e2⟩ := Q.out
          have hc : cmpP al az ae bl bz be = 1 := by unfold cmpP; repeat' split <;> omega
          rw [hc]; rfl
        · have h3 : ¬ al > bl := h2
          go_wp2
          go_quiet (fail)
          go_wp2
          go_quiet (fail)
          go_wp2
          go_roundw
          case rel =>
            obtain ⟨e1, e2⟩ := Q.out
            exact ⟨⟨2+1, by omega, by go_num, fun h => by omega, fun h => by omega, fun h => by omega⟩, HB.out.drewN _, N1.out, N2.out⟩
          case measure => simp [intOf]
    · have Q : Hid (ae = be ∧ az = bz ∧ al = bl) := ⟨q0 (by omega), q1 (by omega), q2 (by omega)⟩
      clear q0 q1 q2
      go_wp2
      go_ret
      refine ⟨?_, HB.out⟩
      obtain ⟨e0, e1, e2⟩ := Q.out
      have hc : cmpP al az ae bl bz be = 0 := by unfold cmpP; repeat' split <;> omega
      rw [hc]; rfl

theorem three_new (w : World) (o1 o2 o3 : Obj) : (((w.alloc o1).alloc o2).alloc o3).heap[w.heap.size]? = some o1 ∧ (((w.alloc o1).alloc o2).alloc o3).heap[w.heap.size + 1]? = some o2 ∧ (((w.alloc o1).alloc o2).alloc o3).heap[w.heap.size + 2]? = some o3 := by
  refine ⟨?_, ?_, ?_⟩
  · rw [Below.heap_alloc _ _ _ (by simp; omega), Below.heap_alloc _ _ _ (by simp)]
    exact (MapKept.heap_alloc w o1).1
  · rw [Below.heap_alloc _ _ _ (by simp)]
    have := (MapKept.heap_alloc (w.alloc o1) o2).1
    simpa [Nat.add_assoc] using this
  · have := (MapKept.heap_alloc ((w.alloc o1).alloc o2) o3).1
    simpa [Nat.add_assoc] using this

set_option maxHeartbeats 1000000 in
theorem zzNew_any (me size ol oz oe r pl pz pe : Int) (w : World) :
    Calls Try.prog 16 #[.int .i64 me, .int .i64 size, .int .i64 ol, .int .i64 oz, .int .i64 oe, .int .i64 r, .int .i64 pl, .int .i64 pz, .int .i64 pe] w
    fun x w' => x = .returned (.pointer (some ⟨w.heap.size + 2, 0, none⟩)) ∧ Elec w' (w.heap.size + 2) w.heap.size (w.heap.size + 1) me size ol oz oe r pl pz pe (fun _ => none) (fun _ => none) ∧ But [] w w' := by
  have hmm := @run_makeMap Try.prog
  go_enter Try.func16, Try.ntmps16
  go_wp2
  go_ret
  refine ⟨rfl, ?_, (((But.refl _ _).alloc _).alloc _).alloc _⟩
  obtain ⟨e1, e2, e3⟩ := three_new w (.map #[] 0) (.map #[] 0) (.cells #[.int .i64 me, .int .i64 size, .int .i64 ol, .int .i64 oz, .int .i64 oe, .int .i64 r, .int .i64 pl, .int .i64 pz, .int .i64 pe, .map (some w.heap.size), .map (some (w.heap.size + 1))] 51)
  exact ⟨e3, ⟨#[], 0, e1, by simp, by simp, by simp⟩, ⟨#[], 0, e2, by simp, by simp, by simp⟩, by omega⟩
end Go.Proofs.Qxb6604779a
