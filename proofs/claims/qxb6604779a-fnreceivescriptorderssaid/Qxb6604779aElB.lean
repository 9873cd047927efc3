/-
  The readers of an election.
-/
import Derived.Test.Qxb6604779aElA
namespace Go.Proofs.Qxb6604779a
open Go.RowKit

theorem But.drewN {X : List Nat} {a w : World} (h : But X a w) (q : Nat) : But X a (w.drewN q) := ⟨h.os, h.tape, h.output, h.size, h.block⟩

/-- A block of three cells. -/
theorem cells3 {w : World} {b t : Nat} {x y z : Value} (h : w.heap[b]? = some (.cells #[x, y, z] t)) :
    w.cell? ⟨b, 0, none⟩ = some x ∧ w.cell? ⟨b, 1, none⟩ = some y ∧ w.cell? ⟨b, 2, none⟩ = some z ∧ w.frozen? ⟨b, 0, none⟩ = false ∧ w.frozen? ⟨b, 1, none⟩ = false ∧ w.frozen? ⟨b, 2, none⟩ = false := by
  refine ⟨?_, ?_, ?_, ?_, ?_, ?_⟩ <;> simp [World.cell?, World.frozen?, h]
/-- .. of six. -/
theorem cells6 {w : World} {b t : Nat} {x0 x1 x2 x3 x4 x5 : Value} (h : w.heap[b]? = some (.cells #[x0, x1, x2, x3, x4, x5] t)) :
    w.cell? ⟨b, 0, none⟩ = some x0 ∧ w.cell? ⟨b, 1, none⟩ = some x1 ∧ w.cell? ⟨b, 2, none⟩ = some x2 ∧ w.cell? ⟨b, 3, none⟩ = some x3 ∧ w.cell? ⟨b, 4, none⟩ = some x4 ∧ w.cell? ⟨b, 5, none⟩ = some x5 ∧
    w.frozen? ⟨b, 0, none⟩ = false ∧ w.frozen? ⟨b, 1, none⟩ = false ∧ w.frozen? ⟨b, 2, none⟩ = false ∧ w.frozen? ⟨b, 3, none⟩ = false ∧ w.frozen? ⟨b, 4, none⟩ = false ∧ w.frozen? ⟨b, 5, none⟩ = false := by
  refine ⟨?_, ?_, ?_, ?_, ?_, ?_, ?_, ?_, ?_, ?_, ?_, ?_⟩ <;> simp [World.cell?, World.frozen?, h]

theorem one_new {w w1 : World} {o : Obj} (hb : But [] (w.alloc o) w1) : w1.heap[w.heap.size]? = some o :=
  (hb.block w.heap.size (by simp) (by simp)).trans (MapKept.heap_alloc w o).1
theorem two_new {w w1 : World} {o1 o2 : Obj} (hb : But [] ((w.alloc o1).alloc o2) w1) : w1.heap[w.heap.size]? = some o1 ∧ w1.heap[w.heap.size + 1]? = some o2 := by
  constructor
  · refine (hb.block w.heap.size (by simp; omega) (by simp)).trans ?_
    rw [Below.heap_alloc _ _ _ (by simp)]
    exact (MapKept.heap_alloc w o1).1
  · refine (hb.block (w.heap.size + 1) (by simp) (by simp)).trans ?_
    have := (MapKept.heap_alloc (w.alloc o1) o2).1
    simpa using this

set_option maxRecDepth 100000 in
set_option maxHeartbeats 1000000 in
theorem zzFields_any (E bv bs : Nat) (me size ol oz oe r pl pz pe : Int) (V S : Int → Option Note) (w : World) (h : Elec w E bv bs me size ol oz oe r pl pz pe V S) :
    Calls Try.prog 20 #[.pointer (some ⟨E, 0, none⟩)] w fun x w' => x = .returned (.tuple #[.int .i64 me, .int .i64 size, .int .i64 ol, .int .i64 oz, .int .i64 oe, .int .i64 r, .int .i64 pl, .int .i64 pz, .int .i64 pe]) ∧ But [] w w' := by
  obtain ⟨c0, c1, c2, c3, c4, c5, c6, c7, c8, c9, c10⟩ := h.cells
  clear h c9 c10
  go_enter Try.func20, Try.ntmps20
  go_wp2
  go_quiet (fail)
  go_wp2
  refine bodyPost_ret (v := .tuple #[.int .i64 me, .int .i64 size, .int .i64 ol, .int .i64 oz, .int .i64 oe, .int .i64 r, .int .i64 pl, .int .i64 pz, .int .i64 pe]) (by simp [results, Try.results20, go_sem]) rfl ⟨rfl, ?_⟩
  exact (But.refl _ _).drewN _

set_option maxHeartbeats 1000000 in
theorem fieldsB1_any (E bv bs : Nat) (me size ol oz oe r pl pz pe : Int) (V S : Int → Option Note) (w : World) (h : Elec w E bv bs me size ol oz oe r pl pz pe V S) :
    Calls Try.prog 8 #[.pointer (some ⟨E, 0, none⟩)] w fun x w' => x = .returned (.tuple #[.int .i64 me, .int .i64 size, .agg #[.int .i64 ol, .int .i64 oz, .int .i64 oe], .int .i64 r, .agg #[.int .i64 pl, .int .i64 pz, .int .i64 pe]]) ∧ But [] w w' := by
  have HE : Hid (Elec w E bv bs me size ol oz oe r pl pz pe V S) := h
  clear h
  go_enter Try.func8, Try.ntmps8
  go_wp2_with (go_at_call 20; refine (zzFields_any E bv bs me size ol oz oe r pl pz pe V S _ (HE.out.but (((But.refl [] _).alloc _).alloc _) (by simp) (by simp) (by simp))).mono ?_; rintro e w1 ⟨rfl, hb⟩; obtain ⟨n1, n2⟩ := two_new hb; obtain ⟨a0, a1, a2, a3, a4, a5⟩ := cells3 n1; obtain ⟨b0, b1, b2, b3, b4, b5⟩ := cells3 n2; clear n1 n2; have HB : Hid (But [] _ w1) := hb; clear hb)
  refine bodyPost_ret (v := .tuple #[.int .i64 me, .int .i64 size, .agg #[.int .i64 ol, .int .i64 oz, .int .i64 oe], .int .i64 r, .agg #[.int .i64 pl, .int .i64 pz, .int .i64 pe]]) (by simp [results, Try.results8, go_sem, a0, a1, a2, b0, b1, b2]) rfl ⟨rfl, ?_⟩
  have HB : Hid (But [] w w1) := (((But.refl [] w).alloc _).alloc _).trans HB.out
  repeat (first | with_reducible exact But.refl _ _ | with_reducible exact HB.out | (refine But.setCell ?_ (Or.inr (by simp)) _) | (refine But.alloc ?_ _) | (refine But.drew ?_) | (refine But.drewN ?_ _))

set_option maxRecDepth 100000 in
set_option maxHeartbeats 1000000 in
theorem zzSettledAt_any (E bv bs : Nat) (me size ol oz oe r pl pz pe : Int) (V S : Int → Option Note) (k : Int) (w : World) (h : Elec w E bv bs me size ol oz oe r pl pz pe V S) :
    Calls Try.prog 22 #[.pointer (some ⟨E, 0, none⟩), .int .i64 k] w fun x w' => x = .returned (.tuple #[.int .i64 (found (S k)).l, .int .i64 (found (S k)).z, .int .i64 (found (S k)).e, .int .i64 (found (S k)).r, .int .i32 (found (S k)).s, .int .i64 (found (S k)).f, .bool (S k).isSome]) ∧ But [] w w' := by
  have hc := h.cells.2.2.2.2.2.2.2.2.2.2
  have hu := h.s.look k
  clear h
  generalize found (S k) = n at hu ⊢
  generalize (S k).isSome = ok at hu ⊢
  obtain ⟨nl, nz, ne, nr, ns, nf⟩ := n
  go_enter Try.func22, Try.ntmps22
  go_wp2
  go_quiet (fail)
  go_wp2
  refine bodyPost_ret (v := .tuple #[.int .i64 nl, .int .i64 nz, .int .i64 ne, .int .i64 nr, .int .i32 ns, .int .i64 nf, .bool ok]) (by simp [results, Try.results22, go_sem]) rfl ⟨rfl, ?_⟩
  repeat (first | with_reducible exact But.refl _ _ | with_reducible exact HB.out | (refine But.setCell ?_ (Or.inr (by simp)) _) | (refine But.alloc ?_ _) | (refine But.drew ?_) | (refine But.drewN ?_ _))

set_option maxRecDepth 100000 in
set_option maxHeartbeats 1000000 in
theorem zzVoteAt_any (E bv bs : Nat) (me size ol oz oe r pl pz pe : Int) (V S : Int → Option Note) (k : Int) (w : World) (h : Elec w E bv bs me size ol oz oe r pl pz pe V S) :
    Calls Try.prog 23 #[.pointer (some ⟨E, 0, none⟩), .int .i64 k] w fun x w' => x = .returned (.tuple #[.int .i64 (found (V k)).l, .int .i64 (found (V k)).z, .int .i64 (found (V k)).e, .int .i64 (found (V k)).r, .int .i32 (found (V k)).s, .int .i64 (found (V k)).f, .bool (V k).isSome]) ∧ But [] w w' := by
  have hc := h.cells.2.2.2.2.2.2.2.2.2.1
  have hu := h.v.look k
  clear h
  generalize found (V k) = n at hu ⊢
  generalize (V k).isSome = ok at hu ⊢
  obtain ⟨nl, nz, ne, nr, ns, nf⟩ := n
  go_enter Try.func23, Try.ntmps23
  go_wp2
  go_quiet (fail)
  go_wp2
  refine bodyPost_ret (v := .tuple #[.int .i64 nl, .int .i64 nz, .int .i64 ne, .int .i64 nr, .int .i32 ns, .int .i64 nf, .bool ok]) (by simp [results, Try.results23, go_sem]) rfl ⟨rfl, ?_⟩
  repeat (first | with_reducible exact But.refl _ _ | with_reducible exact HB.out | (refine But.setCell ?_ (Or.inr (by simp)) _) | (refine But.alloc ?_ _) | (refine But.drew ?_) | (refine But.drewN ?_ _))

set_option maxRecDepth 100000 in
set_option maxHeartbeats 1000000 in
theorem settledAt_any (E bv bs : Nat) (me size ol oz oe r pl pz pe : Int) (V S : Int → Option Note) (k : Int) (w : World) (h : Elec w E bv bs me size ol oz oe r pl pz pe V S) :
    Calls Try.prog 14 #[.pointer (some ⟨E, 0, none⟩), .int .i64 k] w fun x w' => x = .returned (.tuple #[.agg #[.int .i64 (found (S k)).l, .int .i64 (found (S k)).z, .int .i64 (found (S k)).e, .int .i64 (found (S k)).r, .int .i32 (found (S k)).s, .int .i64 (found (S k)).f], .bool (S k).isSome]) ∧ But [] w w' := by
  have HE : Hid (Elec w E bv bs me size ol oz oe r pl pz pe V S) := h
  clear h
  go_enter Try.func14, Try.ntmps14
  go_wp2_with (go_at_call 22; refine (zzSettledAt_any E bv bs me size ol oz oe r pl pz pe V S _ _ (HE.out.but ((But.refl [] _).alloc _) (by simp) (by simp) (by simp))).mono ?_; rintro e w1 ⟨rfl, hb⟩; have n1 := one_new hb; obtain ⟨a0, a1, a2, a3, a4, a5, b0, b1, b2, b3, b4, b5⟩ := cells6 n1; clear n1; have HB : Hid (But [] _ w1) := hb; clear hb)
  refine bodyPost_ret (v := .tuple #[.agg #[.int .i64 (found (S k)).l, .int .i64 (found (S k)).z, .int .i64 (found (S k)).e, .int .i64 (found (S k)).r, .int .i32 (found (S k)).s, .int .i64 (found (S k)).f], .bool (S k).isSome]) (by simp [results, Try.results14, go_sem, a0, a1, a2, a3, a4, a5]) rfl ⟨rfl, ?_⟩
  have HB : Hid (But [] w w1) := ((But.refl [] w).alloc _).trans HB.out
  repeat (first | with_reducible exact But.refl _ _ | with_reducible exact HB.out | (refine But.setCell ?_ (Or.inr (by simp)) _) | (refine But.alloc ?_ _) | (refine But.drew ?_) | (refine But.drewN ?_ _))

set_option maxRecDepth 100000 in
set_option maxHeartbeats 1000000 in
theorem voteAt_any (E bv bs : Nat) (me size ol oz oe r pl pz pe : Int) (V S : Int → Option Note) (k : Int) (w : World) (h : Elec w E bv bs me size ol oz oe r pl pz pe V S) :
    Calls Try.prog 15 #[.pointer (some ⟨E, 0, none⟩), .int .i64 k] w fun x w' => x = .returned (.tuple #[.agg #[.int .i64 (found (V k)).l, .int .i64 (found (V k)).z, .int .i64 (found (V k)).e, .int .i64 (found (V k)).r, .int .i32 (found (V k)).s, .int .i64 (found (V k)).f], .bool (V k).isSome]) ∧ But [] w w' := by
  have HE : Hid (Elec w E bv bs me size ol oz oe r pl pz pe V S) := h
  clear h
  go_enter Try.func15, Try.ntmps15
  go_wp2_with (go_at_call 23; refine (zzVoteAt_any E bv bs me size ol oz oe r pl pz pe V S _ _ (HE.out.but ((But.refl [] _).alloc _) (by simp) (by simp) (by simp))).mono ?_; rintro e w1 ⟨rfl, hb⟩; have n1 := one_new hb; obtain ⟨a0, a1, a2, a3, a4, a5, b0, b1, b2, b3, b4, b5⟩ := cells6 n1; clear n1; have HB : Hid (But [] _ w1) := hb; clear hb)
  refine bodyPost_ret (v := .tuple #[.agg #[.int .i64 (found (V k)).l, .int .i64 (found (V k)).z, .int .i64 (found (V k)).e, .int .i64 (found (V k)).r, .int .i32 (found (V k)).s, .int .i64 (found (V k)).f], .bool (V k).isSome]) (by simp [results, Try.results15, go_sem, a0, a1, a2, a3, a4, a5]) rfl ⟨rfl, ?_⟩
  have HB : Hid (But [] w w1) := ((But.refl [] w).alloc _).trans HB.out
  repeat (first | with_reducible exact But.refl _ _ | with_reducible exact HB.out | (refine But.setCell ?_ (Or.inr (by simp)) _) | (refine But.alloc ?_ _) | (refine But.drew ?_) | (refine But.drewN ?_ _))
end Go.Proofs.Qxb6604779a
