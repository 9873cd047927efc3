/-
  'receive' of a note that looks in a newer round.
-/
import Derived.Test.Qxb6604779aElE
namespace Go.Proofs.Qxb6604779a
open Go.RowKit

theorem But.trans' {X Y : List Nat} {a b c : World} (h : But X a b) (k : But Y b c) (hs : ∀ y ∈ Y, y ∈ X ∨ a.heap.size ≤ y) : But X a c :=
  ⟨k.os.trans h.os, k.tape.trans h.tape, k.output.trans h.output, Nat.le_trans h.size k.size, fun i hi hx => (k.block i (Nat.lt_of_lt_of_le hi h.size) (fun hm => (hs i hm).elim hx fun h => by omega)).trans (h.block i hi hx)⟩
/-- The five stores and the new map. -/
theorem Elec.fresh {w : World} {E bv bs : Nat} {me size ol oz oe r pl pz pe : Int} {V S : Int → Option Note} (h : Elec w E bv bs me size ol oz oe r pl pz pe V S) (r' a b c : Int) :
    Elec ((((((w.setCell ⟨E, 5, none⟩ (.int .i64 r')).setCell ⟨E, 9, none⟩ (.map (some w.heap.size))).setCell ⟨E, 6, none⟩ (.int .i64 a)).setCell ⟨E, 7, none⟩ (.int .i64 b)).setCell ⟨E, 8, none⟩ (.int .i64 c)).alloc (.map #[] 0))
      E w.heap.size bs me size ol oz oe r' a b c (fun _ => none) S ∧
    But [E] w ((((((w.setCell ⟨E, 5, none⟩ (.int .i64 r')).setCell ⟨E, 9, none⟩ (.map (some w.heap.size))).setCell ⟨E, 6, none⟩ (.int .i64 a)).setCell ⟨E, 7, none⟩ (.int .i64 b)).setCell ⟨E, 8, none⟩ (.int .i64 c)).alloc (.map #[] 0)) := by
  have hB : But [E] w (((((w.setCell ⟨E, 5, none⟩ (.int .i64 r')).setCell ⟨E, 9, none⟩ (.map (some w.heap.size))).setCell ⟨E, 6, none⟩ (.int .i64 a)).setCell ⟨E, 7, none⟩ (.int .i64 b)).setCell ⟨E, 8, none⟩ (.int .i64 c)) :=
    (((((But.refl _ _).setCell (Or.inl (by simp)) _).setCell (Or.inl (by simp)) _).setCell (Or.inl (by simp)) _).setCell (Or.inl (by simp)) _).setCell (Or.inl (by simp)) _
  have hK : (((((w.setCell ⟨E, 5, none⟩ (.int .i64 r')).setCell ⟨E, 9, none⟩ (.map (some w.heap.size))).setCell ⟨E, 6, none⟩ (.int .i64 a)).setCell ⟨E, 7, none⟩ (.int .i64 b)).setCell ⟨E, 8, none⟩ (.int .i64 c)).heap[E]? =
      some (.cells #[.int .i64 me, .int .i64 size, .int .i64 ol, .int .i64 oz, .int .i64 oe, .int .i64 r', .int .i64 a, .int .i64 b, .int .i64 c, .map (some w.heap.size), .map (some bs)] 51 (0, 0)) := by
    simp [World.setCell, Array.getElem?_modify, h.blk]
  have hS : (((((w.setCell ⟨E, 5, none⟩ (.int .i64 r')).setCell ⟨E, 9, none⟩ (.map (some w.heap.size))).setCell ⟨E, 6, none⟩ (.int .i64 a)).setCell ⟨E, 7, none⟩ (.int .i64 b)).setCell ⟨E, 8, none⟩ (.int .i64 c)).heap.size = w.heap.size := by
    simp [World.setCell]
  generalize (((((w.setCell ⟨E, 5, none⟩ (.int .i64 r')).setCell ⟨E, 9, none⟩ (.map (some w.heap.size))).setCell ⟨E, 6, none⟩ (.int .i64 a)).setCell ⟨E, 7, none⟩ (.int .i64 b)).setCell ⟨E, 8, none⟩ (.int .i64 c)) = x at hB hK hS ⊢
  have hE := h.lt
  have hs := h.s.lt
  refine ⟨⟨?_, ⟨#[], 0, ?_, by simp, by simp, by simp⟩, ?_, by omega⟩, hB.alloc _⟩
  · rw [Below.heap_alloc _ _ _ (by omega)]
    exact hK
  · rw [← hS]
    exact (MapKept.heap_alloc x _).1
  · exact (hB.alloc _).keepsMap (by simpa using h.nes.symm) h.s

set_option maxRecDepth 100000 in
set_option maxHeartbeats 4000000 in
theorem receive_b1t (E bv bs : Nat) (me size ol oz oe r pl pz pe : Int) (V S : Int → Option Note) (nl nz ne nr ns nf : Int) (w : World) (h : Elec w E bv bs me size ol oz oe r pl pz pe V S) (h1 : ns = 0) (h2 : nr > r) (hbt : beatsP nl nz ne ol oz oe = true) :
    Calls Try.prog 25 #[.pointer (some ⟨E, 0, none⟩), .agg #[.int .i64 nl, .int .i64 nz, .int .i64 ne, .int .i64 nr, .int .i32 ns, .int .i64 nf]] w
    fun x w' => ∃ b', w.heap.size ≤ b' ∧ x = .returned (.bool true) ∧ Elec w' E b' bs me size ol oz oe nr nl nz ne (putN (putN (fun _ => none) nf ⟨nl, nz, ne, nr, 0, nf⟩) me ⟨nl, nz, ne, nr, 0, me⟩) (delN S nf) ∧ But [E, bv, bs] w w' := by
  obtain ⟨w0, hw0⟩ : ∃ w0, w.alloc (.cells #[.int .i64 nl, .int .i64 nz, .int .i64 ne, .int .i64 nr, .int .i32 ns, .int .i64 nf] 58) = w0 := ⟨_, rfl⟩
  have hb0 : But [] w w0 := hw0 ▸ (But.refl [] w).alloc _
  obtain ⟨N, hN⟩ : ∃ N, w.heap.size = N := ⟨_, rfl⟩
  have hNb : w0.heap[N]? = some (.cells #[.int .i64 nl, .int .i64 nz, .int .i64 ne, .int .i64 nr, .int .i32 ns, .int .i64 nf] 58) := hN ▸ one_new (hw0 ▸ But.refl [] w0 : But [] (w.alloc (.cells #[.int .i64 nl, .int .i64 nz, .int .i64 ne, .int .i64 nr, .int .i32 ns, .int .i64 nf] 58)) w0)
  have hE0 := h.but hb0 (by simp) (by simp) (by simp)
  have hNE : N ≠ E := fun e => by have := h.lt; omega
  have hNv : N ≠ bv := fun e => by have := h.v.lt; omega
  have hNs : N ≠ bs := fun e => by have := h.s.lt; omega
  have HB : Hid (But [E, bv, bs] w w0) := hb0.mono (by simp)
  have HW : Hid _ := hw0
  have HN : Hid _ := hN
  have NE0 : Hid (Elec w0 E bv bs me size ol oz oe r pl pz pe V S) := hE0
  have HNb : Hid (w0.heap[N]? = some (.cells #[.int .i64 nl, .int .i64 nz, .int .i64 ne, .int .i64 nr, .int .i32 ns, .int .i64 nf] 58)) := hNb
  have HNE : Hid (N ≠ E ∧ N ≠ bv ∧ N ≠ bs) := ⟨hNE, hNv, hNs⟩
  clear hb0 h hE0 hw0 hN hNE hNv hNs hNb
  subst h1
  obtain ⟨c0, c1, c2, c3, c4, c5, c6, c7, c8, c9, c10⟩ := NE0.out.cells
  obtain ⟨n0, n1, n2, n3, n4, n5, -⟩ := cells6 HNb.out
  obtain ⟨hu, hu', k1, k1', k2, k2', HU⟩ := NE0.out.prepD nf N ((Array.getElem?_eq_some_iff.1 HNb.out).1) HNE.out.2.2
  go_enter Try.func25, Try.ntmps25
  go_wp2_with fail
  rw [HN.out, HW.out]
  go_region_held3 (fun w' => w'.cell? ⟨E, 10, none⟩ = some (.map (some bs)) ∧ w'.cell? ⟨N, 0, none⟩ = some (.int .i64 nl) ∧ w'.cell? ⟨N, 1, none⟩ = some (.int .i64 nz) ∧ w'.cell? ⟨N, 2, none⟩ = some (.int .i64 ne) ∧ w'.cell? ⟨N, 3, none⟩ = some (.int .i64 nr) ∧ w'.cell? ⟨N, 4, none⟩ = some (.int .i32 0) ∧ w'.cell? ⟨N, 5, none⟩ = some (.int .i64 nf)) (go_keep) (fail)
  generalize hw1 : delW Try.prog _ bs _ = w1
  obtain ⟨hE1, hb1⟩ : Elec w1 E bv bs me size ol oz oe r pl pz pe V (delN S nf) ∧ But [bs] w0 w1 := by
    rw [← hw1]
    exact HU.out _ ⟨rfl, rfl, rfl, rfl⟩
  have HNb1 : Hid (w1.heap[N]? = some (.cells #[.int .i64 nl, .int .i64 nz, .int .i64 ne, .int .i64 nr, .int .i32 0, .int .i64 nf] 58)) := (hb1.block N ((Array.getElem?_eq_some_iff.1 HNb.out).1) (by simpa using HNE.out.2.2)).trans HNb.out
  have NE1 : Hid (Elec w1 E bv bs me size ol oz oe r pl pz pe V (delN S nf)) := hE1
  have HB1 : Hid (But [E, bv, bs] w w1) := HB.out.trans (hb1.mono (by simp))
  clear hw1 hu hu' k1 k1' k2 k2' HU hE1 hb1
  clear c0 c1 c2 c3 c4 c5 c6 c7 c8 c9 c10 n0 n1 n2 n3 n4 n5
  obtain ⟨c0, c1, c2, c3, c4, c5, c6, c7, c8, c9, c10⟩ := NE1.out.cells
  obtain ⟨n0, n1, n2, n3, n4, n5, -⟩ := cells6 HNb1.out
  obtain ⟨f5, f6, f7, f8, f9⟩ := NE1.out.free
  have hmm := @run_makeMap Try.prog
  have ltE := NE1.out.lt
  have ltN := ((Array.getElem?_eq_some_iff.1 HNb1.out).1)
  have hlE : ⟨E, 9, none⟩ ≠ (⟨w1.heap.size, 0, none⟩ : Addr) := fun e => by simp at e
  go_wp2_with fail
  go_quiet (fail)
  go_wp2_with fail
  generalize hw2 : World.alloc _ (.map #[] 0) = w2
  obtain ⟨hE2, hb2⟩ : Elec w2 E w1.heap.size bs me size ol oz oe nr ol oz oe (fun _ => none) (delN S nf) ∧ But [E] w1 w2 := by
    rw [← hw2]
    refine ⟨((NE1.out.heap (x := w1.drewN nq) rfl).fresh nr ol oz oe).1, ?_⟩
    refine Same.but ?_ ((NE1.out.heap (x := w1.drewN nq) rfl).fresh nr ol oz oe).2
    exact ⟨rfl, rfl, rfl, rfl⟩
  obtain ⟨bw, hbw⟩ : ∃ b, w1.heap.size = b := ⟨_, rfl⟩
  have HBW : Hid (w1.heap.size = bw ∧ N ≠ bw) := ⟨hbw, fun e => by omega⟩
  rw [hbw] at hE2
  have NE2 : Hid (Elec w2 E bw bs me size ol oz oe nr ol oz oe (fun _ => none) (delN S nf)) := hE2
  have HB2 : Hid (But [E] w1 w2) := hb2
  have HNb2 : Hid (w2.heap[N]? = some (.cells #[.int .i64 nl, .int .i64 nz, .int .i64 ne, .int .i64 nr, .int .i32 0, .int .i64 nf] 58)) := (hb2.block N ((Array.getElem?_eq_some_iff.1 HNb1.out).1) (by simpa using HNE.out.1)).trans HNb1.out
  clear hw2 f5 f6 f7 f8 f9 hE2 hb2 hmm ltE ltN hlE
  clear c0 c1 c2 c3 c4 c5 c6 c7 c8 c9 c10 n0 n1 n2 n3 n4 n5
  obtain ⟨c0, c1, c2, c3, c4, c5, c6, c7, c8, c9, c10⟩ := NE2.out.cells
  obtain ⟨n0, n1, n2, n3, n4, n5, -⟩ := cells6 HNb2.out
  rw [hbw]
  clear hbw
  go_region_held3 (fun w' => w'.cell? ⟨N, 0, none⟩ = some (.int .i64 nl) ∧ w'.cell? ⟨N, 1, none⟩ = some (.int .i64 nz) ∧ w'.cell? ⟨N, 2, none⟩ = some (.int .i64 ne) ∧ w'.cell? ⟨E, 2, none⟩ = some (.int .i64 ol) ∧ w'.cell? ⟨E, 3, none⟩ = some (.int .i64 oz) ∧ w'.cell? ⟨E, 4, none⟩ = some (.int .i64 oe)) (first | go_keep | exact ⟨n0, n1, n2, c2, c3, c4⟩)
    (first | (go_at_call 26; refine (beats_any nl nz ne ol oz oe _).mono ?_; rintro e w3 ⟨rfl, hb⟩; have HB3 : Hid (But [] w2 w3) := (by refine Same.but ?_ hb; exact ⟨rfl, rfl, rfl, rfl⟩); have NE3 : Hid (Elec w3 E bw bs me size ol oz oe nr ol oz oe (fun _ => none) (delN S nf)) := NE2.out.but HB3.out (by simp) (by simp) (by simp); have HNb3 : Hid (w3.heap[N]? = some (.cells #[.int .i64 nl, .int .i64 nz, .int .i64 ne, .int .i64 nr, .int .i32 0, .int .i64 nf] 58)) := (HB3.out.block N ((Array.getElem?_eq_some_iff.1 HNb2.out).1) (by simp)).trans HNb2.out; clear c0 c1 c2 c3 c4 c5 c6 c7 c8 c9 c10 n0 n1 n2 n3 n4 n5 hb; obtain ⟨c0, c1, c2, c3, c4, c5, c6, c7, c8, c9, c10⟩ := NE3.out.cells; obtain ⟨n0, n1, n2, n3, n4, n5, -⟩ := cells6 HNb3.out; obtain ⟨f5, f6, f7, f8, f9⟩ := NE3.out.free))
  go_wp2_with fail
  generalize hw4 : ((w3.setCell _ _).setCell _ _).setCell _ _ = w4
  have NE4 : Hid (Elec w4 E bw bs me size ol oz oe nr nl nz ne (fun _ => none) (delN S nf)) := by rw [← hw4]; exact NE3.out.prop nl nz ne
  have HB4 : Hid (But [E] w3 w4) := by rw [← hw4]; exact (((But.refl _ _).setCell (Or.inl (by simp)) _).setCell (Or.inl (by simp)) _).setCell (Or.inl (by simp)) _
  have HNb4 : Hid (w4.heap[N]? = some (.cells #[.int .i64 nl, .int .i64 nz, .int .i64 ne, .int .i64 nr, .int .i32 0, .int .i64 nf] 58)) := (HB4.out.block N ((Array.getElem?_eq_some_iff.1 HNb3.out).1) (by simpa using HNE.out.1)).trans HNb3.out
  clear hw4 f5 f6 f7 f8 f9
  clear c0 c1 c2 c3 c4 c5 c6 c7 c8 c9 c10 n0 n1 n2 n3 n4 n5
  obtain ⟨c0, c1, c2, c3, c4, c5, c6, c7, c8, c9, c10⟩ := NE4.out.cells
  obtain ⟨n0, n1, n2, n3, n4, n5, -⟩ := cells6 HNb4.out
  obtain ⟨hu, hu', k1, k1', k2, k2', HU⟩ := NE4.out.prepV nf nl nz ne nr 0 nf N ((Array.getElem?_eq_some_iff.1 HNb4.out).1) HBW.out.2
  go_wp2_with fail
  go_region_held3 (fun w' => w'.cell? ⟨E, 9, none⟩ = some (.map (some bw)) ∧ w'.cell? ⟨N, 0, none⟩ = some (.int .i64 nl) ∧ w'.cell? ⟨N, 1, none⟩ = some (.int .i64 nz) ∧ w'.cell? ⟨N, 2, none⟩ = some (.int .i64 ne) ∧ w'.cell? ⟨N, 3, none⟩ = some (.int .i64 nr) ∧ w'.cell? ⟨N, 4, none⟩ = some (.int .i32 0) ∧ w'.cell? ⟨N, 5, none⟩ = some (.int .i64 nf)) (go_keep) (fail)
  generalize hw5 : putW Try.prog _ bw _ _ = w5
  obtain ⟨hE5, hb5⟩ : Elec w5 E bw bs me size ol oz oe nr nl nz ne (putN (fun _ => none) nf ⟨nl, nz, ne, nr, 0, nf⟩) (delN S nf) ∧ But [bw] w4 w5 := by
    rw [← hw5]
    exact HU.out _ ⟨rfl, rfl, rfl, rfl⟩
  have NE5 : Hid (Elec w5 E bw bs me size ol oz oe nr nl nz ne (putN (fun _ => none) nf ⟨nl, nz, ne, nr, 0, nf⟩) (delN S nf)) := hE5
  have HB5 : Hid (But [bw] w4 w5) := hb5
  clear hw5 hu hu' k1 k1' k2 k2' HU hE5 hb5
  clear c0 c1 c2 c3 c4 c5 c6 c7 c8 c9 c10 n0 n1 n2 n3 n4 n5
  obtain ⟨c0, c1, c2, c3, c4, c5, c6, c7, c8, c9, c10⟩ := NE5.out.cells
  clear c1 c2 c3 c4 c5 c6 c7 c8 c10
  go_wp2_with fail
  go_region_held3 (fun w' => w'.cell? ⟨E, 9, none⟩ = some (.map (some bw)) ∧ w'.cell? ⟨E, 0, none⟩ = some (.int .i64 me)) (first | go_keep | exact ⟨NE6.out.cells.2.2.2.2.2.2.2.2.2.1, NE6.out.cells.1⟩ | exact ⟨(NE6.out.putV ..).cells.2.2.2.2.2.2.2.2.2.1, (NE6.out.putV ..).cells.1⟩)
    (first | (go_at_call 27; refine (mine_any E bw bs me size ol oz oe nr nl nz ne (putN (fun _ => none) nf ⟨nl, nz, ne, nr, 0, nf⟩) (delN S nf) _ (NE5.out.heap (by rfl))).mono ?_; rintro e w6 ⟨rfl, hb⟩; have HB6 : Hid (But [] w5 w6) := (by refine Same.but ?_ hb; exact ⟨rfl, rfl, rfl, rfl⟩); have NE6 : Hid (Elec w6 E bw bs me size ol oz oe nr nl nz ne (putN (fun _ => none) nf ⟨nl, nz, ne, nr, 0, nf⟩) (delN S nf)) := NE5.out.but HB6.out (by simp) (by simp) (by simp); have hu := (NE6.out.v.put me nl nz ne nr 0 me).1; clear hb))
  go_wp2
  go_ret
  have hb7 := (NE6.out.v.put me nl nz ne nr 0 me).2.2
  have hbb := (HB5.out.trans (HB6.out.mono (by simp))).trans hb7
  have hsz : w.heap.size ≤ bw := by rw [← HBW.out.1]; exact HB1.out.size
  have htot : But [E, bv, bs] w _ := HB1.out.trans ((HB2.out.mono (by simp)).trans ((HB3.out.mono (by simp)).trans (HB4.out.mono (by simp))))
  exact ⟨bw, hsz, rfl, NE6.out.putV .., htot.trans' hbb (fun y hy => Or.inr (by rw [List.mem_singleton] at hy; omega))⟩

set_option maxRecDepth 100000 in
set_option maxHeartbeats 4000000 in
theorem receive_b1f (E bv bs : Nat) (me size ol oz oe r pl pz pe : Int) (V S : Int → Option Note) (nl nz ne nr ns nf : Int) (w : World) (h : Elec w E bv bs me size ol oz oe r pl pz pe V S) (h1 : ns = 0) (h2 : nr > r) (hbt : beatsP nl nz ne ol oz oe = false) :
    Calls Try.prog 25 #[.pointer (some ⟨E, 0, none⟩), .agg #[.int .i64 nl, .int .i64 nz, .int .i64 ne, .int .i64 nr, .int .i32 ns, .int .i64 nf]] w
    fun x w' => ∃ b', w.heap.size ≤ b' ∧ x = .returned (.bool true) ∧ Elec w' E b' bs me size ol oz oe nr ol oz oe (putN (putN (fun _ => none) nf ⟨nl, nz, ne, nr, 0, nf⟩) me ⟨ol, oz, oe, nr, 0, me⟩) (delN S nf) ∧ But [E, bv, bs] w w' := by
  obtain ⟨w0, hw0⟩ : ∃ w0, w.alloc (.cells #[.int .i64 nl, .int .i64 nz, .int .i64 ne, .int .i64 nr, .int .i32 ns, .int .i64 nf] 58) = w0 := ⟨_, rfl⟩
  have hb0 : But [] w w0 := hw0 ▸ (But.refl [] w).alloc _
  obtain ⟨N, hN⟩ : ∃ N, w.heap.size = N := ⟨_, rfl⟩
  have hNb : w0.heap[N]? = some (.cells #[.int .i64 nl, .int .i64 nz, .int .i64 ne, .int .i64 nr, .int .i32 ns, .int .i64 nf] 58) := hN ▸ one_new (hw0 ▸ But.refl [] w0 : But [] (w.alloc (.cells #[.int .i64 nl, .int .i64 nz, .int .i64 ne, .int .i64 nr, .int .i32 ns, .int .i64 nf] 58)) w0)
  have hE0 := h.but hb0 (by simp) (by simp) (by simp)
  have hNE : N ≠ E := fun e => by have := h.lt; omega
  have hNv : N ≠ bv := fun e => by have := h.v.lt; omega
  have hNs : N ≠ bs := fun e => by have := h.s.lt; omega
  have HB : Hid (But [E, bv, bs] w w0) := hb0.mono (by simp)
  have HW : Hid _ := hw0
  have HN : Hid _ := hN
  have NE0 : Hid (Elec w0 E bv bs me size ol oz oe r pl pz pe V S) := hE0
  have HNb : Hid (w0.heap[N]? = some (.cells #[.int .i64 nl, .int .i64 nz, .int .i64 ne, .int .i64 nr, .int .i32 ns, .int .i64 nf] 58)) := hNb
  have HNE : Hid (N ≠ E ∧ N ≠ bv ∧ N ≠ bs) := ⟨hNE, hNv, hNs⟩
  clear hb0 h hE0 hw0 hN hNE hNv hNs hNb
  subst h1
  obtain ⟨c0, c1, c2, c3, c4, c5, c6, c7, c8, c9, c10⟩ := NE0.out.cells
  obtain ⟨n0, n1, n2, n3, n4, n5, -⟩ := cells6 HNb.out
  obtain ⟨hu, hu', k1, k1', k2, k2', HU⟩ := NE0.out.prepD nf N ((Array.getElem?_eq_some_iff.1 HNb.out).1) HNE.out.2.2
  go_enter Try.func25, Try.ntmps25
  go_wp2_with fail
  rw [HN.out, HW.out]
  go_region_held3 (fun w' => w'.cell? ⟨E, 10, none⟩ = some (.map (some bs)) ∧ w'.cell? ⟨N, 0, none⟩ = some (.int .i64 nl) ∧ w'.cell? ⟨N, 1, none⟩ = some (.int .i64 nz) ∧ w'.cell? ⟨N, 2, none⟩ = some (.int .i64 ne) ∧ w'.cell? ⟨N, 3, none⟩ = some (.int .i64 nr) ∧ w'.cell? ⟨N, 4, none⟩ = some (.int .i32 0) ∧ w'.cell? ⟨N, 5, none⟩ = some (.int .i64 nf)) (go_keep) (fail)
  generalize hw1 : delW Try.prog _ bs _ = w1
  obtain ⟨hE1, hb1⟩ : Elec w1 E bv bs me size ol oz oe r pl pz pe V (delN S nf) ∧ But [bs] w0 w1 := by
    rw [← hw1]
    exact HU.out _ ⟨rfl, rfl, rfl, rfl⟩
  have HNb1 : Hid (w1.heap[N]? = some (.cells #[.int .i64 nl, .int .i64 nz, .int .i64 ne, .int .i64 nr, .int .i32 0, .int .i64 nf] 58)) := (hb1.block N ((Array.getElem?_eq_some_iff.1 HNb.out).1) (by simpa using HNE.out.2.2)).trans HNb.out
  have NE1 : Hid (Elec w1 E bv bs me size ol oz oe r pl pz pe V (delN S nf)) := hE1
  have HB1 : Hid (But [E, bv, bs] w w1) := HB.out.trans (hb1.mono (by simp))
  clear hw1 hu hu' k1 k1' k2 k2' HU hE1 hb1
  clear c0 c1 c2 c3 c4 c5 c6 c7 c8 c9 c10 n0 n1 n2 n3 n4 n5
  obtain ⟨c0, c1, c2, c3, c4, c5, c6, c7, c8, c9, c10⟩ := NE1.out.cells
  obtain ⟨n0, n1, n2, n3, n4, n5, -⟩ := cells6 HNb1.out
  obtain ⟨f5, f6, f7, f8, f9⟩ := NE1.out.free
  have hmm := @run_makeMap Try.prog
  have ltE := NE1.out.lt
  have ltN := ((Array.getElem?_eq_some_iff.1 HNb1.out).1)
  have hlE : ⟨E, 9, none⟩ ≠ (⟨w1.heap.size, 0, none⟩ : Addr) := fun e => by simp at e
  go_wp2_with fail
  go_quiet (fail)
  go_wp2_with fail
  generalize hw2 : World.alloc _ (.map #[] 0) = w2
  obtain ⟨hE2, hb2⟩ : Elec w2 E w1.heap.size bs me size ol oz oe nr ol oz oe (fun _ => none) (delN S nf) ∧ But [E] w1 w2 := by
    rw [← hw2]
    refine ⟨((NE1.out.heap (x := w1.drewN nq) rfl).fresh nr ol oz oe).1, ?_⟩
    refine Same.but ?_ ((NE1.out.heap (x := w1.drewN nq) rfl).fresh nr ol oz oe).2
    exact ⟨rfl, rfl, rfl, rfl⟩
  obtain ⟨bw, hbw⟩ : ∃ b, w1.heap.size = b := ⟨_, rfl⟩
  have HBW : Hid (w1.heap.size = bw ∧ N ≠ bw) := ⟨hbw, fun e => by omega⟩
  rw [hbw] at hE2
  have NE2 : Hid (Elec w2 E bw bs me size ol oz oe nr ol oz oe (fun _ => none) (delN S nf)) := hE2
  have HB2 : Hid (But [E] w1 w2) := hb2
  have HNb2 : Hid (w2.heap[N]? = some (.cells #[.int .i64 nl, .int .i64 nz, .int .i64 ne, .int .i64 nr, .int .i32 0, .int .i64 nf] 58)) := (hb2.block N ((Array.getElem?_eq_some_iff.1 HNb1.out).1) (by simpa using HNE.out.1)).trans HNb1.out
  clear hw2 f5 f6 f7 f8 f9 hE2 hb2 hmm ltE ltN hlE
  clear c0 c1 c2 c3 c4 c5 c6 c7 c8 c9 c10 n0 n1 n2 n3 n4 n5
  obtain ⟨c0, c1, c2, c3, c4, c5, c6, c7, c8, c9, c10⟩ := NE2.out.cells
  obtain ⟨n0, n1, n2, n3, n4, n5, -⟩ := cells6 HNb2.out
  rw [hbw]
  clear hbw
  go_region_held3 (fun w' => w'.cell? ⟨N, 0, none⟩ = some (.int .i64 nl) ∧ w'.cell? ⟨N, 1, none⟩ = some (.int .i64 nz) ∧ w'.cell? ⟨N, 2, none⟩ = some (.int .i64 ne) ∧ w'.cell? ⟨E, 2, none⟩ = some (.int .i64 ol) ∧ w'.cell? ⟨E, 3, none⟩ = some (.int .i64 oz) ∧ w'.cell? ⟨E, 4, none⟩ = some (.int .i64 oe)) (first | go_keep | exact ⟨n0, n1, n2, c2, c3, c4⟩)
    (first | (go_at_call 26; refine (beats_any nl nz ne ol oz oe _).mono ?_; rintro e w3 ⟨rfl, hb⟩; have HB3 : Hid (But [] w2 w3) := (by refine Same.but ?_ hb; exact ⟨rfl, rfl, rfl, rfl⟩); have NE3 : Hid (Elec w3 E bw bs me size ol oz oe nr ol oz oe (fun _ => none) (delN S nf)) := NE2.out.but HB3.out (by simp) (by simp) (by simp); have HNb3 : Hid (w3.heap[N]? = some (.cells #[.int .i64 nl, .int .i64 nz, .int .i64 ne, .int .i64 nr, .int .i32 0, .int .i64 nf] 58)) := (HB3.out.block N ((Array.getElem?_eq_some_iff.1 HNb2.out).1) (by simp)).trans HNb2.out; clear c0 c1 c2 c3 c4 c5 c6 c7 c8 c9 c10 n0 n1 n2 n3 n4 n5 hb; obtain ⟨c0, c1, c2, c3, c4, c5, c6, c7, c8, c9, c10⟩ := NE3.out.cells; obtain ⟨n0, n1, n2, n3, n4, n5, -⟩ := cells6 HNb3.out; obtain ⟨f5, f6, f7, f8, f9⟩ := NE3.out.free))
  go_wp2_with fail
  clear f5 f6 f7 f8 f9
  obtain ⟨hu, hu', k1, k1', k2, k2', HU⟩ := NE3.out.prepV nf nl nz ne nr 0 nf N ((Array.getElem?_eq_some_iff.1 HNb3.out).1) HBW.out.2
  go_wp2_with fail
  go_region_held3 (fun w' => w'.cell? ⟨E, 9, none⟩ = some (.map (some bw)) ∧ w'.cell? ⟨N, 0, none⟩ = some (.int .i64 nl) ∧ w'.cell? ⟨N, 1, none⟩ = some (.int .i64 nz) ∧ w'.cell? ⟨N, 2, none⟩ = some (.int .i64 ne) ∧ w'.cell? ⟨N, 3, none⟩ = some (.int .i64 nr) ∧ w'.cell? ⟨N, 4, none⟩ = some (.int .i32 0) ∧ w'.cell? ⟨N, 5, none⟩ = some (.int .i64 nf)) (go_keep) (fail)
  generalize hw4 : putW Try.prog _ bw _ _ = w4
  obtain ⟨hE4, hb4⟩ : Elec w4 E bw bs me size ol oz oe nr ol oz oe (putN (fun _ => none) nf ⟨nl, nz, ne, nr, 0, nf⟩) (delN S nf) ∧ But [bw] w3 w4 := by
    rw [← hw4]
    exact HU.out _ ⟨rfl, rfl, rfl, rfl⟩
  have NE4 : Hid (Elec w4 E bw bs me size ol oz oe nr ol oz oe (putN (fun _ => none) nf ⟨nl, nz, ne, nr, 0, nf⟩) (delN S nf)) := hE4
  have HB4 : Hid (But [bw] w3 w4) := hb4
  clear hw4 hu hu' k1 k1' k2 k2' HU hE4 hb4
  clear c0 c1 c2 c3 c4 c5 c6 c7 c8 c9 c10 n0 n1 n2 n3 n4 n5
  obtain ⟨c0, c1, c2, c3, c4, c5, c6, c7, c8, c9, c10⟩ := NE4.out.cells
  clear c1 c2 c3 c4 c5 c6 c7 c8 c10
  go_wp2_with fail
  go_region_held3 (fun w' => w'.cell? ⟨E, 9, none⟩ = some (.map (some bw)) ∧ w'.cell? ⟨E, 0, none⟩ = some (.int .i64 me)) (first | go_keep | exact ⟨NE5.out.cells.2.2.2.2.2.2.2.2.2.1, NE5.out.cells.1⟩ | exact ⟨(NE5.out.putV ..).cells.2.2.2.2.2.2.2.2.2.1, (NE5.out.putV ..).cells.1⟩)
    (first | (go_at_call 27; refine (mine_any E bw bs me size ol oz oe nr ol oz oe (putN (fun _ => none) nf ⟨nl, nz, ne, nr, 0, nf⟩) (delN S nf) _ (NE4.out.heap (by rfl))).mono ?_; rintro e w5 ⟨rfl, hb⟩; have HB5 : Hid (But [] w4 w5) := (by refine Same.but ?_ hb; exact ⟨rfl, rfl, rfl, rfl⟩); have NE5 : Hid (Elec w5 E bw bs me size ol oz oe nr ol oz oe (putN (fun _ => none) nf ⟨nl, nz, ne, nr, 0, nf⟩) (delN S nf)) := NE4.out.but HB5.out (by simp) (by simp) (by simp); have hu := (NE5.out.v.put me ol oz oe nr 0 me).1; clear hb))
  go_wp2
  go_ret
  have hb6 := (NE5.out.v.put me ol oz oe nr 0 me).2.2
  have hbb := (HB4.out.trans (HB5.out.mono (by simp))).trans hb6
  have hsz : w.heap.size ≤ bw := by rw [← HBW.out.1]; exact HB1.out.size
  have htot : But [E, bv, bs] w _ := HB1.out.trans ((HB2.out.mono (by simp)).trans (HB3.out.mono (by simp)))
  exact ⟨bw, hsz, rfl, NE5.out.putV .., htot.trans' hbb (fun y hy => Or.inr (by rw [List.mem_singleton] at hy; omega))⟩
end Go.Proofs.Qxb6604779a
