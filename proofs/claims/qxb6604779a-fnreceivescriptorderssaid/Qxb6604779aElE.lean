/-
  'receive' of a note that looks.
-/
import Derived.Test.Qxb6604779aElD
namespace Go.Proofs.Qxb6604779a
open Go.RowKit

set_option maxRecDepth 100000 in
set_option maxHeartbeats 4000000 in
theorem receive_b2 (E bv bs : Nat) (me size ol oz oe r pl pz pe : Int) (V S : Int → Option Note) (nl nz ne nr ns nf : Int) (w : World) (h : Elec w E bv bs me size ol oz oe r pl pz pe V S) (h1 : ns = 0) (h2 : nr < r) :
    Calls Try.prog 25 #[.pointer (some ⟨E, 0, none⟩), .agg #[.int .i64 nl, .int .i64 nz, .int .i64 ne, .int .i64 nr, .int .i32 ns, .int .i64 nf]] w
    fun x w' => x = .returned (.bool false) ∧ Elec w' E bv bs me size ol oz oe r pl pz pe V (delN S nf) ∧ But [E, bv, bs] w w' := by
  obtain ⟨w0, hw0⟩ : ∃ w0, w.alloc (.cells #[.int .i64 nl, .int .i64 nz, .int .i64 ne, .int .i64 nr, .int .i32 ns, .int .i64 nf] 58) = w0 := ⟨_, rfl⟩
  have hb0 : But [] w w0 := hw0 ▸ (But.refl [] w).alloc _
  obtain ⟨N, hN⟩ : ∃ N, w.heap.size = N := ⟨_, rfl⟩
  have hNb : w0.heap[N]? = some (.cells #[.int .i64 nl, .int .i64 nz, .int .i64 ne, .int .i64 nr, .int .i32 ns, .int .i64 nf] 58) := hN ▸ one_new (hw0 ▸ But.refl [] w0 : But [] (w.alloc (.cells #[.int .i64 nl, .int .i64 nz, .int .i64 ne, .int .i64 nr, .int .i32 ns, .int .i64 nf] 58)) w0)
  have hE0 := h.but hb0 (by simp) (by simp) (by simp)
  have hNE : N ≠ E := fun e => by have := h.lt; omega
  have hNv : N ≠ bv := fun e => by have := h.v.lt; omega
  have hNs : N ≠ bs := fun e => by have := h.s.lt; omega
  have HB : Hid (But [E, bv, bs] w w0) := hb0.mono (by simp)
  have HW : Hid _ := hw0
  have HN : Hid _ := hN
  have NE0 : Hid (Elec w0 E bv bs me size ol oz oe r pl pz pe V S) := hE0
  have HNb : Hid (w0.heap[N]? = some (.cells #[.int .i64 nl, .int .i64 nz, .int .i64 ne, .int .i64 nr, .int .i32 ns, .int .i64 nf] 58)) := hNb
  have HNE : Hid (N ≠ E ∧ N ≠ bv ∧ N ≠ bs) := ⟨hNE, hNv, hNs⟩
  clear hb0 h hE0 hw0 hN hNE hNv hNs hNb
  subst h1
  obtain ⟨c0, c1, c2, c3, c4, c5, c6, c7, c8, c9, c10⟩ := NE0.out.cells
  obtain ⟨n0, n1, n2, n3, n4, n5, -⟩ := cells6 HNb.out
  obtain ⟨hu, hu', k1, k1', k2, k2', HU⟩ := NE0.out.prepD nf N ((Array.getElem?_eq_some_iff.1 HNb.out).1) HNE.out.2.2
  go_enter Try.func25, Try.ntmps25
  go_wp2_with fail
  rw [HN.out, HW.out]
  go_region_held3 (fun w' => w'.cell? ⟨E, 10, none⟩ = some (.map (some bs)) ∧ w'.cell? ⟨N, 0, none⟩ = some (.int .i64 nl) ∧ w'.cell? ⟨N, 1, none⟩ = some (.int .i64 nz) ∧ w'.cell? ⟨N, 2, none⟩ = some (.int .i64 ne) ∧ w'.cell? ⟨N, 3, none⟩ = some (.int .i64 nr) ∧ w'.cell? ⟨N, 4, none⟩ = some (.int .i32 0) ∧ w'.cell? ⟨N, 5, none⟩ = some (.int .i64 nf)) (go_keep) (fail)
  generalize hw1 : delW Try.prog _ bs _ = w1
  obtain ⟨hE1, hb1⟩ : Elec w1 E bv bs me size ol oz oe r pl pz pe V (delN S nf) ∧ But [bs] w0 w1 := by
    rw [← hw1]
    exact HU.out _ ⟨rfl, rfl, rfl, rfl⟩
  have HNb1 : Hid (w1.heap[N]? = some (.cells #[.int .i64 nl, .int .i64 nz, .int .i64 ne, .int .i64 nr, .int .i32 0, .int .i64 nf] 58)) := (hb1.block N ((Array.getElem?_eq_some_iff.1 HNb.out).1) (by simpa using HNE.out.2.2)).trans HNb.out
  have NE1 : Hid (Elec w1 E bv bs me size ol oz oe r pl pz pe V (delN S nf)) := hE1
  have HB1 : Hid (But [E, bv, bs] w w1) := HB.out.trans (hb1.mono (by simp))
  clear hw1 hu hu' k1 k1' k2 k2' HU hE1 hb1
  clear c0 c1 c2 c3 c4 c5 c6 c7 c8 c9 c10 n0 n1 n2 n3 n4 n5
  obtain ⟨c0, c1, c2, c3, c4, c5, c6, c7, c8, c9, c10⟩ := NE1.out.cells
  obtain ⟨n0, n1, n2, n3, n4, n5, -⟩ := cells6 HNb1.out
  have h3 : ¬ nr > r := by omega
  go_wp2_with fail
  go_quiet (fail)
  go_wp2_with fail
  go_quiet (fail)
  go_wp2
  go_ret
  exact ⟨rfl, NE1.out.heap rfl, HB1.out.trans (((But.refl _ _).drewN _).drewN _)⟩

set_option maxRecDepth 100000 in
set_option maxHeartbeats 4000000 in
theorem receive_b3t (E bv bs : Nat) (me size ol oz oe r pl pz pe : Int) (V S : Int → Option Note) (nl nz ne ns nf : Int) (w : World) (h : Elec w E bv bs me size ol oz oe r pl pz pe V S) (h1 : ns = 0) (hbt : beatsP nl nz ne pl pz pe = true) :
    Calls Try.prog 25 #[.pointer (some ⟨E, 0, none⟩), .agg #[.int .i64 nl, .int .i64 nz, .int .i64 ne, .int .i64 r, .int .i32 ns, .int .i64 nf]] w
    fun x w' => x = .returned (.bool true) ∧ Elec w' E bv bs me size ol oz oe r nl nz ne (putN (putN V nf ⟨nl, nz, ne, r, 0, nf⟩) me ⟨nl, nz, ne, r, 0, me⟩) (delN S nf) ∧ But [E, bv, bs] w w' := by
  obtain ⟨w0, hw0⟩ : ∃ w0, w.alloc (.cells #[.int .i64 nl, .int .i64 nz, .int .i64 ne, .int .i64 r, .int .i32 ns, .int .i64 nf] 58) = w0 := ⟨_, rfl⟩
  have hb0 : But [] w w0 := hw0 ▸ (But.refl [] w).alloc _
  obtain ⟨N, hN⟩ : ∃ N, w.heap.size = N := ⟨_, rfl⟩
  have hNb : w0.heap[N]? = some (.cells #[.int .i64 nl, .int .i64 nz, .int .i64 ne, .int .i64 r, .int .i32 ns, .int .i64 nf] 58) := hN ▸ one_new (hw0 ▸ But.refl [] w0 : But [] (w.alloc (.cells #[.int .i64 nl, .int .i64 nz, .int .i64 ne, .int .i64 r, .int .i32 ns, .int .i64 nf] 58)) w0)
  have hE0 := h.but hb0 (by simp) (by simp) (by simp)
  have hNE : N ≠ E := fun e => by have := h.lt; omega
  have hNv : N ≠ bv := fun e => by have := h.v.lt; omega
  have hNs : N ≠ bs := fun e => by have := h.s.lt; omega
  have HB : Hid (But [E, bv, bs] w w0) := hb0.mono (by simp)
  have HW : Hid _ := hw0
  have HN : Hid _ := hN
  have NE0 : Hid (Elec w0 E bv bs me size ol oz oe r pl pz pe V S) := hE0
  have HNb : Hid (w0.heap[N]? = some (.cells #[.int .i64 nl, .int .i64 nz, .int .i64 ne, .int .i64 r, .int .i32 ns, .int .i64 nf] 58)) := hNb
  have HNE : Hid (N ≠ E ∧ N ≠ bv ∧ N ≠ bs) := ⟨hNE, hNv, hNs⟩
  clear hb0 h hE0 hw0 hN hNE hNv hNs hNb
  subst h1
  obtain ⟨c0, c1, c2, c3, c4, c5, c6, c7, c8, c9, c10⟩ := NE0.out.cells
  obtain ⟨n0, n1, n2, n3, n4, n5, -⟩ := cells6 HNb.out
  obtain ⟨hu, hu', k1, k1', k2, k2', HU⟩ := NE0.out.prepD nf N ((Array.getElem?_eq_some_iff.1 HNb.out).1) HNE.out.2.2
  go_enter Try.func25, Try.ntmps25
  go_wp2_with fail
  rw [HN.out, HW.out]
  go_region_held3 (fun w' => w'.cell? ⟨E, 10, none⟩ = some (.map (some bs)) ∧ w'.cell? ⟨N, 0, none⟩ = some (.int .i64 nl) ∧ w'.cell? ⟨N, 1, none⟩ = some (.int .i64 nz) ∧ w'.cell? ⟨N, 2, none⟩ = some (.int .i64 ne) ∧ w'.cell? ⟨N, 3, none⟩ = some (.int .i64 r) ∧ w'.cell? ⟨N, 4, none⟩ = some (.int .i32 0) ∧ w'.cell? ⟨N, 5, none⟩ = some (.int .i64 nf)) (go_keep) (fail)
  generalize hw1 : delW Try.prog _ bs _ = w1
  obtain ⟨hE1, hb1⟩ : Elec w1 E bv bs me size ol oz oe r pl pz pe V (delN S nf) ∧ But [bs] w0 w1 := by
    rw [← hw1]
    exact HU.out _ ⟨rfl, rfl, rfl, rfl⟩
  have HNb1 : Hid (w1.heap[N]? = some (.cells #[.int .i64 nl, .int .i64 nz, .int .i64 ne, .int .i64 r, .int .i32 0, .int .i64 nf] 58)) := (hb1.block N ((Array.getElem?_eq_some_iff.1 HNb.out).1) (by simpa using HNE.out.2.2)).trans HNb.out
  have NE1 : Hid (Elec w1 E bv bs me size ol oz oe r pl pz pe V (delN S nf)) := hE1
  have HB1 : Hid (But [E, bv, bs] w w1) := HB.out.trans (hb1.mono (by simp))
  clear hw1 hu hu' k1 k1' k2 k2' HU hE1 hb1
  clear c0 c1 c2 c3 c4 c5 c6 c7 c8 c9 c10 n0 n1 n2 n3 n4 n5
  obtain ⟨c0, c1, c2, c3, c4, c5, c6, c7, c8, c9, c10⟩ := NE1.out.cells
  obtain ⟨n0, n1, n2, n3, n4, n5, -⟩ := cells6 HNb1.out
  have h3 : ¬ r > r := by omega
  have h4 : ¬ r < r := by omega
  go_wp2_with fail
  go_quiet (fail)
  go_wp2_with fail
  go_quiet (fail)
  go_wp2_with fail
  go_region_held3 (fun w' => w'.cell? ⟨N, 0, none⟩ = some (.int .i64 nl) ∧ w'.cell? ⟨N, 1, none⟩ = some (.int .i64 nz) ∧ w'.cell? ⟨N, 2, none⟩ = some (.int .i64 ne) ∧ w'.cell? ⟨E, 6, none⟩ = some (.int .i64 pl) ∧ w'.cell? ⟨E, 7, none⟩ = some (.int .i64 pz) ∧ w'.cell? ⟨E, 8, none⟩ = some (.int .i64 pe)) (first | go_keep | exact ⟨n0, n1, n2, c6, c7, c8⟩)
    (first | (go_at_call 26; refine (beats_any nl nz ne pl pz pe _).mono ?_; rintro e w2 ⟨rfl, hb⟩; have HB2 : Hid (But [] w1 w2) := (by refine Same.but ?_ hb; exact ⟨rfl, rfl, rfl, rfl⟩); have NE2 : Hid (Elec w2 E bv bs me size ol oz oe r pl pz pe V (delN S nf)) := NE1.out.but HB2.out (by simp) (by simp) (by simp); have HNb2 : Hid (w2.heap[N]? = some (.cells #[.int .i64 nl, .int .i64 nz, .int .i64 ne, .int .i64 r, .int .i32 0, .int .i64 nf] 58)) := (HB2.out.block N ((Array.getElem?_eq_some_iff.1 HNb1.out).1) (by simp)).trans HNb1.out; clear c0 c1 c2 c3 c4 c5 c6 c7 c8 c9 c10 n0 n1 n2 n3 n4 n5 hb; obtain ⟨c0, c1, c2, c3, c4, c5, c6, c7, c8, c9, c10⟩ := NE2.out.cells; obtain ⟨n0, n1, n2, n3, n4, n5, -⟩ := cells6 HNb2.out; obtain ⟨f5, f6, f7, f8, f9⟩ := NE2.out.free))
  go_wp2_with fail
  generalize hw3 : ((w2.setCell _ _).setCell _ _).setCell _ _ = w3
  have NE3 : Hid (Elec w3 E bv bs me size ol oz oe r nl nz ne V (delN S nf)) := by rw [← hw3]; exact NE2.out.prop nl nz ne
  have HB3 : Hid (But [E, bv, bs] w2 w3) := by rw [← hw3]; exact (((But.refl _ _).setCell (Or.inl (by simp)) _).setCell (Or.inl (by simp)) _).setCell (Or.inl (by simp)) _
  have HNb3 : Hid (w3.heap[N]? = some (.cells #[.int .i64 nl, .int .i64 nz, .int .i64 ne, .int .i64 r, .int .i32 0, .int .i64 nf] 58)) := (HB3.out.block N ((Array.getElem?_eq_some_iff.1 HNb2.out).1) (by simpa using HNE.out)).trans HNb2.out
  clear hw3 f5 f6 f7 f8 f9
  clear c0 c1 c2 c3 c4 c5 c6 c7 c8 c9 c10 n0 n1 n2 n3 n4 n5
  obtain ⟨c0, c1, c2, c3, c4, c5, c6, c7, c8, c9, c10⟩ := NE3.out.cells
  obtain ⟨n0, n1, n2, n3, n4, n5, -⟩ := cells6 HNb3.out
  obtain ⟨hu, hu', k1, k1', k2, k2', HU⟩ := NE3.out.prepV nf nl nz ne r 0 nf N ((Array.getElem?_eq_some_iff.1 HNb3.out).1) HNE.out.2.1
  go_wp2_with fail
  go_region_held3 (fun w' => w'.cell? ⟨E, 9, none⟩ = some (.map (some bv)) ∧ w'.cell? ⟨N, 0, none⟩ = some (.int .i64 nl) ∧ w'.cell? ⟨N, 1, none⟩ = some (.int .i64 nz) ∧ w'.cell? ⟨N, 2, none⟩ = some (.int .i64 ne) ∧ w'.cell? ⟨N, 3, none⟩ = some (.int .i64 r) ∧ w'.cell? ⟨N, 4, none⟩ = some (.int .i32 0) ∧ w'.cell? ⟨N, 5, none⟩ = some (.int .i64 nf)) (go_keep) (fail)
  generalize hw4 : putW Try.prog _ bv _ _ = w4
  obtain ⟨hE4, hb4⟩ : Elec w4 E bv bs me size ol oz oe r nl nz ne (putN V nf ⟨nl, nz, ne, r, 0, nf⟩) (delN S nf) ∧ But [bv] w3 w4 := by
    rw [← hw4]
    exact HU.out _ ⟨rfl, rfl, rfl, rfl⟩
  have NE4 : Hid (Elec w4 E bv bs me size ol oz oe r nl nz ne (putN V nf ⟨nl, nz, ne, r, 0, nf⟩) (delN S nf)) := hE4
  have HB4 : Hid (But [bv] w3 w4) := hb4
  clear hw4 hu hu' k1 k1' k2 k2' HU hE4 hb4
  clear c0 c1 c2 c3 c4 c5 c6 c7 c8 c9 c10 n0 n1 n2 n3 n4 n5
  obtain ⟨c0, c1, c2, c3, c4, c5, c6, c7, c8, c9, c10⟩ := NE4.out.cells
  clear c1 c2 c3 c4 c5 c6 c7 c8 c10
  go_wp2_with fail
  go_region_held3 (fun w' => w'.cell? ⟨E, 9, none⟩ = some (.map (some bv)) ∧ w'.cell? ⟨E, 0, none⟩ = some (.int .i64 me)) (first | go_keep | exact ⟨NE5.out.cells.2.2.2.2.2.2.2.2.2.1, NE5.out.cells.1⟩ | exact ⟨(NE5.out.putV ..).cells.2.2.2.2.2.2.2.2.2.1, (NE5.out.putV ..).cells.1⟩)
    (first | (go_at_call 27; refine (mine_any E bv bs me size ol oz oe r nl nz ne (putN V nf ⟨nl, nz, ne, r, 0, nf⟩) (delN S nf) _ (NE4.out.heap (by rfl))).mono ?_; rintro e w5 ⟨rfl, hb⟩; have HB5 : Hid (But [] w4 w5) := (by refine Same.but ?_ hb; exact ⟨rfl, rfl, rfl, rfl⟩); have NE5 : Hid (Elec w5 E bv bs me size ol oz oe r nl nz ne (putN V nf ⟨nl, nz, ne, r, 0, nf⟩) (delN S nf)) := NE4.out.but HB5.out (by simp) (by simp) (by simp); have hu := (NE5.out.v.put me nl nz ne r 0 me).1; clear hb))
  go_wp2
  go_ret
  have hb6 := (NE5.out.v.put me nl nz ne r 0 me).2.2
  have hbb := (HB4.out.trans (HB5.out.mono (by simp))).trans hb6
  exact ⟨rfl, NE5.out.putV .., HB1.out.trans ((HB2.out.mono (by simp)).trans (HB3.out.trans (hbb.mono (by simp))))⟩

set_option maxRecDepth 100000 in
set_option maxHeartbeats 4000000 in
theorem receive_b3f (E bv bs : Nat) (me size ol oz oe r pl pz pe : Int) (V S : Int → Option Note) (nl nz ne ns nf : Int) (w : World) (h : Elec w E bv bs me size ol oz oe r pl pz pe V S) (h1 : ns = 0) (hbt : beatsP nl nz ne pl pz pe = false) :
    Calls Try.prog 25 #[.pointer (some ⟨E, 0, none⟩), .agg #[.int .i64 nl, .int .i64 nz, .int .i64 ne, .int .i64 r, .int .i32 ns, .int .i64 nf]] w
    fun x w' => x = .returned (.bool false) ∧ Elec w' E bv bs me size ol oz oe r pl pz pe (putN (putN V nf ⟨nl, nz, ne, r, 0, nf⟩) me ⟨pl, pz, pe, r, 0, me⟩) (delN S nf) ∧ But [E, bv, bs] w w' := by
  obtain ⟨w0, hw0⟩ : ∃ w0, w.alloc (.cells #[.int .i64 nl, .int .i64 nz, .int .i64 ne, .int .i64 r, .int .i32 ns, .int .i64 nf] 58) = w0 := ⟨_, rfl⟩
  have hb0 : But [] w w0 := hw0 ▸ (But.refl [] w).alloc _
  obtain ⟨N, hN⟩ : ∃ N, w.heap.size = N := ⟨_, rfl⟩
  have hNb : w0.heap[N]? = some (.cells #[.int .i64 nl, .int .i64 nz, .int .i64 ne, .int .i64 r, .int .i32 ns, .int .i64 nf] 58) := hN ▸ one_new (hw0 ▸ But.refl [] w0 : But [] (w.alloc (.cells #[.int .i64 nl, .int .i64 nz, .int .i64 ne, .int .i64 r, .int .i32 ns, .int .i64 nf] 58)) w0)
  have hE0 := h.but hb0 (by simp) (by simp) (by simp)
  have hNE : N ≠ E := fun e => by have := h.lt; omega
  have hNv : N ≠ bv := fun e => by have := h.v.lt; omega
  have hNs : N ≠ bs := fun e => by have := h.s.lt; omega
  have HB : Hid (But [E, bv, bs] w w0) := hb0.mono (by simp)
  have HW : Hid _ := hw0
  have HN : Hid _ := hN
  have NE0 : Hid (Elec w0 E bv bs me size ol oz oe r pl pz pe V S) := hE0
  have HNb : Hid (w0.heap[N]? = some (.cells #[.int .i64 nl, .int .i64 nz, .int .i64 ne, .int .i64 r, .int .i32 ns, .int .i64 nf] 58)) := hNb
  have HNE : Hid (N ≠ E ∧ N ≠ bv ∧ N ≠ bs) := ⟨hNE, hNv, hNs⟩
  clear hb0 h hE0 hw0 hN hNE hNv hNs hNb
  subst h1
  obtain ⟨c0, c1, c2, c3, c4, c5, c6, c7, c8, c9, c10⟩ := NE0.out.cells
  obtain ⟨n0, n1, n2, n3, n4, n5, -⟩ := cells6 HNb.out
  obtain ⟨hu, hu', k1, k1', k2, k2', HU⟩ := NE0.out.prepD nf N ((Array.getElem?_eq_some_iff.1 HNb.out).1) HNE.out.2.2
  go_enter Try.func25, Try.ntmps25
  go_wp2_with fail
  rw [HN.out, HW.out]
  go_region_held3 (fun w' => w'.cell? ⟨E, 10, none⟩ = some (.map (some bs)) ∧ w'.cell? ⟨N, 0, none⟩ = some (.int .i64 nl) ∧ w'.cell? ⟨N, 1, none⟩ = some (.int .i64 nz) ∧ w'.cell? ⟨N, 2, none⟩ = some (.int .i64 ne) ∧ w'.cell? ⟨N, 3, none⟩ = some (.int .i64 r) ∧ w'.cell? ⟨N, 4, none⟩ = some (.int .i32 0) ∧ w'.cell? ⟨N, 5, none⟩ = some (.int .i64 nf)) (go_keep) (fail)
  generalize hw1 : delW Try.prog _ bs _ = w1
  obtain ⟨hE1, hb1⟩ : Elec w1 E bv bs me size ol oz oe r pl pz pe V (delN S nf) ∧ But [bs] w0 w1 := by
    rw [← hw1]
    exact HU.out _ ⟨rfl, rfl, rfl, rfl⟩
  have HNb1 : Hid (w1.heap[N]? = some (.cells #[.int .i64 nl, .int .i64 nz, .int .i64 ne, .int .i64 r, .int .i32 0, .int .i64 nf] 58)) := (hb1.block N ((Array.getElem?_eq_some_iff.1 HNb.out).1) (by simpa using HNE.out.2.2)).trans HNb.out
  have NE1 : Hid (Elec w1 E bv bs me size ol oz oe r pl pz pe V (delN S nf)) := hE1
  have HB1 : Hid (But [E, bv, bs] w w1) := HB.out.trans (hb1.mono (by simp))
  clear hw1 hu hu' k1 k1' k2 k2' HU hE1 hb1
  clear c0 c1 c2 c3 c4 c5 c6 c7 c8 c9 c10 n0 n1 n2 n3 n4 n5
  obtain ⟨c0, c1, c2, c3, c4, c5, c6, c7, c8, c9, c10⟩ := NE1.out.cells
  obtain ⟨n0, n1, n2, n3, n4, n5, -⟩ := cells6 HNb1.out
  have h3 : ¬ r > r := by omega
  have h4 : ¬ r < r := by omega
  go_wp2_with fail
  go_quiet (fail)
  go_wp2_with fail
  go_quiet (fail)
  go_wp2_with fail
  go_region_held3 (fun w' => w'.cell? ⟨N, 0, none⟩ = some (.int .i64 nl) ∧ w'.cell? ⟨N, 1, none⟩ = some (.int .i64 nz) ∧ w'.cell? ⟨N, 2, none⟩ = some (.int .i64 ne) ∧ w'.cell? ⟨E, 6, none⟩ = some (.int .i64 pl) ∧ w'.cell? ⟨E, 7, none⟩ = some (.int .i64 pz) ∧ w'.cell? ⟨E, 8, none⟩ = some (.int .i64 pe)) (first | go_keep | exact ⟨n0, n1, n2, c6, c7, c8⟩)
    (first | (go_at_call 26; refine (beats_any nl nz ne pl pz pe _).mono ?_; rintro e w2 ⟨rfl, hb⟩; have HB2 : Hid (But [] w1 w2) := (by refine Same.but ?_ hb; exact ⟨rfl, rfl, rfl, rfl⟩); have NE2 : Hid (Elec w2 E bv bs me size ol oz oe r pl pz pe V (delN S nf)) := NE1.out.but HB2.out (by simp) (by simp) (by simp); have HNb2 : Hid (w2.heap[N]? = some (.cells #[.int .i64 nl, .int .i64 nz, .int .i64 ne, .int .i64 r, .int .i32 0, .int .i64 nf] 58)) := (HB2.out.block N ((Array.getElem?_eq_some_iff.1 HNb1.out).1) (by simp)).trans HNb1.out; clear c0 c1 c2 c3 c4 c5 c6 c7 c8 c9 c10 n0 n1 n2 n3 n4 n5 hb; obtain ⟨c0, c1, c2, c3, c4, c5, c6, c7, c8, c9, c10⟩ := NE2.out.cells; obtain ⟨n0, n1, n2, n3, n4, n5, -⟩ := cells6 HNb2.out; obtain ⟨f5, f6, f7, f8, f9⟩ := NE2.out.free))
  go_wp2_with fail
  clear f5 f6 f7 f8 f9
  obtain ⟨hu, hu', k1, k1', k2, k2', HU⟩ := NE2.out.prepV nf nl nz ne r 0 nf N ((Array.getElem?_eq_some_iff.1 HNb2.out).1) HNE.out.2.1
  go_wp2_with fail
  go_region_held3 (fun w' => w'.cell? ⟨E, 9, none⟩ = some (.map (some bv)) ∧ w'.cell? ⟨N, 0, none⟩ = some (.int .i64 nl) ∧ w'.cell? ⟨N, 1, none⟩ = some (.int .i64 nz) ∧ w'.cell? ⟨N, 2, none⟩ = some (.int .i64 ne) ∧ w'.cell? ⟨N, 3, none⟩ = some (.int .i64 r) ∧ w'.cell? ⟨N, 4, none⟩ = some (.int .i32 0) ∧ w'.cell? ⟨N, 5, none⟩ = some (.int .i64 nf)) (go_keep) (fail)
  generalize hw3 : putW Try.prog _ bv _ _ = w3
  obtain ⟨hE3, hb3⟩ : Elec w3 E bv bs me size ol oz oe r pl pz pe (putN V nf ⟨nl, nz, ne, r, 0, nf⟩) (delN S nf) ∧ But [bv] w2 w3 := by
    rw [← hw3]
    exact HU.out _ ⟨rfl, rfl, rfl, rfl⟩
  have NE3 : Hid (Elec w3 E bv bs me size ol oz oe r pl pz pe (putN V nf ⟨nl, nz, ne, r, 0, nf⟩) (delN S nf)) := hE3
  have HB3 : Hid (But [bv] w2 w3) := hb3
  clear hw3 hu hu' k1 k1' k2 k2' HU hE3 hb3
  clear c0 c1 c2 c3 c4 c5 c6 c7 c8 c9 c10 n0 n1 n2 n3 n4 n5
  obtain ⟨c0, c1, c2, c3, c4, c5, c6, c7, c8, c9, c10⟩ := NE3.out.cells
  clear c1 c2 c3 c4 c5 c6 c7 c8 c10
  go_wp2_with fail
  go_region_held3 (fun w' => w'.cell? ⟨E, 9, none⟩ = some (.map (some bv)) ∧ w'.cell? ⟨E, 0, none⟩ = some (.int .i64 me)) (first | go_keep | exact ⟨NE4.out.cells.2.2.2.2.2.2.2.2.2.1, NE4.out.cells.1⟩ | exact ⟨(NE4.out.putV ..).cells.2.2.2.2.2.2.2.2.2.1, (NE4.out.putV ..).cells.1⟩)
    (first | (go_at_call 27; refine (mine_any E bv bs me size ol oz oe r pl pz pe (putN V nf ⟨nl, nz, ne, r, 0, nf⟩) (delN S nf) _ (NE3.out.heap (by rfl))).mono ?_; rintro e w4 ⟨rfl, hb⟩; have HB4 : Hid (But [] w3 w4) := (by refine Same.but ?_ hb; exact ⟨rfl, rfl, rfl, rfl⟩); have NE4 : Hid (Elec w4 E bv bs me size ol oz oe r pl pz pe (putN V nf ⟨nl, nz, ne, r, 0, nf⟩) (delN S nf)) := NE3.out.but HB4.out (by simp) (by simp) (by simp); have hu := (NE4.out.v.put me pl pz pe r 0 me).1; clear hb))
  go_wp2
  go_ret
  have hb5 := (NE4.out.v.put me pl pz pe r 0 me).2.2
  have hbb := (HB3.out.trans (HB4.out.mono (by simp))).trans hb5
  exact ⟨rfl, NE4.out.putV .., HB1.out.trans ((HB2.out.mono (by simp)).trans (hbb.mono (by simp)))⟩
end Go.Proofs.Qxb6604779a
