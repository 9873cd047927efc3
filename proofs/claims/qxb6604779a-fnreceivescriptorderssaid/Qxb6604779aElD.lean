/-
  'receive', walked, a way at a time.
-/
import Derived.Test.Qxb6604779aElC
namespace Go.Proofs.Qxb6604779a
open Go.RowKit

/-- The same world but for the tape's place. -/
structure Same (x w : World) : Prop where
  heap : x.heap = w.heap
  os : x.os = w.os
  tape : x.tape = w.tape
  output : x.output = w.output
theorem Same.but {x w w' : World} {X : List Nat} (s : Same x w) (h : But X x w') : But X w w' :=
  ⟨h.os.trans s.os, h.tape.trans s.tape, h.output.trans s.output, by rw [← s.heap]; exact h.size, fun k hk hx => by rw [← s.heap]; exact h.block k (by rw [s.heap]; exact hk) hx⟩

section
variable {w : World} {E bv bs : Nat} {me size ol oz oe r pl pz pe : Int} {V S : Int → Option Note}
theorem Elec.heap {x : World} (h : Elec w E bv bs me size ol oz oe r pl pz pe V S) (e : x.heap = w.heap) : Elec x E bv bs me size ol oz oe r pl pz pe V S :=
  ⟨by rw [e]; exact h.blk, h.v.congr (by rw [e]), h.s.congr (by rw [e]), h.ne⟩
theorem Elec.round (h : Elec w E bv bs me size ol oz oe r pl pz pe V S) (r' : Int) : Elec (w.setCell ⟨E, 5, none⟩ (.int .i64 r')) E bv bs me size ol oz oe r' pl pz pe V S := by
  refine ⟨?_, h.v.congr (Below.heap_setCell _ _ _ _ h.nev.symm), h.s.congr (Below.heap_setCell _ _ _ _ h.nes.symm), h.ne⟩
  simp [World.setCell, Array.getElem?_modify, h.blk]
theorem Elec.prop (h : Elec w E bv bs me size ol oz oe r pl pz pe V S) (a b c : Int) : Elec (((w.setCell ⟨E, 6, none⟩ (.int .i64 a)).setCell ⟨E, 7, none⟩ (.int .i64 b)).setCell ⟨E, 8, none⟩ (.int .i64 c)) E bv bs me size ol oz oe r a b c V S := by
  have e : ∀ i, i ≠ E → (((w.setCell ⟨E, 6, none⟩ (.int .i64 a)).setCell ⟨E, 7, none⟩ (.int .i64 b)).setCell ⟨E, 8, none⟩ (.int .i64 c)).heap[i]? = w.heap[i]? := fun i hi => by
    rw [Below.heap_setCell _ _ _ _ hi, Below.heap_setCell _ _ _ _ hi, Below.heap_setCell _ _ _ _ hi]
  refine ⟨?_, h.v.congr (e _ h.nev.symm), h.s.congr (e _ h.nes.symm), h.ne⟩
  simp [World.setCell, Array.getElem?_modify, h.blk]
theorem Elec.newV (h : Elec w E bv bs me size ol oz oe r pl pz pe V S) : Elec ((w.alloc (.map #[] 0)).setCell ⟨E, 9, none⟩ (.map (some w.heap.size))) E w.heap.size bs me size ol oz oe r pl pz pe (fun _ => none) S := by
  have hb : But [] w (w.alloc (.map #[] 0)) := (But.refl [] w).alloc _
  have hE := h.lt
  have hs := h.s.lt
  refine ⟨?_, ⟨#[], 0, ?_, by simp, by simp, by simp⟩, (hb.keepsMap (by simp) h.s).congr (Below.heap_setCell _ _ _ _ h.nes.symm), by omega⟩
  · have h2 : (w.alloc (.map #[] 0)).heap[E]? = _ := (hb.block E h.lt (by simp)).trans h.blk
    generalize w.alloc (.map #[] 0) = x at h2
    simp [World.setCell, Array.getElem?_modify, h2]
  · rw [Below.heap_setCell _ _ _ _ (by simp; omega)]
    exact (MapKept.heap_alloc w _).1
theorem Elec.prepV (h : Elec w E bv bs me size ol oz oe r pl pz pe V S) (k nl nz ne nr ns nf : Int) (N : Nat) (hN : N < w.heap.size) (hNv : N ≠ bv) :
    (∀ q, (Instr.mapUpdate 49 (.map (some bv)) (.int .i64 k) (.agg #[.int .i64 nl, .int .i64 nz, .int .i64 ne, .int .i64 nr, .int .i32 ns, .int .i64 nf])).run Try.prog (w.drewN q) = .ok () (putW Try.prog (w.drewN q) bv k (noteV nl nz ne nr ns nf))) ∧ ((Instr.mapUpdate 49 (.map (some bv)) (.int .i64 k) (.agg #[.int .i64 nl, .int .i64 nz, .int .i64 ne, .int .i64 nr, .int .i32 ns, .int .i64 nf])).run Try.prog w.drew = .ok () (putW Try.prog w.drew bv k (noteV nl nz ne nr ns nf))) ∧
    (∀ q o, (putW Try.prog (w.drewN q) bv k (noteV nl nz ne nr ns nf)).cell? ⟨E, o, none⟩ = w.cell? ⟨E, o, none⟩) ∧ (∀ o, (putW Try.prog w.drew bv k (noteV nl nz ne nr ns nf)).cell? ⟨E, o, none⟩ = w.cell? ⟨E, o, none⟩) ∧
    (∀ q o, (putW Try.prog (w.drewN q) bv k (noteV nl nz ne nr ns nf)).cell? ⟨N, o, none⟩ = w.cell? ⟨N, o, none⟩) ∧ (∀ o, (putW Try.prog w.drew bv k (noteV nl nz ne nr ns nf)).cell? ⟨N, o, none⟩ = w.cell? ⟨N, o, none⟩) ∧
    Hid (∀ x : World, Same x w → Elec (putW Try.prog x bv k (noteV nl nz ne nr ns nf)) E bv bs me size ol oz oe r pl pz pe (putN V k ⟨nl, nz, ne, nr, ns, nf⟩) S ∧ But [bv] w (putW Try.prog x bv k (noteV nl nz ne nr ns nf))) := by
  have k1 : ∀ (x : World) (o : Nat), x.heap = w.heap → (putW Try.prog x bv k (noteV nl nz ne nr ns nf)).cell? ⟨E, o, none⟩ = x.cell? ⟨E, o, none⟩ := fun x o e => ((h.heap e).v.put k nl nz ne nr ns nf).2.2.cell (p := ⟨E, o, none⟩) (h.heap e).lt (by simpa using h.nev)
  have k2 : ∀ (x : World) (o : Nat), x.heap = w.heap → (putW Try.prog x bv k (noteV nl nz ne nr ns nf)).cell? ⟨N, o, none⟩ = x.cell? ⟨N, o, none⟩ := fun x o e => ((h.heap e).v.put k nl nz ne nr ns nf).2.2.cell (p := ⟨N, o, none⟩) (by rw [e]; exact hN) (by simpa using hNv)
  refine ⟨fun q => ((h.heap (x := w.drewN q) rfl).v.put k nl nz ne nr ns nf).1, ((h.heap (x := w.drew) rfl).v.put k nl nz ne nr ns nf).1, fun q o => k1 (w.drewN q) o rfl, fun o => k1 w.drew o rfl, fun q o => k2 (w.drewN q) o rfl, fun o => k2 w.drew o rfl, fun x s => ?_⟩
  have e := s.heap
  exact ⟨(h.heap e).putV .., s.but ((h.heap e).v.put k nl nz ne nr ns nf).2.2⟩
theorem Elec.prepS (h : Elec w E bv bs me size ol oz oe r pl pz pe V S) (k nl nz ne nr ns nf : Int) (N : Nat) (hN : N < w.heap.size) (hNs : N ≠ bs) :
    (∀ q, (Instr.mapUpdate 49 (.map (some bs)) (.int .i64 k) (.agg #[.int .i64 nl, .int .i64 nz, .int .i64 ne, .int .i64 nr, .int .i32 ns, .int .i64 nf])).run Try.prog (w.drewN q) = .ok () (putW Try.prog (w.drewN q) bs k (noteV nl nz ne nr ns nf))) ∧ ((Instr.mapUpdate 49 (.map (some bs)) (.int .i64 k) (.agg #[.int .i64 nl, .int .i64 nz, .int .i64 ne, .int .i64 nr, .int .i32 ns, .int .i64 nf])).run Try.prog w.drew = .ok () (putW Try.prog w.drew bs k (noteV nl nz ne nr ns nf))) ∧
    (∀ q o, (putW Try.prog (w.drewN q) bs k (noteV nl nz ne nr ns nf)).cell? ⟨E, o, none⟩ = w.cell? ⟨E, o, none⟩) ∧ (∀ o, (putW Try.prog w.drew bs k (noteV nl nz ne nr ns nf)).cell? ⟨E, o, none⟩ = w.cell? ⟨E, o, none⟩) ∧
    (∀ q o, (putW Try.prog (w.drewN q) bs k (noteV nl nz ne nr ns nf)).cell? ⟨N, o, none⟩ = w.cell? ⟨N, o, none⟩) ∧ (∀ o, (putW Try.prog w.drew bs k (noteV nl nz ne nr ns nf)).cell? ⟨N, o, none⟩ = w.cell? ⟨N, o, none⟩) ∧
    Hid (∀ x : World, Same x w → Elec (putW Try.prog x bs k (noteV nl nz ne nr ns nf)) E bv bs me size ol oz oe r pl pz pe V (putN S k ⟨nl, nz, ne, nr, ns, nf⟩) ∧ But [bs] w (putW Try.prog x bs k (noteV nl nz ne nr ns nf))) := by
  have k1 : ∀ (x : World) (o : Nat), x.heap = w.heap → (putW Try.prog x bs k (noteV nl nz ne nr ns nf)).cell? ⟨E, o, none⟩ = x.cell? ⟨E, o, none⟩ := fun x o e => ((h.heap e).s.put k nl nz ne nr ns nf).2.2.cell (p := ⟨E, o, none⟩) (h.heap e).lt (by simpa using h.nes)
  have k2 : ∀ (x : World) (o : Nat), x.heap = w.heap → (putW Try.prog x bs k (noteV nl nz ne nr ns nf)).cell? ⟨N, o, none⟩ = x.cell? ⟨N, o, none⟩ := fun x o e => ((h.heap e).s.put k nl nz ne nr ns nf).2.2.cell (p := ⟨N, o, none⟩) (by rw [e]; exact hN) (by simpa using hNs)
  refine ⟨fun q => ((h.heap (x := w.drewN q) rfl).s.put k nl nz ne nr ns nf).1, ((h.heap (x := w.drew) rfl).s.put k nl nz ne nr ns nf).1, fun q o => k1 (w.drewN q) o rfl, fun o => k1 w.drew o rfl, fun q o => k2 (w.drewN q) o rfl, fun o => k2 w.drew o rfl, fun x s => ?_⟩
  have e := s.heap
  exact ⟨(h.heap e).putS .., s.but ((h.heap e).s.put k nl nz ne nr ns nf).2.2⟩
theorem Elec.prepD (h : Elec w E bv bs me size ol oz oe r pl pz pe V S) (k : Int) (N : Nat) (hN : N < w.heap.size) (hNs : N ≠ bs) :
    (∀ q, ∀ ty, (Builtin.delete_ #[49, 2] ty #[.map (some bs), .int .i64 k]).run Try.prog (w.drewN q) = .ok (.tuple #[]) (delW Try.prog (w.drewN q) bs k)) ∧ (∀ ty, (Builtin.delete_ #[49, 2] ty #[.map (some bs), .int .i64 k]).run Try.prog w.drew = .ok (.tuple #[]) (delW Try.prog w.drew bs k)) ∧
    (∀ q o, (delW Try.prog (w.drewN q) bs k).cell? ⟨E, o, none⟩ = w.cell? ⟨E, o, none⟩) ∧ (∀ o, (delW Try.prog w.drew bs k).cell? ⟨E, o, none⟩ = w.cell? ⟨E, o, none⟩) ∧
    (∀ q o, (delW Try.prog (w.drewN q) bs k).cell? ⟨N, o, none⟩ = w.cell? ⟨N, o, none⟩) ∧ (∀ o, (delW Try.prog w.drew bs k).cell? ⟨N, o, none⟩ = w.cell? ⟨N, o, none⟩) ∧
    Hid (∀ x : World, Same x w → Elec (delW Try.prog x bs k) E bv bs me size ol oz oe r pl pz pe V (delN S k) ∧ But [bs] w (delW Try.prog x bs k)) := by
  have k1 : ∀ (x : World) (o : Nat), x.heap = w.heap → (delW Try.prog x bs k).cell? ⟨E, o, none⟩ = x.cell? ⟨E, o, none⟩ := fun x o e => ((h.heap e).s.del k).2.2.cell (p := ⟨E, o, none⟩) (h.heap e).lt (by simpa using h.nes)
  have k2 : ∀ (x : World) (o : Nat), x.heap = w.heap → (delW Try.prog x bs k).cell? ⟨N, o, none⟩ = x.cell? ⟨N, o, none⟩ := fun x o e => ((h.heap e).s.del k).2.2.cell (p := ⟨N, o, none⟩) (by rw [e]; exact hN) (by simpa using hNs)
  refine ⟨fun q => ((h.heap (x := w.drewN q) rfl).s.del k).1, ((h.heap (x := w.drew) rfl).s.del k).1, fun q o => k1 (w.drewN q) o rfl, fun o => k1 w.drew o rfl, fun q o => k2 (w.drewN q) o rfl, fun o => k2 w.drew o rfl, fun x s => ?_⟩
  have e := s.heap
  exact ⟨(h.heap e).delS .., s.but ((h.heap e).s.del k).2.2⟩
end

set_option maxRecDepth 100000 in
set_option maxHeartbeats 4000000 in
theorem receive_a2 (E bv bs : Nat) (me size ol oz oe r pl pz pe : Int) (V S : Int → Option Note) (nl nz ne nr ns nf : Int) (w : World) (h : Elec w E bv bs me size ol oz oe r pl pz pe V S) (h1 : ns ≠ 0) (h2 : nr ≠ r) :
    Calls Try.prog 25 #[.pointer (some ⟨E, 0, none⟩), .agg #[.int .i64 nl, .int .i64 nz, .int .i64 ne, .int .i64 nr, .int .i32 ns, .int .i64 nf]] w
    fun x w' => x = .returned (.bool false) ∧ Elec w' E bv bs me size ol oz oe r pl pz pe V (putN S nf ⟨nl, nz, ne, nr, ns, nf⟩) ∧ But [E, bv, bs] w w' := by
  obtain ⟨w0, hw0⟩ : ∃ w0, w.alloc (.cells #[.int .i64 nl, .int .i64 nz, .int .i64 ne, .int .i64 nr, .int .i32 ns, .int .i64 nf] 58) = w0 := ⟨_, rfl⟩
  have hb0 : But [] w w0 := hw0 ▸ (But.refl [] w).alloc _
  obtain ⟨N, hN⟩ : ∃ N, w.heap.size = N := ⟨_, rfl⟩
  have hNb : w0.heap[N]? = some (.cells #[.int .i64 nl, .int .i64 nz, .int .i64 ne, .int .i64 nr, .int .i32 ns, .int .i64 nf] 58) := hN ▸ one_new (hw0 ▸ But.refl [] w0 : But [] (w.alloc (.cells #[.int .i64 nl, .int .i64 nz, .int .i64 ne, .int .i64 nr, .int .i32 ns, .int .i64 nf] 58)) w0)
  have hE0 := h.but hb0 (by simp) (by simp) (by simp)
  have hNE : N ≠ E := fun e => by have := h.lt; omega
  have hNv : N ≠ bv := fun e => by have := h.v.lt; omega
  have hNs : N ≠ bs := fun e => by have := h.s.lt; omega
  have HB : Hid (But [E, bv, bs] w w0) := hb0.mono (by simp)
  have HW : Hid _ := hw0
  have HN : Hid _ := hN
  have NE0 : Hid (Elec w0 E bv bs me size ol oz oe r pl pz pe V S) := hE0
  have HNb : Hid (w0.heap[N]? = some (.cells #[.int .i64 nl, .int .i64 nz, .int .i64 ne, .int .i64 nr, .int .i32 ns, .int .i64 nf] 58)) := hNb
  have HNE : Hid (N ≠ E ∧ N ≠ bv ∧ N ≠ bs) := ⟨hNE, hNv, hNs⟩
  clear hb0 h hE0 hw0 hN hNE hNv hNs hNb
  obtain ⟨c0, c1, c2, c3, c4, c5, c6, c7, c8, c9, c10⟩ := NE0.out.cells
  obtain ⟨n0, n1, n2, n3, n4, n5, -⟩ := cells6 HNb.out
  obtain ⟨hu, hu', k1, k1', k2, k2', HU⟩ := NE0.out.prepS nf nl nz ne nr ns nf N ((Array.getElem?_eq_some_iff.1 HNb.out).1) HNE.out.2.2
  go_enter Try.func25, Try.ntmps25
  go_wp2_with fail
  rw [HN.out, HW.out]
  go_quiet (fail)
  go_wp2_with fail
  go_region_held3 (fun w' => w'.cell? ⟨E, 10, none⟩ = some (.map (some bs)) ∧ w'.cell? ⟨N, 0, none⟩ = some (.int .i64 nl) ∧ w'.cell? ⟨N, 1, none⟩ = some (.int .i64 nz) ∧ w'.cell? ⟨N, 2, none⟩ = some (.int .i64 ne) ∧ w'.cell? ⟨N, 3, none⟩ = some (.int .i64 nr) ∧ w'.cell? ⟨N, 4, none⟩ = some (.int .i32 ns) ∧ w'.cell? ⟨N, 5, none⟩ = some (.int .i64 nf)) (go_keep) (fail)
  generalize hw1 : putW Try.prog _ bs _ _ = w1
  obtain ⟨hE1, hb1⟩ : Elec w1 E bv bs me size ol oz oe r pl pz pe V (putN S nf ⟨nl, nz, ne, nr, ns, nf⟩) ∧ But [bs] w0 w1 := by
    rw [← hw1]
    exact HU.out _ ⟨rfl, rfl, rfl, rfl⟩
  go_wp2
  go_ret
  exact ⟨rfl, hE1, HB.out.trans (hb1.mono (by simp))⟩

set_option maxRecDepth 100000 in
set_option maxHeartbeats 4000000 in
theorem receive_a1 (E bv bs : Nat) (me size ol oz oe r pl pz pe : Int) (V S : Int → Option Note) (nl nz ne nr ns nf : Int) (w : World) (h : Elec w E bv bs me size ol oz oe r pl pz pe V S) (h1 : ns ≠ 0) (h2 : nr = r) :
    Calls Try.prog 25 #[.pointer (some ⟨E, 0, none⟩), .agg #[.int .i64 nl, .int .i64 nz, .int .i64 ne, .int .i64 nr, .int .i32 ns, .int .i64 nf]] w
    fun x w' => x = .returned (.bool false) ∧ Elec w' E bv bs me size ol oz oe r pl pz pe (putN V nf ⟨nl, nz, ne, nr, ns, nf⟩) (putN S nf ⟨nl, nz, ne, nr, ns, nf⟩) ∧ But [E, bv, bs] w w' := by
  obtain ⟨w0, hw0⟩ : ∃ w0, w.alloc (.cells #[.int .i64 nl, .int .i64 nz, .int .i64 ne, .int .i64 nr, .int .i32 ns, .int .i64 nf] 58) = w0 := ⟨_, rfl⟩
  have hb0 : But [] w w0 := hw0 ▸ (But.refl [] w).alloc _
  obtain ⟨N, hN⟩ : ∃ N, w.heap.size = N := ⟨_, rfl⟩
  have hNb : w0.heap[N]? = some (.cells #[.int .i64 nl, .int .i64 nz, .int .i64 ne, .int .i64 nr, .int .i32 ns, .int .i64 nf] 58) := hN ▸ one_new (hw0 ▸ But.refl [] w0 : But [] (w.alloc (.cells #[.int .i64 nl, .int .i64 nz, .int .i64 ne, .int .i64 nr, .int .i32 ns, .int .i64 nf] 58)) w0)
  have hE0 := h.but hb0 (by simp) (by simp) (by simp)
  have hNE : N ≠ E := fun e => by have := h.lt; omega
  have hNv : N ≠ bv := fun e => by have := h.v.lt; omega
  have hNs : N ≠ bs := fun e => by have := h.s.lt; omega
  have HB : Hid (But [E, bv, bs] w w0) := hb0.mono (by simp)
  have HW : Hid _ := hw0
  have HN : Hid _ := hN
  have NE0 : Hid (Elec w0 E bv bs me size ol oz oe r pl pz pe V S) := hE0
  have HNb : Hid (w0.heap[N]? = some (.cells #[.int .i64 nl, .int .i64 nz, .int .i64 ne, .int .i64 nr, .int .i32 ns, .int .i64 nf] 58)) := hNb
  have HNE : Hid (N ≠ E ∧ N ≠ bv ∧ N ≠ bs) := ⟨hNE, hNv, hNs⟩
  clear hb0 h hE0 hw0 hN hNE hNv hNs hNb
  subst h2
  obtain ⟨c0, c1, c2, c3, c4, c5, c6, c7, c8, c9, c10⟩ := NE0.out.cells
  obtain ⟨n0, n1, n2, n3, n4, n5, -⟩ := cells6 HNb.out
  obtain ⟨hu, hu', k1, k1', k2, k2', HU⟩ := NE0.out.prepV nf nl nz ne nr ns nf N ((Array.getElem?_eq_some_iff.1 HNb.out).1) HNE.out.2.1
  go_enter Try.func25, Try.ntmps25
  go_wp2_with fail
  rw [HN.out, HW.out]
  go_quiet (fail)
  go_wp2_with fail
  go_region_held3 (fun w' => w'.cell? ⟨E, 9, none⟩ = some (.map (some bv)) ∧ w'.cell? ⟨N, 0, none⟩ = some (.int .i64 nl) ∧ w'.cell? ⟨N, 1, none⟩ = some (.int .i64 nz) ∧ w'.cell? ⟨N, 2, none⟩ = some (.int .i64 ne) ∧ w'.cell? ⟨N, 3, none⟩ = some (.int .i64 nr) ∧ w'.cell? ⟨N, 4, none⟩ = some (.int .i32 ns) ∧ w'.cell? ⟨N, 5, none⟩ = some (.int .i64 nf)) (go_keep) (fail)
  generalize hw1 : putW Try.prog _ bv _ _ = w1
  obtain ⟨hE1, hb1⟩ : Elec w1 E bv bs me size ol oz oe nr pl pz pe (putN V nf ⟨nl, nz, ne, nr, ns, nf⟩) S ∧ But [bv] w0 w1 := by
    rw [← hw1]
    exact HU.out _ ⟨rfl, rfl, rfl, rfl⟩
  have HNb1 : Hid (w1.heap[N]? = some (.cells #[.int .i64 nl, .int .i64 nz, .int .i64 ne, .int .i64 nr, .int .i32 ns, .int .i64 nf] 58)) := (hb1.block N ((Array.getElem?_eq_some_iff.1 HNb.out).1) (by simpa using HNE.out.2.1)).trans HNb.out
  have NE1 : Hid (Elec w1 E bv bs me size ol oz oe nr pl pz pe (putN V nf ⟨nl, nz, ne, nr, ns, nf⟩) S) := hE1
  have HB1 : Hid (But [E, bv, bs] w w1) := HB.out.trans (hb1.mono (by simp))
  clear hw1 hu hu' k1 k1' k2 k2' HU hE1 hb1
  clear c0 c1 c2 c3 c4 c5 c6 c7 c8 c9 c10 n0 n1 n2 n3 n4 n5
  obtain ⟨c0, c1, c2, c3, c4, c5, c6, c7, c8, c9, c10⟩ := NE1.out.cells
  obtain ⟨n0, n1, n2, n3, n4, n5, -⟩ := cells6 HNb1.out
  obtain ⟨hu, hu', k1, k1', k2, k2', HU⟩ := NE1.out.prepS nf nl nz ne nr ns nf N ((Array.getElem?_eq_some_iff.1 HNb1.out).1) HNE.out.2.2
  go_wp2_with fail
  go_region_held3 (fun w' => w'.cell? ⟨E, 10, none⟩ = some (.map (some bs)) ∧ w'.cell? ⟨N, 0, none⟩ = some (.int .i64 nl) ∧ w'.cell? ⟨N, 1, none⟩ = some (.int .i64 nz) ∧ w'.cell? ⟨N, 2, none⟩ = some (.int .i64 ne) ∧ w'.cell? ⟨N, 3, none⟩ = some (.int .i64 nr) ∧ w'.cell? ⟨N, 4, none⟩ = some (.int .i32 ns) ∧ w'.cell? ⟨N, 5, none⟩ = some (.int .i64 nf)) (go_keep) (fail)
  generalize hw2 : putW Try.prog _ bs _ _ = w2
  obtain ⟨hE2, hb2⟩ : Elec w2 E bv bs me size ol oz oe nr pl pz pe (putN V nf ⟨nl, nz, ne, nr, ns, nf⟩) (putN S nf ⟨nl, nz, ne, nr, ns, nf⟩) ∧ But [bs] w1 w2 := by
    rw [← hw2]
    exact HU.out _ ⟨rfl, rfl, rfl, rfl⟩
  go_wp2
  go_ret
  exact ⟨rfl, hE2, HB1.out.trans (hb2.mono (by simp))⟩
end Go.Proofs.Qxb6604779a
