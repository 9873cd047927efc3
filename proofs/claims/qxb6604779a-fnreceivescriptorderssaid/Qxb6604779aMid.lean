/-
  The round's middle: the blocks and what keeps them.
-/
import Derived.Test.Qxb6604779aLoop
namespace Go.Proofs.Qxb6604779a
open Go.RowKit

theorem heap_lt {w : World} {b : Nat} {o : Obj} (h : w.heap[b]? = some o) : b < w.heap.size := (Array.getElem?_eq_some_iff.1 h).1

theorem mid_of {w wr x1 x2 x3 : World} {O E bv bt bs : Nat} {me size ol oz oe : Int} {s t : St} {n : Note}
    (HT : Top w wr O E me size ol oz oe s bv bs)
    (HB1 : But [] (wr.alloc (.cells #[.int .i64 n.l, .int .i64 n.z, .int .i64 n.e, .int .i64 n.r, .int .i32 n.s, .int .i64 n.f] 26)) x1)
    (HK : Kept w.heap.size E ((x1.alloc (.cells #[.int .i64 ol, .int .i64 oz, .int .i64 oe] 23)).alloc (.cells #[.int .i64 s.pl, .int .i64 s.pz, .int .i64 s.pe] 23)) x2)
    (HE2 : ElecAt x2 w.heap.size E me size ol oz oe t bt bs) (HB3 : But [] x2 x3) :
    Mid w ((x3.alloc (.cells #[.int .i64 ol, .int .i64 oz, .int .i64 oe] 23)).alloc (.cells #[.int .i64 t.pl, .int .i64 t.pz, .int .i64 t.pe] 23)) O E wr.heap.size (x1.heap.size + 1) x3.heap.size (x3.heap.size + 1) me size ol oz oe s t n bt bs := by
  have b1 : But [] wr x1 := ((But.refl [] wr).alloc _).trans HB1
  have b2 : But [] x1 ((x1.alloc (.cells #[.int .i64 ol, .int .i64 oz, .int .i64 oe] 23)).alloc (.cells #[.int .i64 s.pl, .int .i64 s.pz, .int .i64 s.pe] 23)) := ((But.refl [] x1).alloc _).alloc _
  have b3 : But [] x2 ((x3.alloc (.cells #[.int .i64 ol, .int .i64 oz, .int .i64 oe] 23)).alloc (.cells #[.int .i64 t.pl, .int .i64 t.pz, .int .i64 t.pe] 23)) := (HB3.alloc _).alloc _
  have hEl := HT.el.1.lt
  have hn := one_new HB1
  have hnl := heap_lt hn
  have hw0 := HT.below.size
  have h12 : wr.heap.size ≤ x1.heap.size := b1.size
  obtain ⟨_, hp0⟩ := two_new (But.refl [] ((x1.alloc (.cells #[.int .i64 ol, .int .i64 oz, .int .i64 oe] 23)).alloc (.cells #[.int .i64 s.pl, .int .i64 s.pz, .int .i64 s.pe] 23)))
  obtain ⟨hg, hp1⟩ := two_new (But.refl [] ((x3.alloc (.cells #[.int .i64 ol, .int .i64 oz, .int .i64 oe] 23)).alloc (.cells #[.int .i64 t.pl, .int .i64 t.pz, .int .i64 t.pe] 23)))
  have ho1 : x1.heap[O]? = _ := (b1.block O (heap_lt HT.o) (by simp)).trans HT.o
  have ho2 := HK.cells O _ _ _ HT.ne ((b2.block O (heap_lt ho1) (by simp)).trans ho1)
  have hn2 := HK.cells wr.heap.size _ _ _ (by omega) ((b2.block _ hnl (by simp)).trans hn)
  have hp2 := HK.cells (x1.heap.size + 1) _ _ _ (by omega) hp0
  have up : ∀ {b : Nat} {o : Obj}, x2.heap[b]? = some o → ((x3.alloc (.cells #[.int .i64 ol, .int .i64 oz, .int .i64 oe] 23)).alloc (.cells #[.int .i64 t.pl, .int .i64 t.pz, .int .i64 t.pe] 23)).heap[b]? = some o := fun h => (b3.block _ (heap_lt h) (by simp)).trans h
  have hsz2 : w.heap.size ≤ x2.heap.size := Nat.le_trans hw0 (Nat.le_trans (Nat.le_trans b1.size b2.size) HK.below.size)
  refine ⟨HE2.but b3, ?_, up ho2, up hn2, up hp2, hg, hp1⟩
  refine HT.below.trans ?_
  refine (b1.below hw0 (by simp)).trans ?_
  refine (b2.below (Nat.le_trans hw0 b1.size) (by simp)).trans ?_
  exact HK.below.trans (b3.below hsz2 (by simp))

theorem Mid.but {w wx wy : World} {O E N P0 G P1 : Nat} {me size ol oz oe : Int} {s t : St} {n : Note} {bv bs : Nat} (h : Mid w wx O E N P0 G P1 me size ol oz oe s t n bv bs) (hb : But [] wx wy) :
    Mid w wy O E N P0 G P1 me size ol oz oe s t n bv bs := by
  have up : ∀ {b : Nat} {o : Obj}, wx.heap[b]? = some o → wy.heap[b]? = some o := fun h => (hb.block _ (heap_lt h) (by simp)).trans h
  exact ⟨h.el.but hb, h.below.trans (hb.below h.below.size (by simp)), up h.o, up h.n, up h.p0, up h.g, up h.p1⟩
end Go.Proofs.Qxb6604779a
