/-
  The script's loop, walked.
-/
import Derived.Test.Qxb6604779aPlain
import Derived.Deep.CutBlock
namespace Go.Proofs.Qxb6604779a
open Go.RowKit

/-- A note of six cells. -/
def NoteAt (w : World) (b o : Nat) (n : Note) : Prop := w.cell? ⟨b, o, none⟩ = some (.int .i64 n.l) ∧ w.cell? ⟨b, o + 1, none⟩ = some (.int .i64 n.z) ∧ w.cell? ⟨b, o + 2, none⟩ = some (.int .i64 n.e) ∧
  w.cell? ⟨b, o + 3, none⟩ = some (.int .i64 n.r) ∧ w.cell? ⟨b, o + 4, none⟩ = some (.int .i32 n.s) ∧ w.cell? ⟨b, o + 5, none⟩ = some (.int .i64 n.f)
/-- A row of notes. -/
def Notes (w : World) (a : Option Addr) (len : Nat) : Prop := 0 < len → ∃ b off, a = some ⟨b, off, none⟩ ∧ ∀ i, i < len → ∃ n, NoteAt w b (off + i * 6) n
theorem NoteAt.later {w w' : World} {B b o : Nat} {n : Note} (h : NoteAt w b o n) (hb : Below B w w') (hlt : b < B) : NoteAt w' b o n := by
  obtain ⟨h0, h1, h2, h3, h4, h5⟩ := h
  exact ⟨(hb.cell (p := ⟨b, o, none⟩) hlt).trans h0, (hb.cell (p := ⟨b, o + 1, none⟩) hlt).trans h1, (hb.cell (p := ⟨b, o + 2, none⟩) hlt).trans h2, (hb.cell (p := ⟨b, o + 3, none⟩) hlt).trans h3, (hb.cell (p := ⟨b, o + 4, none⟩) hlt).trans h4, (hb.cell (p := ⟨b, o + 5, none⟩) hlt).trans h5⟩
theorem NoteAt.lt {w : World} {b o : Nat} {n : Note} (h : NoteAt w b o n) : b < w.heap.size := World.block_lt_of_cell? w _ h.1

/-- The blocks of a round. -/
structure Mid (w wx : World) (O E N P0 G P1 : Nat) (me size ol oz oe : Int) (s t : St) (n : Note) (bv bs : Nat) : Prop where
  el : ElecAt wx w.heap.size E me size ol oz oe t bv bs
  below : Below w.heap.size w wx
  o : wx.heap[O]? = some (.cells #[.int .i64 ol, .int .i64 oz, .int .i64 oe] 23)
  n : wx.heap[N]? = some (.cells #[.int .i64 n.l, .int .i64 n.z, .int .i64 n.e, .int .i64 n.r, .int .i32 n.s, .int .i64 n.f] 26)
  p0 : wx.heap[P0]? = some (.cells #[.int .i64 s.pl, .int .i64 s.pz, .int .i64 s.pe] 23)
  g : wx.heap[G]? = some (.cells #[.int .i64 ol, .int .i64 oz, .int .i64 oe] 23)
  p1 : wx.heap[P1]? = some (.cells #[.int .i64 t.pl, .int .i64 t.pz, .int .i64 t.pe] 23)

theorem Entries.later {w w' : World} {a : Option Addr} {len : Nat} (h : Entries w a len) (hb : Below w.heap.size w w') : Entries w' a len := fun h0 => by
  obtain ⟨b, off, ha, hc⟩ := h h0
  exact ⟨b, off, ha, fun i hi => (hc i hi).later hb (hc i hi).lt⟩
theorem Notes.later {w w' : World} {a : Option Addr} {len : Nat} (h : Notes w a len) (hb : Below w.heap.size w w') : Notes w' a len := fun h0 => by
  obtain ⟨b, off, ha, hc⟩ := h h0
  refine ⟨b, off, ha, fun i hi => ?_⟩
  obtain ⟨n, hn⟩ := hc i hi
  exact ⟨n, hn.later hb hn.lt⟩
/-- The state at the head of the loop. -/
structure Top (w wx : World) (O E : Nat) (me size ol oz oe : Int) (s : St) (bv bs : Nat) : Prop where
  el : ElecAt wx w.heap.size E me size ol oz oe s bv bs
  below : Below w.heap.size w wx
  o : wx.heap[O]? = some (.cells #[.int .i64 ol, .int .i64 oz, .int .i64 oe] 23)
  ne : O ≠ E
theorem top_of {w w1 w2 : World} {o2 : Obj} {E : Nat} {me size ol oz oe : Int} {s : St} {bv bs : Nat} (hb : But [] ((w.alloc (.cells #[.int .i64 ol, .int .i64 oz, .int .i64 oe] 23)).alloc o2) w1) (he : ElecAt w2 w1.heap.size E me size ol oz oe s bv bs) (hb2 : Below w1.heap.size w1 w2) :
    Top w w2 w.heap.size E me size ol oz oe s bv bs := by
  have hb0 : But [] w w1 := (((But.refl [] w).alloc _).alloc _).trans hb
  obtain ⟨n1, -⟩ := two_new hb
  have hlt := (Array.getElem?_eq_some_iff.1 n1).1
  obtain ⟨h1, h2, h3, h4⟩ := he
  exact ⟨⟨h1, by omega, by omega, by omega⟩, (hb0.below (Nat.le_refl _) (by simp)).trans (hb2.mono (by omega)), (hb2.block _ hlt).trans n1, by omega⟩

end Go.Proofs.Qxb6604779a
