/-
  The arguments opened: votes by value, rows of entries and of notes.
-/
import Derived.Test.Qxb6604779aMid
import Derived.ProofKit
import Derived.OpenShut
import Derived.ShutString
import Derived.ChangeOld
import Derived.Below
import Derived.Deep.Slices
namespace Go.Proofs.Qxb6604779a
open Go.ChangeShapes Go.WideShapes Go.ChangeAt Go.RowKit Go.Deep

theorem cells2 : Try.prog.cellsOf 2 = 1 := by kernel_rfl
theorem cells21 : Try.prog.cellsOf 21 = 1 := by kernel_rfl
theorem cells23 : Try.prog.cellsOf 23 = 3 := by kernel_rfl
theorem cells26 : Try.prog.cellsOf 26 = 6 := by kernel_rfl
theorem cells36 : Try.prog.cellsOf 36 = 7 := by kernel_rfl

section
variable {H : Type} {enc : TypeId × Value → H} {w : World} {base : Nat} {spare : Nat → Bool} {held : Bool}

/-- A row of whatever elements, by its cells. -/
theorem open_each {P : Program} {r : Reach} {b0 : Nat} {t e : TypeId} {c : Nat} {v : Value} {d : DataW H} {p : List MemPlace} (ht : P.underlying t = some (.slice e)) (hc : P.cellsOf e = c) (h0 : 0 < c)
    (hv : Value.okWide P w r b0 t v) (h : DataW.Trod enc P w base spare held t v d p) :
    ∃ a len cap, v = .slice a len cap ∧ (0 < len → ∃ b off, a = some ⟨b, off, none⟩ ∧ ∀ i, i < len → ∃ n cs x, cs.length = c ∧ (∀ j, j < c → w.cell? ⟨b, off + i * c + j, none⟩ = cs[j]?) ∧ DataW.trod enc P w base spare held n e cs = some x) := by
  obtain ⟨a, len, cap, rfl⟩ := okWide_slice ht hv
  refine ⟨a, len, cap, rfl, fun hl => ?_⟩
  obtain ⟨fuel, hf⟩ := h
  rcases open_slice ht hf with ⟨hcs, _⟩ | ⟨a', len', cap', m, n, D, Pl, hcs, _, hle, _, hm, _, hx⟩
  · simp [Value.cells] at hcs
    omega
  · simp [Value.cells] at hcs
    obtain ⟨rfl, rfl, rfl⟩ := hcs
    have hlm : len ≤ m := by rw [hm]; split <;> omega
    rw [hc] at hx
    have hspot : a'.spot = none := by
      obtain ⟨cs', h1, _⟩ := hx 0 (by omega)
      obtain ⟨_, hlen, hcell⟩ := World.cells?_some h1
      have h2 := hcell 0 h0
      rw [List.getElem?_eq_getElem (by omega)] at h2
      have := World.cell?_spot h2
      simpa [Addr.add] using this
    obtain ⟨b, off, spot⟩ := a'
    simp only at hspot
    subst hspot
    refine ⟨b, off, rfl, fun i hi => ?_⟩
    obtain ⟨cs', h1, h2⟩ := hx i (by omega)
    obtain ⟨_, hlen, hcell⟩ := World.cells?_some h1
    refine ⟨n, cs', _, hlen, fun j hj => ?_, h2⟩
    rw [← hcell j hj, add_add, add_plain, Nat.add_assoc]

theorem list6 {α : Type} : (cs : List α) → cs.length = 6 → ∃ a b c d e f, cs = [a, b, c, d, e, f]
  | [a, b, c, d, e, f], _ => ⟨a, b, c, d, e, f, rfl⟩
theorem list7 {α : Type} : (cs : List α) → cs.length = 7 → ∃ a b c d e f g, cs = [a, b, c, d, e, f, g]
  | [a, b, c, d, e, f, g], _ => ⟨a, b, c, d, e, f, g, rfl⟩

theorem arr3 {α : Type} : (cs : Array α) → cs.size = 3 → ∃ a b c, cs = #[a, b, c]
  | ⟨[a, b, c]⟩, _ => ⟨a, b, c, rfl⟩

/-- A note's cells. -/
theorem note_of {fuel : Nat} {cs : List Value} {x : DataW H × List MemPlace} (hl : cs.length = 6) (h : DataW.trod enc Try.prog w base spare held fuel 26 cs = some x) :
    ∃ l z e r s f : Int, cs = [.int .i64 l, .int .i64 z, .int .i64 e, .int .i64 r, .int .i32 s, .int .i64 f] := by
  obtain ⟨c0, c1, c2, c3, c4, c5, rfl⟩ := list6 cs hl
  obtain ⟨xs, n, _, _, _, hlen, hf⟩ := DataW.trod_struct Try.underlying26 h
  have g : ∀ i, i < 6 → ∃ y, xs[i]? = some y := fun i hi => ⟨_, List.getElem?_eq_getElem (by rw [hlen]; exact hi)⟩
  have h0 := hf 0 _ rfl
  have h1 := hf 1 _ rfl
  have h2 := hf 2 _ rfl
  have h3 := hf 3 _ rfl
  have h4 := hf 4 _ rfl
  have h5 := hf 5 _ rfl
  obtain ⟨y0, e0⟩ := g 0 (by omega)
  obtain ⟨y1, e1⟩ := g 1 (by omega)
  obtain ⟨y2, e2⟩ := g 2 (by omega)
  obtain ⟨y3, e3⟩ := g 3 (by omega)
  obtain ⟨y4, e4⟩ := g 4 (by omega)
  obtain ⟨y5, e5⟩ := g 5 (by omega)
  rw [e0] at h0
  rw [e1] at h1
  rw [e2] at h2
  rw [e3] at h3
  rw [e4] at h4
  rw [e5] at h5
  simp [cells2, cells21] at h0 h1 h2 h3 h4 h5
  obtain ⟨n0, k0, _⟩ := DataW.trod_int Try.underlying2 h0
  obtain ⟨n1, k1, _⟩ := DataW.trod_int Try.underlying2 h1
  obtain ⟨n2, k2, _⟩ := DataW.trod_int Try.underlying2 h2
  obtain ⟨n3, k3, _⟩ := DataW.trod_int Try.underlying2 h3
  obtain ⟨n4, k4, _⟩ := DataW.trod_int Try.underlying21 h4
  obtain ⟨n5, k5, _⟩ := DataW.trod_int Try.underlying2 h5
  simp only [List.cons.injEq, and_true] at k0 k1 k2 k3 k4 k5
  subst k0 k1 k2 k3 k4 k5
  exact ⟨n0, n1, n2, n3, n4, n5, rfl⟩

/-- An entry's cells. -/
theorem entry_of {fuel : Nat} {cs : List Value} {x : DataW H × List MemPlace} (hl : cs.length = 7) (h : DataW.trod enc Try.prog w base spare held fuel 36 cs = some x) :
    ∃ k l z e r s f : Int, cs = [.int .i64 k, .int .i64 l, .int .i64 z, .int .i64 e, .int .i64 r, .int .i32 s, .int .i64 f] := by
  obtain ⟨c0, c1, c2, c3, c4, c5, c6, rfl⟩ := list7 cs hl
  obtain ⟨xs, n, _, _, _, hlen, hf⟩ := DataW.trod_struct Try.underlying36 h
  have g : ∀ i, i < 2 → ∃ y, xs[i]? = some y := fun i hi => ⟨_, List.getElem?_eq_getElem (by rw [hlen]; exact hi)⟩
  have h0 := hf 0 _ rfl
  have h1 := hf 1 _ rfl
  obtain ⟨y0, e0⟩ := g 0 (by omega)
  obtain ⟨y1, e1⟩ := g 1 (by omega)
  rw [e0] at h0
  rw [e1] at h1
  simp [cells2, cells26] at h0 h1
  obtain ⟨n0, k0, _⟩ := DataW.trod_int Try.underlying2 h0
  obtain ⟨l, z, e, r, s, f, k1⟩ := note_of rfl h1
  simp only [List.cons.injEq, and_true] at k0 k1
  obtain ⟨rfl, rfl, rfl, rfl, rfl, rfl⟩ := k1
  subst k0
  exact ⟨n0, l, z, e, r, s, f, rfl⟩

theorem open_notes {r : Reach} {b0 : Nat} {v : Value} {d : DataW H} {p : List MemPlace} (hv : Value.okWide Try.prog w r b0 37 v) (h : DataW.Trod enc Try.prog w base spare held 37 v d p) :
    ∃ a len cap, v = .slice a len cap ∧ Notes w a len := by
  obtain ⟨a, len, cap, rfl, hx⟩ := open_each Try.underlying37 cells26 (by omega) hv h
  refine ⟨a, len, cap, rfl, fun hl => ?_⟩
  obtain ⟨b, off, rfl, hc⟩ := hx hl
  refine ⟨b, off, rfl, fun i hi => ?_⟩
  obtain ⟨n, cs, x, hlen, hcell, ht⟩ := hc i hi
  obtain ⟨l, z, e, r, s, f, rfl⟩ := note_of hlen ht
  exact ⟨⟨l, z, e, r, s, f⟩, hcell 0 (by omega), hcell 1 (by omega), hcell 2 (by omega), hcell 3 (by omega), hcell 4 (by omega), hcell 5 (by omega)⟩

theorem open_entries {r : Reach} {b0 : Nat} {v : Value} {d : DataW H} {p : List MemPlace} (hv : Value.okWide Try.prog w r b0 24 v) (h : DataW.Trod enc Try.prog w base spare held 24 v d p) :
    ∃ a len cap, v = .slice a len cap ∧ Entries w a len := by
  obtain ⟨a, len, cap, rfl, hx⟩ := open_each Try.underlying24 cells36 (by omega) hv h
  refine ⟨a, len, cap, rfl, fun hl => ?_⟩
  obtain ⟨b, off, rfl, hc⟩ := hx hl
  refine ⟨b, off, rfl, fun i hi => ?_⟩
  obtain ⟨n, cs, x, hlen, hcell, ht⟩ := hc i hi
  obtain ⟨k, l, z, e, r, s, f, rfl⟩ := entry_of hlen ht
  exact ⟨k, l, z, e, r, s, f, hcell 0 (by omega), hcell 1 (by omega), hcell 2 (by omega), hcell 3 (by omega), hcell 4 (by omega), hcell 5 (by omega), hcell 6 (by omega)⟩

theorem open_vote {r : Reach} {b0 : Nat} {v : Value} {d : DataW H} {p : List MemPlace} (hv : Value.okWide Try.prog w r b0 23 v) (h : DataW.Trod enc Try.prog w base spare held 23 v d p) :
    ∃ l z e : Int, v = .agg #[.int .i64 l, .int .i64 z, .int .i64 e] := by
  obtain ⟨cs, rfl, hsz⟩ := okWide_struct Try.underlying23 hv
  obtain ⟨c0, c1, c2, rfl⟩ := arr3 cs (hsz.trans cells23)
  obtain ⟨fuel, hf⟩ := h
  obtain ⟨xs, n, _, _, _, hlen, hf⟩ := DataW.trod_struct Try.underlying23 hf
  have g : ∀ i, i < 3 → ∃ y, xs[i]? = some y := fun i hi => ⟨_, List.getElem?_eq_getElem (by rw [hlen]; exact hi)⟩
  have h0 := hf 0 _ rfl
  have h1 := hf 1 _ rfl
  have h2 := hf 2 _ rfl
  obtain ⟨y0, e0⟩ := g 0 (by omega)
  obtain ⟨y1, e1⟩ := g 1 (by omega)
  obtain ⟨y2, e2⟩ := g 2 (by omega)
  rw [e0] at h0
  rw [e1] at h1
  rw [e2] at h2
  simp [cells2, Value.cells] at h0 h1 h2
  obtain ⟨n0, k0, _⟩ := DataW.trod_int Try.underlying2 h0
  obtain ⟨n1, k1, _⟩ := DataW.trod_int Try.underlying2 h1
  obtain ⟨n2, k2, _⟩ := DataW.trod_int Try.underlying2 h2
  simp only [List.cons.injEq, and_true] at k0 k1 k2
  subst k0 k1 k2
  exact ⟨n0, n1, n2, rfl⟩
end
end Go.Proofs.Qxb6604779a
