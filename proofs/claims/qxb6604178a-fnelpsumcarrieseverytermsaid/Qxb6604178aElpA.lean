/-
  Floats that may be no numbers: the word up to a NaN's bits; what '+' and '*' give, whatever the operands. Worlds that keep their old blocks.
-/
import Derived.Test.Qxb6604178aRows
import Derived.Test.Qxb6604178aFl
import Derived.WalkKit
import Derived.WalkSpells
import Derived.WalkLawsBesides
import Derived.Below
namespace Go.Proofs.Qxb6604178a.Elp
open Go.RowKit Fl

/-- But for the blocks of X the old blocks are as they were. -/
structure But (X : List Nat) (w w' : World) : Prop where
  os : w'.os = w.os
  tape : w'.tape = w.tape
  output : w'.output = w.output
  size : w.heap.size ≤ w'.heap.size
  block : ∀ k, k < w.heap.size → k ∉ X → w'.heap[k]? = w.heap[k]?

theorem But.refl (X : List Nat) (w : World) : But X w w := ⟨rfl, rfl, rfl, Nat.le_refl _, fun _ _ _ => rfl⟩
theorem But.trans {X : List Nat} {a b c : World} (h : But X a b) (k : But X b c) : But X a c :=
  ⟨k.os.trans h.os, k.tape.trans h.tape, k.output.trans h.output, Nat.le_trans h.size k.size, fun i hi hx => (k.block i (Nat.lt_of_lt_of_le hi h.size) hx).trans (h.block i hi hx)⟩
theorem But.mono {X Y : List Nat} {a b : World} (h : But X a b) (hs : ∀ x ∈ X, x ∈ Y ∨ a.heap.size ≤ x) : But Y a b :=
  ⟨h.os, h.tape, h.output, h.size, fun i hi hx => h.block i hi fun hm => (hs i hm).elim hx fun h => by omega⟩
theorem But.drew {X : List Nat} {a w : World} (h : But X a w) : But X a w.drew := ⟨h.os, h.tape, h.output, h.size, h.block⟩
theorem But.drewN {X : List Nat} {a w : World} (h : But X a w) (q : Nat) : But X a (w.drewN q) := ⟨h.os, h.tape, h.output, h.size, h.block⟩
theorem But.alloc {X : List Nat} {a w : World} (h : But X a w) (o : Obj) : But X a (w.alloc o) :=
  h.trans ⟨rfl, rfl, rfl, by simp, fun k hk _ => Below.heap_alloc _ _ _ hk⟩
theorem But.setCell {X : List Nat} {a w : World} (h : But X a w) {p : Addr} (hp : p.block ∈ X ∨ a.heap.size ≤ p.block) (u : Value) : But X a (w.setCell p u) :=
  ⟨h.os, h.tape, h.output, by simpa [World.setCell] using h.size, fun k hk hx => by
    rw [Below.heap_setCell _ _ _ _ (fun e => ?_)]
    · exact h.block k hk hx
    · subst e; exact hp.elim hx fun h => by omega⟩
theorem But.cell {X : List Nat} {w w' : World} (h : But X w w') {p : Addr} (hp : p.block < w.heap.size) (hx : p.block ∉ X) : w'.cell? p = w.cell? p := World.cell?_of_block (w := w) (h.block p.block hp hx)
theorem But.frozen {X : List Nat} {w w' : World} (h : But X w w') {p : Addr} (hp : p.block < w.heap.size) (hx : p.block ∉ X) : w'.frozen? p = w.frozen? p := World.frozen?_of_block (w := w) (h.block p.block hp hx)
theorem But.below {X : List Nat} {w w' : World} (h : But X w w') {B : Nat} (hB : B ≤ w.heap.size) (hx : ∀ x ∈ X, B ≤ x) : Below B w w' :=
  ⟨h.os, h.tape, h.output, h.size, fun k hk => h.block k (by omega) fun hm => by have := hx k hm; omega⟩
/-- A cell that held something holds it still. -/
theorem But.has {w w' : World} (h : But [] w w') {p : Addr} {v : Value} (hc : w.cell? p = some v) : w'.cell? p = some v := (h.cell (World.block_lt_of_cell? w _ hc) (by simp)).trans hc
theorem But.grown {w w' : World} {row : Option Nat} {X : List Nat} (h : w.grownBy w' row) (hr : ∀ g, row = some g → g ∈ X) : But X w w' :=
  ⟨h.os, h.tape, h.output, h.size, fun k hk hx => h.block k hk fun e => hx (hr k e.symm)⟩

/-! ### Words -/
/-- The word stands for no number. -/
def nanW (x : Nat) : Bool := 9218868437227405312 < x % 9223372036854775808
/-- The word, up to the bits of a NaN. -/
def canon (x : Nat) : Option Nat := if nanW x = true then none else some x
def oadd (a b : Option Nat) : Option Nat := a.bind fun x => b.bind fun y => floatBits .add .f64 x y
def omul (a b : Option Nat) : Option Nat := a.bind fun x => b.bind fun y => floatBits .mul .f64 x y
/-- The word that an operation gives in a world. -/
def rF (op : BinOp) (x y : Nat) (w : World) : Nat := (floatBits op .f64 x y).getD ((Question.nanBits .f64 x y).cut (w.tape w.drawn (Question.nanBits .f64 x y)))
def dF (op : BinOp) (x y : Nat) : Nat := if (floatBits op .f64 x y).isSome then 0 else 1

section
variable {P : Program}
theorem run_add_any (x y : Nat) (t : TypeId) (w : World) : (binOp .add t (.float .f64 x) (.float .f64 y)).run P w = .ok (.float .f64 (rF .add x y w)) (w.drewN (dF .add x y)) := by
  cases h : floatBits .add .f64 x y with
  | some r =>
    rw [run_float_arith w .add t .f64 x y r h]
    simp [rF, dF, h, World.drewN_zero]
  | none =>
    have h' : FloatKind.f64.format.add x y = none := h
    simp [rF, dF, h, binOp, Op.floatArith, h', Question.forced, World.drew_is_drewN]
theorem run_mul_any (x y : Nat) (t : TypeId) (w : World) : (binOp .mul t (.float .f64 x) (.float .f64 y)).run P w = .ok (.float .f64 (rF .mul x y w)) (w.drewN (dF .mul x y)) := by
  cases h : floatBits .mul .f64 x y with
  | some r =>
    rw [run_float_arith w .mul t .f64 x y r h]
    simp [rF, dF, h, World.drewN_zero]
  | none =>
    have h' : FloatKind.f64.format.mul x y = none := h
    simp [rF, dF, h, binOp, Op.floatArith, h', Question.forced, World.drew_is_drewN]
end

theorem sw : Ieee.double.signWeight = 9223372036854775808 := by decide +kernel
theorem ir : Ieee.double.infRung = 9218868437227405312 := by decide +kernel
theorem bn : Ieee.double.binade = 4503599627370496 := by decide +kernel
theorem read_nan (x : Nat) : (∃ s t, Ieee.double.read x = .nan s t) ↔ nanW x = true := by
  unfold Ieee.Format.read nanW
  dsimp only
  rw [sw, ir, bn]
  constructor
  · rintro ⟨s, t, h⟩
    split at h
    · cases h
    · split at h
      · cases h
      · split at h
        · cases h
        · simp; omega
  · intro h
    simp at h
    rw [if_neg (by omega), if_neg (by omega), if_neg (by omega)]
    exact ⟨_, _, rfl⟩
theorem nan_word (s : Bool) (r : Nat) (h : r ≤ 9218868437227405312) : nanW (Ieee.double.word s r) = false := by
  unfold Ieee.Format.word nanW
  rw [sw]
  cases s <;> simp <;> omega
theorem nan_nearest (s : Bool) (m : Nat) (e : Int) : nanW (Ieee.double.nearest s m e) = false := by
  unfold Ieee.Format.nearest
  split
  · exact nan_word _ _ (by omega)
  · dsimp only
    refine nan_word _ _ ?_
    rw [ir]
    omega
theorem nan_write (d : Ieee.Datum) (h : ∀ s t, d ≠ .nan s t) : nanW (Ieee.double.write d) = false := by
  cases d with
  | number s m e => exact nan_nearest s m e
  | infinity s => exact nan_word s _ (by rw [ir]; omega)
  | nan s t => exact absurd rfl (h s t)
theorem sum_not_nan {a b d : Ieee.Datum} (h : a.sum b = some d) : ∀ s t, d ≠ .nan s t := by
  intro s t e
  subst e
  cases a <;> cases b <;> simp [Ieee.Datum.sum] at h
theorem product_not_nan {a b d : Ieee.Datum} (h : a.product b = some d) : ∀ s t, d ≠ .nan s t := by
  intro s t e
  subst e
  cases a <;> cases b <;> simp [Ieee.Datum.product] at h
theorem sum_nan {a b : Ieee.Datum} (h : (∃ s t, a = .nan s t) ∨ (∃ s t, b = .nan s t)) : a.sum b = none := by
  rcases h with ⟨s, t, rfl⟩ | ⟨s, t, rfl⟩
  · simp [Ieee.Datum.sum]
  · cases a <;> simp [Ieee.Datum.sum]
theorem product_nan {a b : Ieee.Datum} (h : (∃ s t, a = .nan s t) ∨ (∃ s t, b = .nan s t)) : a.product b = none := by
  rcases h with ⟨s, t, rfl⟩ | ⟨s, t, rfl⟩
  · simp [Ieee.Datum.product]
  · cases a <;> simp [Ieee.Datum.product]
theorem nan_cut (x y n : Nat) : nanW ((Question.nanBits .f64 x y).cut n) = true := by
  unfold nanW Question.cut
  simp only [decide_eq_true_eq]
  rcases Nat.mod_two_eq_zero_or_one n with h | h <;> rw [h] <;> omega
theorem canon_of {op : BinOp} (hop : op = .add ∨ op = .mul) (x y : Nat) (w : World) : canon (rF op x y w) = (canon x).bind fun a => (canon y).bind fun b => floatBits op .f64 a b := by
  have hn : nanW x = true ∨ nanW y = true → floatBits op .f64 x y = none := by
    intro h
    rw [← read_nan, ← read_nan] at h
    rcases hop with rfl | rfl
    · show ((Ieee.double.read x).sum (Ieee.double.read y)).map _ = none
      rw [sum_nan h]; rfl
    · show ((Ieee.double.read x).product (Ieee.double.read y)).map _ = none
      rw [product_nan h]; rfl
  have hs : ∀ r, floatBits op .f64 x y = some r → nanW r = false := by
    intro r h
    rcases hop with rfl | rfl
    · have h : ((Ieee.double.read x).sum (Ieee.double.read y)).map Ieee.double.write = some r := h
      obtain ⟨d, hd, rfl⟩ := Option.map_eq_some_iff.1 h
      exact nan_write d (sum_not_nan hd)
    · have h : ((Ieee.double.read x).product (Ieee.double.read y)).map Ieee.double.write = some r := h
      obtain ⟨d, hd, rfl⟩ := Option.map_eq_some_iff.1 h
      exact nan_write d (product_not_nan hd)
  have hr : canon (rF op x y w) = floatBits op .f64 x y := by
    unfold rF
    cases h : floatBits op .f64 x y with
    | some r => simp [canon, hs r h]
    | none => simp [canon, nan_cut]
  rw [hr]
  unfold canon
  by_cases h1 : nanW x = true
  · simp [h1, hn (.inl h1)]
  · by_cases h2 : nanW y = true
    · simp [h1, h2, hn (.inr h2)]
    · simp [h1, h2]
theorem canon_add (x y : Nat) (w : World) : canon (rF .add x y w) = oadd (canon x) (canon y) := canon_of (.inl rfl) x y w
theorem canon_mul (x y : Nat) (w : World) : canon (rF .mul x y w) = omul (canon x) (canon y) := canon_of (.inr rfl) x y w
theorem canon_int (n : Int) : canon (floatOfInt .f64 n) = some (floatOfInt .f64 n) := by
  have : nanW (floatOfInt .f64 n) = false := nan_nearest (n < 0) n.natAbs 0
  simp [canon, this]
theorem canon_zero : canon 0 = some 0 := by decide

/-- The sum of the first i products, up to a NaN's bits. -/
def combC (ms : Nat → Int) (col : Nat → Option Nat) (ph : Option Nat) : Nat → Option Nat
  | 0 => ph
  | i + 1 => oadd (combC ms col ph i) (omul (some (floatOfInt .f64 (ms i))) (col i))
theorem comb_step {ms : Nat → Int} {col : Nat → Option Nat} {ph : Option Nat} {i p x : Nat} {w w' : World} (hp : canon p = combC ms col ph i) (hx : canon x = col i) :
    canon (rF .add p (rF .mul (floatOfInt .f64 (ms i)) x w) w') = combC ms col ph (i + 1) := by
  rw [canon_add, canon_mul, canon_int, hp, hx]
  rfl
end Go.Proofs.Qxb6604178a.Elp
