/-
  The sum as data: grids of seven floats a term.
-/
import Derived.Test.Qxb6604178aElpB
import Derived.Test.Qxb6604178aElpF
import Derived.Laws.MakeOwn
namespace Go.Proofs.Qxb6604178a.Elp
open Go.RowKit Fl

def Grid (w : World) (b n : Nat) (G : Nat → Nat → Nat) : Prop := ∀ i j, i < n → j < 7 → w.cell? ⟨b, i * 7 + j, none⟩ = some (.float .f64 (G i j)) ∧ w.frozen? ⟨b, i * 7 + j, none⟩ = false
theorem Grid.but {w w' : World} {b n : Nat} {G : Nat → Nat → Nat} {X : List Nat} (h : Grid w b n G) (hb : But X w w') (hx : b ∉ X) : Grid w' b n G := fun i j hi hj => by
  have hc := (h i j hi hj)
  have hl := World.block_lt_of_cell? w _ hc.1
  exact ⟨(hb.cell (p := ⟨b, i * 7 + j, none⟩) hl hx).trans hc.1, (hb.frozen (p := ⟨b, i * 7 + j, none⟩) hl hx).trans hc.2⟩
theorem Grid.put {w : World} {b n : Nat} {G : Nat → Nat → Nat} (h : Grid w b n G) {i j : Nat} (hi : i < n) (hj : j < 7) (x : Nat) : Grid (w.setCell ⟨b, i * 7 + j, none⟩ (.float .f64 x)) b n (fun i' j' => if i' = i ∧ j' = j then x else G i' j') := fun i' j' hi' hj' => by
  refine ⟨?_, by rw [World.frozen?_setCell]; exact (h i' j' hi' hj').2⟩
  by_cases e : i' = i ∧ j' = j
  · obtain ⟨rfl, rfl⟩ := e
    rw [World.cell?_setCell_same _ _ _ (h i' j' hi' hj').1]
    simp
  · rw [World.cell?_setCell_other _ _ _ _ (by
      intro k
      injection k with _ k _
      exact e ⟨by omega, by omega⟩)]
    simp only [if_neg e]
    exact (h i' j' hi' hj').1
/-- Seven cells at once. -/
theorem Grid.put7 {w : World} {b n : Nat} {G : Nat → Nat → Nat} (h : Grid w b n G) {i : Nat} (hi : i < n) (x0 x1 x2 x3 x4 x5 x6 : Nat) :
    Grid (((((((w.setCell ⟨b, i * 7, none⟩ (.float .f64 x0)).setCell ⟨b, i * 7 + 1, none⟩ (.float .f64 x1)).setCell ⟨b, i * 7 + 2, none⟩ (.float .f64 x2)).setCell ⟨b, i * 7 + 3, none⟩ (.float .f64 x3)).setCell ⟨b, i * 7 + 4, none⟩ (.float .f64 x4)).setCell ⟨b, i * 7 + 5, none⟩ (.float .f64 x5)).setCell ⟨b, i * 7 + 6, none⟩ (.float .f64 x6)) b n
      (fun i' j' => if i' = i then [x0, x1, x2, x3, x4, x5, x6].getD j' 0 else G i' j') := by
  have := ((((((h.put hi (j := 0) (by omega) x0).put hi (j := 1) (by omega) x1).put hi (j := 2) (by omega) x2).put hi (j := 3) (by omega) x3).put hi (j := 4) (by omega) x4).put hi (j := 5) (by omega) x5).put hi (j := 6) (by omega) x6
  intro i' j' hi' hj'
  have h2 := this i' j' hi' hj'
  refine ⟨?_, h2.2⟩
  rw [show ∀ W : World, W.cell? ⟨b, i' * 7 + j', none⟩ = W.cell? ⟨b, i' * 7 + j', none⟩ from fun _ => rfl]
  refine h2.1.trans ?_
  by_cases e : i' = i
  · subst e
    rcases (show j' = 0 ∨ j' = 1 ∨ j' = 2 ∨ j' = 3 ∨ j' = 4 ∨ j' = 5 ∨ j' = 6 by omega) with rfl | rfl | rfl | rfl | rfl | rfl | rfl <;> simp
  · simp [e]

/-- The first k terms are done. -/
def TermsTo (w : World) (b n k : Nat) (amp : Nat → Nat) (coef : Nat → Nat → Option Nat) : Prop := ∃ G, Grid w b n G ∧ ∀ i, i < k → G i 0 = amp i ∧ ∀ j, j < 6 → canon (G i (j + 1)) = coef i j
theorem TermsTo.but {w w' : World} {b n k : Nat} {amp : Nat → Nat} {coef : Nat → Nat → Option Nat} {X : List Nat} (h : TermsTo w b n k amp coef) (hb : But X w w') (hx : b ∉ X) : TermsTo w' b n k amp coef := by
  obtain ⟨G, hg, hv⟩ := h
  exact ⟨G, hg.but hb hx, hv⟩
/-- What a store of a whole term needs. -/
theorem Grid.fourteen {w : World} {b n : Nat} {G : Nat → Nat → Nat} (h : Grid w b n G) {i : Nat} (hi : i < n) :
    (w.cell? ⟨b, i * 7, none⟩ = some (.float .f64 (G i 0)) ∧ w.cell? ⟨b, i * 7 + 1, none⟩ = some (.float .f64 (G i 1)) ∧ w.cell? ⟨b, i * 7 + 2, none⟩ = some (.float .f64 (G i 2)) ∧ w.cell? ⟨b, i * 7 + 3, none⟩ = some (.float .f64 (G i 3)) ∧ w.cell? ⟨b, i * 7 + 4, none⟩ = some (.float .f64 (G i 4)) ∧ w.cell? ⟨b, i * 7 + 5, none⟩ = some (.float .f64 (G i 5)) ∧ w.cell? ⟨b, i * 7 + 6, none⟩ = some (.float .f64 (G i 6))) ∧
    w.frozen? ⟨b, i * 7, none⟩ = false ∧ w.frozen? ⟨b, i * 7 + 1, none⟩ = false ∧ w.frozen? ⟨b, i * 7 + 2, none⟩ = false ∧ w.frozen? ⟨b, i * 7 + 3, none⟩ = false ∧ w.frozen? ⟨b, i * 7 + 4, none⟩ = false ∧ w.frozen? ⟨b, i * 7 + 5, none⟩ = false ∧ w.frozen? ⟨b, i * 7 + 6, none⟩ = false :=
  ⟨⟨(h i 0 hi (by omega)).1, (h i 1 hi (by omega)).1, (h i 2 hi (by omega)).1, (h i 3 hi (by omega)).1, (h i 4 hi (by omega)).1, (h i 5 hi (by omega)).1, (h i 6 hi (by omega)).1⟩,
    (h i 0 hi (by omega)).2, (h i 1 hi (by omega)).2, (h i 2 hi (by omega)).2, (h i 3 hi (by omega)).2, (h i 4 hi (by omega)).2, (h i 5 hi (by omega)).2, (h i 6 hi (by omega)).2⟩
/-- One term more. -/
theorem TermsTo.step {w W : World} {b n k : Nat} {amp : Nat → Nat} {coef : Nat → Nat → Option Nat} (h : TermsTo w b n k amp coef) (hk : k < n) (g : Nat → Nat) (hg : ∀ j, j < 6 → canon (g j) = coef k j)
    (hW : Same (((((((w.setCell ⟨b, k * 7, none⟩ (.float .f64 (amp k))).setCell ⟨b, k * 7 + 1, none⟩ (.float .f64 (g 0))).setCell ⟨b, k * 7 + 2, none⟩ (.float .f64 (g 1))).setCell ⟨b, k * 7 + 3, none⟩ (.float .f64 (g 2))).setCell ⟨b, k * 7 + 4, none⟩ (.float .f64 (g 3))).setCell ⟨b, k * 7 + 5, none⟩ (.float .f64 (g 4))).setCell ⟨b, k * 7 + 6, none⟩ (.float .f64 (g 5))) W) :
    TermsTo W b n (k + 1) amp coef ∧ But [b] w W := by
  obtain ⟨G, hgr, hv⟩ := h
  refine ⟨⟨_, (hgr.put7 hk _ _ _ _ _ _ _).but (X := []) (hW.but (But.refl _ _)) (by simp), fun i hi => ?_⟩, hW.but ?_⟩
  · by_cases e : i = k
    · subst e
      refine ⟨by simp, fun j hj => ?_⟩
      rw [← hg j hj]
      rcases (show j = 0 ∨ j = 1 ∨ j = 2 ∨ j = 3 ∨ j = 4 ∨ j = 5 by omega) with rfl | rfl | rfl | rfl | rfl | rfl <;> simp
    · simp only [if_neg e]
      exact hv i (by omega)
  · repeat refine But.setCell ?_ (.inl (by simp)) _
    exact But.refl _ _

theorem made7 (n m : Nat) (hm : m < n * 7) : (madeCells (Value.agg #[.float .f64 0, .float .f64 0, .float .f64 0, .float .f64 0, .float .f64 0, .float .f64 0, .float .f64 0]).cells (n * 7)).toList[m]? = some (.float .f64 0) := by
  have h7 : m % 7 < 7 := Nat.mod_lt _ (by omega)
  simp only [madeCells, Value.cells, Array.getElem?_toList, Array.getElem?_map, Array.getElem?_range, hm, if_true, Option.map_some]
  rcases (show m % 7 = 0 ∨ m % 7 = 1 ∨ m % 7 = 2 ∨ m % 7 = 3 ∨ m % 7 = 4 ∨ m % 7 = 5 ∨ m % 7 = 6 by omega) with h | h | h | h | h | h | h <;> simp [h]
theorem Grid.made {w : World} {B b n : Nat} (h : w.ownsRow B 70 7 (.slice (some ⟨b, 0, none⟩) n n) n (madeCells (Value.agg #[.float .f64 0, .float .f64 0, .float .f64 0, .float .f64 0, .float .f64 0, .float .f64 0, .float .f64 0]).cells (n * 7)).toList) : Grid w b n (fun _ _ => 0) := fun i j hi hj => by
  have hm : i * 7 + j < n * 7 := by omega
  exact ⟨(h.cellAt _ hm).trans (made7 n _ hm), h.frozenAt _⟩
theorem made1 (K m : Nat) (hm : m < K * 1) : (madeCells (Value.slice none 0 0).cells (K * 1)).toList[m]? = some (.slice none 0 0) := by
  simp only [madeCells, Value.cells, Array.getElem?_toList, Array.getElem?_map, Array.getElem?_range, hm, if_true, Option.map_some]
  simp [Nat.mod_one]

def ph0 (ph j : Nat) : Option Nat := if j = 0 then canon ph else some 0
def coefM (T : Nat → MT) (X : Nat → Nat → Nat) (ph : Nat) (i j : Nat) : Option Nat := combC (T i).m (fun q => canon (X q j)) (ph0 ph j) 4
def coefP (R : Nat → PT) (X : Nat → Nat → Nat) (i j : Nat) : Option Nat := combC (R i).m (fun q => canon (X q j)) (ph0 (R i).ph j) 13
def ampM (T : Nat → MT) (i : Nat) : Nat := (T i).a
def ampP (R : Nat → PT) (i : Nat) : Nat := (R i).a

/-- The rows of the perturbations, the first k done. -/
structure RowsTo (w : World) (bp K k : Nat) (L : Nat → Nat) (R : Nat → Nat → PT) (X : Nat → Nat → Nat) : Prop where
  all : ∀ q, q < K → ∃ v, w.cell? ⟨bp, q, none⟩ = some v ∧ w.frozen? ⟨bp, q, none⟩ = false
  done : ∀ q, q < k → ∃ bq, bp < bq ∧ bq < w.heap.size ∧ w.cell? ⟨bp, q, none⟩ = some (.slice (some ⟨bq, 0, none⟩) (L q) (L q)) ∧ TermsTo w bq (L q) (L q) (ampP (R q)) (coefP (R q) X)
theorem RowsTo.made {w : World} {B bp K : Nat} {L : Nat → Nat} {R : Nat → Nat → PT} {X : Nat → Nat → Nat} (h : w.ownsRow B 68 1 (.slice (some ⟨bp, 0, none⟩) K K) K (madeCells (Value.slice none 0 0).cells (K * 1)).toList) : RowsTo w bp K 0 L R X :=
  ⟨fun q hq => ⟨_, (h.cellAt q (by omega)).trans (made1 K q (by omega)), h.frozenAt q⟩, fun q hq => by omega⟩
theorem RowsTo.but {w w' : World} {bp K k : Nat} {L : Nat → Nat} {R : Nat → Nat → PT} {X : Nat → Nat → Nat} {Y : List Nat} (h : RowsTo w bp K k L R X) (hb : But Y w w') (hy : ∀ y ∈ Y, w.heap.size ≤ y) : RowsTo w' bp K k L R X := by
  have hb' : But [] w w' := hb.mono (fun y hm => .inr (hy y hm))
  refine ⟨fun q hq => ?_, fun q hq => ?_⟩
  · obtain ⟨v, h1, h2⟩ := h.all q hq
    exact ⟨v, hb'.has h1, (hb'.frozen (p := ⟨bp, q, none⟩) (World.block_lt_of_cell? w _ h1) (by simp)).trans h2⟩
  · obtain ⟨bq, h1, h2, h3, h4⟩ := h.done q hq
    exact ⟨bq, h1, Nat.lt_of_lt_of_le h2 hb.size, hb'.has h3, h4.but hb' (by simp)⟩
theorem RowsTo.past {w w' : World} {bp K k : Nat} {L : Nat → Nat} {R : Nat → Nat → PT} {X : Nat → Nat → Nat} {y : Nat} (h : RowsTo w bp K k L R X) (hb : But [y] w w') (hy : y < bp) : RowsTo w' bp K k L R X := by
  have cl : ∀ {q : Nat} {v : Value}, w.cell? ⟨bp, q, none⟩ = some v → w'.cell? ⟨bp, q, none⟩ = some v := fun {q} {v} h1 => (hb.cell (p := ⟨bp, q, none⟩) (World.block_lt_of_cell? w _ h1) (by simp; omega)).trans h1
  refine ⟨fun q hq => ?_, fun q hq => ?_⟩
  · obtain ⟨v, h1, h2⟩ := h.all q hq
    exact ⟨v, cl h1, (hb.frozen (p := ⟨bp, q, none⟩) (World.block_lt_of_cell? w _ h1) (by simp; omega)).trans h2⟩
  · obtain ⟨bq, h1, h2, h3, h4⟩ := h.done q hq
    exact ⟨bq, h1, Nat.lt_of_lt_of_le h2 hb.size, cl h3, h4.but hb (by simp; omega)⟩
/-- The next row's slice is laid. -/
theorem RowsTo.lay {w : World} {bp K k : Nat} {L : Nat → Nat} {R : Nat → Nat → PT} {X : Nat → Nat → Nat} (h : RowsTo w bp K k L R X) (hk : k < K) (u : Value) : RowsTo (w.setCell ⟨bp, k, none⟩ u) bp K k L R X := by
  have hb : But [bp] w (w.setCell ⟨bp, k, none⟩ u) := (But.refl [bp] w).setCell (.inl (by simp)) u
  obtain ⟨v0, hv0, hf0⟩ := h.all k hk
  refine ⟨fun q hq => ?_, fun q hq => ?_⟩
  · obtain ⟨v, h1, h2⟩ := h.all q hq
    by_cases e : q = k
    · subst e
      exact ⟨u, World.cell?_setCell_same _ _ _ hv0, by rw [World.frozen?_setCell]; exact h2⟩
    · exact ⟨v, by rw [World.cell?_setCell_other _ _ _ _ (by intro e'; injection e' with _ e' _; exact e e'.symm)]; exact h1, by rw [World.frozen?_setCell]; exact h2⟩
  · obtain ⟨bq, h1, h2, h3, h4⟩ := h.done q hq
    refine ⟨bq, h1, Nat.lt_of_lt_of_le h2 hb.size, ?_, h4.but hb (by simp; omega)⟩
    rw [World.cell?_setCell_other _ _ _ _ (by intro e'; injection e' with _ e' _; omega)]
    exact h3
/-- The next row is done. -/
theorem RowsTo.next {w w' : World} {bp bk K k : Nat} {L : Nat → Nat} {R : Nat → Nat → PT} {X : Nat → Nat → Nat} (h : RowsTo w bp K k L R X) (hb : But [bk] w w') (hbk : ∀ q, q < k → ∀ bq l c, w.cell? ⟨bp, q, none⟩ = some (.slice (some ⟨bq, 0, none⟩) l c) → bq ≠ bk) (hbp : bp < bk) (hlt : bk < w'.heap.size) (hc : w.cell? ⟨bp, k, none⟩ = some (.slice (some ⟨bk, 0, none⟩) (L k) (L k)))
    (ht : TermsTo w' bk (L k) (L k) (ampP (R k)) (coefP (R k) X)) : RowsTo w' bp K (k + 1) L R X := by
  have cl : ∀ {q : Nat} {v : Value}, w.cell? ⟨bp, q, none⟩ = some v → w'.cell? ⟨bp, q, none⟩ = some v := fun {q} {v} h1 => (hb.cell (p := ⟨bp, q, none⟩) (World.block_lt_of_cell? w _ h1) (by simp; omega)).trans h1
  refine ⟨fun q hq => ?_, fun q hq => ?_⟩
  · obtain ⟨v, h1, h2⟩ := h.all q hq
    exact ⟨v, cl h1, (hb.frozen (p := ⟨bp, q, none⟩) (World.block_lt_of_cell? w _ h1) (by simp; omega)).trans h2⟩
  · by_cases e : q = k
    · subst e
      exact ⟨bk, hbp, hlt, cl hc, ht⟩
    · obtain ⟨bq, h1, h2, h3, h4⟩ := h.done q (by omega)
      exact ⟨bq, h1, Nat.lt_of_lt_of_le h2 hb.size, cl h3, h4.but hb (by simpa using hbk q (by omega) bq _ _ h3)⟩

/-- The sum that was made. -/
def SumAt (w : World) (B : Nat) (v : Value) (n : Nat) (T : Nat → MT) (K : Nat) (L : Nat → Nat) (R : Nat → Nat → PT) (X : Nat → Nat → Nat) (ph : Nat) : Prop :=
  ∃ b1 bm bp, (B ≤ b1 ∧ B ≤ bm ∧ B ≤ bp) ∧ v = .agg #[.slice (some ⟨b1, 0, none⟩) 1 1, .slice (some ⟨bp, 0, none⟩) K K] ∧ w.cell? ⟨b1, 0, none⟩ = some (.slice (some ⟨bm, 0, none⟩) n n) ∧ TermsTo w bm n n (ampM T) (coefM T X ph) ∧ RowsTo w bp K K L R X
theorem SumAt.mono {w : World} {B B' : Nat} {v : Value} {n : Nat} {T : Nat → MT} {K : Nat} {L : Nat → Nat} {R : Nat → Nat → PT} {X : Nat → Nat → Nat} {ph : Nat} (h : SumAt w B v n T K L R X ph) (hB : B' ≤ B) : SumAt w B' v n T K L R X ph := by
  obtain ⟨b1, bm, bp, h0, h1⟩ := h
  exact ⟨b1, bm, bp, by omega, h1⟩
theorem SumAt.past {w w' : World} {B y : Nat} {v : Value} {n : Nat} {T : Nat → MT} {K : Nat} {L : Nat → Nat} {R : Nat → Nat → PT} {X : Nat → Nat → Nat} {ph : Nat} (h : SumAt w B v n T K L R X ph) (hb : But [y] w w') (hy : y < B) : SumAt w' B v n T K L R X ph := by
  obtain ⟨b1, bm, bp, h0, h1, h2, h3, h4⟩ := h
  exact ⟨b1, bm, bp, h0, h1, (hb.cell (p := ⟨b1, 0, none⟩) (World.block_lt_of_cell? w _ h2) (by simp; omega)).trans h2, h3.but hb (by simp; omega), h4.past hb (by omega)⟩
theorem SumAt.but {w w' : World} {B : Nat} {v : Value} {n : Nat} {T : Nat → MT} {K : Nat} {L : Nat → Nat} {R : Nat → Nat → PT} {X : Nat → Nat → Nat} {ph : Nat} (h : SumAt w B v n T K L R X ph) (hb : But [] w w') : SumAt w' B v n T K L R X ph := by
  obtain ⟨b1, bm, bp, h0, h1, h2, h3, h4⟩ := h
  exact ⟨b1, bm, bp, h0, h1, hb.has h2, h3.but hb (by simp), h4.but hb (by simp)⟩
end Go.Proofs.Qxb6604178a.Elp
