/-
  combination, walked.
-/
import Derived.Test.Qxb6604178aElpA
import Derived.Deep.RegionHeld3
import Derived.Deep.CutBlock
import Derived.Deep.DeepCutAuto
namespace Go.Proofs.Qxb6604178a.Elp
open Go.RowKit Fl

/-- Six floats in a block of their own. -/
def PolyAt (w : World) (p : Nat) (g : Nat → Nat) : Prop := ∀ j, j < 6 → w.cell? ⟨p, j, none⟩ = some (.float .f64 (g j)) ∧ w.frozen? ⟨p, j, none⟩ = false
theorem PolyAt.put {w : World} {p : Nat} {g : Nat → Nat} (h : PolyAt w p g) {j : Nat} (hj : j < 6) (x : Nat) : PolyAt (w.setCell ⟨p, j, none⟩ (.float .f64 x)) p (fun i => if i = j then x else g i) := fun i hi => by
  refine ⟨?_, by rw [World.frozen?_setCell]; exact (h i hi).2⟩
  by_cases e : i = j
  · subst e
    rw [World.cell?_setCell_same _ _ _ (h i hi).1]
    simp
  · rw [World.cell?_setCell_other _ _ _ _ (by intro k; cases k; exact e rfl)]
    simp [e, (h i hi).1]
theorem PolyAt.drewN {w : World} {p : Nat} {g : Nat → Nat} (h : PolyAt w p g) (q : Nat) : PolyAt (w.drewN q) p g := h
theorem PolyAt.far {w : World} {p : Nat} {g : Nat → Nat} (h : PolyAt w p g) {a : Addr} (ha : a.block ≠ p) (v : Value) : PolyAt (w.setCell a v) p g := fun i hi => by
  refine ⟨?_, by rw [World.frozen?_setCell]; exact (h i hi).2⟩
  rw [World.cell?_setCell_other _ _ _ _ (by intro k; exact ha (by rw [k]))]
  exact (h i hi).1
theorem PolyAt.new (w : World) (x0 x1 x2 x3 x4 x5 : Nat) : PolyAt (w.alloc (.cells #[.float .f64 x0, .float .f64 x1, .float .f64 x2, .float .f64 x3, .float .f64 x4, .float .f64 x5] 61)) w.heap.size (fun j => [x0, x1, x2, x3, x4, x5].getD j 0) := fun i hi => by
  have e := heap_alloc_new w (.cells #[.float .f64 x0, .float .f64 x1, .float .f64 x2, .float .f64 x3, .float .f64 x4, .float .f64 x5] 61)
  rcases (show i = 0 ∨ i = 1 ∨ i = 2 ∨ i = 3 ∨ i = 4 ∨ i = 5 by omega) with rfl | rfl | rfl | rfl | rfl | rfl <;> exact ⟨by simp only [World.cell?, e]; rfl, by simp only [World.frozen?, e]; rfl⟩
theorem PolyAt.alloc {w : World} {p : Nat} {g : Nat → Nat} (h : PolyAt w p g) (o : Obj) : PolyAt (w.alloc o) p g := fun i hi => by
  have hb := World.block_lt_of_cell? w _ (h i hi).1
  exact ⟨by rw [World.cell?_alloc_lt _ _ _ hb]; exact (h i hi).1, by rw [World.frozen?_alloc_past _ _ _ hb]; exact (h i hi).2⟩
theorem PolyAt.six {w : World} {p : Nat} {g : Nat → Nat} (h : PolyAt w p g) : (w.cell? ⟨p, 0, none⟩ = some (.float .f64 (g 0)) ∧ w.cell? ⟨p, 1, none⟩ = some (.float .f64 (g 1)) ∧ w.cell? ⟨p, 2, none⟩ = some (.float .f64 (g 2)) ∧ w.cell? ⟨p, 3, none⟩ = some (.float .f64 (g 3)) ∧ w.cell? ⟨p, 4, none⟩ = some (.float .f64 (g 4)) ∧ w.cell? ⟨p, 5, none⟩ = some (.float .f64 (g 5))) ∧
    w.frozen? ⟨p, 0, none⟩ = false ∧ w.frozen? ⟨p, 1, none⟩ = false ∧ w.frozen? ⟨p, 2, none⟩ = false ∧ w.frozen? ⟨p, 3, none⟩ = false ∧ w.frozen? ⟨p, 4, none⟩ = false ∧ w.frozen? ⟨p, 5, none⟩ = false :=
  ⟨⟨(h 0 (by omega)).1, (h 1 (by omega)).1, (h 2 (by omega)).1, (h 3 (by omega)).1, (h 4 (by omega)).1, (h 5 (by omega)).1⟩, (h 0 (by omega)).2, (h 1 (by omega)).2, (h 2 (by omega)).2, (h 3 (by omega)).2, (h 4 (by omega)).2, (h 5 (by omega)).2⟩
theorem PolyAt.lt {w : World} {p : Nat} {g : Nat → Nat} (h : PolyAt w p g) : p < w.heap.size := World.block_lt_of_cell? w _ (h 0 (by omega)).1

/-- The thirteen polynomials. -/
def Polys (w : World) (b o : Nat) (X : Nat → Nat → Nat) : Prop := ∀ i j, i < 13 → j < 6 → w.cell? ⟨b, o + i * 6 + j, none⟩ = some (.float .f64 (X i j))
def Muls (w : World) (b o n : Nat) (ms : Nat → Int) : Prop := ∀ i, i < n → w.cell? ⟨b, o + i, none⟩ = some (.int .i8 (ms i))
theorem Polys.but {w w' : World} {b o : Nat} {X : Nat → Nat → Nat} (h : Polys w b o X) (hb : But [] w w') : Polys w' b o X := fun i j hi hj => hb.has (h i j hi hj)
theorem Muls.but {w w' : World} {b o n : Nat} {ms : Nat → Int} (h : Muls w b o n ms) (hb : But [] w w') : Muls w' b o n ms := fun i hi => hb.has (h i hi)

/-- The round's state. -/
structure CombAt (w wr : World) (R p : Nat) (ms : Nat → Int) (X : Nat → Nat → Nat) (ph : Nat) (f : Nat → Nat) (g : Nat → Nat) : Prop where
  but : But [] w wr
  res : PolyAt wr R (fun _ => 0)
  pol : PolyAt wr p g
  val : ∀ j, j < 6 → canon (g j) = combC ms (fun i => canon (X i j)) (if j = 0 then canon ph else some 0) (f j)

set_option maxRecDepth 100000 in
set_option maxHeartbeats 4000000 in
theorem comb_any (bm om n cm bp op cp : Nat) (ms : Nat → Int) (X : Nat → Nat → Nat) (ph : Nat) (w : World) (hn : n ≤ 13) (hm : Muls w bm om n ms) (hx : Polys w bp op X) :
    Calls Try.prog 33 #[.slice (some ⟨bm, om, none⟩) n cm, .slice (some ⟨bp, op, none⟩) 13 cp, .float .f64 ph] w
    fun x w' => ∃ g : Nat → Nat, x = .returned (.agg #[.float .f64 (g 0), .float .f64 (g 1), .float .f64 (g 2), .float .f64 (g 3), .float .f64 (g 4), .float .f64 (g 5)]) ∧
      (∀ j, j < 6 → canon (g j) = combC ms (fun i => canon (X i j)) (if j = 0 then canon ph else some 0) n) ∧ But [] w w' := by
  have HM : Hid (Muls w bm om n ms) := hm
  have HX : Hid (Polys w bp op X) := hx
  clear hm hx
  have hlt := World.block_lt_of_cell? w _ (HX.out 0 0 (by omega) (by omega))
  simp only at hlt
  have hne : ¬ w.heap.size + 1 = bp := by omega
  clear hlt
  go_enter Try.func33, Try.ntmps33
  go_wp2
  have h0 : CombAt w ((w.alloc (.cells #[.float .f64 0, .float .f64 0, .float .f64 0, .float .f64 0, .float .f64 0, .float .f64 0] 61)).alloc (.cells #[.float .f64 ph, .float .f64 0, .float .f64 0, .float .f64 0, .float .f64 0, .float .f64 0] 61)) w.heap.size (w.heap.size + 1) ms X ph (fun _ => 0) (fun j => [ph, 0, 0, 0, 0, 0].getD j 0) := by
    refine ⟨((But.refl [] w).alloc _).alloc _, ?_, ?_, ?_⟩
    · refine PolyAt.alloc ?_ _
      have := PolyAt.new w 0 0 0 0 0 0
      intro j hj
      rcases (show j = 0 ∨ j = 1 ∨ j = 2 ∨ j = 3 ∨ j = 4 ∨ j = 5 by omega) with rfl | rfl | rfl | rfl | rfl | rfl <;> exact this _ hj
    · have := PolyAt.new (w.alloc (.cells #[.float .f64 0, .float .f64 0, .float .f64 0, .float .f64 0, .float .f64 0, .float .f64 0] 61)) ph 0 0 0 0 0
      simpa using this
    · intro j hj
      rcases (show j = 0 ∨ j = 1 ∨ j = 2 ∨ j = 3 ∨ j = 4 ∨ j = 5 by omega) with rfl | rfl | rfl | rfl | rfl | rfl <;> simp [combC, canon_zero]
  have H0 : Hid _ := h0
  clear h0
  have hp : w.heap.size + 1 ≠ w.heap.size := by omega
  generalize hpe : w.heap.size + 1 = p at H0 hp hne ⊢
  go_loopw [15] (fun i wr => ∃ k : Nat, k ≤ n ∧ i = .int .i64 k ∧ ∃ g, CombAt w wr w.heap.size p ms X ph (fun _ => k) g) (fun i _ => n - (intOf i).toNat)
  case atStart => exact ⟨0, Nat.zero_le _, rfl, _, H0.out⟩
  case round =>
    obtain ⟨k, hk, rfl, g, hc⟩ := hrel
    clear H0
    have HC : Hid _ := hc
    clear hc
    by_cases hlt : k < n
    · have hmk := HC.out.but.has (HM.out k hlt)
      go_wp2
      go_loopw [20] (fun i wr => ∃ j : Nat, j ≤ 6 ∧ i = .int .i64 j ∧ ∃ g, CombAt w wr w.heap.size p ms X ph (fun i => if i < j then k + 1 else k) g) (fun i _ => 6 - (intOf i).toNat)
      case atStart => exact ⟨0, Nat.zero_le _, rfl, g, HC.out.but, HC.out.res, HC.out.pol, fun j hj => by simpa using HC.out.val j hj⟩
      case round =>
        obtain ⟨j, hj, rfl, g2, hc⟩ := hrel
        clear HC hmk
        have HC : Hid _ := hc
        clear hc
        by_cases hlj : j < 6
        · obtain ⟨hpc, hpf⟩ := HC.out.pol j hlj
          have hxc := HC.out.but.has (HX.out k j (by omega) hlj)
          go_wp2
          have hk13 : k < 13 := by omega
          have hbp : ¬ p = bp := hne
          have hbp' : ¬ bp = p := fun e => hne e.symm
          have hmul : ∀ w' : World, (binOp .mul 24 (.float .f64 (floatOfInt .f64 (ms k))) (.float .f64 (X k j))).run Try.prog w' = .ok (.float .f64 (rF .mul (floatOfInt .f64 (ms k)) (X k j) w')) (w'.drewN (dF .mul (floatOfInt .f64 (ms k)) (X k j))) := fun w' => run_mul_any _ _ _ _
          have hadd : ∀ (x : Nat) (w' : World), (binOp .add 24 (.float .f64 (g2 j)) (.float .f64 x)).run Try.prog w' = .ok (.float .f64 (rF .add (g2 j) x w')) (w'.drewN (dF .add (g2 j) x)) := fun x w' => run_add_any _ _ _ _
          go_region
          all_goals go_wp2
          all_goals
            refine ⟨⟨j + 1, by omega, by simp, _, ((HC.out.but.setCell (.inr (by simp; omega)) _).drewN _), (HC.out.res.far (by simpa using hp) _).drewN _, (HC.out.pol.put hlj _).drewN _, fun i hi => ?_⟩, by simp [intOf]; omega⟩
            have hv := HC.out.val i hi
            by_cases e : i = j
            · subst e
              simp only [Nat.lt_irrefl, if_false] at hv
              simp only [if_true, Nat.lt_succ_self]
              exact comb_step hv rfl
            · have e2 : (if i < j + 1 then k + 1 else k) = (if i < j then k + 1 else k) := by
                by_cases h : i < j
                · rw [if_pos h, if_pos (by omega)]
                · rw [if_neg h, if_neg (by omega)]
              simp only [if_neg e, e2]
              exact hv
        · go_wp2
          refine ⟨⟨k + 1, by omega, by simp, g2, HC.out.but, HC.out.res, HC.out.pol, fun i hi => ?_⟩, by simp [intOf]; omega⟩
          have := HC.out.val i hi
          have e : (if i < j then k + 1 else k) = k + 1 := if_pos (by omega)
          rwa [e] at this
    · obtain ⟨⟨q0, q1, q2, q3, q4, q5⟩, -⟩ := HC.out.pol.six
      obtain ⟨⟨r0, r1, r2, r3, r4, r5⟩, f0, f1, f2, f3, f4, f5⟩ := HC.out.res.six
      obtain rfl : k = n := by omega
      go_wp2
      refine bodyPost_ret (v := .agg #[.float .f64 (g 0), .float .f64 (g 1), .float .f64 (g 2), .float .f64 (g 3), .float .f64 (g 4), .float .f64 (g 5)]) (by simp [results, Try.results33, go_sem, r0, r1, r2, r3, r4, r5]) rfl ⟨g, rfl, HC.out.val, ?_⟩
      repeat refine But.setCell ?_ (.inr (Nat.le_refl _)) _
      exact HC.out.but
end Go.Proofs.Qxb6604178a.Elp
