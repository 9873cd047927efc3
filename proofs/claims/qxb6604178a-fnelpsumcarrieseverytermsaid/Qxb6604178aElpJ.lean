/-
  ZZElpSeriesSum, walked.
-/
import Derived.Test.Qxb6604178aElpI
import Derived.Deep.WholeRow
namespace Go.Proofs.Qxb6604178a.Elp
open Go.RowKit Fl

theorem info62 : (Try.prog.info? 62).map (fun i => (i.zero, i.size)) = some (some (.agg (Array.replicate 78 (.float .f64 0))), 78) := by kernel_rfl

/-- The thirteen polynomials in a block of their own, the first k laid. -/
def Laid (w : World) (b k : Nat) (X : Nat → Nat → Nat) : Prop := ∃ C : Array Value, w.heap[b]? = some (.cells C 62) ∧ C.size = 78 ∧ ∀ i j, i < k → j < 6 → C[i * 6 + j]? = some (.float .f64 (X i j))

theorem Laid.six {w : World} {b k : Nat} {X : Nat → Nat → Nat} (h : Laid w b k X) {i : Nat} (hi : i < 13) :
    (∃ v0 v1 v2 v3 v4 v5, w.cell? ⟨b, i * 6, none⟩ = some v0 ∧ w.cell? ⟨b, i * 6 + 1, none⟩ = some v1 ∧ w.cell? ⟨b, i * 6 + 2, none⟩ = some v2 ∧ w.cell? ⟨b, i * 6 + 3, none⟩ = some v3 ∧ w.cell? ⟨b, i * 6 + 4, none⟩ = some v4 ∧ w.cell? ⟨b, i * 6 + 5, none⟩ = some v5) ∧ ∀ m, w.frozen? ⟨b, m, none⟩ = false := by
  obtain ⟨C, hc, hs, -⟩ := h
  have g : ∀ m, m < 78 → ∃ v, w.cell? ⟨b, m, none⟩ = some v := fun m hm => ⟨C[m]'(by omega), by rw [cell_of_row _ _ _ _ _ _ hc]; exact Array.getElem?_eq_getElem (by omega)⟩
  obtain ⟨v0, h0⟩ := g (i * 6) (by omega)
  obtain ⟨v1, h1⟩ := g (i * 6 + 1) (by omega)
  obtain ⟨v2, h2⟩ := g (i * 6 + 2) (by omega)
  obtain ⟨v3, h3⟩ := g (i * 6 + 3) (by omega)
  obtain ⟨v4, h4⟩ := g (i * 6 + 4) (by omega)
  obtain ⟨v5, h5⟩ := g (i * 6 + 5) (by omega)
  exact ⟨⟨v0, v1, v2, v3, v4, v5, h0, h1, h2, h3, h4, h5⟩, fun m => frozen_of_row w b m C 62 hc⟩
theorem Laid.step {w W : World} {b k : Nat} {X : Nat → Nat → Nat} (h : Laid w b k X) (hk : k < 13)
    (hW : Same ((((((w.setCell ⟨b, k * 6, none⟩ (.float .f64 (X k 0))).setCell ⟨b, k * 6 + 1, none⟩ (.float .f64 (X k 1))).setCell ⟨b, k * 6 + 2, none⟩ (.float .f64 (X k 2))).setCell ⟨b, k * 6 + 3, none⟩ (.float .f64 (X k 3))).setCell ⟨b, k * 6 + 4, none⟩ (.float .f64 (X k 4))).setCell ⟨b, k * 6 + 5, none⟩ (.float .f64 (X k 5))) W) : Laid W b (k + 1) X := by
  obtain ⟨C, hc, hs, hv⟩ := h
  have h1 := heap_setCell_same _ b (k * 6) _ 62 (.float .f64 (X k 0)) hc
  have h2 := heap_setCell_same _ b (k * 6 + 1) _ 62 (.float .f64 (X k 1)) h1
  have h3 := heap_setCell_same _ b (k * 6 + 2) _ 62 (.float .f64 (X k 2)) h2
  have h4 := heap_setCell_same _ b (k * 6 + 3) _ 62 (.float .f64 (X k 3)) h3
  have h5 := heap_setCell_same _ b (k * 6 + 4) _ 62 (.float .f64 (X k 4)) h4
  have h6 := heap_setCell_same _ b (k * 6 + 5) _ 62 (.float .f64 (X k 5)) h5
  refine ⟨_, by rw [hW.heap]; exact h6, by simpa using hs, fun i j hi hj => ?_⟩
  simp only [Array.getElem?_setIfInBounds, Array.size_setIfInBounds, hs]
  by_cases e : i = k
  · subst e
    rcases (show j = 0 ∨ j = 1 ∨ j = 2 ∨ j = 3 ∨ j = 4 ∨ j = 5 by omega) with rfl | rfl | rfl | rfl | rfl | rfl
    all_goals (repeat' split)
    all_goals first
      | rfl
      | (exfalso; omega)
  · rw [if_neg (by omega), if_neg (by omega), if_neg (by omega), if_neg (by omega), if_neg (by omega), if_neg (by omega)]
    exact hv i j (by omega) hj

set_option maxRecDepth 100000 in
set_option maxHeartbeats 4000000 in
theorem seriesSum_any (B S n : Nat) (T : Nat → MT) (K : Nat) (L : Nat → Nat) (R : Nat → Nat → PT) (cs : Array Value) (X : Nat → Nat → Nat) (ph : Nat) (w : World) (hs : SerAt w B S n T K L R) (hX : ∀ i j, i < 13 → j < 6 → cs[i * 6 + j]? = some (.float .f64 (X i j))) (hn : n ≤ 65536) (hK : K ≤ 65536) (hL : ∀ k, k < K → L k ≤ 65536) :
    Calls Try.prog 9 #[.pointer (some ⟨S, 0, none⟩), .agg cs, .float .f64 ph] w
    fun x w' => ∃ v, x = .returned v ∧ SumAt w' w.heap.size v n T K L R X ph ∧ But [] w w' := by
  have HS : Hid _ := hs
  have HX : Hid (∀ i j, i < 13 → j < 6 → cs[i * 6 + j]? = some (.float .f64 (X i j))) := hX
  have HL : Hid (∀ k, k < K → L k ≤ 65536) := hL
  clear hs hX hL
  have z62 := (zero_of_info info62).1
  go_enter Try.func9, Try.ntmps9
  go_wp2
  have hb0 : But [] w (((w.alloc (.cells cs 26)).alloc (.cells #[.slice none 0 0, .slice none 0 0] 32)).alloc (.cells (Array.replicate 78 (.float .f64 0)) 62)) := (((But.refl [] w).alloc _).alloc _).alloc _
  have hx0 : Polys (((w.alloc (.cells cs 26)).alloc (.cells #[.slice none 0 0, .slice none 0 0] 32)).alloc (.cells (Array.replicate 78 (.float .f64 0)) 62)) w.heap.size 0 X := fun i j hi hj => by
    refine ((But.refl [] _).alloc _).has ?_
    rw [cell_of_row _ _ _ _ _ _ (two_old w _ _), Nat.zero_add]
    exact HX.out i j hi hj
  have hr0 : (((w.alloc (.cells cs 26)).alloc (.cells #[.slice none 0 0, .slice none 0 0] 32)).alloc (.cells (Array.replicate 78 (.float .f64 0)) 62)).heap[w.heap.size + 1]? = some (.cells #[.slice none 0 0, .slice none 0 0] 32) := two_new ((But.refl [] _).alloc _)
  have hl0 : Laid (((w.alloc (.cells cs 26)).alloc (.cells #[.slice none 0 0, .slice none 0 0] 32)).alloc (.cells (Array.replicate 78 (.float .f64 0)) 62)) (w.heap.size + 1 + 1) 0 X := by
    refine ⟨Array.replicate 78 (.float .f64 0), ?_, by simp, fun i j hi => by omega⟩
    have := heap_alloc_new ((w.alloc (.cells cs 26)).alloc (.cells #[.slice none 0 0, .slice none 0 0] 32)) (.cells (Array.replicate 78 (.float .f64 0)) 62)
    simpa using this
  have HB0 : Hid _ := hb0
  have HX0 : Hid _ := hx0
  have HR0 : Hid _ := hr0
  have HL0 : Hid _ := hl0
  clear hb0 hx0 hr0 hl0 z62
  generalize World.alloc (World.alloc (World.alloc w _) _) _ = w1 at HB0 HX0 HR0 HL0 ⊢
  generalize h7 : w.heap.size + 1 + 1 = b7 at HL0 ⊢
  generalize h6 : w.heap.size + 1 = r6 at HR0 ⊢
  generalize h5 : w.heap.size = b5 at HX0 ⊢
  go_loopw [8] (fun i wr => ∃ k : Nat, k ≤ 13 ∧ i = .int .i64 k ∧ But [b7] w1 wr ∧ Laid wr b7 k X) (fun i _ => 13 - (intOf i).toNat)
  case atStart => exact ⟨0, by omega, rfl, But.refl _ _, HL0.out⟩
  case round =>
    obtain ⟨k, hk, rfl, hb, hl⟩ := hrel
    have HB : Hid _ := hb
    have HLa : Hid _ := hl
    have cl : ∀ (m : Nat) (v : Value), w1.cell? ⟨b5, m, none⟩ = some v → wr.cell? ⟨b5, m, none⟩ = some v := fun m v h => (hb.cell (p := ⟨b5, m, none⟩) (World.block_lt_of_cell? w1 _ h) (by simp; omega)).trans h
    clear hb hl
    by_cases hlt : k < 13
    · have q0 := cl _ _ (HX0.out k 0 hlt (by omega))
      have q1 := cl _ _ (HX0.out k 1 hlt (by omega))
      have q2 := cl _ _ (HX0.out k 2 hlt (by omega))
      have q3 := cl _ _ (HX0.out k 3 hlt (by omega))
      have q4 := cl _ _ (HX0.out k 4 hlt (by omega))
      have q5 := cl _ _ (HX0.out k 5 hlt (by omega))
      simp only [Nat.zero_add, Nat.add_zero] at q0 q1 q2 q3 q4 q5
      obtain ⟨⟨v0, v1, v2, v3, v4, v5, d0, d1, d2, d3, d4, d5⟩, hf⟩ := Laid.six HLa.out hlt
      have f0 := hf (k * 6)
      have f1 := hf (k * 6 + 1)
      have f2 := hf (k * 6 + 2)
      have f3 := hf (k * 6 + 3)
      have f4 := hf (k * 6 + 4)
      have f5 := hf (k * 6 + 5)
      clear hf cl
      go_wp2
      refine ⟨⟨k + 1, by omega, by simp, ?_, Laid.step HLa.out hlt ⟨rfl, rfl, rfl, rfl⟩⟩, by simp [intOf]; omega⟩
      repeat refine But.setCell ?_ (.inl (by simp)) _
      exact HB.out
    · obtain rfl : k = 13 := by omega
      obtain ⟨C, hC, hCs, hCv⟩ := HLa.out
      have HC : Hid (∀ i j, i < 13 → j < 6 → C[i * 6 + j]? = some (.float .f64 (X i j))) := hCv
      have HCb : Hid (wr.heap[b7]? = some (.cells C 62)) := hC
      have hCi : (Try.prog.info? 62).map (·.size) = some C.size := by rw [(zero_of_info info62).2, hCs]
      have HCi : Hid _ := hCi
      clear hCi
      have HBw : Hid (But [] w wr) := ((HB0.out.mono (Y := [b7]) (by simp)).trans HB.out).mono (fun x hx => .inr (by simp only [List.mem_singleton] at hx; omega))
      have HRw : Hid (wr.heap[r6]? = some (.cells #[.slice none 0 0, .slice none 0 0] 32)) := (HB.out.block r6 (heap_lt HR0.out) (by simp; omega)).trans HR0.out
      clear hC hCs hCv cl
      go_wp2
      refine wp_load_row 62 (.tmp 7) rfl b7 rfl 62 C (0, 0) _ HCb.out Try.underlying62 rfl HCi.out ?_
      go_wp2_with (first | (go_at_call 27; refine (sum_any B S n T K L R C X ph _ (SerAt.but HS.out (HBw.out.trans (by repeat (first | with_reducible exact But.refl _ _ | apply But.drewN | apply But.drew)))) HC.out hn hK HL.out).mono ?_; rintro e w2 ⟨v, rfl, hs2, hb2⟩; have HS2 : Hid _ := hs2; have HB2 : Hid _ := hb2; obtain ⟨b1, bm, bp, -, rfl, -⟩ := hs2; obtain ⟨g0, g1, f0, f1⟩ := cells2 ((hb2.block r6 (heap_lt HRw.out) (by simp)).trans HRw.out); clear hb2))
      refine bodyPost_ret (v := .agg #[.slice (some ⟨b1, 0, none⟩) 1 1, .slice (some ⟨bp, 0, none⟩) K K]) (by simp [results, Try.results9, go_sem, g0, g1]) rfl ⟨_, rfl, ?_, ?_⟩
      · refine SumAt.mono (SumAt.past (y := r6) HS2.out ?_ (heap_lt HRw.out)) HBw.out.size
        exact ((But.refl [r6] _).setCell (.inl (by simp)) _).setCell (.inl (by simp)) _
      · exact (((HBw.out.trans HB2.out).setCell (.inr (by simp; omega)) _).setCell (.inr (by simp; omega)) _)
end Go.Proofs.Qxb6604178a.Elp
