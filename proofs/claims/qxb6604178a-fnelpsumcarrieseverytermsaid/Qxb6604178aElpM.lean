/-
  FnElpSumMainSeesOnlyFirstFourArguments, walked.
-/
import Derived.Test.Qxb6604178aElpG
import Derived.Test.Qxb6604178aElpJ
import Derived.Test.Qxb6604178aElpK
import Derived.Test.Qxb6604178aElpL
import Derived.Deep.RegionHeld3
import Derived.Deep.DeepCutAuto
import Derived.Deep.MidRow
namespace Go.Proofs.Qxb6604178a.Elp
open Go.RowKit Fl

theorem info26 : (Try.prog.info? 26).map (fun i => (i.zero, i.size)) = some (some (.agg (Array.replicate 78 (.float .f64 0))), 78) := by kernel_rfl
theorem info53 : (Try.prog.info? 53).map (·.size) = some 54 := by kernel_rfl

/-- Thirteen polynomials, or nine, as an array. -/
def Arr (cs : Array Value) (m : Nat) (X : Nat → Nat → Nat) : Prop := cs.size = m * 6 ∧ ∀ i j, i < m → j < 6 → cs[i * 6 + j]? = some (.float .f64 (X i j))
theorem Arr.one {cs : Array Value} {m : Nat} {X : Nat → Nat → Nat} (h : Arr cs m X) : cs.all (·.oneCell') = true := by
  rw [Array.all_eq_true]
  intro q hq
  have hq' : q < m * 6 := by rw [← h.1]; exact hq
  have := h.2 (q / 6) (q % 6) (by omega) (Nat.mod_lt _ (by omega))
  rw [show q / 6 * 6 + q % 6 = q by omega, Array.getElem?_eq_getElem hq] at this
  injection this with this
  rw [this]
  rfl
theorem Perts.lens {w : World} {a : Option Addr} {K : Nat} {L : Nat → Nat} {R : Nat → Nat → PT} (h : Perts w a K L R) : Lens w a K L := fun h0 => by
  obtain ⟨b, off, ha, hc⟩ := h h0
  refine ⟨b, off, ha, fun k hk => ?_⟩
  obtain ⟨ak, ck, h1, -⟩ := hc k hk
  exact ⟨ak, ck, h1⟩
theorem But.belowAll {w w' : World} (h : But [] w w') : Below w.heap.size w w' := h.below (Nat.le_refl _) (by simp)
theorem but_of_below {w w' : World} (h : Below w.heap.size w w') : But [] w w' := ⟨h.os, h.tape, h.output, h.size, fun k hk _ => h.block k hk⟩
theorem But.at {w w' : World} (h : But [] w w') {b : Nat} {o : Obj} (hb : w.heap[b]? = some o) : w'.heap[b]? = some o := (h.block b (heap_lt hb) (by simp)).trans hb

def Mix (X Y : Nat → Nat → Nat) (k i j : Nat) : Nat := if 4 ≤ i ∧ i < 4 + k then Y (i - 4) j else X i j
theorem setRow_but (w : World) (o : Obj) (cs : Array Value) : But [] w ((w.alloc o).setRow w.heap.size cs) :=
  ⟨rfl, rfl, rfl, by simp [World.setRow], fun k hk _ => by rw [setRow_other _ _ _ _ (by omega), Below.heap_alloc _ _ _ hk]⟩
theorem Arr.cells {w : World} {b m : Nat} {C : Array Value} {t : TypeId} {X : Nat → Nat → Nat} (h : Arr C m X) (hb : w.heap[b]? = some (.cells C t)) {i : Nat} (hi : i < m) :
    (w.cell? ⟨b, i * 6, none⟩ = some (.float .f64 (X i 0)) ∧ w.cell? ⟨b, i * 6 + 1, none⟩ = some (.float .f64 (X i 1)) ∧ w.cell? ⟨b, i * 6 + 2, none⟩ = some (.float .f64 (X i 2)) ∧ w.cell? ⟨b, i * 6 + 3, none⟩ = some (.float .f64 (X i 3)) ∧ w.cell? ⟨b, i * 6 + 4, none⟩ = some (.float .f64 (X i 4)) ∧ w.cell? ⟨b, i * 6 + 5, none⟩ = some (.float .f64 (X i 5))) ∧
    w.frozen? ⟨b, i * 6, none⟩ = false ∧ w.frozen? ⟨b, i * 6 + 1, none⟩ = false ∧ w.frozen? ⟨b, i * 6 + 2, none⟩ = false ∧ w.frozen? ⟨b, i * 6 + 3, none⟩ = false ∧ w.frozen? ⟨b, i * 6 + 4, none⟩ = false ∧ w.frozen? ⟨b, i * 6 + 5, none⟩ = false := by
  have c : ∀ j, j < 6 → w.cell? ⟨b, i * 6 + j, none⟩ = some (.float .f64 (X i j)) := fun j hj => (cell_of_row _ _ _ _ _ _ hb).trans (h.2 i j hi hj)
  have f : ∀ q, w.frozen? ⟨b, q, none⟩ = false := fun q => frozen_of_row w b q C t hb
  exact ⟨⟨c 0 (by omega), c 1 (by omega), c 2 (by omega), c 3 (by omega), c 4 (by omega), c 5 (by omega)⟩, f _, f _, f _, f _, f _, f _⟩

theorem Arr.congr {C : Array Value} {m : Nat} {X Y : Nat → Nat → Nat} (h : Arr C m X) (hxy : ∀ i j, i < m → j < 6 → Y i j = X i j) : Arr C m Y := ⟨h.1, fun i j hi hj => by rw [hxy i j hi hj]; exact h.2 i j hi hj⟩
theorem Arr.put6 {w : World} {b m k : Nat} {C : Array Value} {t : TypeId} {X : Nat → Nat → Nat} (h : Arr C m X) (hc : w.heap[b]? = some (.cells C t)) (hk : k < m) (x : Nat → Nat) :
    ∃ C', ((((((w.setCell ⟨b, k * 6, none⟩ (.float .f64 (x 0))).setCell ⟨b, k * 6 + 1, none⟩ (.float .f64 (x 1))).setCell ⟨b, k * 6 + 2, none⟩ (.float .f64 (x 2))).setCell ⟨b, k * 6 + 3, none⟩ (.float .f64 (x 3))).setCell ⟨b, k * 6 + 4, none⟩ (.float .f64 (x 4))).setCell ⟨b, k * 6 + 5, none⟩ (.float .f64 (x 5))).heap[b]? = some (.cells C' t) ∧ Arr C' m (fun i j => if i = k then x j else X i j) := by
  have h1 := heap_setCell_same _ b (k * 6) _ t (.float .f64 (x 0)) hc
  have h2 := heap_setCell_same _ b (k * 6 + 1) _ t (.float .f64 (x 1)) h1
  have h3 := heap_setCell_same _ b (k * 6 + 2) _ t (.float .f64 (x 2)) h2
  have h4 := heap_setCell_same _ b (k * 6 + 3) _ t (.float .f64 (x 3)) h3
  have h5 := heap_setCell_same _ b (k * 6 + 4) _ t (.float .f64 (x 4)) h4
  have h6 := heap_setCell_same _ b (k * 6 + 5) _ t (.float .f64 (x 5)) h5
  have hs := h.1
  refine ⟨_, h6, by simpa using hs, fun i j hi hj => ?_⟩
  simp only [Array.getElem?_setIfInBounds, Array.size_setIfInBounds, hs]
  by_cases e : i = k
  · subst e
    rcases (show j = 0 ∨ j = 1 ∨ j = 2 ∨ j = 3 ∨ j = 4 ∨ j = 5 by omega) with rfl | rfl | rfl | rfl | rfl | rfl
    all_goals (repeat' split)
    all_goals first
      | rfl
      | (exfalso; omega)
      | simp
  · rw [if_neg (by omega), if_neg (by omega), if_neg (by omega), if_neg (by omega), if_neg (by omega), if_neg (by omega), if_neg e]
    exact h.2 i j hi hj

theorem range_of {W w' : World} {b : Nat} {C : Array Value} {t : TypeId} (h : W.heap[b]? = some (.cells C t)) (hb : But [] W w') : w'.rangeAt b 0 C.toList := fun j v hv => by
  rw [cell_of_row _ _ _ _ _ _ (hb.at h), Nat.zero_add]
  simpa using hv

theorem sum_c {w : World} {B : Nat} {x y : Value} {n : Nat} {T : Nat → MT} {K : Nat} {L : Nat → Nat} {R : Nat → Nat → PT} {X : Nat → Nat → Nat} {ph : Nat} (h : SumAt w B (.agg #[x, y]) n T K L R X ph) :
    (w.alloc (.cells #[x, y] 32)).heap[w.heap.size]? = some (.cells #[x, y] 32) ∧ SumAt (w.alloc (.cells #[x, y] 32)) 0 (.agg #[x, y]) n T K L R X ph :=
  ⟨heap_alloc_new w _, (h.mono (Nat.zero_le _)).but ((But.refl [] w).alloc _)⟩
theorem sum_ab {w : World} {B b : Nat} {x y u v : Value} {n : Nat} {T : Nat → MT} {K : Nat} {L : Nat → Nat} {R : Nat → Nat → PT} {X : Nat → Nat → Nat} {ph : Nat} (h : SumAt w B (.agg #[x, y]) n T K L R X ph) (hz : w.heap[b]? = some (.cells #[u, v] 32)) (hb : b < B) :
    ((w.setCell ⟨b, 0, none⟩ x).setCell ⟨b, 1, none⟩ y).heap[b]? = some (.cells #[x, y] 32) ∧ SumAt ((w.setCell ⟨b, 0, none⟩ x).setCell ⟨b, 1, none⟩ y) 0 (.agg #[x, y]) n T K L R X ph :=
  ⟨set2_1 (set2_0 hz), (h.past (((But.refl [b] w).setCell (.inl (by simp)) _).setCell (.inl (by simp)) _) hb).mono (Nat.zero_le _)⟩

/-- Six floats in a block, read alone. -/
def PolyIs (w : World) (p : Nat) (g : Nat → Nat) : Prop := ∀ j, j < 6 → w.cell? ⟨p, j, none⟩ = some (.float .f64 (g j))
theorem PolyIs.new (w : World) (g : Nat → Nat) : PolyIs (w.alloc (.cells #[.float .f64 (g 0), .float .f64 (g 1), .float .f64 (g 2), .float .f64 (g 3), .float .f64 (g 4), .float .f64 (g 5)] 25)) w.heap.size g := fun j hj => by
  rw [cell_of_row _ _ _ _ _ _ (heap_alloc_new w _)]
  rcases (show j = 0 ∨ j = 1 ∨ j = 2 ∨ j = 3 ∨ j = 4 ∨ j = 5 by omega) with rfl | rfl | rfl | rfl | rfl | rfl <;> rfl
theorem PolyIs.but {w w' : World} {p : Nat} {g : Nat → Nat} (h : PolyIs w p g) (hb : But [] w w') : PolyIs w' p g := fun j hj => hb.has (h j hj)
theorem coef_mix {T : Nat → MT} {X Y : Nat → Nat → Nat} {ph i j : Nat} : coefM T X ph i j = coefM T (Mix X Y 9) ph i j := by
  simp only [coefM, combC, Mix]
  simp

set_option maxRecDepth 100000 in
set_option maxHeartbeats 4000000 in
theorem law5_any (a0 a1 : Option Addr) (n c0 K c1 : Nat) (T : Nat → MT) (L : Nat → Nat) (R : Nat → Nat → PT) (cs ds : Array Value) (X Y : Nat → Nat → Nat) (ph : Nat) (w : World) (h0 : Mains w a0 n T) (h1 : Perts w a1 K L R) (hX : Arr cs 13 X) (hY : Arr ds 9 Y) :
    Calls Try.prog 5 #[.slice a0 n c0, .slice a1 K c1, .agg cs, .float .f64 ph, .agg ds] w
    fun x w' => x = .returned (.bool true) ∧ But [] w w' := by
  have H0 : Hid _ := h0
  have H1 : Hid _ := h1
  have HX : Hid (Arr cs 13 X) := hX
  have HY : Hid (Arr ds 9 Y) := hY
  clear h0 h1 hX hY
  go_enter Try.func5, Try.ntmps5
  go_upto_region 1 with fail
  have hb0 : But [] w ((w.alloc (.cells cs 26)).alloc (.cells ds 53)) := ((But.refl [] w).alloc _).alloc _
  have hc0 := two_old w (.cells cs 26) (.cells ds 53)
  have hd0 := two_new (But.refl [] ((w.alloc (.cells cs 26)).alloc (.cells ds 53)))
  have HB0 : Hid _ := hb0
  have HC0 : Hid _ := hc0
  have HD0 : Hid _ := hd0
  clear hb0 hc0 hd0
  generalize World.alloc (World.alloc w _) _ = w0 at HB0 HC0 HD0 ⊢
  generalize hb9 : w.heap.size + 1 = b9 at HD0 ⊢
  generalize hb7 : w.heap.size = b7 at HC0 ⊢
  have HI26 : Hid ((Try.prog.info? 26).map (·.size) = some cs.size) := by
    have := (zero_of_info info26).2
    rw [← show cs.size = 78 from HX.out.1] at this
    exact this
  have HI53 : Hid ((Try.prog.info? 53).map (·.size) = some ds.size) := by
    have := info53
    rw [← show ds.size = 54 from HY.out.1] at this
    exact this
  go_upto_region 5 with (first
    | (refine wpList_load_row rfl 26 (.tmp 7) rfl b7 rfl 26 cs (0, 0) _ HC0.out Try.underlying26 rfl HI26.out ?_)
    | (refine wpList_load_row rfl 53 (.tmp 9) rfl b9 rfl 53 ds (0, 0) _ HD0.out Try.underlying53 rfl HI53.out ?_)
    | (go_at_call 22; refine (bytes22_any a0 a1 n c0 K c1 L cs ds ph _ (Perts.lens (Perts.later H1.out HB0.out.belowAll))).mono ?_; rintro e w1 ⟨⟨b, rfl⟩, hb⟩; have HB1 : Hid _ := hb; clear hb; cases b)
    | (go_at_call 8; refine (tooBig_any a0 a1 n c0 K c1 L _ (Perts.lens (Perts.later H1.out (HB0.out.trans HB1.out).belowAll))).mono ?_; rintro e w2 ⟨b, rfl, hbd, hb⟩; have HB2 : Hid _ := hb; have HBd : Hid _ := hbd; clear hb hbd; cases b))
  · go_ret
    exact ⟨rfl, HB0.out.trans HB1.out⟩
  rotate_left
  · go_ret
    exact ⟨rfl, (HB0.out.trans HB1.out).trans HB2.out⟩
  obtain ⟨hn, hK, hL⟩ := HBd.out trivial
  have HL : Hid _ := hL
  have HBw : Hid _ := (HB0.out.trans HB1.out).trans HB2.out
  have HC2 : Hid _ := (HB1.out.trans HB2.out).at HC0.out
  have HD2 : Hid _ := (HB1.out.trans HB2.out).at HD0.out
  clear HBd hL HB1 HB2 HC0 HD0
  have z26 := (zero_of_info info26).1
  go_upto_region 7 with (first
    | (refine wpList_load_row rfl 26 (.tmp 7) rfl b7 rfl 26 cs (0, 0) _ HC2.out Try.underlying26 rfl HI26.out ?_)
    | (refine wpList_store_row rfl 26 (.tmp 11) (.tmp 31) rfl w2.heap.size cs rfl rfl 26 _ (heap_alloc_new w2 _) HI26.out (by rw [HX.out.1]; simp) HX.out.one ?_))
  have hb3 := setRow_but w2 (.cells (Array.replicate 78 (.float .f64 0)) 26) cs
  have hc3 := setRow_heap (w2.alloc (.cells (Array.replicate 78 (.float .f64 0)) 26)) w2.heap.size _ cs 26 _ (heap_alloc_new w2 _)
  have HB3 : Hid _ := hb3
  have HC3 : Hid _ := hc3
  clear hb3 hc3 z26
  generalize World.setRow _ _ _ = w3 at HB3 HC3 ⊢
  generalize hb11 : w2.heap.size = b11 at HC3 ⊢
  go_loopw [12] (fun i wr => ∃ k : Nat, k ≤ 9 ∧ i = .int .i64 k ∧ But [] w2 wr ∧ ∃ C, wr.heap[b11]? = some (.cells C 26) ∧ Arr C 13 (Mix X Y k)) (fun i _ => 9 - (intOf i).toNat)
  case atStart => exact ⟨0, by omega, rfl, HB3.out, cs, HC3.out, HX.out.1, fun i j hi hj => by rw [HX.out.2 i j hi hj, Mix, if_neg (by omega)]⟩
  case round =>
    obtain ⟨k, hk, rfl, hb, C, hC, hA⟩ := hrel
    clear HB3 HC3
    have HB3 : Hid _ := hb
    have HC3 : Hid _ := hC
    have HA3 : Hid (Arr C 13 (Mix X Y k)) := hA
    clear hb hC hA
    by_cases hlt : k < 9
    · obtain ⟨⟨q0, q1, q2, q3, q4, q5⟩, -⟩ := HY.out.cells (HB3.out.at HD2.out) hlt
      obtain ⟨⟨d0, d1, d2, d3, d4, d5⟩, f0, f1, f2, f3, f4, f5⟩ := HA3.out.cells HC3.out (i := 4 + k) (by omega)
      go_wp2
      obtain ⟨C', hC', hA'⟩ := HA3.out.put6 HC3.out (k := 4 + k) (by omega) (Y k)
      refine ⟨⟨k + 1, by omega, by simp, ?_, C', hC', hA'.congr fun i j hi hj => ?_⟩, by simp [intOf]; omega⟩
      · repeat refine But.setCell ?_ (.inr (by simp; omega)) _
        exact HB3.out
      · unfold Mix
        by_cases e : i = 4 + k
        · subst e
          rw [if_pos (by omega), if_pos rfl, show 4 + k - 4 = k by omega]
        · rw [if_neg e]
          by_cases e2 : 4 ≤ i ∧ i < 4 + k
          · rw [if_pos (by omega), if_pos e2]
          · rw [if_neg (by omega), if_neg e2]
    · have HK9 : Hid (k = 9) := (by omega : k = 9)
      go_upto_region 10 with fail
      clear hlt hk
      have HBr : Hid (But [] w wr) := HBw.out.trans HB3.out
      have HCr : Hid (wr.heap[b7]? = some (.cells cs 26)) := HB3.out.at HC2.out
      have HLi : Hid ((Try.prog.info? 26).map (·.size) = some cs.toList.length) := by
        have h : (Try.prog.info? 26).map (·.size) = some cs.toList.length := by rw [Array.length_toList]; exact HI26.out
        exact h
      go_cut [13] (fun c wy => ∃ b x y, c = .pointer (some ⟨b, 0, none⟩) ∧ wy.heap[b]? = some (.cells #[x, y] 32) ∧ wr.heap.size ≤ b ∧ SumAt wy 0 (.agg #[x, y]) n T K L (negR false R) X ph ∧ But [] wr wy)
      case first =>
        as_aux_lemma =>
          have hu26 := Try.underlying26
          have hi26 := HLi.out
          go_region_held3 (fun w' => w'.rangeAt b7 0 cs.toList) (exact range_of HCr.out (by repeat (first | with_reducible exact But.refl _ _ | apply But.alloc | apply But.drewN | apply But.drew | (refine But.trans ?_ HB6.out) | (refine But.trans ?_ HB5.out) | (refine But.setCell ?_ (.inr (by first | omega | (simp; done) | (simp; omega))) _)))) (first
            | (go_at_call 10; refine (build_any a0 a1 n c0 K c1 false T L R _ (Mains.later H0.out (But.belowAll (HBr.out.trans (by repeat (first | with_reducible exact But.refl _ _ | apply But.alloc | apply But.drewN | apply But.drew | (refine But.trans ?_ HB6.out) | (refine But.trans ?_ HB5.out) | (refine But.setCell ?_ (.inr (by first | omega | (simp; done) | (simp; omega))) _)))))) (Perts.later H1.out (But.belowAll (HBr.out.trans (by repeat (first | with_reducible exact But.refl _ _ | apply But.alloc | apply But.drewN | apply But.drew | (refine But.trans ?_ HB6.out) | (refine But.trans ?_ HB5.out) | (refine But.setCell ?_ (.inr (by first | omega | (simp; done) | (simp; omega))) _)))))) hn hK HL.out).mono ?_; rintro e w5 ⟨S, rfl, hs, hb⟩; have HS5 : Hid _ := hs; have HB5 : Hid _ := but_of_below hb; clear hs hb; have hs5 := HB5.out.size; (try simp at hs5); first | (have hz := But.at HB5.out (one_new (w := wr) (o := (.cells #[.slice none 0 0, .slice none 0 0] 32)) (by first | with_reducible exact But.refl _ _ | with_reducible exact (But.refl _ _).drew | with_reducible exact (But.refl _ _).drewN _))) | skip)
            | (go_at_call 9; refine (seriesSum_any _ S n T K L (negR false R) cs X ph _ (SerAt.but HS5.out (by repeat (first | with_reducible exact But.refl _ _ | apply But.alloc | apply But.drewN | apply But.drew | (refine But.trans ?_ HB6.out) | (refine But.trans ?_ HB5.out) | (refine But.setCell ?_ (.inr (by first | omega | (simp; done) | (simp; omega))) _)))) HX.out.2 hn hK HL.out).mono ?_; rintro e w6 ⟨v, rfl, hs, hb⟩; have HS6 : Hid _ := hs; have HB6 : Hid _ := hb; have hs6 := hb.size; (try simp at hs6); obtain ⟨b1, bm, bp, -, rfl, -⟩ := hs; clear hb; first | (have hz6 := But.at HB6.out hz; obtain ⟨z0, z1, zf0, zf1⟩ := cells2 hz6) | (have hz6 := But.at HB6.out (one_new (w := w5) (o := (.cells #[.slice none 0 0, .slice none 0 0] 32)) (by first | with_reducible exact But.refl _ _ | with_reducible exact (But.refl _ _).drew | with_reducible exact (But.refl _ _).drewN _)); obtain ⟨z0, z1, zf0, zf1⟩ := cells2 hz6) | skip))
          all_goals go_wp2_with fail
          all_goals go_meet
          all_goals first
            | exact ⟨_, .slice (some ⟨b1, 0, none⟩) 1 1, .slice (some ⟨bp, 0, none⟩) K K, rfl, (sum_ab HS6.out hz6 (by first | omega | (simp; done) | (simp; omega))).1, by omega, (sum_ab HS6.out hz6 (by first | omega | (simp; done) | (simp; omega))).2, (by repeat (first | with_reducible exact But.refl _ _ | apply But.alloc | apply But.drewN | apply But.drew | (refine But.trans ?_ HB6.out) | (refine But.trans ?_ HB5.out) | (refine But.setCell ?_ (.inr (by first | omega | (simp; done) | (simp; omega))) _)))⟩
            | exact ⟨_, .slice (some ⟨b1, 0, none⟩) 1 1, .slice (some ⟨bp, 0, none⟩) K K, rfl, (sum_c HS6.out).1, by omega, (sum_c HS6.out).2, (by repeat (first | with_reducible exact But.refl _ _ | apply But.alloc | apply But.drewN | apply But.drew | (refine But.trans ?_ HB6.out) | (refine But.trans ?_ HB5.out) | (refine But.setCell ?_ (.inr (by first | omega | (simp; done) | (simp; omega))) _)))⟩
      case rest =>
        obtain ⟨be, ex, ey, rfl, he, hle, hse, hbe⟩ := hcut
        have HBE : Hid (But [] w wc) := HBr.out.trans hbe
        have HCE : Hid (wc.heap[b11]? = some (.cells C 26)) := hbe.at HC3.out
        have HHe : Hid _ := he
        have HSe : Hid (SumAt wc 0 (.agg #[ex, ey]) n T K L (negR false R) X ph) := hse
        have HAr : Hid (Arr C 13 (Mix X Y 9)) := by
          have h := HA3.out
          rw [HK9.out] at h
          exact h
        have HLi' : Hid ((Try.prog.info? 26).map (·.size) = some C.toList.length) := by
          have h : (Try.prog.info? 26).map (·.size) = some C.toList.length := by rw [Array.length_toList, HAr.out.1]; exact (zero_of_info info26).2
          exact h
        clear he hle hse hbe HCr HBr HB3 HC3 HA3 HLi
        go_upto_region 11 with fail
        go_cut [14] (fun c wy => ∃ b x y, c = .pointer (some ⟨b, 0, none⟩) ∧ wy.heap[b]? = some (.cells #[x, y] 32) ∧ wc.heap.size ≤ b ∧ SumAt wy 0 (.agg #[x, y]) n T K L (negR false R) (Mix X Y 9) ph ∧ But [] wc wy)
        case first =>
          as_aux_lemma =>
            have hu26 := Try.underlying26
            have hi26 := HLi'.out
            go_region_held3 (fun w' => w'.rangeAt b11 0 C.toList) (exact range_of HCE.out (by repeat (first | with_reducible exact But.refl _ _ | apply But.alloc | apply But.drewN | apply But.drew | (refine But.trans ?_ HB6.out) | (refine But.trans ?_ HB5.out) | (refine But.setCell ?_ (.inr (by first | omega | (simp; done) | (simp; omega))) _)))) (first
              | (go_at_call 10; refine (build_any a0 a1 n c0 K c1 false T L R _ (Mains.later H0.out (But.belowAll (HBE.out.trans (by repeat (first | with_reducible exact But.refl _ _ | apply But.alloc | apply But.drewN | apply But.drew | (refine But.trans ?_ HB6.out) | (refine But.trans ?_ HB5.out) | (refine But.setCell ?_ (.inr (by first | omega | (simp; done) | (simp; omega))) _)))))) (Perts.later H1.out (But.belowAll (HBE.out.trans (by repeat (first | with_reducible exact But.refl _ _ | apply But.alloc | apply But.drewN | apply But.drew | (refine But.trans ?_ HB6.out) | (refine But.trans ?_ HB5.out) | (refine But.setCell ?_ (.inr (by first | omega | (simp; done) | (simp; omega))) _)))))) hn hK HL.out).mono ?_; rintro e w5 ⟨S, rfl, hs, hb⟩; have HS5 : Hid _ := hs; have HB5 : Hid _ := but_of_below hb; clear hs hb; have hs5 := HB5.out.size; (try simp at hs5); first | (have hz := But.at HB5.out (one_new (w := wc) (o := (.cells #[.slice none 0 0, .slice none 0 0] 32)) (by first | with_reducible exact But.refl _ _ | with_reducible exact (But.refl _ _).drew | with_reducible exact (But.refl _ _).drewN _))) | skip)
              | (go_at_call 9; refine (seriesSum_any _ S n T K L (negR false R) C (Mix X Y 9) ph _ (SerAt.but HS5.out (by repeat (first | with_reducible exact But.refl _ _ | apply But.alloc | apply But.drewN | apply But.drew | (refine But.trans ?_ HB6.out) | (refine But.trans ?_ HB5.out) | (refine But.setCell ?_ (.inr (by first | omega | (simp; done) | (simp; omega))) _)))) HAr.out.2 hn hK HL.out).mono ?_; rintro e w6 ⟨v, rfl, hs, hb⟩; have HS6 : Hid _ := hs; have HB6 : Hid _ := hb; have hs6 := hb.size; (try simp at hs6); obtain ⟨b1, bm, bp, -, rfl, -⟩ := hs; clear hb; first | (have hz6 := But.at HB6.out hz; obtain ⟨z0, z1, zf0, zf1⟩ := cells2 hz6) | (have hz6 := But.at HB6.out (one_new (w := w5) (o := (.cells #[.slice none 0 0, .slice none 0 0] 32)) (by first | with_reducible exact But.refl _ _ | with_reducible exact (But.refl _ _).drew | with_reducible exact (But.refl _ _).drewN _)); obtain ⟨z0, z1, zf0, zf1⟩ := cells2 hz6) | skip))
            all_goals go_wp2_with fail
            all_goals go_meet
            all_goals first
              | exact ⟨_, .slice (some ⟨b1, 0, none⟩) 1 1, .slice (some ⟨bp, 0, none⟩) K K, rfl, (sum_ab HS6.out hz6 (by first | omega | (simp; done) | (simp; omega))).1, by omega, (sum_ab HS6.out hz6 (by first | omega | (simp; done) | (simp; omega))).2, (by repeat (first | with_reducible exact But.refl _ _ | apply But.alloc | apply But.drewN | apply But.drew | (refine But.trans ?_ HB6.out) | (refine But.trans ?_ HB5.out) | (refine But.setCell ?_ (.inr (by first | omega | (simp; done) | (simp; omega))) _)))⟩
              | exact ⟨_, .slice (some ⟨b1, 0, none⟩) 1 1, .slice (some ⟨bp, 0, none⟩) K K, rfl, (sum_c HS6.out).1, by omega, (sum_c HS6.out).2, (by repeat (first | with_reducible exact But.refl _ _ | apply But.alloc | apply But.drewN | apply But.drew | (refine But.trans ?_ HB6.out) | (refine But.trans ?_ HB5.out) | (refine But.setCell ?_ (.inr (by first | omega | (simp; done) | (simp; omega))) _)))⟩
        case rest =>
          obtain ⟨bf, fx, fy, rfl, hf, hle, hsf, hbf⟩ := hcut
          have HBF : Hid (But [] w wc) := HBE.out.trans hbf
          have HE : Hid (wc.heap[be]? = some (.cells #[ex, ey] 32)) := hbf.at HHe.out
          have HF : Hid (wc.heap[bf]? = some (.cells #[fx, fy] 32)) := hf
          have HSE : Hid (SumAt wc 0 (.agg #[ex, ey]) n T K L (negR false R) X ph) := SumAt.but HSe.out hbf
          have HSF : Hid (SumAt wc 0 (.agg #[fx, fy]) n T K L (negR false R) (Mix X Y 9) ph) := hsf
          clear hf hle hsf hbf HSe HHe HCE HBE HAr HLi' HC2 HD2 HX HY
          go_upto_region 12 with fail
          go_cut [61] (fun c wy => c = .bool false ∧ But [] wc wy)
          case first =>
            as_aux_lemma =>
              obtain ⟨x0, x1, -, -⟩ := cells2 HE.out
              go_wp2_with (go_at_call 11; first
                | (have hq7 := hb7; refine (mainPowers_any 0 n _ T K L _ (Mix X Y 9) ph _ (SumAt.but HSF.out hq7)).mono ?_; rintro e w8 ⟨rfl, hb8⟩; clear hq7)
                | (refine (mainPowers_any 0 n _ T K L _ X ph _ HSE.out).mono ?_; rintro e w7 ⟨rfl, hb7⟩; obtain ⟨y0, y1, -, -⟩ := cells2 (hb7.at HF.out)))
              go_meet
              case rel => exact ⟨rfl, hb7.trans hb8⟩
          case rest =>
            obtain ⟨rfl, hb⟩ := hcut
            replace HBF : Hid _ := HBF.out.trans hb
            replace HE : Hid _ := hb.at HE.out
            replace HF : Hid _ := hb.at HF.out
            replace HSE : Hid (SumAt wc 0 (.agg #[ex, ey]) n T K L (negR false R) X ph) := SumAt.but HSE.out hb
            replace HSF : Hid (SumAt wc 0 (.agg #[fx, fy]) n T K L (negR false R) (Mix X Y 9) ph) := SumAt.but HSF.out hb
            clear hb
            go_upto_region 14 with fail
            go_cut [73] (fun c wy => c = .bool false ∧ But [] wc wy)
            case first =>
              as_aux_lemma =>
                obtain ⟨x0, x1, -, -⟩ := cells2 HE.out
                go_wp2_with (go_at_call 12; first
                  | (have hq7 := hb7; refine (mainCount_any 0 n _ T K L _ (Mix X Y 9) ph _ (SumAt.but HSF.out hq7)).mono ?_; rintro e w8 ⟨rfl, hb8⟩; clear hq7)
                  | (refine (mainCount_any 0 n _ T K L _ X ph _ HSE.out).mono ?_; rintro e w7 ⟨rfl, hb7⟩; obtain ⟨y0, y1, -, -⟩ := cells2 (hb7.at HF.out)))
                go_meet
                case rel => exact ⟨rfl, hb7.trans hb8⟩
            case rest =>
              obtain ⟨rfl, hb⟩ := hcut
              replace HBF : Hid _ := HBF.out.trans hb
              replace HE : Hid _ := hb.at HE.out
              replace HF : Hid _ := hb.at HF.out
              replace HSE : Hid (SumAt wc 0 (.agg #[ex, ey]) n T K L (negR false R) X ph) := SumAt.but HSE.out hb
              replace HSF : Hid (SumAt wc 0 (.agg #[fx, fy]) n T K L (negR false R) (Mix X Y 9) ph) := SumAt.but HSF.out hb
              clear hb
              go_wp2
              go_loopw [15] (fun i wr => ∃ q : Nat, q ≤ n ∧ i = .int .i64 q ∧ But [] wc wr) (fun i _ => n - (intOf i).toNat)
              case atStart => exact ⟨0, Nat.zero_le _, rfl, But.refl _ _⟩
              case round =>
                obtain ⟨q, hq, rfl, hb⟩ := hrel
                have HB9 : Hid _ := hb
                obtain ⟨x0, x1, -, -⟩ := cells2 (hb.at HE.out)
                clear hb
                by_cases hlt : q < n
                · have HSE9 : Hid (SumAt wr 0 (.agg #[ex, ey]) n T K L (negR false R) X ph) := SumAt.but HSE.out HB9.out
                  go_upto_region 20 with (go_at_call 13; refine (mainTerm_any 0 n _ T K L _ X ph q _ HSE9.out hlt).mono ?_; rintro e w7 ⟨g1, rfl, hg1, hb7⟩; have HG1 : Hid _ := hg1; have HB7 : Hid _ := hb7; clear hg1 hb7 x0 x1)
                  have HP1 : Hid _ := PolyIs.new w7 g1
                  have HB10 : Hid (But [] wc (w7.alloc (.cells #[.float .f64 (g1 0), .float .f64 (g1 1), .float .f64 (g1 2), .float .f64 (g1 3), .float .f64 (g1 4), .float .f64 (g1 5)] 25))) := (HB9.out.trans HB7.out).alloc _
                  have HSF9 : Hid (SumAt (w7.alloc (.cells #[.float .f64 (g1 0), .float .f64 (g1 1), .float .f64 (g1 2), .float .f64 (g1 3), .float .f64 (g1 4), .float .f64 (g1 5)] 25)) 0 (.agg #[fx, fy]) n T K L (negR false R) (Mix X Y 9) ph) := SumAt.but HSF.out HB10.out
                  clear HB7 HSE9
                  generalize World.alloc w7 _ = w8 at HP1 HB10 HSF9 ⊢
                  generalize w7.heap.size = p1 at HP1 ⊢
                  obtain ⟨y0, y1, -, -⟩ := cells2 (HB10.out.at HF.out)
                  go_upto_region 21 with (go_at_call 13; refine (mainTerm_any 0 n _ T K L _ (Mix X Y 9) ph q _ HSF9.out hlt).mono ?_; rintro e w9 ⟨g2, rfl, hg2, hb9⟩; have HG2 : Hid _ := hg2; have HB8 : Hid _ := hb9; clear hg2 hb9 y0 y1)
                  have HP2 : Hid _ := PolyIs.new w9 g2
                  have HP1' : Hid _ := PolyIs.but HP1.out (HB8.out.alloc (.cells #[.float .f64 (g2 0), .float .f64 (g2 1), .float .f64 (g2 2), .float .f64 (g2 3), .float .f64 (g2 4), .float .f64 (g2 5)] 25))
                  have HB11 : Hid (But [] wc (w9.alloc (.cells #[.float .f64 (g2 0), .float .f64 (g2 1), .float .f64 (g2 2), .float .f64 (g2 3), .float .f64 (g2 4), .float .f64 (g2 5)] 25))) := (HB10.out.trans HB8.out).alloc _
                  clear HB8 HB10 HSF9 HP1
                  generalize World.alloc w9 _ = w10 at HP1' HP2 HB11 ⊢
                  generalize w9.heap.size = p2 at HP2 ⊢
                  go_wp2_with (go_at_call 14; refine (same_any _ _ _ (same_canon rfl)).mono ?_; rintro e w11 ⟨rfl, hb11⟩; have HB12 : Hid _ := hb11; clear hb11)
                  have HQ1 : Hid _ := PolyIs.but HP1'.out HB12.out
                  have HQ2 : Hid _ := PolyIs.but HP2.out HB12.out
                  have HB13 : Hid _ := HB11.out.trans HB12.out
                  clear HP1' HP2 HB11 HB12
                  go_loopw [20] (fun i wr => ∃ j : Nat, j ≤ 6 ∧ i = .int .i64 j ∧ But [] w11 wr) (fun i _ => 6 - (intOf i).toNat)
                  case atStart => exact ⟨0, Nat.zero_le _, rfl, But.refl _ _⟩
                  case round =>
                    obtain ⟨j, hj, rfl, hb⟩ := hrel
                    have HB14 : Hid _ := hb
                    clear hb
                    by_cases hlj : j < 6
                    · have c1 := PolyIs.but HQ1.out HB14.out j hlj
                      have c2 := PolyIs.but HQ2.out HB14.out j hlj
                      have hsame : SameF (g1 j) (g2 j) := same_canon (by rw [HG1.out j hlj, HG2.out j hlj, coef_mix (Y := Y)])
                      have HSm : Hid _ := hsame
                      clear hsame
                      go_wp2
                      go_region_with (first | (go_at_call 14; refine (same_any _ _ _ HSm.out).mono ?_; rintro e w12 ⟨rfl, hb12⟩; have HB15 : Hid _ := hb12; clear hb12))
                      all_goals go_wp2
                      all_goals
                        refine ⟨⟨j + 1, by omega, by simp, HB14.out.trans (But.trans (by repeat (first | with_reducible exact But.refl _ _ | apply But.drewN | apply But.drew)) (But.trans HB15.out (by repeat (first | with_reducible exact But.refl _ _ | apply But.drewN | apply But.drew))))⟩, by simp [intOf]; omega⟩
                    · go_wp2
                      refine ⟨⟨q + 1, by omega, by simp, HB13.out.trans HB14.out⟩, by simp [intOf]; omega⟩
                · go_wp2
                  go_ret
                  exact ⟨rfl, HBF.out.trans HB9.out⟩
end Go.Proofs.Qxb6604178a.Elp
