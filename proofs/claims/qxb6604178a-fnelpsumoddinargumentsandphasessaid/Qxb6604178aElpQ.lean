/-
  FnElpSumOddInArgumentsAndPhases, walked.
-/
import Derived.Test.Qxb6604178aElpM
import Derived.Test.Qxb6604178aElpO
import Derived.Test.Qxb6604178aElpP
namespace Go.Proofs.Qxb6604178a.Elp
open Go.RowKit Fl

theorem five {w w' : World} {be bf bp o : Nat} {ex ey fx fy v : Value} (he : w.heap[be]? = some (.cells #[ex, ey] 32)) (hf : w.heap[bf]? = some (.cells #[fx, fy] 32)) (hp : w.cell? ⟨bp, o, none⟩ = some v) (hb : But [] w w') :
    w'.cell? ⟨be, 0, none⟩ = some ex ∧ w'.cell? ⟨be, 1, none⟩ = some ey ∧ w'.cell? ⟨bf, 0, none⟩ = some fx ∧ w'.cell? ⟨bf, 1, none⟩ = some fy ∧ w'.cell? ⟨bp, o, none⟩ = some v := by
  obtain ⟨a, b, -, -⟩ := cells2 (hb.at he)
  obtain ⟨c, d, -, -⟩ := cells2 (hb.at hf)
  exact ⟨a, b, c, d, hb.has hp⟩
def negX (X : Nat → Nat → Nat) (i j : Nat) : Nat := fneg (X i j)
theorem Arr.put1 {w : World} {b m i j : Nat} {C : Array Value} {t : TypeId} {X : Nat → Nat → Nat} (h : Arr C m X) (hc : w.heap[b]? = some (.cells C t)) (hi : i < m) (hj : j < 6) (x : Nat) :
    ∃ C', (w.setCell ⟨b, i * 6 + j, none⟩ (.float .f64 x)).heap[b]? = some (.cells C' t) ∧ Arr C' m (fun i' j' => if i' = i ∧ j' = j then x else X i' j') := by
  have h1 := heap_setCell_same _ b (i * 6 + j) _ t (.float .f64 x) hc
  refine ⟨_, h1, by simpa using h.1, fun i' j' hi' hj' => ?_⟩
  simp only [Array.getElem?_setIfInBounds, h.1]
  by_cases e : i' = i ∧ j' = j
  · obtain ⟨rfl, rfl⟩ := e
    rw [if_pos rfl, if_pos (by omega)]
    simp
  · rw [if_neg (by omega), if_neg e]
    exact h.2 i' j' hi' hj'
theorem opp_main {T : Nat → MT} {X : Nat → Nat → Nat} {ph i j : Nat} : Opp (coefM T X ph i j) (coefM T (negX X) (fneg ph) i j) := by
  refine opp_comb (X := fun q => X q j) ?_ 4
  unfold ph0
  split
  · exact (flip_canon ph).opp
  · exact opp_zero
theorem opp_pert {R : Nat → Nat → PT} {X : Nat → Nat → Nat} {k i j : Nat} : Opp (coefP (negR false R k) X i j) (coefP (negR true R k) (negX X) i j) := by
  refine opp_comb (ms := (R k i).m) (X := fun q => X q j) ?_ 13
  unfold ph0 negR
  simp only [if_true, Bool.false_eq_true, if_false]
  split
  · exact (flip_canon _).opp
  · exact opp_zero
theorem done_neg {X : Nat → Nat → Nat} {i j : Nat} (i' j' : Nat) : (if i' < i ∨ (i' = i ∧ j' < j + 1) then negX X i' j' else 0) = (if i' = i ∧ j' = j then negX X i j else if i' < i ∨ (i' = i ∧ j' < j) then negX X i' j' else 0) := by
  by_cases e : i' = i ∧ j' = j
  · obtain ⟨rfl, rfl⟩ := e
    rw [if_pos (by omega), if_pos ⟨rfl, rfl⟩]
  · rw [if_neg e]
    by_cases e2 : i' < i ∨ (i' = i ∧ j' < j)
    · rw [if_pos (by omega), if_pos e2]
    · rw [if_neg (by omega), if_neg e2]

set_option maxRecDepth 100000 in
set_option maxHeartbeats 4000000 in
theorem law4_any (a0 a1 : Option Addr) (n c0 K c1 : Nat) (T : Nat → MT) (L : Nat → Nat) (R : Nat → Nat → PT) (cs : Array Value) (X : Nat → Nat → Nat) (ph : Nat) (w : World) (h0 : Mains w a0 n T) (h1 : Perts w a1 K L R) (hX : Arr cs 13 X) :
    Calls Try.prog 4 #[.slice a0 n c0, .slice a1 K c1, .agg cs, .float .f64 ph] w
    fun x w' => x = .returned (.bool true) ∧ But [] w w' := by
  have H0 : Hid _ := h0
  have H1 : Hid _ := h1
  have HX : Hid (Arr cs 13 X) := hX
  clear h0 h1 hX
  go_enter Try.func4, Try.ntmps4
  go_upto_region 1 with fail
  have HB0 : Hid (But [] w (w.alloc (.cells cs 26))) := (But.refl [] w).alloc _
  have HC0 : Hid _ := heap_alloc_new w (.cells cs 26)
  generalize World.alloc w _ = w0 at HB0 HC0 ⊢
  generalize hb6 : w.heap.size = b6 at HC0 ⊢
  have HI26 : Hid ((Try.prog.info? 26).map (·.size) = some cs.size) := by
    have := (zero_of_info info26).2
    rw [← show cs.size = 78 from HX.out.1] at this
    exact this
  go_upto_region 5 with (first
    | (refine wpList_load_row rfl 26 (.tmp 6) rfl b6 rfl 26 cs (0, 0) _ HC0.out Try.underlying26 rfl HI26.out ?_)
    | (go_at_call 20; refine (bytes20_any a0 a1 n c0 K c1 L cs ph _ (Perts.lens (Perts.later H1.out HB0.out.belowAll))).mono ?_; rintro e w1 ⟨⟨b, rfl⟩, hb⟩; have HB1 : Hid _ := hb; clear hb; cases b)
    | (go_at_call 8; refine (tooBig_any a0 a1 n c0 K c1 L _ (Perts.lens (Perts.later H1.out (HB0.out.trans HB1.out).belowAll))).mono ?_; rintro e w2 ⟨b, rfl, hbd, hb⟩; have HB2 : Hid _ := hb; have HBd : Hid _ := hbd; clear hb hbd; cases b))
  · go_ret
    exact ⟨rfl, HB0.out.trans HB1.out⟩
  rotate_left
  · go_ret
    exact ⟨rfl, (HB0.out.trans HB1.out).trans HB2.out⟩
  obtain ⟨hn, hK, hL⟩ := HBd.out trivial
  have HL : Hid _ := hL
  have HBw : Hid _ := (HB0.out.trans HB1.out).trans HB2.out
  have HC2 : Hid _ := (HB1.out.trans HB2.out).at HC0.out
  clear HBd hL HB1 HB2 HC0
  have z26 := (zero_of_info info26).1
  go_upto_region 7 with fail
  have HB3 : Hid (But [] w2 (w2.alloc (.cells (Array.replicate 78 (.float .f64 0)) 26))) := (But.refl [] w2).alloc _
  have HC3 : Hid _ := heap_alloc_new w2 (.cells (Array.replicate 78 (.float .f64 0)) 26)
  clear z26
  generalize World.alloc w2 _ = w3 at HB3 HC3 ⊢
  generalize hb9 : w2.heap.size = b9 at HC3 ⊢
  go_loopw [10] (fun i wr => ∃ k : Nat, k ≤ 13 ∧ i = .int .i64 k ∧ But [] w2 wr ∧ ∃ C, wr.heap[b9]? = some (.cells C 26) ∧ Arr C 13 (fun i' j' => if i' < k then negX X i' j' else 0)) (fun i _ => 13 - (intOf i).toNat)
  case atStart => exact ⟨0, by omega, rfl, HB3.out, _, HC3.out, by simp, fun i j hi hj => by rw [Array.getElem?_replicate, if_pos (by omega)]; simp⟩
  case round =>
    obtain ⟨k, hk, rfl, hb, C, hC, hA⟩ := hrel
    clear HB3 HC3
    have HB3 : Hid _ := hb
    have HC3 : Hid _ := hC
    have HA3 : Hid (Arr C 13 (fun i' j' => if i' < k then negX X i' j' else 0)) := hA
    clear hb hC hA
    by_cases hlt : k < 13
    · have hltI : (k : Int) < 13 := by omega
      go_wp2
      go_loopw [11] (fun i wr => ∃ j : Nat, j ≤ 6 ∧ i = .int .i64 j ∧ But [] w2 wr ∧ ∃ C, wr.heap[b9]? = some (.cells C 26) ∧ Arr C 13 (fun i' j' => if i' < k ∨ (i' = k ∧ j' < j) then negX X i' j' else 0)) (fun i _ => 6 - (intOf i).toNat)
      case atStart => exact ⟨0, by omega, rfl, HB3.out, C, HC3.out, HA3.out.congr fun i' j' _ _ => by simp⟩
      case round =>
        obtain ⟨j, hj, rfl, hb, C', hC', hA'⟩ := hrel
        clear HB3 HC3 HA3
        have HB3 : Hid _ := hb
        have HC3 : Hid _ := hC'
        have HA3 : Hid (Arr C' 13 (fun i' j' => if i' < k ∨ (i' = k ∧ j' < j) then negX X i' j' else 0)) := hA'
        clear hb hC' hA'
        by_cases hlj : j < 6
        · have q0 : wr.cell? ⟨b6, k * 6 + j, none⟩ = some (.float .f64 (X k j)) := (cell_of_row _ _ _ _ _ _ (HB3.out.at HC2.out)).trans (HX.out.2 k j hlt hlj)
          have d0 := (cell_of_row wr b9 (k * 6 + j) C' 26 _ HC3.out).trans (HA3.out.2 k j hlt hlj)
          have f0 := frozen_of_row wr b9 (k * 6 + j) C' 26 HC3.out
          go_wp2
          go_region
          all_goals go_wp2
          all_goals
            obtain ⟨C2, hC2, hA2⟩ := HA3.out.put1 HC3.out hlt hlj (negX X k j)
            exact ⟨⟨j + 1, by omega, by simp, (HB3.out.setCell (.inr (by simp; omega)) _).drew, C2, hC2, hA2.congr fun i' j' _ _ => done_neg i' j'⟩, by simp [intOf]; omega⟩
        · go_wp2
          refine ⟨⟨k + 1, by omega, by simp, HB3.out, C', HC3.out, HA3.out.congr fun i' j' _ hj' => ?_⟩, by simp [intOf]; omega⟩
          by_cases e : i' < k + 1
          · rw [if_pos e, if_pos (by omega)]
          · rw [if_neg e, if_neg (by omega)]
    · have HK13 : Hid (k = 13) := (by omega : k = 13)
      go_upto_region 13 with fail
      clear hlt hk
      have HBr : Hid (But [] w wr) := HBw.out.trans HB3.out
      have HCr : Hid (wr.heap[b6]? = some (.cells cs 26)) := HB3.out.at HC2.out
      have HLi : Hid ((Try.prog.info? 26).map (·.size) = some cs.toList.length) := by
        have h : (Try.prog.info? 26).map (·.size) = some cs.toList.length := by rw [Array.length_toList]; exact HI26.out
        exact h
      go_cut [12] (fun c wy => ∃ b x y, c = .pointer (some ⟨b, 0, none⟩) ∧ wy.heap[b]? = some (.cells #[x, y] 32) ∧ wr.heap.size ≤ b ∧ SumAt wy 0 (.agg #[x, y]) n T K L (negR false R) X ph ∧ But [] wr wy)
      case first =>
        as_aux_lemma =>
          have hu26 := Try.underlying26
          have hi26 := HLi.out
          go_region_held3 (fun w' => w'.rangeAt b6 0 cs.toList) (exact range_of HCr.out (by repeat (first | with_reducible exact But.refl _ _ | apply But.alloc | apply But.drewN | apply But.drew | (refine But.trans ?_ HB6.out) | (refine But.trans ?_ HB5.out) | (refine But.setCell ?_ (.inr (by first | omega | (simp; done) | (simp; omega))) _)))) (first
            | (go_at_call 10; refine (build_any a0 a1 n c0 K c1 false T L R _ (Mains.later H0.out (But.belowAll (HBr.out.trans (by repeat (first | with_reducible exact But.refl _ _ | apply But.alloc | apply But.drewN | apply But.drew | (refine But.trans ?_ HB6.out) | (refine But.trans ?_ HB5.out) | (refine But.setCell ?_ (.inr (by first | omega | (simp; done) | (simp; omega))) _)))))) (Perts.later H1.out (But.belowAll (HBr.out.trans (by repeat (first | with_reducible exact But.refl _ _ | apply But.alloc | apply But.drewN | apply But.drew | (refine But.trans ?_ HB6.out) | (refine But.trans ?_ HB5.out) | (refine But.setCell ?_ (.inr (by first | omega | (simp; done) | (simp; omega))) _)))))) hn hK HL.out).mono ?_; rintro e w5 ⟨S, rfl, hs, hb⟩; have HS5 : Hid _ := hs; have HB5 : Hid _ := but_of_below hb; clear hs hb; have hs5 := HB5.out.size; (try simp at hs5); first | (have hz := But.at HB5.out (one_new (w := wr) (o := (.cells #[.slice none 0 0, .slice none 0 0] 32)) (by first | with_reducible exact But.refl _ _ | with_reducible exact (But.refl _ _).drew | with_reducible exact (But.refl _ _).drewN _))) | skip)
            | (go_at_call 9; refine (seriesSum_any _ S n T K L (negR false R) cs X ph _ (SerAt.but HS5.out (by repeat (first | with_reducible exact But.refl _ _ | apply But.alloc | apply But.drewN | apply But.drew | (refine But.trans ?_ HB6.out) | (refine But.trans ?_ HB5.out) | (refine But.setCell ?_ (.inr (by first | omega | (simp; done) | (simp; omega))) _)))) HX.out.2 hn hK HL.out).mono ?_; rintro e w6 ⟨v, rfl, hs, hb⟩; have HS6 : Hid _ := hs; have HB6 : Hid _ := hb; have hs6 := hb.size; (try simp at hs6); obtain ⟨b1, bm, bp, -, rfl, -⟩ := hs; clear hb; first | (have hz6 := But.at HB6.out hz; obtain ⟨z0, z1, zf0, zf1⟩ := cells2 hz6) | (have hz6 := But.at HB6.out (one_new (w := w5) (o := (.cells #[.slice none 0 0, .slice none 0 0] 32)) (by first | with_reducible exact But.refl _ _ | with_reducible exact (But.refl _ _).drew | with_reducible exact (But.refl _ _).drewN _)); obtain ⟨z0, z1, zf0, zf1⟩ := cells2 hz6) | skip))
          all_goals go_wp2_with fail
          all_goals go_meet
          all_goals first
            | exact ⟨_, .slice (some ⟨b1, 0, none⟩) 1 1, .slice (some ⟨bp, 0, none⟩) K K, rfl, (sum_ab HS6.out hz6 (by first | omega | (simp; done) | (simp; omega))).1, by omega, (sum_ab HS6.out hz6 (by first | omega | (simp; done) | (simp; omega))).2, (by repeat (first | with_reducible exact But.refl _ _ | apply But.alloc | apply But.drewN | apply But.drew | (refine But.trans ?_ HB6.out) | (refine But.trans ?_ HB5.out) | (refine But.setCell ?_ (.inr (by first | omega | (simp; done) | (simp; omega))) _)))⟩
            | exact ⟨_, .slice (some ⟨b1, 0, none⟩) 1 1, .slice (some ⟨bp, 0, none⟩) K K, rfl, (sum_c HS6.out).1, by omega, (sum_c HS6.out).2, (by repeat (first | with_reducible exact But.refl _ _ | apply But.alloc | apply But.drewN | apply But.drew | (refine But.trans ?_ HB6.out) | (refine But.trans ?_ HB5.out) | (refine But.setCell ?_ (.inr (by first | omega | (simp; done) | (simp; omega))) _)))⟩
      case rest =>
        obtain ⟨be, ex, ey, rfl, he, hle, hse, hbe⟩ := hcut
        have HBE : Hid (But [] w wc) := HBr.out.trans hbe
        have HCE : Hid (wc.heap[b9]? = some (.cells C 26)) := hbe.at HC3.out
        have HHe : Hid _ := he
        have HSe : Hid (SumAt wc 0 (.agg #[ex, ey]) n T K L (negR false R) X ph) := hse
        have HAr : Hid (Arr C 13 (negX X)) := by
          have h := HA3.out
          rw [HK13.out] at h
          exact h.congr fun i' j' hi' _ => by rw [if_pos hi']
        have HLi' : Hid ((Try.prog.info? 26).map (·.size) = some C.toList.length) := by
          have h : (Try.prog.info? 26).map (·.size) = some C.toList.length := by rw [Array.length_toList, HAr.out.1]; exact (zero_of_info info26).2
          exact h
        clear he hle hse hbe HCr HBr HB3 HC3 HA3 HLi
        go_upto_region 14 with fail
        go_cut [13] (fun c wy => ∃ b x y, c = .pointer (some ⟨b, 0, none⟩) ∧ wy.heap[b]? = some (.cells #[x, y] 32) ∧ wc.heap.size ≤ b ∧ SumAt wy 0 (.agg #[x, y]) n T K L (negR true R) (negX X) (fneg ph) ∧ But [] wc wy)
        case first =>
          as_aux_lemma =>
            have hu26 := Try.underlying26
            have hi26 := HLi'.out
            go_region_held3 (fun w' => w'.rangeAt b9 0 C.toList) (exact range_of HCE.out (by repeat (first | with_reducible exact But.refl _ _ | apply But.alloc | apply But.drewN | apply But.drew | (refine But.trans ?_ HB6.out) | (refine But.trans ?_ HB5.out) | (refine But.setCell ?_ (.inr (by first | omega | (simp; done) | (simp; omega))) _)))) (first
              | (go_at_call 10; refine (build_any a0 a1 n c0 K c1 true T L R _ (Mains.later H0.out (But.belowAll (HBE.out.trans (by repeat (first | with_reducible exact But.refl _ _ | apply But.alloc | apply But.drewN | apply But.drew | (refine But.trans ?_ HB6.out) | (refine But.trans ?_ HB5.out) | (refine But.setCell ?_ (.inr (by first | omega | (simp; done) | (simp; omega))) _)))))) (Perts.later H1.out (But.belowAll (HBE.out.trans (by repeat (first | with_reducible exact But.refl _ _ | apply But.alloc | apply But.drewN | apply But.drew | (refine But.trans ?_ HB6.out) | (refine But.trans ?_ HB5.out) | (refine But.setCell ?_ (.inr (by first | omega | (simp; done) | (simp; omega))) _)))))) hn hK HL.out).mono ?_; rintro e w5 ⟨S, rfl, hs, hb⟩; have HS5 : Hid _ := hs; have HB5 : Hid _ := but_of_below hb; clear hs hb; have hs5 := HB5.out.size; (try simp at hs5); first | (have hz := But.at HB5.out (one_new (w := wc) (o := (.cells #[.slice none 0 0, .slice none 0 0] 32)) (by first | with_reducible exact But.refl _ _ | with_reducible exact (But.refl _ _).drew | with_reducible exact (But.refl _ _).drewN _))) | skip)
              | (go_at_call 9; refine (seriesSum_any _ S n T K L (negR true R) C (negX X) (fneg ph) _ (SerAt.but HS5.out (by repeat (first | with_reducible exact But.refl _ _ | apply But.alloc | apply But.drewN | apply But.drew | (refine But.trans ?_ HB6.out) | (refine But.trans ?_ HB5.out) | (refine But.setCell ?_ (.inr (by first | omega | (simp; done) | (simp; omega))) _)))) HAr.out.2 hn hK HL.out).mono ?_; rintro e w6 ⟨v, rfl, hs, hb⟩; have HS6 : Hid _ := hs; have HB6 : Hid _ := hb; have hs6 := hb.size; (try simp at hs6); obtain ⟨b1, bm, bp, -, rfl, -⟩ := hs; clear hb; first | (have hz6 := But.at HB6.out hz; obtain ⟨z0, z1, zf0, zf1⟩ := cells2 hz6) | (have hz6 := But.at HB6.out (one_new (w := w5) (o := (.cells #[.slice none 0 0, .slice none 0 0] 32)) (by first | with_reducible exact But.refl _ _ | with_reducible exact (But.refl _ _).drew | with_reducible exact (But.refl _ _).drewN _)); obtain ⟨z0, z1, zf0, zf1⟩ := cells2 hz6) | skip))
            all_goals go_wp2_with fail
            all_goals go_meet
            all_goals first
              | exact ⟨_, .slice (some ⟨b1, 0, none⟩) 1 1, .slice (some ⟨bp, 0, none⟩) K K, rfl, (sum_ab HS6.out hz6 (by first | omega | (simp; done) | (simp; omega))).1, by omega, (sum_ab HS6.out hz6 (by first | omega | (simp; done) | (simp; omega))).2, (by repeat (first | with_reducible exact But.refl _ _ | apply But.alloc | apply But.drewN | apply But.drew | (refine But.trans ?_ HB6.out) | (refine But.trans ?_ HB5.out) | (refine But.setCell ?_ (.inr (by first | omega | (simp; done) | (simp; omega))) _)))⟩
              | exact ⟨_, .slice (some ⟨b1, 0, none⟩) 1 1, .slice (some ⟨bp, 0, none⟩) K K, rfl, (sum_c HS6.out).1, by omega, (sum_c HS6.out).2, (by repeat (first | with_reducible exact But.refl _ _ | apply But.alloc | apply But.drewN | apply But.drew | (refine But.trans ?_ HB6.out) | (refine But.trans ?_ HB5.out) | (refine But.setCell ?_ (.inr (by first | omega | (simp; done) | (simp; omega))) _)))⟩
        case rest =>
          obtain ⟨bf, fx, fy, rfl, hf, hle, hsf, hbf⟩ := hcut
          have HBF : Hid (But [] w wc) := HBE.out.trans hbf
          have HE : Hid (wc.heap[be]? = some (.cells #[ex, ey] 32)) := hbf.at HHe.out
          have HF : Hid (wc.heap[bf]? = some (.cells #[fx, fy] 32)) := hf
          have HSE : Hid (SumAt wc 0 (.agg #[ex, ey]) n T K L (negR false R) X ph) := SumAt.but HSe.out hbf
          have HSF : Hid (SumAt wc 0 (.agg #[fx, fy]) n T K L (negR true R) (negX X) (fneg ph)) := hsf
          clear hf hle hsf hbf HSe HHe HCE HBE HAr HLi' HC2 HX
          go_upto_region 15 with fail
          go_cut [72] (fun c wy => c = .bool false ∧ But [] wc wy)
          case first =>
            as_aux_lemma =>
              obtain ⟨x0, x1, -, -⟩ := cells2 HE.out
              go_wp2_with (go_at_call 11; first
                | (have hq7 := hb7; refine (mainPowers_any 0 n _ T K L _ (negX X) (fneg ph) _ (SumAt.but HSF.out hq7)).mono ?_; rintro e w8 ⟨rfl, hb8⟩; clear hq7)
                | (refine (mainPowers_any 0 n _ T K L _ X ph _ HSE.out).mono ?_; rintro e w7 ⟨rfl, hb7⟩; obtain ⟨y0, y1, -, -⟩ := cells2 (hb7.at HF.out)))
              go_meet
              case rel => exact ⟨rfl, hb7.trans hb8⟩
          case rest =>
            obtain ⟨rfl, hb⟩ := hcut
            replace HBF : Hid _ := HBF.out.trans hb
            replace HE : Hid _ := hb.at HE.out
            replace HF : Hid _ := hb.at HF.out
            replace HSE : Hid (SumAt wc 0 (.agg #[ex, ey]) n T K L (negR false R) X ph) := SumAt.but HSE.out hb
            replace HSF : Hid (SumAt wc 0 (.agg #[fx, fy]) n T K L (negR true R) (negX X) (fneg ph)) := SumAt.but HSF.out hb
            clear hb
            go_upto_region 17 with fail
            go_cut [84] (fun c wy => c = .bool false ∧ But [] wc wy)
            case first =>
              as_aux_lemma =>
                obtain ⟨x0, x1, -, -⟩ := cells2 HE.out
                go_wp2_with (go_at_call 12; first
                  | (have hq7 := hb7; refine (mainCount_any 0 n _ T K L _ (negX X) (fneg ph) _ (SumAt.but HSF.out hq7)).mono ?_; rintro e w8 ⟨rfl, hb8⟩; clear hq7)
                  | (refine (mainCount_any 0 n _ T K L _ X ph _ HSE.out).mono ?_; rintro e w7 ⟨rfl, hb7⟩; obtain ⟨y0, y1, -, -⟩ := cells2 (hb7.at HF.out)))
                go_meet
                case rel => exact ⟨rfl, hb7.trans hb8⟩
            case rest =>
              obtain ⟨rfl, hb⟩ := hcut
              replace HBF : Hid _ := HBF.out.trans hb
              replace HE : Hid _ := hb.at HE.out
              replace HF : Hid _ := hb.at HF.out
              replace HSE : Hid (SumAt wc 0 (.agg #[ex, ey]) n T K L (negR false R) X ph) := SumAt.but HSE.out hb
              replace HSF : Hid (SumAt wc 0 (.agg #[fx, fy]) n T K L (negR true R) (negX X) (fneg ph)) := SumAt.but HSF.out hb
              clear hb
              go_wp2
              go_loopw [14] (fun i wr => ∃ q : Nat, q ≤ n ∧ i = .int .i64 q ∧ But [] wc wr) (fun i _ => n - (intOf i).toNat)
              case atStart => exact ⟨0, Nat.zero_le _, rfl, But.refl _ _⟩
              case round =>
                obtain ⟨q, hq, rfl, hb⟩ := hrel
                have HB9 : Hid _ := hb
                obtain ⟨x0, x1, -, -⟩ := cells2 (hb.at HE.out)
                clear hb
                by_cases hlt : q < n
                · have HSE9 : Hid (SumAt wr 0 (.agg #[ex, ey]) n T K L (negR false R) X ph) := SumAt.but HSE.out HB9.out
                  go_upto_region 23 with (go_at_call 13; refine (mainTerm_any 0 n _ T K L _ X ph q _ HSE9.out hlt).mono ?_; rintro e w7 ⟨g1, rfl, hg1, hb7⟩; have HG1 : Hid _ := hg1; have HB7 : Hid _ := hb7; clear hg1 hb7 x0 x1)
                  have HP1 : Hid _ := Six.of (g := g1) (heap_alloc_new w7 (.cells #[.float .f64 (g1 0), .float .f64 (g1 1), .float .f64 (g1 2), .float .f64 (g1 3), .float .f64 (g1 4), .float .f64 (g1 5)] 25))
                  have HB10 : Hid (But [] wc (w7.alloc (.cells #[.float .f64 (g1 0), .float .f64 (g1 1), .float .f64 (g1 2), .float .f64 (g1 3), .float .f64 (g1 4), .float .f64 (g1 5)] 25))) := (HB9.out.trans HB7.out).alloc _
                  have HSF9 : Hid (SumAt (w7.alloc (.cells #[.float .f64 (g1 0), .float .f64 (g1 1), .float .f64 (g1 2), .float .f64 (g1 3), .float .f64 (g1 4), .float .f64 (g1 5)] 25)) 0 (.agg #[fx, fy]) n T K L (negR true R) (negX X) (fneg ph)) := SumAt.but HSF.out HB10.out
                  clear HB7 HSE9
                  generalize World.alloc w7 _ = w8 at HP1 HB10 HSF9 ⊢
                  generalize w7.heap.size = p1 at HP1 ⊢
                  obtain ⟨y0, y1, -, -⟩ := cells2 (HB10.out.at HF.out)
                  go_upto_region 24 with (go_at_call 13; refine (mainTerm_any 0 n _ T K L _ (negX X) (fneg ph) q _ HSF9.out hlt).mono ?_; rintro e w9 ⟨g2, rfl, hg2, hb9⟩; have HG2 : Hid _ := hg2; have HB8 : Hid _ := hb9; clear hg2 hb9 y0 y1)
                  have HP2 : Hid _ := Six.of (g := g2) (heap_alloc_new w9 (.cells #[.float .f64 (g2 0), .float .f64 (g2 1), .float .f64 (g2 2), .float .f64 (g2 3), .float .f64 (g2 4), .float .f64 (g2 5)] 25))
                  have HP1' : Hid _ := Six.but HP1.out (HB8.out.alloc (.cells #[.float .f64 (g2 0), .float .f64 (g2 1), .float .f64 (g2 2), .float .f64 (g2 3), .float .f64 (g2 4), .float .f64 (g2 5)] 25))
                  have HB11 : Hid (But [] wc (w9.alloc (.cells #[.float .f64 (g2 0), .float .f64 (g2 1), .float .f64 (g2 2), .float .f64 (g2 3), .float .f64 (g2 4), .float .f64 (g2 5)] 25))) := (HB10.out.trans HB8.out).alloc _
                  clear HB8 HB10 HSF9 HP1
                  generalize World.alloc w9 _ = w10 at HP1' HP2 HB11 ⊢
                  generalize w9.heap.size = p2 at HP2 ⊢
                  have c0 := HP1'.out 0 (by omega)
                  have c1 := HP1'.out 1 (by omega)
                  have c2 := HP1'.out 2 (by omega)
                  have c3 := HP1'.out 3 (by omega)
                  have c4 := HP1'.out 4 (by omega)
                  have c5 := HP1'.out 5 (by omega)
                  have d0 := HP2.out 0 (by omega)
                  have d1 := HP2.out 1 (by omega)
                  have d2 := HP2.out 2 (by omega)
                  have d3 := HP2.out 3 (by omega)
                  have d4 := HP2.out 4 (by omega)
                  have d5 := HP2.out 5 (by omega)
                  go_wp2_with (go_at_call 21; refine (oppTerm_any _ _ g1 g2 _ (same_canon rfl) (fun j hj => same_of_opp (by rw [HG1.out j hj, HG2.out j hj]; exact opp_main))).mono ?_; rintro e w11 ⟨rfl, hb11⟩; have HB12 : Hid _ := hb11; clear hb11)
                  refine ⟨⟨q + 1, by omega, by simp, HB11.out.trans HB12.out⟩, by simp [intOf]; omega⟩
                · have HBF2 : Hid (But [] w wr) := HBF.out.trans HB9.out
                  have HE2 : Hid _ := HB9.out.at HE.out
                  have HF2 : Hid _ := HB9.out.at HF.out
                  have HSE2 : Hid (SumAt wr 0 (.agg #[ex, ey]) n T K L (negR false R) X ph) := SumAt.but HSE.out HB9.out
                  have HSF2 : Hid (SumAt wr 0 (.agg #[fx, fy]) n T K L (negR true R) (negX X) (fneg ph)) := SumAt.but HSF.out HB9.out
                  clear HE HF HSE HSF HBF HB9
                  go_upto_region 26 with fail
                  clear x0 x1
                  go_cut [120] (fun c wy => c = .bool false ∧ But [] wr wy)
                  case first =>
                    as_aux_lemma =>
                      obtain ⟨x0, x1, -, -⟩ := cells2 HE2.out
                      go_wp2_with (go_at_call 17; first
                        | (have hq7 := hb7; refine (pertPowers_any 0 n _ T K L _ (negX X) (fneg ph) _ (SumAt.but HSF2.out hq7)).mono ?_; rintro e w8 ⟨rfl, hb8⟩; clear hq7)
                        | (refine (pertPowers_any 0 n _ T K L _ X ph _ HSE2.out).mono ?_; rintro e w7 ⟨rfl, hb7⟩; obtain ⟨y0, y1, -, -⟩ := cells2 (hb7.at HF2.out)))
                      go_meet
                      case rel => exact ⟨rfl, hb7.trans hb8⟩
                  case rest =>
                    obtain ⟨rfl, hb⟩ := hcut
                    have HBF : Hid (But [] w wc) := HBF2.out.trans hb
                    have HE : Hid _ := hb.at HE2.out
                    have HF : Hid _ := hb.at HF2.out
                    have HSE : Hid (SumAt wc 0 (.agg #[ex, ey]) n T K L (negR false R) X ph) := SumAt.but HSE2.out hb
                    have HSF : Hid (SumAt wc 0 (.agg #[fx, fy]) n T K L (negR true R) (negX X) (fneg ph)) := SumAt.but HSF2.out hb
                    clear hb HBF2 HE2 HF2 HSE2 HSF2
                    go_wp2
                    go_loopw [19] (fun i wr => ∃ q : Nat, q ≤ K ∧ i = .int .i64 q ∧ But [] wc wr) (fun i _ => K - (intOf i).toNat)
                    case atStart => exact ⟨0, Nat.zero_le _, rfl, But.refl _ _⟩
                    case round =>
                      obtain ⟨q, hq, rfl, hb⟩ := hrel
                      have HB9 : Hid _ := hb
                      clear hb
                      by_cases hlq : q < K
                      · obtain ⟨bp, offp, rfl, hc⟩ := (Perts.later H1.out (But.belowAll (HBF.out.trans HB9.out))) (by omega)
                        obtain ⟨ak, ck, hck, -⟩ := hc q hlq
                        clear hc
                        have hLq := HL.out q hlq
                        have HCK : Hid _ := hck
                        have HE9 : Hid _ := HB9.out.at HE.out
                        have HF9 : Hid _ := HB9.out.at HF.out
                        have HSE9 : Hid (SumAt wr 0 (.agg #[ex, ey]) n T K L (negR false R) X ph) := SumAt.but HSE.out HB9.out
                        have HSF9 : Hid (SumAt wr 0 (.agg #[fx, fy]) n T K L (negR true R) (negX X) (fneg ph)) := SumAt.but HSF.out HB9.out
                        have hlqI : (q : Int) < K := by omega
                        go_upto_region 31 with fail
                        clear hck
                        go_cut [146] (fun c wy => c = .bool false ∧ But [] wr wy)
                        case first =>
                          as_aux_lemma =>
                            go_region_held3 (fun w' => w'.cell? ⟨be, 0, none⟩ = some ex ∧ w'.cell? ⟨be, 1, none⟩ = some ey ∧ w'.cell? ⟨bf, 0, none⟩ = some fx ∧ w'.cell? ⟨bf, 1, none⟩ = some fy ∧ w'.cell? ⟨bp, offp + q, none⟩ = some (.slice ak (L q) ck)) (exact five HE9.out HF9.out HCK.out (by repeat (first | with_reducible exact But.refl _ _ | apply But.alloc | apply But.drewN | apply But.drew | (refine But.trans ?_ HB8.out) | (refine But.trans ?_ HB7.out)))) (first
                              | (go_at_call 18; have hq7 := HB7.out; refine (pertCount_any 0 n _ T K L _ (negX X) (fneg ph) q _ (SumAt.but HSF9.out (by repeat (first | with_reducible exact But.refl _ _ | apply But.alloc | apply But.drewN | apply But.drew | (refine But.trans ?_ HB8.out) | (refine But.trans ?_ HB7.out)))) hlq).mono ?_; rintro e w8 ⟨rfl, hb8⟩; have HB8 : Hid _ := hb8; clear hb8 hq7)
                              | (go_at_call 18; refine (pertCount_any 0 n _ T K L _ X ph q _ (SumAt.but HSE9.out (by repeat (first | with_reducible exact But.refl _ _ | apply But.alloc | apply But.drewN | apply But.drew | (refine But.trans ?_ HB8.out) | (refine But.trans ?_ HB7.out)))) hlq).mono ?_; rintro e w7 ⟨rfl, hb7⟩; have HB7 : Hid _ := hb7; clear hb7))
                            all_goals go_wp2_with fail
                            all_goals go_meet
                            all_goals exact ⟨rfl, (by repeat (first | with_reducible exact But.refl _ _ | apply But.alloc | apply But.drewN | apply But.drew | (refine But.trans ?_ HB8.out) | (refine But.trans ?_ HB7.out)))⟩
                        case rest =>
                          obtain ⟨rfl, hb⟩ := hcut
                          have HBc : Hid _ := HB9.out.trans hb
                          have HEx : Hid (wc.heap[be]? = some (.cells #[ex, ey] 32)) := hb.at HE9.out
                          have HFx : Hid (wc.heap[bf]? = some (.cells #[fx, fy] 32)) := hb.at HF9.out
                          have HSEx : Hid (SumAt wc 0 (.agg #[ex, ey]) n T K L (negR false R) X ph) := SumAt.but HSE9.out hb
                          have HSFx : Hid (SumAt wc 0 (.agg #[fx, fy]) n T K L (negR true R) (negX X) (fneg ph)) := SumAt.but HSF9.out hb
                          have HCKx : Hid (wc.cell? ⟨bp, offp + q, none⟩ = some (.slice ak (L q) ck)) := hb.has HCK.out
                          clear hb HE9 HF9 HSE9 HSF9 HCK HB9 HE HF HSE HSF
                          go_wp2
                          go_loopw [20] (fun i wr => ∃ r : Nat, r ≤ L q ∧ i = .int .i64 r ∧ But [] wc wr) (fun i _ => L q - (intOf i).toNat)
                          case atStart => exact ⟨0, Nat.zero_le _, rfl, But.refl _ _⟩
                          case round =>
                            obtain ⟨r, hr, rfl, hb⟩ := hrel
                            have HB9 : Hid _ := hb
                            obtain ⟨x0, x1, -, -⟩ := cells2 (hb.at HEx.out)
                            have hck := hb.has HCKx.out
                            clear hb
                            by_cases hlr : r < L q
                            · have HSE9 : Hid (SumAt wr 0 (.agg #[ex, ey]) n T K L (negR false R) X ph) := SumAt.but HSEx.out HB9.out
                              go_upto_region 37 with (go_at_call 19; refine (pertTerm_any 0 n _ T K L _ X ph q r _ HSE9.out hlq hlr).mono ?_; rintro e w7 ⟨g1, rfl, hg1, hb7⟩; have HG1 : Hid _ := hg1; have HB7 : Hid _ := hb7; clear hg1 hb7 x0 x1)
                              have HP1 : Hid _ := Six.of (g := g1) (heap_alloc_new w7 (.cells #[.float .f64 (g1 0), .float .f64 (g1 1), .float .f64 (g1 2), .float .f64 (g1 3), .float .f64 (g1 4), .float .f64 (g1 5)] 25))
                              have HB10 : Hid (But [] wc (w7.alloc (.cells #[.float .f64 (g1 0), .float .f64 (g1 1), .float .f64 (g1 2), .float .f64 (g1 3), .float .f64 (g1 4), .float .f64 (g1 5)] 25))) := (HB9.out.trans HB7.out).alloc _
                              have HSF9 : Hid (SumAt (w7.alloc (.cells #[.float .f64 (g1 0), .float .f64 (g1 1), .float .f64 (g1 2), .float .f64 (g1 3), .float .f64 (g1 4), .float .f64 (g1 5)] 25)) 0 (.agg #[fx, fy]) n T K L (negR true R) (negX X) (fneg ph)) := SumAt.but HSFx.out HB10.out
                              clear HB7 HSE9 hck
                              generalize World.alloc w7 _ = w8 at HP1 HB10 HSF9 ⊢
                              generalize w7.heap.size = p1 at HP1 ⊢
                              obtain ⟨y0, y1, -, -⟩ := cells2 (HB10.out.at HFx.out)
                              go_upto_region 38 with (go_at_call 19; refine (pertTerm_any 0 n _ T K L _ (negX X) (fneg ph) q r _ HSF9.out hlq hlr).mono ?_; rintro e w9 ⟨g2, rfl, hg2, hb9⟩; have HG2 : Hid _ := hg2; have HB8 : Hid _ := hb9; clear hg2 hb9 y0 y1)
                              have HP2 : Hid _ := Six.of (g := g2) (heap_alloc_new w9 (.cells #[.float .f64 (g2 0), .float .f64 (g2 1), .float .f64 (g2 2), .float .f64 (g2 3), .float .f64 (g2 4), .float .f64 (g2 5)] 25))
                              have HP1' : Hid _ := Six.but HP1.out (HB8.out.alloc (.cells #[.float .f64 (g2 0), .float .f64 (g2 1), .float .f64 (g2 2), .float .f64 (g2 3), .float .f64 (g2 4), .float .f64 (g2 5)] 25))
                              have HB11 : Hid (But [] wc (w9.alloc (.cells #[.float .f64 (g2 0), .float .f64 (g2 1), .float .f64 (g2 2), .float .f64 (g2 3), .float .f64 (g2 4), .float .f64 (g2 5)] 25))) := (HB10.out.trans HB8.out).alloc _
                              clear HB8 HB10 HSF9 HP1
                              generalize World.alloc w9 _ = w10 at HP1' HP2 HB11 ⊢
                              generalize w9.heap.size = p2 at HP2 ⊢
                              have c0 := HP1'.out 0 (by omega)
                              have c1 := HP1'.out 1 (by omega)
                              have c2 := HP1'.out 2 (by omega)
                              have c3 := HP1'.out 3 (by omega)
                              have c4 := HP1'.out 4 (by omega)
                              have c5 := HP1'.out 5 (by omega)
                              have d0 := HP2.out 0 (by omega)
                              have d1 := HP2.out 1 (by omega)
                              have d2 := HP2.out 2 (by omega)
                              have d3 := HP2.out 3 (by omega)
                              have d4 := HP2.out 4 (by omega)
                              have d5 := HP2.out 5 (by omega)
                              go_wp2_with (go_at_call 21; refine (oppTerm_any _ _ g1 g2 _ (same_canon rfl) (fun j hj => same_of_opp (by rw [HG1.out j hj, HG2.out j hj]; exact opp_pert))).mono ?_; rintro e w11 ⟨rfl, hb11⟩; have HB12 : Hid _ := hb11; clear hb11)
                              refine ⟨⟨r + 1, by omega, by simp, HB11.out.trans HB12.out⟩, by simp [intOf]; omega⟩
                            · go_wp2
                              refine ⟨⟨q + 1, by omega, by simp, HBc.out.trans HB9.out⟩, by simp [intOf]; omega⟩
                      · go_wp2
                        go_ret
                        exact ⟨rfl, HBF.out.trans HB9.out⟩
end Go.Proofs.Qxb6604178a.Elp
