/-
  FnElpSumCarriesEveryTerm, walked.
-/
import Derived.Test.Qxb6604178aElpS
namespace Go.Proofs.Qxb6604178a.Elp
open Go.RowKit Fl

theorem feq_of_same {g : Nat} (h : SameF g 0) : feq g 0 = true := by
  rcases h with h | ⟨_, h⟩
  · exact h
  · have : feq 0 0 = true := feq_zero rfl rfl
    rw [h] at this
    cases this
theorem nan_of_canon {g : Nat} (h : canon g = none) : nanW g = true := by
  unfold canon at h
  by_cases e : nanW g = true
  · exact e
  · simp [e] at h
/-- What a term with all multipliers zero comes to. -/
theorem zm_facts {ms : Nat → Int} {X : Nat → Nat → Nat} {ph N : Nat} {g : Nat → Nat} (hg : ∀ j, j < 6 → canon (g j) = combC ms (fun q => canon (X q j)) (ph0 ph j) N) (hz : ∀ i, i < N → ms i = 0) :
    (∀ j, j < 6 → (∀ i, i < N → fin (X i j) = true) → (j = 0 → SameF (g 0) ph) ∧ (j ≠ 0 → feq (g j) 0 = true)) ∧ (∀ j, j < 6 → (∃ i, i < N ∧ fin (X i j) = false) → nanW (g j) = true) := by
  refine ⟨fun j hj hf => ⟨fun h0 => ?_, fun h0 => ?_⟩, fun j hj hf => ?_⟩
  · subst h0
    refine same_eqr ?_
    rw [hg 0 hj]
    exact comb_fin (X := fun q => X q 0) (by show Eqr (ph0 ph 0) ph; exact eqr_canon ph) N hz hf
  · refine feq_of_same (same_eqr ?_)
    rw [hg j hj]
    refine comb_fin (X := fun q => X q j) ?_ N hz hf
    unfold ph0
    rw [if_neg h0]
    exact eqr_zero
  · refine nan_of_canon ?_
    rw [hg j hj]
    exact comb_not_fin (X := fun q => X q j) N hz hf
theorem mulsP {w : World} {b o : Nat} {t : PT} (h : At w b o (cellsP t)) : Muls w b o 13 t.m := fun i hi => by
  rcases (show i = 0 ∨ i = 1 ∨ i = 2 ∨ i = 3 ∨ i = 4 ∨ i = 5 ∨ i = 6 ∨ i = 7 ∨ i = 8 ∨ i = 9 ∨ i = 10 ∨ i = 11 ∨ i = 12 by omega) with rfl | rfl | rfl | rfl | rfl | rfl | rfl | rfl | rfl | rfl | rfl | rfl | rfl <;> exact h _ _ rfl
theorem mulsM {w : World} {b o : Nat} {t : MT} (h : At w b o (cellsM t)) : Muls w b o 4 t.m := fun i hi => by
  rcases (show i = 0 ∨ i = 1 ∨ i = 2 ∨ i = 3 by omega) with rfl | rfl | rfl | rfl <;> exact h _ _ rfl
theorem three {w w' : World} {be bp o : Nat} {ex ey v : Value} (he : w.heap[be]? = some (.cells #[ex, ey] 32)) (hp : w.cell? ⟨bp, o, none⟩ = some v) (hb : But [] w w') :
    w'.cell? ⟨be, 0, none⟩ = some ex ∧ w'.cell? ⟨be, 1, none⟩ = some ey ∧ w'.cell? ⟨bp, o, none⟩ = some v := by
  obtain ⟨a, b, -, -⟩ := cells2 (hb.at he)
  exact ⟨a, b, hb.has hp⟩

set_option maxRecDepth 100000 in
set_option maxHeartbeats 4000000 in
theorem law3_any (a0 a1 : Option Addr) (n c0 K c1 : Nat) (T : Nat → MT) (L : Nat → Nat) (R : Nat → Nat → PT) (cs : Array Value) (X : Nat → Nat → Nat) (ph : Nat) (w : World) (h0 : Mains w a0 n T) (h1 : Perts w a1 K L R) (hX : Arr cs 13 X) :
    Calls Try.prog 3 #[.slice a0 n c0, .slice a1 K c1, .agg cs, .float .f64 ph] w
    fun x w' => x = .returned (.bool true) ∧ But [] w w' := by
  have H0 : Hid _ := h0
  have H1 : Hid _ := h1
  have HX : Hid (Arr cs 13 X) := hX
  clear h0 h1 hX
  go_enter Try.func3, Try.ntmps3
  go_upto_region 1 with fail
  have HB0 : Hid (But [] w (w.alloc (.cells cs 26))) := (But.refl [] w).alloc _
  have HC0 : Hid _ := heap_alloc_new w (.cells cs 26)
  generalize World.alloc w _ = w0 at HB0 HC0 ⊢
  generalize hb6 : w.heap.size = b6 at HC0 ⊢
  have HI26 : Hid ((Try.prog.info? 26).map (·.size) = some cs.size) := by
    have := (zero_of_info info26).2
    rw [← show cs.size = 78 from HX.out.1] at this
    exact this
  go_upto_region 5 with (first
    | (refine wpList_load_row rfl 26 (.tmp 6) rfl b6 rfl 26 cs (0, 0) _ HC0.out Try.underlying26 rfl HI26.out ?_)
    | (go_at_call 7; refine (bytes7_any a0 a1 n c0 K c1 L cs ph _ (Perts.lens (Perts.later H1.out HB0.out.belowAll))).mono ?_; rintro e w1 ⟨⟨b, rfl⟩, hb⟩; have HB1 : Hid _ := hb; clear hb; cases b)
    | (go_at_call 8; refine (tooBig_any a0 a1 n c0 K c1 L _ (Perts.lens (Perts.later H1.out (HB0.out.trans HB1.out).belowAll))).mono ?_; rintro e w2 ⟨b, rfl, hbd, hb⟩; have HB2 : Hid _ := hb; have HBd : Hid _ := hbd; clear hb hbd; cases b))
  · go_ret
    exact ⟨rfl, HB0.out.trans HB1.out⟩
  rotate_left
  · go_ret
    exact ⟨rfl, (HB0.out.trans HB1.out).trans HB2.out⟩
  obtain ⟨hn, hK, hL⟩ := HBd.out trivial
  have HL : Hid _ := hL
  have HBw : Hid _ := (HB0.out.trans HB1.out).trans HB2.out
  have HC2 : Hid _ := (HB1.out.trans HB2.out).at HC0.out
  clear HBd hL HB1 HB2 HC0
  have HLi : Hid ((Try.prog.info? 26).map (·.size) = some cs.toList.length) := by
    have h : (Try.prog.info? 26).map (·.size) = some cs.toList.length := by rw [Array.length_toList]; exact HI26.out
    exact h
  go_cut [9] (fun c wy => ∃ b x y, c = .pointer (some ⟨b, 0, none⟩) ∧ wy.heap[b]? = some (.cells #[x, y] 32) ∧ w2.heap.size ≤ b ∧ SumAt wy 0 (.agg #[x, y]) n T K L (negR false R) X ph ∧ But [] w2 wy)
  case first =>
    as_aux_lemma =>
      have hu26 := Try.underlying26
      have hi26 := HLi.out
      go_region_held3 (fun w' => w'.rangeAt b6 0 cs.toList) (exact range_of HC2.out (by repeat (first | with_reducible exact But.refl _ _ | apply But.alloc | apply But.drewN | apply But.drew | (refine But.trans ?_ HB6.out) | (refine But.trans ?_ HB5.out) | (refine But.setCell ?_ (.inr (by first | omega | (simp; done) | (simp; omega))) _)))) (first
        | (go_at_call 10; refine (build_any a0 a1 n c0 K c1 false T L R _ (Mains.later H0.out (But.belowAll (HBw.out.trans (by repeat (first | with_reducible exact But.refl _ _ | apply But.alloc | apply But.drewN | apply But.drew | (refine But.trans ?_ HB6.out) | (refine But.trans ?_ HB5.out) | (refine But.setCell ?_ (.inr (by first | omega | (simp; done) | (simp; omega))) _)))))) (Perts.later H1.out (But.belowAll (HBw.out.trans (by repeat (first | with_reducible exact But.refl _ _ | apply But.alloc | apply But.drewN | apply But.drew | (refine But.trans ?_ HB6.out) | (refine But.trans ?_ HB5.out) | (refine But.setCell ?_ (.inr (by first | omega | (simp; done) | (simp; omega))) _)))))) hn hK HL.out).mono ?_; rintro e w5 ⟨S, rfl, hs, hb⟩; have HS5 : Hid _ := hs; have HB5 : Hid _ := but_of_below hb; clear hs hb; have hs5 := HB5.out.size; (try simp at hs5); first | (have hz := But.at HB5.out (one_new (w := w2) (o := (.cells #[.slice none 0 0, .slice none 0 0] 32)) (by first | with_reducible exact But.refl _ _ | with_reducible exact (But.refl _ _).drew | with_reducible exact (But.refl _ _).drewN _))) | skip)
        | (go_at_call 9; refine (seriesSum_any _ S n T K L (negR false R) cs X ph _ (SerAt.but HS5.out (by repeat (first | with_reducible exact But.refl _ _ | apply But.alloc | apply But.drewN | apply But.drew | (refine But.trans ?_ HB6.out) | (refine But.trans ?_ HB5.out) | (refine But.setCell ?_ (.inr (by first | omega | (simp; done) | (simp; omega))) _)))) HX.out.2 hn hK HL.out).mono ?_; rintro e w6 ⟨v, rfl, hs, hb⟩; have HS6 : Hid _ := hs; have HB6 : Hid _ := hb; have hs6 := hb.size; (try simp at hs6); obtain ⟨b1, bm, bp, -, rfl, -⟩ := hs; clear hb; first | (have hz6 := But.at HB6.out hz; obtain ⟨z0, z1, zf0, zf1⟩ := cells2 hz6) | (have hz6 := But.at HB6.out (one_new (w := w5) (o := (.cells #[.slice none 0 0, .slice none 0 0] 32)) (by first | with_reducible exact But.refl _ _ | with_reducible exact (But.refl _ _).drew | with_reducible exact (But.refl _ _).drewN _)); obtain ⟨z0, z1, zf0, zf1⟩ := cells2 hz6) | skip))
      all_goals go_wp2_with fail
      all_goals go_meet
      all_goals first
        | exact ⟨_, .slice (some ⟨b1, 0, none⟩) 1 1, .slice (some ⟨bp, 0, none⟩) K K, rfl, (sum_ab HS6.out hz6 (by first | omega | (simp; done) | (simp; omega))).1, by omega, (sum_ab HS6.out hz6 (by first | omega | (simp; done) | (simp; omega))).2, (by repeat (first | with_reducible exact But.refl _ _ | apply But.alloc | apply But.drewN | apply But.drew | (refine But.trans ?_ HB6.out) | (refine But.trans ?_ HB5.out) | (refine But.setCell ?_ (.inr (by first | omega | (simp; done) | (simp; omega))) _)))⟩
        | exact ⟨_, .slice (some ⟨b1, 0, none⟩) 1 1, .slice (some ⟨bp, 0, none⟩) K K, rfl, (sum_c HS6.out).1, by omega, (sum_c HS6.out).2, (by repeat (first | with_reducible exact But.refl _ _ | apply But.alloc | apply But.drewN | apply But.drew | (refine But.trans ?_ HB6.out) | (refine But.trans ?_ HB5.out) | (refine But.setCell ?_ (.inr (by first | omega | (simp; done) | (simp; omega))) _)))⟩
  case rest =>
    obtain ⟨be, ex, ey, rfl, he, hle, hse, hbe⟩ := hcut
    have HBE : Hid (But [] w wc) := HBw.out.trans hbe
    have HC : Hid (wc.heap[b6]? = some (.cells cs 26)) := hbe.at HC2.out
    have HE : Hid (wc.heap[be]? = some (.cells #[ex, ey] 32)) := he
    have HSE : Hid (SumAt wc 0 (.agg #[ex, ey]) n T K L (negR false R) X ph) := hse
    obtain ⟨x0, x1, -, -⟩ := cells2 he
    clear he hle hse hbe HC2 HBw HLi
    go_upto_region 8 with (go_at_call 11; refine (mainPowers_any 0 n _ T K L _ X ph _ HSE.out).mono ?_; rintro e w7 ⟨rfl, hb7⟩; have HB7 : Hid _ := hb7; clear hb7 x0 x1)
    obtain ⟨x0, x1, -, -⟩ := cells2 (HB7.out.at HE.out)
    have HSE7 : Hid (SumAt w7 0 (.agg #[ex, ey]) n T K L (negR false R) X ph) := SumAt.but HSE.out HB7.out
    go_wp2_with (go_at_call 12; refine (mainCount_any 0 n _ T K L _ X ph _ HSE7.out).mono ?_; rintro e w8 ⟨rfl, hb8⟩; have HB8 : Hid _ := hb8; clear hb8 x0 x1)
    have HB : Hid (But [] w w8) := (HBE.out.trans HB7.out).trans HB8.out
    have HC8 : Hid _ := (HB7.out.trans HB8.out).at HC.out
    have HE8 : Hid _ := (HB7.out.trans HB8.out).at HE.out
    have HS8 : Hid (SumAt w8 0 (.agg #[ex, ey]) n T K L (negR false R) X ph) := SumAt.but HSE7.out HB8.out
    clear HBE HC HE HSE HSE7 HB7 HB8
    go_loopw [10] (fun i wr => ∃ q : Nat, q ≤ n ∧ i = .int .i64 q ∧ But [] w8 wr) (fun i _ => n - (intOf i).toNat)
    case atStart => exact ⟨0, Nat.zero_le _, rfl, But.refl _ _⟩
    case round =>
      obtain ⟨q, hq, rfl, hb⟩ := hrel
      have HB9 : Hid _ := hb
      obtain ⟨x0, x1, -, -⟩ := cells2 (hb.at HE8.out)
      clear hb
      by_cases hlt : q < n
      · obtain ⟨bm, om, rfl, hc⟩ := (Mains.later H0.out (But.belowAll (HB.out.trans HB9.out))) (by omega)
        have HAt : Hid _ := hc q hlt
        clear hc
        have hltI : (q : Int) < n := by omega
        have HSE9 : Hid (SumAt wr 0 (.agg #[ex, ey]) n T K L (negR false R) X ph) := SumAt.but HS8.out HB9.out
        go_upto_region 14 with (go_at_call 13; refine (mainTerm_any 0 n _ T K L _ X ph q _ HSE9.out hlt).mono ?_; rintro e w7 ⟨g1, rfl, hg1, hb7⟩; have HG1 : Hid _ := hg1; have HB7 : Hid _ := hb7; clear hg1 hb7 x0 x1)
        have HP1 : Hid _ := Six.of (g := g1) (heap_alloc_new w7 (.cells #[.float .f64 (g1 0), .float .f64 (g1 1), .float .f64 (g1 2), .float .f64 (g1 3), .float .f64 (g1 4), .float .f64 (g1 5)] 25))
        have HB10 : Hid (But [] wr (w7.alloc (.cells #[.float .f64 (g1 0), .float .f64 (g1 1), .float .f64 (g1 2), .float .f64 (g1 3), .float .f64 (g1 4), .float .f64 (g1 5)] 25))) := HB7.out.alloc _
        clear HB7 HSE9
        generalize World.alloc w7 _ = w9 at HP1 HB10 ⊢
        generalize w7.heap.size = p1 at HP1 ⊢
        have HAt9 : Hid (At w9 bm (om + q * 5) (cellsM (T q))) := fun j v hv => HB10.out.has (HAt.out j v hv)
        obtain ⟨-, -, -, -, q4⟩ := At.five HAt9.out
        go_upto_region 16 with (go_at_call 14; refine (same_any _ _ _ (same_canon rfl)).mono ?_; rintro e w10 ⟨rfl, hb10⟩; have HB11 : Hid _ := hb10; clear hb10 q4)
        have HAt10 : Hid (At w10 bm (om + q * 5) (cellsM (T q))) := fun j v hv => HB11.out.has (HAt9.out j v hv)
        have HP10 : Hid _ := Six.but HP1.out HB11.out
        have HC10 : Hid _ := ((HB9.out.trans HB10.out).trans HB11.out).at HC8.out
        have HB12 : Hid (But [] w8 w10) := (HB9.out.trans HB10.out).trans HB11.out
        clear HAt HAt9 HP1 HB10 HB11 HB9
        go_cut [73] (fun c wy => c = .bool false ∧ But [] w10 wy)
        case first =>
          as_aux_lemma =>
            obtain ⟨q0, q1, q2, q3, -⟩ := At.five HAt10.out
            go_wp2_with (go_at_call 15; refine (allZero_any bm (om + q * 5) 4 _ (T q).m _ (mulsM HAt10.out) (by omega)).mono ?_; rintro e w11 ⟨bo, rfl, hz, hb11⟩; have HZ : Hid _ := hz; have HB13 : Hid _ := hb11; clear hz hb11; have k0 := (Six.but HP10.out HB13.out) 0 (by omega); have k1 := (Six.but HP10.out HB13.out) 1 (by omega); have k2 := (Six.but HP10.out HB13.out) 2 (by omega); have k3 := (Six.but HP10.out HB13.out) 3 (by omega); have k4 := (Six.but HP10.out HB13.out) 4 (by omega); have k5 := (Six.but HP10.out HB13.out) 5 (by omega); cases bo)
            · go_meet
              case rel => exact ⟨rfl, HB13.out⟩
            · refine wp_load_row 26 (.tmp 6) rfl b6 rfl 26 cs (0, 0) _ (HB13.out.at HC10.out) Try.underlying26 rfl HI26.out ?_
              go_wp2_with (go_at_call 16; refine (zeroMul_any g1 cs X 4 ph _ HX.out (by omega) (zm_facts HG1.out (HZ.out (by trivial))).1 (zm_facts HG1.out (HZ.out (by trivial))).2).mono ?_; rintro e w12 ⟨rfl, hb12⟩; have HB14 : Hid _ := hb12; clear hb12)
              go_meet
              case rel => exact ⟨rfl, HB13.out.trans HB14.out⟩
        case rest =>
          obtain ⟨rfl, hb⟩ := hcut
          go_wp2
          refine ⟨⟨q + 1, by omega, by simp, HB12.out.trans hb⟩, by simp [intOf]; omega⟩
      · have HSE9 : Hid (SumAt wr 0 (.agg #[ex, ey]) n T K L (negR false R) X ph) := SumAt.but HS8.out HB9.out
        go_upto_region 20 with (go_at_call 17; refine (pertPowers_any 0 n _ T K L _ X ph _ HSE9.out).mono ?_; rintro e w9 ⟨rfl, hb9⟩; have HB10 : Hid _ := hb9; clear hb9 x0 x1)
        have HBx : Hid (But [] w w9) := (HB.out.trans HB9.out).trans HB10.out
        have HCx : Hid _ := (HB9.out.trans HB10.out).at HC8.out
        have HEx : Hid _ := (HB9.out.trans HB10.out).at HE8.out
        have HSx : Hid (SumAt w9 0 (.agg #[ex, ey]) n T K L (negR false R) X ph) := SumAt.but HSE9.out HB10.out
        clear HB9 HB10 HSE9 HB HC8 HE8 HS8
        go_wp2
        go_loopw [13] (fun i wr => ∃ k : Nat, k ≤ K ∧ i = .int .i64 k ∧ But [] w9 wr) (fun i _ => K - (intOf i).toNat)
        case atStart => exact ⟨0, Nat.zero_le _, rfl, But.refl _ _⟩
        case round =>
          obtain ⟨k, hk, rfl, hb⟩ := hrel
          have HB9 : Hid _ := hb
          clear hb
          by_cases hlk : k < K
          · obtain ⟨bp, offp, rfl, hc⟩ := (Perts.later H1.out (But.belowAll (HBx.out.trans HB9.out))) (by omega)
            obtain ⟨ak, ck, hck, hrow⟩ := hc k hlk
            clear hc
            have HRow : Hid (Row wr ak (L k) (R k)) := hrow
            have hLk := HL.out k hlk
            have HCK : Hid _ := hck
            have HE9 : Hid _ := HB9.out.at HEx.out
            have HSE9 : Hid (SumAt wr 0 (.agg #[ex, ey]) n T K L (negR false R) X ph) := SumAt.but HSx.out HB9.out
            have hlkI : (k : Int) < K := by omega
            go_upto_region 23 with fail
            clear hck hrow
            go_cut [93] (fun c wy => c = .bool false ∧ But [] wr wy)
            case first =>
              as_aux_lemma =>
                go_region_held3 (fun w' => w'.cell? ⟨be, 0, none⟩ = some ex ∧ w'.cell? ⟨be, 1, none⟩ = some ey ∧ w'.cell? ⟨bp, offp + k, none⟩ = some (.slice ak (L k) ck)) (exact three HE9.out HCK.out (by repeat (first | with_reducible exact But.refl _ _ | apply But.alloc | apply But.drewN | apply But.drew | (refine But.trans ?_ HB7.out)))) (first
                  | (go_at_call 18; refine (pertCount_any 0 n _ T K L _ X ph k _ (SumAt.but HSE9.out (by repeat (first | with_reducible exact But.refl _ _ | apply But.alloc | apply But.drewN | apply But.drew | (refine But.trans ?_ HB7.out)))) hlk).mono ?_; rintro e w7 ⟨rfl, hb7⟩; have HB7 : Hid _ := hb7; clear hb7))
                all_goals go_wp2_with fail
                all_goals go_meet
                all_goals exact ⟨rfl, (by repeat (first | with_reducible exact But.refl _ _ | apply But.alloc | apply But.drewN | apply But.drew | (refine But.trans ?_ HB7.out)))⟩
            case rest =>
              obtain ⟨rfl, hb⟩ := hcut
              have HBc : Hid _ := HB9.out.trans hb
              have HEy : Hid (wc.heap[be]? = some (.cells #[ex, ey] 32)) := hb.at HE9.out
              have HSy : Hid (SumAt wc 0 (.agg #[ex, ey]) n T K L (negR false R) X ph) := SumAt.but HSE9.out hb
              have HCKy : Hid (wc.cell? ⟨bp, offp + k, none⟩ = some (.slice ak (L k) ck)) := hb.has HCK.out
              have HRowy : Hid (Row wc ak (L k) (R k)) := Row.later HRow.out hb.belowAll
              have HCy : Hid _ := HBc.out.at HCx.out
              clear hb HE9 HSE9 HCK HB9 HRow
              go_wp2
              go_loopw [14] (fun i wr => ∃ r : Nat, r ≤ L k ∧ i = .int .i64 r ∧ But [] wc wr) (fun i _ => L k - (intOf i).toNat)
              case atStart => exact ⟨0, Nat.zero_le _, rfl, But.refl _ _⟩
              case round =>
                obtain ⟨r, hr, rfl, hb⟩ := hrel
                have HB9 : Hid _ := hb
                obtain ⟨x0, x1, -, -⟩ := cells2 (hb.at HEy.out)
                have hck := hb.has HCKy.out
                clear hb
                by_cases hlr : r < L k
                · obtain ⟨br, offr, rfl, hcr⟩ := (Row.later HRowy.out HB9.out.belowAll) (by omega)
                  have HAt : Hid _ := hcr r hlr
                  clear hcr
                  have hlrI : (r : Int) < L k := by omega
                  have HSE9 : Hid (SumAt wr 0 (.agg #[ex, ey]) n T K L (negR false R) X ph) := SumAt.but HSy.out HB9.out
                  go_upto_region 29 with (go_at_call 19; refine (pertTerm_any 0 n _ T K L _ X ph k r _ HSE9.out hlk hlr).mono ?_; rintro e w7 ⟨g1, rfl, hg1, hb7⟩; have HG1 : Hid _ := hg1; have HB7 : Hid _ := hb7; clear hg1 hb7 x0 x1 hck)
                  have HP1 : Hid _ := Six.of (g := g1) (heap_alloc_new w7 (.cells #[.float .f64 (g1 0), .float .f64 (g1 1), .float .f64 (g1 2), .float .f64 (g1 3), .float .f64 (g1 4), .float .f64 (g1 5)] 25))
                  have HB10 : Hid (But [] wr (w7.alloc (.cells #[.float .f64 (g1 0), .float .f64 (g1 1), .float .f64 (g1 2), .float .f64 (g1 3), .float .f64 (g1 4), .float .f64 (g1 5)] 25))) := HB7.out.alloc _
                  clear HB7 HSE9
                  generalize World.alloc w7 _ = w10 at HP1 HB10 ⊢
                  generalize w7.heap.size = p1 at HP1 ⊢
                  have hck := HB10.out.has (HB9.out.has HCKy.out)
                  have HAt9 : Hid (At w10 br (offr + r * 15) (cellsP (R k r))) := fun j v hv => HB10.out.has (HAt.out j v hv)
                  obtain ⟨⟨e0, e1, e2, e3, e4, e5, e6, e7, e8, e9, e10, e11, e12⟩, e13, e14⟩ := At.fifteen HAt9.out
                  go_upto_region 30 with fail
                  clear e0 e1 e2 e3 e4 e5 e6 e7 e8 e9 e10 e11 e12 e13 e14 hck HAt9 HAt
                  have HT1 : Hid _ := at_new (cs := #[.int .i8 ((R k r).m 0), .int .i8 ((R k r).m 1), .int .i8 ((R k r).m 2), .int .i8 ((R k r).m 3), .int .i8 ((R k r).m 4), .int .i8 ((R k r).m 5), .int .i8 ((R k r).m 6), .int .i8 ((R k r).m 7), .int .i8 ((R k r).m 8), .int .i8 ((R k r).m 9), .int .i8 ((R k r).m 10), .int .i8 ((R k r).m 11), .int .i8 ((R k r).m 12), .float .f64 (R k r).a, .float .f64 (R k r).ph]) (one_new (But.refl [] (w10.alloc (.cells #[.int .i8 ((R k r).m 0), .int .i8 ((R k r).m 1), .int .i8 ((R k r).m 2), .int .i8 ((R k r).m 3), .int .i8 ((R k r).m 4), .int .i8 ((R k r).m 5), .int .i8 ((R k r).m 6), .int .i8 ((R k r).m 7), .int .i8 ((R k r).m 8), .int .i8 ((R k r).m 9), .int .i8 ((R k r).m 10), .int .i8 ((R k r).m 11), .int .i8 ((R k r).m 12), .float .f64 (R k r).a, .float .f64 (R k r).ph] 51))))
                  have HP2 : Hid _ := Six.but HP1.out ((But.refl [] w10).alloc (.cells #[.int .i8 ((R k r).m 0), .int .i8 ((R k r).m 1), .int .i8 ((R k r).m 2), .int .i8 ((R k r).m 3), .int .i8 ((R k r).m 4), .int .i8 ((R k r).m 5), .int .i8 ((R k r).m 6), .int .i8 ((R k r).m 7), .int .i8 ((R k r).m 8), .int .i8 ((R k r).m 9), .int .i8 ((R k r).m 10), .int .i8 ((R k r).m 11), .int .i8 ((R k r).m 12), .float .f64 (R k r).a, .float .f64 (R k r).ph] 51))
                  have HB11 : Hid (But [] wc (w10.alloc (.cells #[.int .i8 ((R k r).m 0), .int .i8 ((R k r).m 1), .int .i8 ((R k r).m 2), .int .i8 ((R k r).m 3), .int .i8 ((R k r).m 4), .int .i8 ((R k r).m 5), .int .i8 ((R k r).m 6), .int .i8 ((R k r).m 7), .int .i8 ((R k r).m 8), .int .i8 ((R k r).m 9), .int .i8 ((R k r).m 10), .int .i8 ((R k r).m 11), .int .i8 ((R k r).m 12), .float .f64 (R k r).a, .float .f64 (R k r).ph] 51))) := (HB9.out.trans HB10.out).alloc _
                  clear HP1 HB10 HB9
                  generalize World.alloc w10 _ = w11 at HT1 HP2 HB11 ⊢
                  generalize w10.heap.size = p2 at HT1 ⊢
                  obtain ⟨-, t13, t14⟩ := At.fifteen (t := R k r) HT1.out
                  simp only [Nat.zero_add] at t13 t14
                  go_upto_region 32 with (go_at_call 14; refine (same_any _ _ _ (same_canon rfl)).mono ?_; rintro e w12 ⟨rfl, hb12⟩; have HB12 : Hid _ := hb12; clear hb12 t13 t14)
                  have HT12 : Hid (At w12 p2 0 (cellsP (R k r))) := fun j v hv => HB12.out.has (HT1.out j v hv)
                  have HP10 : Hid _ := Six.but HP2.out HB12.out
                  have HC10 : Hid _ := (HB11.out.trans HB12.out).at HCy.out
                  have HB20 : Hid (But [] wc w12) := HB11.out.trans HB12.out
                  clear HT1 HP2 HB11 HB12
                  go_cut [132] (fun c wy => c = .bool false ∧ But [] w12 wy)
                  case first =>
                    as_aux_lemma =>
                      go_wp2_with (go_at_call 15; refine (allZero_any p2 0 13 _ (R k r).m _ (mulsP HT12.out) (by omega)).mono ?_; rintro e w13 ⟨bo, rfl, hz, hb13⟩; have HZ : Hid _ := hz; have HB13 : Hid _ := hb13; clear hz hb13; have k0 := (Six.but HP10.out HB13.out) 0 (by omega); have k1 := (Six.but HP10.out HB13.out) 1 (by omega); have k2 := (Six.but HP10.out HB13.out) 2 (by omega); have k3 := (Six.but HP10.out HB13.out) 3 (by omega); have k4 := (Six.but HP10.out HB13.out) 4 (by omega); have k5 := (Six.but HP10.out HB13.out) 5 (by omega); have t14 := HB13.out.has (HT12.out 14 _ rfl); simp only [Nat.zero_add] at t14; cases bo)
                      · go_meet
                        case rel => exact ⟨rfl, HB13.out⟩
                      · refine wp_load_row 26 (.tmp 6) rfl b6 rfl 26 cs (0, 0) _ (HB13.out.at HC10.out) Try.underlying26 rfl HI26.out ?_
                        go_wp2_with (go_at_call 16; refine (zeroMul_any g1 cs X 13 (R k r).ph _ HX.out (by omega) (zm_facts (ms := (R k r).m) (ph := (R k r).ph) HG1.out (HZ.out (by trivial))).1 (zm_facts (ms := (R k r).m) (ph := (R k r).ph) HG1.out (HZ.out (by trivial))).2).mono ?_; rintro e w14 ⟨rfl, hb14⟩; have HB14 : Hid _ := hb14; clear hb14)
                        go_meet
                        case rel => exact ⟨rfl, HB13.out.trans HB14.out⟩
                  case rest =>
                    obtain ⟨rfl, hb⟩ := hcut
                    go_wp2
                    refine ⟨⟨r + 1, by omega, by simp, HB20.out.trans hb⟩, by simp [intOf]; omega⟩
                · go_wp2
                  refine ⟨⟨k + 1, by omega, by simp, HBc.out.trans HB9.out⟩, by simp [intOf]; omega⟩
          · go_wp2
            go_ret
            exact ⟨rfl, HBx.out.trans HB9.out⟩
end Go.Proofs.Qxb6604178a.Elp
