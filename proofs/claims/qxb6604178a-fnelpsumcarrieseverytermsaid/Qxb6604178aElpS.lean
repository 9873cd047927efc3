/-
  allZero and zeroMultiplierArgument, walked.
-/
import Derived.Test.Qxb6604178aElpR
import Derived.Test.Qxb6604178aElpP
import Derived.Test.Qxb6604178aElpM
namespace Go.Proofs.Qxb6604178a.Elp
open Go.RowKit Fl

set_option maxRecDepth 100000 in
set_option maxHeartbeats 4000000 in
theorem allZero_any (b o N c : Nat) (ms : Nat → Int) (w : World) (hm : Muls w b o N ms) (hN : N ≤ 13) :
    Calls Try.prog 15 #[.slice (some ⟨b, o, none⟩) N c] w fun x w' => ∃ bo, x = .returned (.bool bo) ∧ (bo = true → ∀ i, i < N → ms i = 0) ∧ But [] w w' := by
  have HM : Hid (Muls w b o N ms) := hm
  clear hm
  go_enter Try.func15, Try.ntmps15
  go_wp2
  go_loopw [3] (fun i wr => ∃ k : Nat, k ≤ N ∧ i = .int .i64 k ∧ (∀ q, q < k → ms q = 0) ∧ But [] w wr) (fun i _ => N - (intOf i).toNat)
  case atStart => exact ⟨0, Nat.zero_le _, rfl, fun q hq => by omega, But.refl _ _⟩
  case round =>
    obtain ⟨k, hk, rfl, hz, hb⟩ := hrel
    have HZ : Hid (∀ q, q < k → ms q = 0) := hz
    have HB : Hid _ := hb
    clear hz hb
    by_cases hlt : k < N
    · have hc := HB.out.has (HM.out k hlt)
      by_cases h0 : ms k = 0
      · have HK0 : Hid (ms k = 0) := h0
        go_wp2
        refine ⟨⟨k + 1, by omega, by simp, fun q hq => ?_, HB.out⟩, by simp [intOf]; omega⟩
        by_cases e : q = k
        · rw [e]; exact HK0.out
        · exact HZ.out q (by omega)
      · go_wp2
        go_ret
        exact ⟨_, rfl, by simp, HB.out⟩
    · go_wp2
      go_ret
      exact ⟨_, rfl, fun _ q hq => HZ.out q (by omega), HB.out⟩

theorem run_sub_any {P : Program} (x y : Nat) (t : TypeId) (w : World) : (binOp .sub t (.float .f64 x) (.float .f64 y)).run P w = .ok (.float .f64 (rF .sub x y w)) (w.drewN (dF .sub x y)) := by
  cases h : floatBits .sub .f64 x y with
  | some r =>
    rw [run_float_arith w .sub t .f64 x y r h]
    simp [rF, dF, h, World.drewN_zero]
  | none =>
    have h' : FloatKind.f64.format.sub x y = none := h
    simp [rF, dF, h, binOp, Op.floatArith, h', Question.forced, World.drew_is_drewN]
/-- 'x - x == 0': is x finite? -/
theorem fin_test (x : Nat) (w : World) : (FloatKind.f64.format.order (rF .sub x x w) 0 == some Ordering.eq) = fin x := by
  show feq (rF .sub x x w) 0 = fin x
  have hfb : floatBits .sub .f64 x x = ((Ieee.double.read x).sum (Ieee.double.read x).opposite).map Ieee.double.write := rfl
  cases hf : fin x with
  | true =>
    obtain ⟨s, m, e, hr⟩ := read_fin hf
    have hs : ((Ieee.double.read x).sum (Ieee.double.read x).opposite) = some (.number (s && !s) 0 e) := by
      rw [hr]
      simp [Ieee.Datum.sum, Ieee.Datum.opposite, signed_neg, Int.add_right_neg]
    rw [hs] at hfb
    unfold rF
    rw [hfb]
    simp only [Option.map_some, Option.getD_some]
    exact feq_zero (write_zero _ _) rfl
  | false =>
    have hn : floatBits .sub .f64 x x = none := by
      rw [hfb]
      unfold fin at hf
      have hf := of_decide_eq_false hf
      by_cases hx : nanW x = true
      · obtain ⟨s, t, e⟩ := (read_nan x).2 hx
        rw [e]
        simp [Ieee.Datum.sum]
      · have hi : ∃ s, Ieee.double.read x = .infinity s := by
          unfold nanW at hx
          simp only [decide_eq_true_eq] at hx
          unfold Ieee.Format.read
          dsimp only
          rw [sw, ir, bn, if_neg (by omega), if_neg (by omega), if_pos (by omega)]
          exact ⟨_, rfl⟩
        obtain ⟨s, e⟩ := hi
        rw [e]
        cases s <;> simp [Ieee.Datum.sum, Ieee.Datum.opposite]
    unfold rF
    rw [hn]
    exact feq_nan (nan_cut x x _) 0

set_option maxRecDepth 100000 in
set_option maxHeartbeats 4000000 in
theorem zeroMul_any (g : Nat → Nat) (cs : Array Value) (X : Nat → Nat → Nat) (rows ph : Nat) (w : World) (hX : Arr cs 13 X) (hr : rows ≤ 13)
    (hfin : ∀ j, j < 6 → (∀ i, i < rows → fin (X i j) = true) → (j = 0 → SameF (g 0) ph) ∧ (j ≠ 0 → feq (g j) 0 = true)) (hinf : ∀ j, j < 6 → (∃ i, i < rows ∧ fin (X i j) = false) → nanW (g j) = true) :
    Calls Try.prog 16 #[.agg #[.float .f64 (g 0), .float .f64 (g 1), .float .f64 (g 2), .float .f64 (g 3), .float .f64 (g 4), .float .f64 (g 5)], .agg cs, .int .i64 rows, .float .f64 ph] w fun x w' => x = .returned (.bool true) ∧ But [] w w' := by
  have HX : Hid (Arr cs 13 X) := hX
  have HFin : Hid _ := hfin
  have HInf : Hid _ := hinf
  clear hX hfin hinf
  go_enter Try.func16, Try.ntmps16
  go_upto_region 2 with fail
  have H1 : Hid _ := Six.of (g := g) (two_olds w (.cells #[.float .f64 (g 0), .float .f64 (g 1), .float .f64 (g 2), .float .f64 (g 3), .float .f64 (g 4), .float .f64 (g 5)] 25) (.cells cs 26)).1
  have H2 : Hid _ := (two_olds w (.cells #[.float .f64 (g 0), .float .f64 (g 1), .float .f64 (g 2), .float .f64 (g 3), .float .f64 (g 4), .float .f64 (g 5)] 25) (.cells cs 26)).2
  have HB : Hid (But [] w ((w.alloc (.cells #[.float .f64 (g 0), .float .f64 (g 1), .float .f64 (g 2), .float .f64 (g 3), .float .f64 (g 4), .float .f64 (g 5)] 25)).alloc (.cells cs 26))) := ((But.refl [] w).alloc _).alloc _
  generalize World.alloc (World.alloc w _) _ = w0 at H1 H2 HB ⊢
  generalize w.heap.size + 1 = b5 at H2 ⊢
  generalize w.heap.size = b4 at H1 ⊢
  go_loopw [9] (fun i wr => ∃ j : Nat, j ≤ 6 ∧ i = .int .i64 j ∧ But [] w0 wr) (fun i _ => 6 - (intOf i).toNat)
  case atStart => exact ⟨0, Nat.zero_le _, rfl, But.refl _ _⟩
  case round =>
    obtain ⟨j, hj, rfl, hb⟩ := hrel
    have HB1 : Hid _ := hb
    clear hb
    by_cases hlj : j < 6
    · have hljI : (j : Int) < 6 := by omega
      go_wp2
      go_loopw [11, 10] (fun i f wr => ∃ (k : Nat) (fl : Bool), k ≤ rows ∧ i = .int .i64 k ∧ f = .bool fl ∧ (fl = true → ∀ q, q < k → fin (X q j) = true) ∧ (fl = false → ∃ q, q < k ∧ fin (X q j) = false) ∧ But [] w0 wr) (fun i _ _ => rows - (intOf i).toNat)
      case atStart => exact ⟨0, true, Nat.zero_le _, rfl, rfl, fun _ q hq => by omega, (fun h => by cases h), HB1.out⟩
      case round =>
        obtain ⟨k, fl, hk, rfl, rfl, ht, hf, hb⟩ := hrel
        clear HB1
        have HB1 : Hid _ := hb
        have HT : Hid (fl = true → ∀ q, q < k → fin (X q j) = true) := ht
        have HF : Hid (fl = false → ∃ q, q < k ∧ fin (X q j) = false) := hf
        clear hb ht hf
        by_cases hlk : k < rows
        · have c0 : wr.cell? ⟨b5, k * 6 + j, none⟩ = some (.float .f64 (X k j)) := (cell_of_row _ _ _ _ _ _ (HB1.out.at H2.out)).trans (HX.out.2 k j (by omega) hlj)
          have hk13 : k < 13 := by omega
          have hsub : ∀ w' : World, (binOp .sub 24 (.float .f64 (X k j)) (.float .f64 (X k j))).run Try.prog w' = .ok (.float .f64 (rF .sub (X k j) (X k j) w')) (w'.drewN (dF .sub (X k j) (X k j))) := fun w' => run_sub_any _ _ _ _
          have htest : ∀ w' : World, (FloatKind.f64.format.order (rF .sub (X k j) (X k j) w') 0 == some Ordering.eq) = fin (X k j) := fun w' => fin_test _ _
          cases hfx : fin (X k j)
          · have HFx : Hid (fin (X k j) = false) := hfx
            go_wp2
            exact ⟨⟨k + 1, false, by omega, by simp, rfl, (fun h => by cases h), fun _ => ⟨k, by omega, HFx.out⟩, HB1.out.drewN _⟩, by simp [intOf]; omega⟩
          · have HFx : Hid (fin (X k j) = true) := hfx
            go_wp2
            refine ⟨⟨k + 1, fl, by omega, by simp, rfl, fun h q hq => ?_, fun h => ?_, HB1.out.drewN _⟩, by simp [intOf]; omega⟩
            · by_cases e : q = k
              · rw [e]; exact HFx.out
              · exact HT.out h q (by omega)
            · obtain ⟨q, hq, e⟩ := HF.out h
              exact ⟨q, by omega, e⟩
        · have c0 := Six.but H1.out HB1.out j hlj
          have hkr : k = rows := by omega
          cases fl
          · have hn : nanW (g j) = true := HInf.out j hlj (by obtain ⟨q, hq, e⟩ := HF.out rfl; exact ⟨q, by omega, e⟩)
            have hcmp : (FloatKind.f64.format.order (g j) (g j) == some Ordering.eq) = false := feq_nan hn (g j)
            clear hn hkr
            go_wp2
            go_region
            all_goals go_wp2
            all_goals exact ⟨⟨j + 1, by omega, by simp, by repeat (first | exact HB1.out | apply But.drewN | apply But.drew)⟩, by simp [intOf]; omega⟩
          · obtain ⟨hz, hnz⟩ := HFin.out j hlj (fun i hi => HT.out rfl i (by omega))
            by_cases hj0 : j = 0
            · subst hj0
              have HS : Hid _ := hz rfl
              clear hz hnz hkr
              go_wp2_with (go_at_call 14; refine (same_any _ _ _ HS.out).mono ?_; rintro e w2 ⟨rfl, hb2⟩; have HB2 : Hid _ := hb2; clear hb2)
              exact ⟨⟨0 + 1, by omega, by simp, HB1.out.trans HB2.out⟩, by simp [intOf]⟩
            · have hcmp : FloatKind.f64.format.order (g j) 0 = some Ordering.eq := by simpa [feq] using hnz hj0
              have hj0I : ¬ (j : Int) = 0 := by omega
              clear hz hnz hkr
              go_wp2
              exact ⟨⟨j + 1, by omega, by simp, HB1.out⟩, by simp [intOf]; omega⟩
    · go_wp2
      go_ret
      exact ⟨rfl, HB.out.trans HB1.out⟩
end Go.Proofs.Qxb6604178a.Elp
