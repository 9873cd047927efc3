/-
  The walks of ZZDeclinationBounds and of the law FnDeclinationBoundsMatchDenseSampling.
-/
import Derived.Test.Qxb6604178aDecB
import Derived.LoopTactic
namespace Go.Proofs.Qxb6604178a
open Go.RowKit Fl

set_option maxHeartbeats 1000000 in
theorem zzbounds_any (y0 y1 y2 d c0 c1 c2 c3 c4 r0 r1 r2 : Nat) (w : World) (h : BdOk y0 y1 y2 d) :
    Calls Try.prog 24 #[.float .f64 c0, .float .f64 c1, .float .f64 c2, .float .f64 c3, .float .f64 c4, .float .f64 d, .agg #[.float .f64 r0, .float .f64 r1, .float .f64 r2], .agg #[.float .f64 y0, .float .f64 y1, .float .f64 y2]] w
      fun e w' => e = .returned (.tuple #[.float .f64 (loF y0 y1 y2 d), .float .f64 (hiF y0 y1 y2 d)]) ∧ Below w.heap.size w w' := by
  go_enter Try.func24, Try.ntmps24
  go_wp2_with (go_at_call 32; refine (bounds_any y0 y1 y2 d _ _ _ _ _ _ _ _ _ h).mono ?_; rintro e w' ⟨rfl, hb⟩)
  go_ret2
  refine ⟨rfl, Below.trans (b := _) ?_ (hb.mono ?_)⟩
  · exact (((Below.refl _ _).alloc (Nat.le_refl _) _).alloc (by simp) _).alloc (by simp; omega) _
  · simp; omega

theorem within_is (x : Nat) (b : Bool) (w : World) (h : wiF x = b) :
    Calls Try.prog 23 #[.float .f64 x, .float .f64 4696837146684686336] w fun e w' => e = .returned (.bool b) ∧ w' = w := by
  subst h; exact within_any x _ w

set_option maxHeartbeats 1000000 in
theorem law_no (y0 y1 y2 d c0 c1 c2 c3 c4 r0 r1 r2 : Nat) (w : World) (h : (wiF d && wiF y0 && wiF y1 && wiF y2) = false) :
    Calls Try.prog 6 #[.float .f64 c0, .float .f64 c1, .float .f64 c2, .float .f64 c3, .float .f64 c4, .float .f64 d, .agg #[.float .f64 r0, .float .f64 r1, .float .f64 r2], .agg #[.float .f64 y0, .float .f64 y1, .float .f64 y2]] w
      fun e w' => e = .returned (.bool true) ∧ Below w.heap.size w w' := by
  have hs : wiF d = false ∨ (wiF d = true ∧ wiF y0 = false) ∨ (wiF d = true ∧ wiF y0 = true ∧ wiF y1 = false) ∨ (wiF d = true ∧ wiF y0 = true ∧ wiF y1 = true ∧ wiF y2 = false) := by
    revert h; cases wiF d <;> cases wiF y0 <;> cases wiF y1 <;> simp
  clear h
  rcases hs with h0 | ⟨h0, h1⟩ | ⟨h0, h1, h2⟩ | ⟨h0, h1, h2, h3⟩
  · go_enter Try.func6, Try.ntmps6
    go_wp2_with (go_at_call_of 23 (Value.float FloatKind.f64 d); refine (within_is _ false _ h0).mono ?_; rintro e w' ⟨rfl, rfl⟩)
    go_ret
    exact ⟨rfl, ((Below.refl _ _).alloc (Nat.le_refl _) _).alloc (by simp) _⟩
  · go_enter Try.func6, Try.ntmps6
    go_wp2_with (first
      | (go_at_call_of 23 (Value.float FloatKind.f64 d); refine (within_is _ true _ h0).mono ?_; rintro e w' ⟨rfl, rfl⟩)
      | (go_at_call_of 23 (Value.float FloatKind.f64 y0); refine (within_is _ false _ h1).mono ?_; rintro e w' ⟨rfl, rfl⟩))
    go_ret
    exact ⟨rfl, ((Below.refl _ _).alloc (Nat.le_refl _) _).alloc (by simp) _⟩
  · go_enter Try.func6, Try.ntmps6
    go_wp2_with (first
      | (go_at_call_of 23 (Value.float FloatKind.f64 d); refine (within_is _ true _ h0).mono ?_; rintro e w' ⟨rfl, rfl⟩)
      | (go_at_call_of 23 (Value.float FloatKind.f64 y0); refine (within_is _ true _ h1).mono ?_; rintro e w' ⟨rfl, rfl⟩)
      | (go_at_call_of 23 (Value.float FloatKind.f64 y1); refine (within_is _ false _ h2).mono ?_; rintro e w' ⟨rfl, rfl⟩))
    go_ret
    exact ⟨rfl, ((Below.refl _ _).alloc (Nat.le_refl _) _).alloc (by simp) _⟩
  · go_enter Try.func6, Try.ntmps6
    go_wp2_with (first
      | (go_at_call_of 23 (Value.float FloatKind.f64 d); refine (within_is _ true _ h0).mono ?_; rintro e w' ⟨rfl, rfl⟩)
      | (go_at_call_of 23 (Value.float FloatKind.f64 y0); refine (within_is _ true _ h1).mono ?_; rintro e w' ⟨rfl, rfl⟩)
      | (go_at_call_of 23 (Value.float FloatKind.f64 y1); refine (within_is _ true _ h2).mono ?_; rintro e w' ⟨rfl, rfl⟩)
      | (go_at_call_of 23 (Value.float FloatKind.f64 y2); refine (within_is _ false _ h3).mono ?_; rintro e w' ⟨rfl, rfl⟩))
    go_ret
    exact ⟨rfl, ((Below.refl _ _).alloc (Nat.le_refl _) _).alloc (by simp) _⟩

set_option maxRecDepth 20000 in
set_option maxHeartbeats 2000000 in
theorem law_yes (y0 y1 y2 d c0 c1 c2 c3 c4 r0 r1 r2 : Nat) (w : World) (h0 : wiF d = true) (h1 : wiF y0 = true) (h2 : wiF y1 = true) (h3 : wiF y2 = true) (h : AllOk y0 y1 y2 d) :
    Calls Try.prog 6 #[.float .f64 c0, .float .f64 c1, .float .f64 c2, .float .f64 c3, .float .f64 c4, .float .f64 d, .agg #[.float .f64 r0, .float .f64 r1, .float .f64 r2], .agg #[.float .f64 y0, .float .f64 y1, .float .f64 y2]] w
      fun e w' => e = .returned (.bool true) ∧ Below w.heap.size w w' := by
  go_enter Try.func6, Try.ntmps6
  go_wp2_with (first
    | (go_at_call_of 23 (Value.float FloatKind.f64 d); refine (within_is _ true _ h0).mono ?_; rintro e w' ⟨rfl, rfl⟩)
    | (go_at_call_of 23 (Value.float FloatKind.f64 y0); refine (within_is _ true _ h1).mono ?_; rintro e w' ⟨rfl, rfl⟩)
    | (go_at_call_of 23 (Value.float FloatKind.f64 y1); refine (within_is _ true _ h2).mono ?_; rintro e w' ⟨rfl, rfl⟩)
    | (go_at_call_of 23 (Value.float FloatKind.f64 y2); refine (within_is _ true _ h3).mono ?_; rintro e w' ⟨rfl, rfl⟩)
    | (go_at_call 24; refine (zzbounds_any y0 y1 y2 d _ _ _ _ _ _ _ _ _ h.bd).mono ?_; rintro e w1 ⟨rfl, hb⟩; obtain ⟨hc, hf⟩ := bcell hb; have hz := hb.size; simp at hz)
    | (go_at_call 25; refine (threePoint_any _ _ _ _ _ h.t0).mono ?_; rintro e w' ⟨rfl, rfl⟩))
  go_loop [22, 23, 24] (fun l g i => ∃ j : Nat, j ≤ 1024 ∧ i = .int .i64 ((j : Int) + 1) ∧ l = .float .f64 (lowF y0 y1 y2 d j) ∧ g = .float .f64 (highF y0 y1 y2 d j)) (fun _ _ i => 1025 - (intOf i).toNat)
  case atStart => exact ⟨0, by omega, rfl, rfl, rfl⟩
  case round =>
    obtain ⟨j, hj, rfl, rfl, rfl⟩ := hrel
    by_cases hlt : j < 1024
    · obtain ⟨k1, k2, k3⟩ := h.ks j hlt
      have q1 := fun t w => run_quo (P := Try.prog) k1 dvs_1024 t w
      have q2 := fun t w => run_add (P := Try.prog) h.bd.hd k2 t w
      have HL : Hid (lowF y0 y1 y2 d (j + 1) = if flt (tp y0 y1 y2 (tk d ((j : Int) + 1))) (lowF y0 y1 y2 d j) then tp y0 y1 y2 (tk d ((j : Int) + 1)) else lowF y0 y1 y2 d j) := rfl
      have HG : Hid (highF y0 y1 y2 d (j + 1) = if fgt (tp y0 y1 y2 (tk d ((j : Int) + 1))) (highF y0 y1 y2 d j) then tp y0 y1 y2 (tk d ((j : Int) + 1)) else highF y0 y1 y2 d j) := rfl
      have tl : (FloatKind.f64.format.order (tp y0 y1 y2 (fadd d (fdiv (floatOfInt .f64 ((j : Int) + 1)) 4652218415073722368))) (lowF y0 y1 y2 d j) == some .lt) = flt (tp y0 y1 y2 (tk d ((j : Int) + 1))) (lowF y0 y1 y2 d j) := rfl
      have tg : (FloatKind.f64.format.order (tp y0 y1 y2 (fadd d (fdiv (floatOfInt .f64 ((j : Int) + 1)) 4652218415073722368))) (highF y0 y1 y2 d j) == some .gt) = fgt (tp y0 y1 y2 (tk d ((j : Int) + 1))) (highF y0 y1 y2 d j) := rfl
      cases f1 : flt (tp y0 y1 y2 (tk d ((j : Int) + 1))) (lowF y0 y1 y2 d j) <;> cases f2 : fgt (tp y0 y1 y2 (tk d ((j : Int) + 1))) (highF y0 y1 y2 d j)
      all_goals
        rw [f1] at tl HL
        rw [f2] at tg HG
        clear f1 f2
        go_wp2_with (go_at_call 25; refine (threePoint_any _ _ _ _ _ k3).mono ?_; rintro e w' ⟨rfl, rfl⟩)
        go_round
        case rel => exact ⟨j + 1, by omega, by go_num, by rw [HL.out]; rfl, by rw [HG.out]; rfl⟩
        case measure => simp [intOf]; omega
    · have hj2 : j = 1024 := by omega
      have l3 : fin (lowF y0 y1 y2 d j) = true := by rw [hj2]; exact h.l3
      have l4 : fin (highF y0 y1 y2 d j) = true := by rw [hj2]; exact h.l4
      have v2 : fle (fabs (fsub (loF y0 y1 y2 d) (lowF y0 y1 y2 d j))) (tolF y0 y1 y2 d) = true := by rw [hj2]; exact h.v2
      have v3 : fle (fabs (fsub (hiF y0 y1 y2 d) (highF y0 y1 y2 d j))) (tolF y0 y1 y2 d) = true := by rw [hj2]; exact h.v3
      have H2 : Hid (j = 1024) := hj2
      clear hj2
      have q1 := fun t w => run_add (P := Try.prog) h.ad fin_one t w
      have q2 := fun t w => run_add (P := Try.prog) h.a0 h.a1 t w
      have q3 := fun t w => run_add (P := Try.prog) h.s1 h.a2 t w
      have q4 := fun t w => run_mul (P := Try.prog) fin_four h.s2 t w
      have q5 := fun t w => run_add (P := Try.prog) fin_one h.r1 t w
      have q6 := fun t w => run_mul (P := Try.prog) h.r1 h.r1 t w
      have q7 := fun t w => run_add (P := Try.prog) h.p1 h.p2 t w
      have q8 := fun t w => run_mul (P := Try.prog) h.s3 h.p3 t w
      have q9 := fun t w => run_add (P := Try.prog) fin_one h.c1 t w
      have q10 := fun t w => run_mul (P := Try.prog) fin_e12 h.c2 t w
      have q11 := fun t w => run_mul (P := Try.prog) fin_two h.bd.hy1 t w
      have q12 := fun t w => run_sub (P := Try.prog) h.bd.hy2 h.e1 t w
      have q13 := fun t w => run_add (P := Try.prog) h.e2 h.bd.hy0 t w
      have q14 := fun t w => run_quo (P := Try.prog) h.e4 dvs_8e6 t w
      have q15 := fun t w => run_add (P := Try.prog) h.c3 h.e5 t w
      have q16 := fun t w => run_sub (P := Try.prog) h.l1 l3 t w
      have q17 := fun t w => run_sub (P := Try.prog) h.l2 l4 t w
      have v1 := h.v1
      unfold fle flt feq at v1 v2 v3
      clear l3 l4
      go_wp2_with (go_at_call 26; refine (absf_any _ _).mono ?_; rintro e w' ⟨rfl, rfl⟩)
      go_ret
      refine ⟨rfl, Below.trans (b := _) ?_ (hb.mono ?_)⟩
      · exact ((Below.refl _ _).alloc (Nat.le_refl _) _).alloc (by simp) _
      · simp; omega
end Go.Proofs.Qxb6604178a
