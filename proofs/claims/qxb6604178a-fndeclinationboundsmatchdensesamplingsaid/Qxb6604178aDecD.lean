/-
  FnDeclinationBoundsMatchDenseSampling: the row, given the plain law.
-/
import Derived.Test.Qxb6604178aDecC
import Derived.ProofKit
import Derived.OpenShut
import Derived.ShutString
import Derived.ChangeOld
import Derived.Below
import Derived.Laws.IdiomArrays
namespace Go.Proofs.Qxb6604178a.Dec
open Go.ChangeShapes Go.WideShapes Go.ChangeAt Go.RowKit Fl

theorem own : ownKnob Try.prog.godebug = none := by kernel_rfl
theorem laidOut : laidOutB Try.prog = true := by kernel_rfl
theorem cells24 : Try.prog.cellsOf 24 = 1 := by kernel_rfl
theorem cells55 : Try.prog.cellsOf 55 = 3 := by kernel_rfl

section
variable {H : Type} {enc : TypeId × Value → H} {P : Program} {w : World} {base : Nat} {spare : Nat → Bool} {held : Bool}
theorem cell_float {t : TypeId} {k : FloatKind} {n : Nat} {c : Value} {y : DataW H × List MemPlace} (ht : P.underlying t = some (.float k)) (h : DataW.trod enc P w base spare held n t [c] = some y) : ∃ b, c = .float k b ∧ (Lit.float k b).wf = true := by
  cases n with
  | zero => simp [DataW.trod] at h
  | succ n =>
    unfold DataW.trod at h
    rw [ht] at h
    cases c <;> simp at h
    rename_i k' b
    by_cases hk : k' = k
    · subst hk
      refine ⟨b, rfl, ?_⟩
      simpa using h.1
    · simp [hk] at h
theorem arr3 {α : Type} : (cs : Array α) → cs.size = 3 → ∃ a b c, cs = #[a, b, c]
  | ⟨[a, b, c]⟩, _ => ⟨a, b, c, rfl⟩
theorem open_arr3 {r : Reach} {b0 : Nat} {t e : TypeId} {v : Value} {d : DataW H} {p : List MemPlace} (ht : P.underlying t = some (.array 3 e)) (he : P.underlying e = some (.float .f64)) (hce : P.cellsOf e = 1) (hct : P.cellsOf t = 3)
    (hv : Value.okWide P w r b0 t v) (h : DataW.Trod enc P w base spare held t v d p) :
    ∃ x y z, v = .agg #[.float .f64 x, .float .f64 y, .float .f64 z] ∧ (Lit.float .f64 x).wf = true ∧ (Lit.float .f64 y).wf = true ∧ (Lit.float .f64 z).wf = true := by
  obtain ⟨cs, rfl, hsz⟩ : ∃ cs, v = .agg cs ∧ cs.size = P.cellsOf t := by
    simp only [Value.okWide, ht] at hv
    obtain ⟨cs, h1, h2, _⟩ := hv
    exact ⟨cs, h1, h2⟩
  obtain ⟨c0, c1, c2, rfl⟩ := arr3 cs (hsz.trans hct)
  obtain ⟨fuel, hf⟩ := h
  obtain ⟨y0, y1, y2, n, _, h0, h1, h2⟩ := trod_array3 ht hce (by simpa [Value.cells] using hf)
  obtain ⟨x, rfl, wx⟩ := cell_float he h0
  obtain ⟨y, rfl, wy⟩ := cell_float he h1
  obtain ⟨z, rfl, wz⟩ := cell_float he h2
  exact ⟨x, y, z, rfl, wx, wy, wz⟩
end

set_option maxRecDepth 100000 in
theorem lifted (plain : ∀ y0 y1 y2 d : Nat, y0 < 2 ^ 64 → y1 < 2 ^ 64 → y2 < 2 ^ 64 → d < 2 ^ 64 → wiF d = true → wiF y0 = true → wiF y1 = true → wiF y2 = true → AllOk y0 y1 y2 d)
    (os : Os) (started : os.Started) (H : Type) (enc : TypeId × Value → H) :
    ReturnsInHanded {} Try.checked os 6 .any (Rows.fnDeclinationBoundsMatchDenseSamplingSpec.pre6 enc Try.prog Try.f6 Rows.fnDeclinationBoundsMatchDenseSamplingRow.domain false) (Rows.fnDeclinationBoundsMatchDenseSamplingSpec.post enc Try.prog Try.f6 false true false false) := by
  refine returnsInHanded_of_change (C := Try.checked) own started (by kernel_rfl) Try.func6
    (ChangeSpec.witness6 (enc := enc) (C := Try.checked) false ⟨#[], #[.float .f64 0, .float .f64 0, .float .f64 0, .float .f64 0, .float .f64 0, .float .f64 0, .agg #[.float .f64 0, .float .f64 0, .float .f64 0], .agg #[.float .f64 0, .float .f64 0, .float .f64 0]], []⟩ 8 (by kernel_rfl) (by kernel_rfl) (by kernel_rfl) (by kernel_rfl)) ?_
  intro W base args ds gs before hval0 hW hcnd _
  have hval : ∀ (j : Nat) t v, Try.f6.params[j]? = some t → args[j]? = some v → Value.okWide Try.prog W .any base t v := hval0
  have hW' := hW
  obtain ⟨p, q, hA0, hV, rfl, hfz, hnd⟩ := hW
  have hA : DataW.TrodAll enc Try.prog W 0 (fun _ => true) true Try.f6.params.toList args.toList ds p := hA0
  rw [Try.params6] at hA hval
  obtain ⟨v0, vs0, d0, ds0, p0, q0, hargs, rfl, rfl, h0, r0⟩ := trodAll_cons hA
  obtain ⟨v1, vs1, d1, ds1, p1, q1, rfl, rfl, rfl, h1, r1⟩ := trodAll_cons r0
  obtain ⟨v2, vs2, d2, ds2, p2, q2, rfl, rfl, rfl, h2, r2⟩ := trodAll_cons r1
  obtain ⟨v3, vs3, d3, ds3, p3, q3, rfl, rfl, rfl, h3, r3⟩ := trodAll_cons r2
  obtain ⟨v4, vs4, d4, ds4, p4, q4, rfl, rfl, rfl, h4, r4⟩ := trodAll_cons r3
  obtain ⟨v5, vs5, d5, ds5, p5, q5, rfl, rfl, rfl, h5, r5⟩ := trodAll_cons r4
  obtain ⟨v6, vs6, d6, ds6, p6, q6, rfl, rfl, rfl, h6, r6⟩ := trodAll_cons r5
  obtain ⟨v7, vs7, d7, ds7, p7, q7, rfl, rfl, rfl, h7, r7⟩ := trodAll_cons r6
  obtain ⟨rfl, rfl, rfl⟩ := trodAll_nil r7
  obtain rfl : args = #[v0, v1, v2, v3, v4, v5, v6, v7] := by cases args; simp_all
  obtain ⟨rfl, rfl⟩ := trodVars_none hV
  have lt : ∀ {t : TypeId} {v : Value} {d : DataW H} {ps : List MemPlace}, DataW.Trod enc Try.prog W 0 (fun _ => true) true t v d ps → ∀ x ∈ ps, x.block < W.heap.size := fun k => by obtain ⟨m, hm⟩ := k; exact DataW.trod_lt m _ _ _ hm
  obtain ⟨c0, rfl, _⟩ := open_float Try.underlying24 (hval 0 24 v0 rfl rfl) h0
  obtain ⟨c1, rfl, _⟩ := open_float Try.underlying24 (hval 1 24 v1 rfl rfl) h1
  obtain ⟨c2, rfl, _⟩ := open_float Try.underlying24 (hval 2 24 v2 rfl rfl) h2
  obtain ⟨c3, rfl, _⟩ := open_float Try.underlying24 (hval 3 24 v3 rfl rfl) h3
  obtain ⟨c4, rfl, _⟩ := open_float Try.underlying24 (hval 4 24 v4 rfl rfl) h4
  obtain ⟨c5, rfl, _, _, w5⟩ := open_float Try.underlying24 (hval 5 24 v5 rfl rfl) h5
  obtain ⟨s0, s1, s2, rfl, _⟩ := open_arr3 Try.underlying55 Try.underlying24 cells24 cells55 (hval 6 55 v6 rfl rfl) h6
  obtain ⟨y0, y1, y2, rfl, e0, e1, e2⟩ := open_arr3 Try.underlying55 Try.underlying24 cells24 cells55 (hval 7 55 v7 rfl rfl) h7
  clear hA0 hval0
  have walk : Calls Try.prog 6 #[.float .f64 c0, .float .f64 c1, .float .f64 c2, .float .f64 c3, .float .f64 c4, .float .f64 c5, .agg #[.float .f64 s0, .float .f64 s1, .float .f64 s2], .agg #[.float .f64 y0, .float .f64 y1, .float .f64 y2]] W
      fun e w' => e = .returned (.bool true) ∧ Below W.heap.size W w' := by
    by_cases hwi : (wiF c5 && wiF y0 && wiF y1 && wiF y2) = true
    · simp only [Bool.and_eq_true] at hwi
      obtain ⟨⟨⟨i0, i1⟩, i2⟩, i3⟩ := hwi
      simp only [Lit.wf, decide_eq_true_eq] at w5 e0 e1 e2
      exact law_yes y0 y1 y2 c5 c0 c1 c2 c3 c4 s0 s1 s2 W i0 i1 i2 i3 (plain y0 y1 y2 c5 e0 e1 e2 w5 i0 i1 i2 i3)
    · exact law_no y0 y1 y2 c5 c0 c1 c2 c3 c4 s0 s1 s2 W (by simpa using hwi)
  refine walk.mono fun e W' ⟨he, bel⟩ => ?_
  subst he
  exact ⟨_, rfl, _, _, _, [], _, [], hW', trodAll_mk1 (shut_bool Try.underlying4 _),
    (trodAll_cons_mk (Below.trod laidOut (by kernel_rfl) (of_decide_eq_true (by kernel_rfl)) h0 bel (lt h0))
    (trodAll_cons_mk (Below.trod laidOut (by kernel_rfl) (of_decide_eq_true (by kernel_rfl)) h1 bel (lt h1))
    (trodAll_cons_mk (Below.trod laidOut (by kernel_rfl) (of_decide_eq_true (by kernel_rfl)) h2 bel (lt h2))
    (trodAll_cons_mk (Below.trod laidOut (by kernel_rfl) (of_decide_eq_true (by kernel_rfl)) h3 bel (lt h3))
    (trodAll_cons_mk (Below.trod laidOut (by kernel_rfl) (of_decide_eq_true (by kernel_rfl)) h4 bel (lt h4))
    (trodAll_cons_mk (Below.trod laidOut (by kernel_rfl) (of_decide_eq_true (by kernel_rfl)) h5 bel (lt h5))
    (trodAll_cons_mk (Below.trod laidOut (by kernel_rfl) (of_decide_eq_true (by kernel_rfl)) h6 bel (lt h6))
    (trodAll_cons_mk (Below.trod laidOut (by kernel_rfl) (of_decide_eq_true (by kernel_rfl)) h7 bel (lt h7)) trodAll_mk0)))))))), rfl, bel.frame _, fun h => by cases h⟩

theorem over (plain : ∀ y0 y1 y2 d : Nat, y0 < 2 ^ 64 → y1 < 2 ^ 64 → y2 < 2 ^ 64 → d < 2 ^ 64 → wiF d = true → wiF y0 = true → wiF y1 = true → wiF y2 = true → AllOk y0 y1 y2 d) :
    Rows.fnDeclinationBoundsMatchDenseSamplingRow.holds Try.pinned (OpenSpec.ofChange Rows.fnDeclinationBoundsMatchDenseSamplingSpec) :=
  OpenClaim.holds_of_wide 6 Try.f6 rfl rfl rfl rfl rfl rfl rfl ⟨rfl, rfl, rfl, rfl, rfl⟩ rfl rfl rfl rfl rfl (by kernel_rfl) Try.func6 (by kernel_rfl)
    (of_decide_eq_true (by kernel_rfl)) (by unfold Func.isWrapper; first | (rw [if_pos (by decide +kernel)]; kernel_rfl) | (rw [if_neg (by decide +kernel)]; exact ⟨rfl, rfl⟩))
    (fun os started H enc _ => lifted plain os started H enc)
end Go.Proofs.Qxb6604178a.Dec
