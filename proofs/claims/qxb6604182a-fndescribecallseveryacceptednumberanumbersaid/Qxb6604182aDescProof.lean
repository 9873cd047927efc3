/-
  FnDescribeCallsEveryAcceptedNumberANumber: the walk and the row (the guide's shell, filled).
-/
import Derived.Test.Qxb6604182aRows
import Derived.Test.Qxb6604182aZZ
import Derived.Test.Qxb6604182aDesc
import Derived.WalkKit
import Derived.ProofKit
import Derived.OpenShut
import Derived.ShutString
import Derived.ChangeOld
import Derived.Below
namespace Go.Proofs.Qxb6604182a.fnDescribeCallsEveryAcceptedNumberANumber
open Go.ChangeShapes Go.WideShapes Go.ChangeAt Go.RowKit
open Go.ChangeMaps (open_string shut_string)
set_option linter.unusedVariables false

theorem own : ownKnob Try.prog.godebug = none := by kernel_rfl
theorem laidOut : laidOutB Try.prog = true := by kernel_rfl


/-- What is accepted begins with a sign or a digit. -/
theorem accepted {T : List Int} {neg : Bool} {oa : Option Addr} {n : Nat} {ex : Int} {w : World} (h : ZP T neg oa n ex true w) : 0 < T.length ∧ (T.getD 0 0 = 45 ∨ (48 ≤ T.getD 0 0 ∧ T.getD 0 0 ≤ 57)) := by
  have hs : ∃ r, parseP T = some r := by
    unfold ZP at h
    cases hp : parseP T with
    | none => rw [hp] at h; exact absurd h.2.2.2.2 (by decide)
    | some r => exact ⟨r, rfl⟩
  obtain ⟨r, hs⟩ := hs
  cases T with
  | nil => rw [show parseP [] = none from rfl] at hs; cases hs
  | cons c cs =>
    refine ⟨by simp, ?_⟩
    simp only [List.getD_cons_zero]
    by_cases h45 : c = 45
    · exact Or.inl h45
    · right
      unfold parseP at hs
      rw [if_neg (by simpa using h45)] at hs
      unfold wholeP at hs
      by_cases hd : isD c = true
      · exact isD_t hd
      · rw [if_pos (Or.inl (by rw [List.takeWhile_cons, if_neg hd]))] at hs
        cases hs

theorem zT_is (T : List Int) (i : Nat) : zT T i = T.getD i 0 := rfl

set_option maxHeartbeats 1000000 in
theorem law_row (len : Nat) (a : Option Addr) (cap : Nat) (zs : List Int) (w : World) (hl : len ≤ 1048576) (h : IsRow .u8 w a len cap zs) (hne : a ≠ none) :
    Calls Try.prog 4 #[.slice a len cap] w fun e w' => e = .returned (.bool true) ∧ Below w.heap.size w w' := by
  have HI : Hid (IsRow .u8 w a len cap zs) := h
  clear h
  have hdec : decide (len ≤ 1048576) = true := by simpa using hl
  go_enter Try.func4, Try.ntmps4
  go_wp2_with (first
    | (go_at_call 11; refine (bytes11_any _ _ _ _).mono ?_; rintro e w0 ⟨rfl, rfl⟩)
    | (go_at_call 7; refine (clone_text _ _ _ zs _ hl HI.out hne).mono ?_; rintro e w1 ⟨T, hTl, hTb, rfl, hb, ht⟩; subst hTl; have HT : Hid (Text w1 _ T) := ht; clear ht)
    | (go_at_call 8; refine (zzparse_any _ T _ hl HT.out).mono ?_; rintro e w2 ⟨neg, oa, n, c, ex, ok, rfl, hz, hb2⟩; have HZ : Hid (ZP T neg oa n ex ok w2) := hz; clear hz; cases ok))
  · go_ret
    exact ⟨rfl, hb.trans (hb2.mono hb.size)⟩
  · obtain ⟨g0, g1⟩ := accepted HZ.out
    have HG1 : Hid (T.getD 0 0 = 45 ∨ (48 ≤ T.getD 0 0 ∧ T.getD 0 0 ≤ 57)) := g1
    have HT2 : Hid (∀ i, i < T.length → w2.cell? ⟨w0.heap.size, i, none⟩ = some (.int .u8 (T.getD i 0))) := fun i hi => World.rowIs.cell (HT.out.later hb2) hi
    have HB : Hid (Below w0.heap.size w0 w2) := hb.trans (hb2.mono hb.size)
    have HD : Hid _ := desc_bytes T hTb
    clear g1 hTb hb hb2 HZ
    go_wp2_with (first
      | (go_at_call 13; refine (zzdescribe_any _ _ T _ _ hl g0 rfl HG1.out HT2.out).mono ?_; rintro e w3 ⟨rfl, rfl⟩)
      | (go_at_call 12; refine (numText_any _ _ T.length (fun i => T.getD i 0) _ _ hl HD.out.1 HD.out.2.1 HD.out.2.2 HT2.out).mono ?_; rintro e w4 ⟨rfl, q, rfl⟩))
    go_ret
    exact ⟨rfl, below_drewN HB.out _⟩

set_option maxHeartbeats 1000000 in
theorem walk (a0 : Option Addr) (len0 cap0 : Nat) (z0 : List Int) (w : World) (w0 : IsRow .u8 w a0 len0 cap0 z0) :
    Calls Try.prog 4 #[.slice a0 len0 cap0] w fun e w' => e = .returned (.bool true) ∧ Below w.heap.size w w' := by
  by_cases hl : len0 ≤ 1048576
  · by_cases hne : a0 = none
    · rcases w0 with ⟨rfl, rfl, rfl, _⟩ | ⟨x, hx, _⟩
      · go_enter Try.func4, Try.ntmps4
        go_wp2_with (first
          | (go_at_call 11; refine (bytes11_any _ _ _ _).mono ?_; rintro e w' ⟨rfl, rfl⟩)
          | (go_at_call 7; refine (clone_nil _).mono ?_; rintro e w1 ⟨rfl, rfl⟩)
          | (go_at_call 8; refine (zzparse_nil _).mono ?_; rintro e w2 ⟨rfl, hb2⟩))
        go_ret
        exact ⟨rfl, hb2⟩
      · rw [hne] at hx; cases hx
    · exact law_row len0 a0 cap0 z0 w hl w0 hne
  · have hdec : decide (len0 ≤ 1048576) = false := by simpa using hl
    clear w0
    go_enter Try.func4, Try.ntmps4
    go_wp2_with (go_at_call 11; refine (bytes11_any _ _ _ _).mono ?_; rintro e w' ⟨rfl, rfl⟩)
    go_ret
    exact ⟨rfl, Below.refl _ _⟩

/-! ### THE ROW's STEP: WRITTEN OUT: LEAVE IT -/
set_option maxRecDepth 100000 in
theorem lifted (os : Os) (started : os.Started) (H : Type) (enc : TypeId × Value → H) :
    ReturnsInHanded {} Try.checked os 4 .any (Rows.fnDescribeCallsEveryAcceptedNumberANumberSpec.pre6 enc Try.prog Try.f4 Rows.fnDescribeCallsEveryAcceptedNumberANumberRow.domain false) (Rows.fnDescribeCallsEveryAcceptedNumberANumberSpec.post enc Try.prog Try.f4 false true false false) := by
  refine returnsInHanded_of_change (C := Try.checked) own started (by kernel_rfl) Try.func4
    (ChangeSpec.witness6 (enc := enc) (C := Try.checked) false ⟨#[], #[.slice none 0 0], []⟩ 8 (by kernel_rfl) (by kernel_rfl) (by kernel_rfl) (by kernel_rfl)) ?_
  intro W base args ds gs before hval0 hW hcnd _
  have hval : ∀ (j : Nat) t v, Try.f4.params[j]? = some t → args[j]? = some v → Value.okWide Try.prog W .any base t v := hval0
  have hW' := hW
  obtain ⟨p, q, hA0, hV, rfl, hfz, hnd⟩ := hW
  have hA : DataW.TrodAll enc Try.prog W 0 (fun _ => true) true Try.f4.params.toList args.toList ds p := hA0
  rw [Try.params4] at hA hval
  obtain ⟨v0, vs0, d0, ds0, p0, q0, hargs, rfl, rfl, h0, r0⟩ := trodAll_cons hA
  obtain ⟨rfl, rfl, rfl⟩ := trodAll_nil r0
  obtain rfl : args = #[v0] := by cases args; simp_all
  obtain ⟨rfl, rfl⟩ := trodVars_none hV
  obtain ⟨a0, len0, cap0, rfl⟩ := okWide_slice Try.underlying22 (hval 0 22 v0 rfl rfl)
  have k0 := h0
  have lt0 : ∀ x ∈ p0, x.block < W.heap.size := by obtain ⟨m, hm⟩ := k0; exact DataW.trod_lt m _ _ _ hm
  obtain ⟨z0, w0⟩ : ∃ zs, IsRow .u8 W a0 len0 cap0 zs := by
    obtain ⟨fuel, hf⟩ := h0
    rcases open_ints Try.underlying22 Try.underlying5 (by kernel_rfl) hf with ⟨hcs, _⟩ | ⟨x, l, c, zs, hcs, _, hl, hm, hz, _, hcell, hwz⟩
    · simp [Value.cells] at hcs
      obtain ⟨rfl, rfl, rfl⟩ := hcs
      exact ⟨[], .inl ⟨rfl, rfl, rfl, rfl⟩⟩
    · simp [Value.cells] at hcs
      obtain ⟨rfl, rfl, rfl⟩ := hcs
      exact ⟨zs, .inr ⟨_, rfl, hl, hm, by simpa using hz, hcell, hwz⟩⟩
  clear hA0 hval0
  refine (walk a0 len0 cap0 z0 W w0).mono fun e W' ⟨he, bel⟩ => ?_
  subst he
  exact ⟨_, rfl, _, _, _, [], _, [], hW', trodAll_mk1 (shut_bool Try.underlying4 _), (trodAll_cons_mk (Below.trod laidOut (by kernel_rfl) (of_decide_eq_true (by kernel_rfl)) k0 bel lt0) trodAll_mk0), rfl, bel.frame _, fun h => by cases h⟩

theorem over : Rows.fnDescribeCallsEveryAcceptedNumberANumberRow.holds Try.pinned (OpenSpec.ofChange Rows.fnDescribeCallsEveryAcceptedNumberANumberSpec) :=
  OpenClaim.holds_of_wide 4 Try.f4 rfl rfl rfl rfl rfl rfl rfl ⟨rfl, rfl, rfl, rfl, rfl⟩ rfl rfl rfl rfl rfl (by kernel_rfl) Try.func4 (by kernel_rfl)
    (of_decide_eq_true (by kernel_rfl)) (by unfold Func.isWrapper; first | (rw [if_pos (by decide +kernel)]; kernel_rfl) | (rw [if_neg (by decide +kernel)]; exact ⟨rfl, rfl⟩))
    (fun os started H enc _ => lifted os started H enc)

/-- ████ THE STATEMENT ████ -/
theorem proved : Rows.FnDescribeCallsEveryAcceptedNumberANumberSaid := over
#print axioms proved
end Go.Proofs.Qxb6604182a.fnDescribeCallsEveryAcceptedNumberANumber
