/-
  FnLeadingDigitsSplitsAtFirstNonDigit: the walk and the row (the guide's shell, filled).
-/
import Derived.Test.Qxb6604182aRows
import Derived.Test.Qxb6604182aWalkB
import Derived.WalkKit
import Derived.ProofKit
import Derived.OpenShut
import Derived.ShutString
import Derived.ChangeOld
import Derived.Below
namespace Go.Proofs.Qxb6604182a.fnLeadingDigitsSplitsAtFirstNonDigit
open Go.ChangeShapes Go.WideShapes Go.ChangeAt Go.RowKit
open Go.ChangeMaps (open_string shut_string)
set_option linter.unusedVariables false

theorem own : ownKnob Try.prog.godebug = none := by kernel_rfl
theorem laidOut : laidOutB Try.prog = true := by kernel_rfl


set_option maxHeartbeats 1000000 in
theorem law_row (len : Nat) (a : Option Addr) (cap : Nat) (zs : List Int) (w : World) (hl : len ≤ 1048576) (h : IsRow .u8 w a len cap zs) (hne : a ≠ none) :
    Calls Try.prog 5 #[.slice a len cap] w fun e w' => e = .returned (.bool true) ∧ Below w.heap.size w w' := by
  have HI : Hid (IsRow .u8 w a len cap zs) := h
  clear h
  have hdec : decide (len ≤ 1048576) = true := by simpa using hl
  go_enter Try.func5, Try.ntmps5
  go_wp2_with (first
    | (go_at_call 14; refine (bytes14_any _ _ _ _).mono ?_; rintro e w' ⟨rfl, rfl⟩)
    | (go_at_call 7; refine (clone_row _ _ _ zs _ hl HI.out hne).mono ?_; rintro e w1 ⟨z, hz, rfl, hb, hr⟩)
    | (go_at_call 15; refine (zzleading_any _ _ _ _ z _ hl (Nat.le_refl _) (fun i hi => by rw [Nat.zero_add]; exact hr.cell hi)).mono ?_; rintro e w2 ⟨n, o, n1, n2, n3, n4, rfl, q, rfl⟩)
    | (go_at_call 16; refine (isConcat_any _ _ _ _ _ _ _ _ z _ hl n1 n4 (fun i hi => by rw [Nat.zero_add]; exact hr.cell hi)).mono ?_; rintro e w3 ⟨rfl, q2, rfl⟩))
  go_loop [5] (fun i => ∃ k : Nat, k ≤ n ∧ i = .int .i64 k) (fun i => n - (intOf i).toNat)
  case atStart => exact ⟨0, Nat.zero_le _, rfl⟩
  case round =>
    obtain ⟨k, hk, rfl⟩ := hrel
    by_cases hlt : k < n
    · have hck := hr.cell (show k < len by omega)
      have hdk := n2 k hlt
      have HD : Hid (isD (z k) = true) := hdk
      clear hdk
      go_wp2_with (go_at_call 17; refine (isDigit_is _ true _ HD.out).mono ?_; rintro e w4 ⟨rfl, rfl⟩)
      go_round
      case rel => exact ⟨k + 1, by omega, by go_num⟩
      case measure => simp [intOf]; omega
    · by_cases hnl : n < len
      · have hck := hr.cell hnl
        have ho := n4 hnl
        rw [Nat.zero_add] at ho
        subst ho
        have HD : Hid (isD (z o) = false) := n3 hnl
        clear n2 n3 n4
        go_wp2_with (go_at_call 17; refine (isDigit_is _ false _ HD.out).mono ?_; rintro e w4 ⟨rfl, rfl⟩)
        go_ret
        exact ⟨rfl, below_drewN hb _⟩
      · have hnl2 : len - n = 0 := by omega
        clear n2 n3 n4
        go_wp2
        go_ret
        exact ⟨rfl, below_drewN hb _⟩

set_option maxHeartbeats 1000000 in
theorem walk (a0 : Option Addr) (len0 cap0 : Nat) (z0 : List Int) (w : World) (w0 : IsRow .u8 w a0 len0 cap0 z0) :
    Calls Try.prog 5 #[.slice a0 len0 cap0] w fun e w' => e = .returned (.bool true) ∧ Below w.heap.size w w' := by
  by_cases hl : len0 ≤ 1048576
  · by_cases hne : a0 = none
    · rcases w0 with ⟨rfl, rfl, rfl, _⟩ | ⟨x, hx, _⟩
      · go_enter Try.func5, Try.ntmps5
        go_wp2_with (first
          | (go_at_call 14; refine (bytes14_any _ _ _ _).mono ?_; rintro e w' ⟨rfl, rfl⟩)
          | (go_at_call 7; refine (clone_nil _).mono ?_; rintro e w1 ⟨rfl, rfl⟩)
          | (go_at_call 15; refine (zzleading_nil _).mono ?_; rintro e w2 ⟨rfl, q, rfl⟩)
          | (go_at_call 16; refine (isConcat_nil _).mono ?_; rintro e w3 ⟨rfl, rfl⟩))
        go_loop [5] (fun i => i = .int .i64 0) (fun _ => 0)
        case atStart => rfl
        case round =>
          subst hrel
          go_wp2
          go_ret
          exact ⟨rfl, below_drewN (Below.refl _ _) _⟩
      · rw [hne] at hx; cases hx
    · exact law_row len0 a0 cap0 z0 w hl w0 hne
  · have hdec : decide (len0 ≤ 1048576) = false := by simpa using hl
    clear w0
    go_enter Try.func5, Try.ntmps5
    go_wp2_with (go_at_call 14; refine (bytes14_any _ _ _ _).mono ?_; rintro e w' ⟨rfl, rfl⟩)
    go_ret
    exact ⟨rfl, Below.refl _ _⟩

/-! ### THE ROW's STEP: WRITTEN OUT: LEAVE IT -/
set_option maxRecDepth 100000 in
theorem lifted (os : Os) (started : os.Started) (H : Type) (enc : TypeId × Value → H) :
    ReturnsInHanded {} Try.checked os 5 .any (Rows.fnLeadingDigitsSplitsAtFirstNonDigitSpec.pre6 enc Try.prog Try.f5 Rows.fnLeadingDigitsSplitsAtFirstNonDigitRow.domain false) (Rows.fnLeadingDigitsSplitsAtFirstNonDigitSpec.post enc Try.prog Try.f5 false true false false) := by
  refine returnsInHanded_of_change (C := Try.checked) own started (by kernel_rfl) Try.func5
    (ChangeSpec.witness6 (enc := enc) (C := Try.checked) false ⟨#[], #[.slice none 0 0], []⟩ 8 (by kernel_rfl) (by kernel_rfl) (by kernel_rfl) (by kernel_rfl)) ?_
  intro W base args ds gs before hval0 hW hcnd _
  have hval : ∀ (j : Nat) t v, Try.f5.params[j]? = some t → args[j]? = some v → Value.okWide Try.prog W .any base t v := hval0
  have hW' := hW
  obtain ⟨p, q, hA0, hV, rfl, hfz, hnd⟩ := hW
  have hA : DataW.TrodAll enc Try.prog W 0 (fun _ => true) true Try.f5.params.toList args.toList ds p := hA0
  rw [Try.params5] at hA hval
  obtain ⟨v0, vs0, d0, ds0, p0, q0, hargs, rfl, rfl, h0, r0⟩ := trodAll_cons hA
  obtain ⟨rfl, rfl, rfl⟩ := trodAll_nil r0
  obtain rfl : args = #[v0] := by cases args; simp_all
  obtain ⟨rfl, rfl⟩ := trodVars_none hV
  obtain ⟨a0, len0, cap0, rfl⟩ := okWide_slice Try.underlying22 (hval 0 22 v0 rfl rfl)
  have k0 := h0
  have lt0 : ∀ x ∈ p0, x.block < W.heap.size := by obtain ⟨m, hm⟩ := k0; exact DataW.trod_lt m _ _ _ hm
  obtain ⟨z0, w0⟩ : ∃ zs, IsRow .u8 W a0 len0 cap0 zs := by
    obtain ⟨fuel, hf⟩ := h0
    rcases open_ints Try.underlying22 Try.underlying5 (by kernel_rfl) hf with ⟨hcs, _⟩ | ⟨x, l, c, zs, hcs, _, hl, hm, hz, _, hcell, hwz⟩
    · simp [Value.cells] at hcs
      obtain ⟨rfl, rfl, rfl⟩ := hcs
      exact ⟨[], .inl ⟨rfl, rfl, rfl, rfl⟩⟩
    · simp [Value.cells] at hcs
      obtain ⟨rfl, rfl, rfl⟩ := hcs
      exact ⟨zs, .inr ⟨_, rfl, hl, hm, by simpa using hz, hcell, hwz⟩⟩
  clear hA0 hval0
  refine (walk a0 len0 cap0 z0 W w0).mono fun e W' ⟨he, bel⟩ => ?_
  subst he
  exact ⟨_, rfl, _, _, _, [], _, [], hW', trodAll_mk1 (shut_bool Try.underlying4 _), (trodAll_cons_mk (Below.trod laidOut (by kernel_rfl) (of_decide_eq_true (by kernel_rfl)) k0 bel lt0) trodAll_mk0), rfl, bel.frame _, fun h => by cases h⟩

theorem over : Rows.fnLeadingDigitsSplitsAtFirstNonDigitRow.holds Try.pinned (OpenSpec.ofChange Rows.fnLeadingDigitsSplitsAtFirstNonDigitSpec) :=
  OpenClaim.holds_of_wide 5 Try.f5 rfl rfl rfl rfl rfl rfl rfl ⟨rfl, rfl, rfl, rfl, rfl⟩ rfl rfl rfl rfl rfl (by kernel_rfl) Try.func5 (by kernel_rfl)
    (of_decide_eq_true (by kernel_rfl)) (by unfold Func.isWrapper; first | (rw [if_pos (by decide +kernel)]; kernel_rfl) | (rw [if_neg (by decide +kernel)]; exact ⟨rfl, rfl⟩))
    (fun os started H enc _ => lifted os started H enc)

/-- ████ THE STATEMENT ████ -/
theorem proved : Rows.FnLeadingDigitsSplitsAtFirstNonDigitSaid := over
#print axioms proved
end Go.Proofs.Qxb6604182a.fnLeadingDigitsSplitsAtFirstNonDigit
