/-
  FnParseDecimalMatchesStateMachine: the walk and the row (the guide's shell, filled).
-/
import Derived.Test.Qxb6604182aRows
import Derived.Test.Qxb6604182aZZ
import Derived.Test.Qxb6604182aModel
import Derived.WalkKit
import Derived.ProofKit
import Derived.OpenShut
import Derived.ShutString
import Derived.ChangeOld
import Derived.Below
namespace Go.Proofs.Qxb6604182a.fnParseDecimalMatchesStateMachine
open Go.ChangeShapes Go.WideShapes Go.ChangeAt Go.RowKit
open Go.ChangeMaps (open_string shut_string)
set_option linter.unusedVariables false

theorem own : ownKnob Try.prog.godebug = none := by kernel_rfl
theorem laidOut : laidOutB Try.prog = true := by kernel_rfl


theorem model_zp (b cap : Nat) (T : List Int) (w : World) (hT : T.length ≤ 1048576) (hr : Text w b T) :
    Calls Try.prog 9 #[.slice (some ⟨b, 0, none⟩) T.length cap] w fun e w' => ∃ neg oa n c ex ok, e = .returned (.tuple #[.bool neg, .slice oa n c, .int .i64 ex, .bool ok]) ∧ ZP T neg oa n ex ok w' ∧ Below w.heap.size w w' := by
  refine (model_any b cap T w hT (fun i hi => World.rowIs.cell hr hi)).mono ?_
  rintro e w' ⟨h, hb⟩
  unfold MRes at h
  rw [machine_is_parse] at h
  cases hp : parseP T with
  | none =>
    rw [hp] at h
    exact ⟨false, none, 0, 0, 0, false, h, by unfold ZP; rw [hp]; exact ⟨rfl, rfl, rfl, rfl, rfl⟩, hb⟩
  | some r =>
    obtain ⟨neg, ds, ex, ok⟩ := r
    rw [hp] at h
    obtain ⟨a, cap, he, hc⟩ := h
    exact ⟨neg, some a, ds.length, cap, ex, ok, he, by unfold ZP; rw [hp]; exact ⟨rfl, rfl, rfl, rfl, a, rfl, hc⟩, hb⟩

/-- Two answers to one text are one. -/
theorem ZP.same {T : List Int} {neg neg' : Bool} {oa oa' : Option Addr} {n n' : Nat} {ex ex' : Int} {ok ok' : Bool} {w : World} (h : ZP T neg oa n ex ok w) (h' : ZP T neg' oa' n' ex' ok' w) :
    neg' = neg ∧ ex' = ex ∧ ok' = ok ∧ n' = n ∧ ((oa = none ∧ oa' = none ∧ n = 0) ∨ ∃ a a', oa = some a ∧ oa' = some a' ∧ ∃ z : Nat → Int, ∀ i, i < n → w.cell? (a.add i) = some (.int .u8 (z i)) ∧ w.cell? (a'.add i) = some (.int .u8 (z i))) := by
  unfold ZP at *
  cases hp : parseP T with
  | none =>
    rw [hp] at h h'
    obtain ⟨rfl, rfl, rfl, rfl, rfl⟩ := h
    obtain ⟨rfl, rfl, rfl, rfl, rfl⟩ := h'
    exact ⟨rfl, rfl, rfl, rfl, Or.inl ⟨rfl, rfl, rfl⟩⟩
  | some r =>
    obtain ⟨ng, ds, e, o⟩ := r
    rw [hp] at h h'
    obtain ⟨rfl, rfl, rfl, rfl, a, rfl, hc⟩ := h
    obtain ⟨rfl, rfl, rfl, rfl, a', rfl, hc'⟩ := h'
    exact ⟨rfl, rfl, rfl, rfl, Or.inr ⟨a, a', rfl, rfl, fun i => ds.getD i 0, fun i hi => ⟨hc i hi, hc' i hi⟩⟩⟩

theorem spot_none {w : World} {a : Addr} {v : Value} (h : w.cell? (a.add 0) = some v) : ∃ b off, a = ⟨b, off, none⟩ := by
  obtain ⟨b, off, spot⟩ := a
  have hspot : spot = none := by simpa [Addr.add] using World.cell?_spot h
  subst hspot
  exact ⟨b, off, rfl⟩

set_option maxHeartbeats 1000000 in
theorem same_empty (oa oa' : Option Addr) (n c c' : Nat) (w : World) (h0 : n < 1) : Calls Try.prog 10 #[.slice oa n c, .slice oa' n c'] w fun e w' => e = .returned (.bool true) ∧ ∃ q, w' = w.drewN q := by
  go_enter Try.func10, Try.ntmps10
  go_wp2
  go_loop [5] (fun i => i = .int .i64 0) (fun _ => 0)
  case atStart => rfl
  case round =>
    subst hrel
    go_wp2
    go_ret
    exact ⟨rfl, 0, rfl⟩
set_option maxHeartbeats 1000000 in
theorem same_any (b off b' off' n c c' : Nat) (z : Nat → Int) (w : World) (hn : n ≤ 9223372036854775807) (h1 : ∀ i, i < n → w.cell? ⟨b, off + i, none⟩ = some (.int .u8 (z i))) (h2 : ∀ i, i < n → w.cell? ⟨b', off' + i, none⟩ = some (.int .u8 (z i))) :
    Calls Try.prog 10 #[.slice (some ⟨b, off, none⟩) n c, .slice (some ⟨b', off', none⟩) n c'] w fun e w' => e = .returned (.bool true) ∧ ∃ q, w' = w.drewN q := by
  go_enter Try.func10, Try.ntmps10
  go_wp2
  go_loopw [5] (fun i wr => ∃ k : Nat, k ≤ n ∧ i = .int .i64 k ∧ ∃ q, wr = w.drewN q) (fun i _ => n - (intOf i).toNat)
  case atStart => exact ⟨0, Nat.zero_le _, rfl, 0, rfl⟩
  case round =>
    obtain ⟨k, hk, rfl, q, rfl⟩ := hrel
    by_cases hlt : k < n
    · have hc1 := h1 k hlt
      have hc2 := h2 k hlt
      go_wp2
      go_quiet (fail)
      go_wp2
      go_roundw
      case rel => exact ⟨k + 1, by omega, by go_num, _, rfl⟩
      case measure => simp [intOf]; omega
    · go_wp2
      go_ret
      exact ⟨rfl, _, rfl⟩
theorem same_zp (a a' : Addr) (n c c' : Nat) (z : Nat → Int) (w : World) (hn : n ≤ 9223372036854775807) (h : ∀ i, i < n → w.cell? (a.add i) = some (.int .u8 (z i)) ∧ w.cell? (a'.add i) = some (.int .u8 (z i))) :
    Calls Try.prog 10 #[.slice (some a) n c, .slice (some a') n c'] w fun e w' => e = .returned (.bool true) ∧ ∃ q, w' = w.drewN q := by
  by_cases h0 : 0 < n
  · obtain ⟨b, off, rfl⟩ := spot_none (h 0 h0).1
    obtain ⟨b', off', rfl⟩ := spot_none (h 0 h0).2
    exact same_any b off b' off' n c c' z w hn (fun i hi => by have := (h i hi).1; rwa [Go.WideShapes.add_plain] at this) (fun i hi => by have := (h i hi).2; rwa [Go.WideShapes.add_plain] at this)
  · exact same_empty _ _ n c c' w (by omega)

theorem tail_ds {neg : Bool} {ds : List Int} {e : Int} {r : List Int} {x : Bool × List Int × Int × Bool} (h : tailP neg ds e r = some x) : x.2.1 = ds := by
  unfold tailP at h
  split at h
  · cases h; rfl
  · split at h
    · dsimp only at h
      repeat' split at h
      all_goals first | (cases h; rfl) | (cases h)
    · cases h; rfl
theorem parse_ds {T : List Int} {x : Bool × List Int × Int × Bool} (h : parseP T = some x) : x.2.1.length ≤ T.length + T.length := by
  rw [parse_eq] at h
  split at h
  · cases h
  · rw [frac_eq] at h
    have r1 := run_le T (sgn T)
    split at h
    · split at h
      · cases h
      · rw [tail_ds h, List.length_append, digs_len, digs_len]
        have r2 := run_le T (sgn T + run T (sgn T) + 1)
        omega
    · rw [tail_ds h, digs_len]
      omega
/-- How many bytes an answer may hold. -/
theorem ZP.len {T : List Int} {neg : Bool} {oa : Option Addr} {n : Nat} {ex : Int} {ok : Bool} {w : World} (h : ZP T neg oa n ex ok w) (hT : T.length ≤ 1048576) : n ≤ 9223372036854775807 := by
  unfold ZP at h
  cases hp : parseP T with
  | none => rw [hp] at h; rw [h.2.2.1]; omega
  | some r =>
    have := parse_ds hp
    obtain ⟨ng, ds, e, o⟩ := r
    rw [hp] at h
    rw [h.2.2.2.1]
    simp only at this
    omega

set_option maxRecDepth 100000 in
set_option maxHeartbeats 1000000 in
theorem model_nil (w : World) : Calls Try.prog 9 #[.slice none 0 0] w fun e w' => e = .returned (.tuple #[.bool false, .slice none 0 0, .int .i64 0, .bool false]) ∧ w' = w := by
  go_enter Try.func9, Try.ntmps9
  go_wp2
  go_loop [6, 7, 8, 9, 10, 11, 12, 13, 14] (fun c6 c7 c8 c9 c10 c11 c12 c13 c14 => c6 = .int .i64 0 ∧ c7 = .bool false ∧ c8 = .slice none 0 0 ∧ c9 = .int .i64 0 ∧ c10 = .bool false ∧ c11 = .int .i64 0 ∧ c12 = .int .i64 0 ∧ c13 = .bool false ∧ c14 = .int .i64 0) (fun _ _ _ _ _ _ _ _ _ => 0)
  case atStart => exact ⟨rfl, rfl, rfl, rfl, rfl, rfl, rfl, rfl, rfl⟩
  case round =>
    obtain ⟨rfl, rfl, rfl, rfl, rfl, rfl, rfl, rfl, rfl⟩ := hrel
    go_wp2
    exact bodyPost_ret (v := .tuple #[.bool false, .slice none 0 0, .int .i64 0, .bool false]) (by simp [results, Try.results9, go_sem]) rfl ⟨rfl, rfl⟩

set_option maxHeartbeats 2000000 in
theorem law_row (len : Nat) (a : Option Addr) (cap : Nat) (zs : List Int) (w : World) (hl : len ≤ 1048576) (h : IsRow .u8 w a len cap zs) (hne : a ≠ none) :
    Calls Try.prog 3 #[.slice a len cap] w fun e w' => e = .returned (.bool true) ∧ Below w.heap.size w w' := by
  have HI : Hid (IsRow .u8 w a len cap zs) := h
  clear h
  have hdec : decide (len ≤ 1048576) = true := by simpa using hl
  have hq := fun oa n c w => Go.Lib.run_eql_slice_nil (P := Try.prog) w 22 5 oa n c 0 0 Try.underlying22
  go_enter Try.func3, Try.ntmps3
  go_wp2_with (first
    | (go_at_call 6; refine (bytes6_any _ _ _ _).mono ?_; rintro e w0 ⟨rfl, rfl⟩)
    | (go_at_call 7; refine (clone_text _ _ _ zs _ hl HI.out hne).mono ?_; rintro e w1 ⟨T, hTl, hTb, rfl, hb, ht⟩; subst hTl; have HT : Hid (Text w1 _ T) := ht; clear ht)
    | (go_at_call 8; refine (zzparse_any _ T _ hl HT.out).mono ?_; rintro e w2 ⟨neg, oa, n, c, ex, ok, rfl, hz, hb2⟩; have HZ : Hid (ZP T neg oa n ex ok w2) := hz; clear hz)
    | (go_at_call 9; refine (model_zp _ _ T _ hl (HT.out.later hb2)).mono ?_; rintro e w3 ⟨neg', oa', n', c', ex', ok', rfl, hz', hb3⟩; obtain ⟨e1, e2, e3, e4, e5⟩ := ZP.same (ZP.later HZ.out hb3) hz'; subst e1 e2 e3 e4; have HN : Hid (n' ≤ 9223372036854775807) := ZP.len hz' hl; have HB : Hid (Below w0.heap.size w0 w3) := hb.trans ((hb2.mono hb.size).trans (hb3.mono (Nat.le_trans hb.size hb2.size))); clear hz' HZ; rcases e5 with ⟨rfl, rfl, rfl⟩ | ⟨a, a', rfl, rfl, z, hzz⟩)
    | (go_at_call 10; (first | refine (same_zp a a' _ _ _ z _ HN.out hzz).mono ?_ | refine (same_empty none none _ _ _ _ (by omega)).mono ?_); rintro e w4 ⟨rfl, q, rfl⟩))
  all_goals
    go_ret
    exact ⟨rfl, below_drewN HB.out _⟩

set_option maxHeartbeats 1000000 in
theorem walk (a0 : Option Addr) (len0 cap0 : Nat) (z0 : List Int) (w : World) (w0 : IsRow .u8 w a0 len0 cap0 z0) :
    Calls Try.prog 3 #[.slice a0 len0 cap0] w fun e w' => e = .returned (.bool true) ∧ Below w.heap.size w w' := by
  by_cases hl : len0 ≤ 1048576
  · by_cases hne : a0 = none
    · rcases w0 with ⟨rfl, rfl, rfl, _⟩ | ⟨x, hx, _⟩
      · have hq := fun oa n c w => Go.Lib.run_eql_slice_nil (P := Try.prog) w 22 5 oa n c 0 0 Try.underlying22
        go_enter Try.func3, Try.ntmps3
        go_wp2_with (first
          | (go_at_call 6; refine (bytes6_any _ _ _ _).mono ?_; rintro e w' ⟨rfl, rfl⟩)
          | (go_at_call 7; refine (clone_nil _).mono ?_; rintro e w1 ⟨rfl, rfl⟩)
          | (go_at_call 8; refine (zzparse_nil _).mono ?_; rintro e w2 ⟨rfl, hb2⟩)
          | (go_at_call 9; refine (model_nil _).mono ?_; rintro e w3 ⟨rfl, hw3⟩; replace hw3 := hw3.symm; subst hw3)
          | (go_at_call 10; refine (same_empty none none 0 0 0 _ (by omega)).mono ?_; rintro e w4 ⟨rfl, q, rfl⟩))
        go_ret
        exact ⟨rfl, below_drewN hb2 _⟩
      · rw [hne] at hx; cases hx
    · exact law_row len0 a0 cap0 z0 w hl w0 hne
  · have hdec : decide (len0 ≤ 1048576) = false := by simpa using hl
    clear w0
    go_enter Try.func3, Try.ntmps3
    go_wp2_with (go_at_call 6; refine (bytes6_any _ _ _ _).mono ?_; rintro e w' ⟨rfl, rfl⟩)
    go_ret
    exact ⟨rfl, Below.refl _ _⟩

/-! ### THE ROW's STEP: WRITTEN OUT: LEAVE IT -/
set_option maxRecDepth 100000 in
theorem lifted (os : Os) (started : os.Started) (H : Type) (enc : TypeId × Value → H) :
    ReturnsInHanded {} Try.checked os 3 .any (Rows.fnParseDecimalMatchesStateMachineSpec.pre6 enc Try.prog Try.f3 Rows.fnParseDecimalMatchesStateMachineRow.domain false) (Rows.fnParseDecimalMatchesStateMachineSpec.post enc Try.prog Try.f3 false true false false) := by
  refine returnsInHanded_of_change (C := Try.checked) own started (by kernel_rfl) Try.func3
    (ChangeSpec.witness6 (enc := enc) (C := Try.checked) false ⟨#[], #[.slice none 0 0], []⟩ 8 (by kernel_rfl) (by kernel_rfl) (by kernel_rfl) (by kernel_rfl)) ?_
  intro W base args ds gs before hval0 hW hcnd _
  have hval : ∀ (j : Nat) t v, Try.f3.params[j]? = some t → args[j]? = some v → Value.okWide Try.prog W .any base t v := hval0
  have hW' := hW
  obtain ⟨p, q, hA0, hV, rfl, hfz, hnd⟩ := hW
  have hA : DataW.TrodAll enc Try.prog W 0 (fun _ => true) true Try.f3.params.toList args.toList ds p := hA0
  rw [Try.params3] at hA hval
  obtain ⟨v0, vs0, d0, ds0, p0, q0, hargs, rfl, rfl, h0, r0⟩ := trodAll_cons hA
  obtain ⟨rfl, rfl, rfl⟩ := trodAll_nil r0
  obtain rfl : args = #[v0] := by cases args; simp_all
  obtain ⟨rfl, rfl⟩ := trodVars_none hV
  obtain ⟨a0, len0, cap0, rfl⟩ := okWide_slice Try.underlying22 (hval 0 22 v0 rfl rfl)
  have k0 := h0
  have lt0 : ∀ x ∈ p0, x.block < W.heap.size := by obtain ⟨m, hm⟩ := k0; exact DataW.trod_lt m _ _ _ hm
  obtain ⟨z0, w0⟩ : ∃ zs, IsRow .u8 W a0 len0 cap0 zs := by
    obtain ⟨fuel, hf⟩ := h0
    rcases open_ints Try.underlying22 Try.underlying5 (by kernel_rfl) hf with ⟨hcs, _⟩ | ⟨x, l, c, zs, hcs, _, hl, hm, hz, _, hcell, hwz⟩
    · simp [Value.cells] at hcs
      obtain ⟨rfl, rfl, rfl⟩ := hcs
      exact ⟨[], .inl ⟨rfl, rfl, rfl, rfl⟩⟩
    · simp [Value.cells] at hcs
      obtain ⟨rfl, rfl, rfl⟩ := hcs
      exact ⟨zs, .inr ⟨_, rfl, hl, hm, by simpa using hz, hcell, hwz⟩⟩
  clear hA0 hval0
  refine (walk a0 len0 cap0 z0 W w0).mono fun e W' ⟨he, bel⟩ => ?_
  subst he
  exact ⟨_, rfl, _, _, _, [], _, [], hW', trodAll_mk1 (shut_bool Try.underlying4 _), (trodAll_cons_mk (Below.trod laidOut (by kernel_rfl) (of_decide_eq_true (by kernel_rfl)) k0 bel lt0) trodAll_mk0), rfl, bel.frame _, fun h => by cases h⟩

theorem over : Rows.fnParseDecimalMatchesStateMachineRow.holds Try.pinned (OpenSpec.ofChange Rows.fnParseDecimalMatchesStateMachineSpec) :=
  OpenClaim.holds_of_wide 3 Try.f3 rfl rfl rfl rfl rfl rfl rfl ⟨rfl, rfl, rfl, rfl, rfl⟩ rfl rfl rfl rfl rfl (by kernel_rfl) Try.func3 (by kernel_rfl)
    (of_decide_eq_true (by kernel_rfl)) (by unfold Func.isWrapper; first | (rw [if_pos (by decide +kernel)]; kernel_rfl) | (rw [if_neg (by decide +kernel)]; exact ⟨rfl, rfl⟩))
    (fun os started H enc _ => lifted os started H enc)

/-- ████ THE STATEMENT ████ -/
theorem proved : Rows.FnParseDecimalMatchesStateMachineSaid := over
#print axioms proved
end Go.Proofs.Qxb6604182a.fnParseDecimalMatchesStateMachine
