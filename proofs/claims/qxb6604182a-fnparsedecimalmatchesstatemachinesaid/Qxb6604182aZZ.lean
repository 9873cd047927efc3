/-
  The walk of ZZparseDecimal, and the guards.
-/
import Derived.Test.Qxb6604182aParse
namespace Go.Proofs.Qxb6604182a
open Go.RowKit

/-- What the four results say. -/
def ZP (T : List Int) (neg : Bool) (oa : Option Addr) (n : Nat) (ex : Int) (ok : Bool) (w' : World) : Prop :=
  match parseP T with
  | none => neg = false ∧ oa = none ∧ n = 0 ∧ ex = 0 ∧ ok = false
  | some (neg', ds, ex', ok') => neg = neg' ∧ ex = ex' ∧ ok = ok' ∧ n = ds.length ∧ ∃ a, oa = some a ∧ ∀ i, i < ds.length → w'.cell? (a.add i) = some (.int .u8 (ds.getD i 0))

theorem parse_zp (b : Nat) (T : List Int) (w : World) (hT : T.length ≤ 1048576) (hr : Text w b T) :
    Calls Try.prog 18 #[.slice (some ⟨b, 0, none⟩) T.length T.length] w fun e w' => ∃ neg oa n c ex ok, e = .returned (.tuple #[.agg #[.bool neg, .slice oa n c, .int .i64 ex], .bool ok]) ∧ ZP T neg oa n ex ok w' ∧ Below w.heap.size w w' := by
  refine (parse_any b T w hT hr).mono ?_
  rintro e w' ⟨h, hb⟩
  unfold PRes at h
  cases hp : parseP T with
  | none =>
    rw [hp] at h
    exact ⟨false, none, 0, 0, 0, false, h, by unfold ZP; rw [hp]; exact ⟨rfl, rfl, rfl, rfl, rfl⟩, hb⟩
  | some r =>
    obtain ⟨neg, ds, ex, ok⟩ := r
    rw [hp] at h
    obtain ⟨a, cap, he, hc⟩ := h
    exact ⟨neg, some a, ds.length, cap, ex, ok, he, by unfold ZP; rw [hp]; exact ⟨rfl, rfl, rfl, rfl, a, rfl, hc⟩, hb⟩

theorem ZP.later {T : List Int} {neg : Bool} {oa : Option Addr} {n : Nat} {ex : Int} {ok : Bool} {w w' : World} (h : ZP T neg oa n ex ok w) (hb : Below w.heap.size w w') : ZP T neg oa n ex ok w' := by
  unfold ZP at *
  cases hp : parseP T with
  | none => rw [hp] at h; exact h
  | some r =>
    obtain ⟨neg', ds, ex', ok'⟩ := r
    rw [hp] at h
    obtain ⟨h1, h2, h3, h4, a, h5, h6⟩ := h
    refine ⟨h1, h2, h3, h4, a, h5, fun i hi => ?_⟩
    have hc := h6 i hi
    rw [hb.cell (p := a.add i) ?_]
    · exact hc
    · have hl : (a.add i).block < w.heap.size := by
        refine Nat.not_le.1 fun hn => ?_
        simp [World.cell?, hn] at hc
      exact hl

set_option maxHeartbeats 1000000 in
theorem zzparse_any (b : Nat) (T : List Int) (w : World) (hT : T.length ≤ 1048576) (hr : Text w b T) :
    Calls Try.prog 8 #[.slice (some ⟨b, 0, none⟩) T.length T.length] w fun e w' => ∃ neg oa n c ex ok, e = .returned (.tuple #[.bool neg, .slice oa n c, .int .i64 ex, .bool ok]) ∧ ZP T neg oa n ex ok w' ∧ Below w.heap.size w w' := by
  have HR : Hid (Text w b T) := hr
  clear hr
  go_enter Try.func8, Try.ntmps8
  go_wp2_with (go_at_call 18; refine (parse_zp b T w hT HR.out).mono ?_; rintro e w1 ⟨neg, oa, n, c, ex, ok, rfl, hz, hb⟩; have HZ : Hid (ZP T neg oa n ex ok w1) := hz; clear hz)
  go_quiet (fail)
  go_wp2
  have hb2 := (Below.refl w1.heap.size w1).alloc (Nat.le_refl _) (.cells #[.bool neg, .slice oa n c, .int .i64 ex] 35)
  refine bodyPost_ret (v := .tuple #[.bool neg, .slice oa n c, .int .i64 ex, .bool ok]) (by simp [results, Try.results8, go_sem]) rfl ⟨neg, oa, n, c, ex, ok, rfl, ZP.later (HZ.out) (below_drewN hb2 _), ?_⟩
  exact below_drewN (hb.alloc hb.size _) _

theorem parse_nil (w : World) : Calls Try.prog 18 #[.slice none 0 0] w fun e w' => e = .returned (.tuple #[.agg #[.bool false, .slice none 0 0, .int .i64 0], .bool false]) ∧ Below w.heap.size w w' := by
  go_enter Try.func18, Try.ntmps18
  go_wp2_with (go_at_call 21; refine (leading_nil _).mono ?_; rintro e w' ⟨rfl, q, rfl⟩)
  refine bodyPost_ret (v := .tuple #[.agg #[.bool false, .slice none 0 0, .int .i64 0], .bool false]) (by simp [results, Try.results18, go_sem]) rfl ⟨rfl, ?_⟩
  repeat (first | exact Below.refl _ _ | (refine below_drewN ?_ _) | (refine Below.setCell ?_ (by simp) _) | (refine Below.alloc ?_ (by simp) _))
set_option maxHeartbeats 1000000 in
theorem zzparse_nil (w : World) : Calls Try.prog 8 #[.slice none 0 0] w fun e w' => e = .returned (.tuple #[.bool false, .slice none 0 0, .int .i64 0, .bool false]) ∧ Below w.heap.size w w' := by
  go_enter Try.func8, Try.ntmps8
  go_wp2_with (go_at_call 18; refine (parse_nil _).mono ?_; rintro e w1 ⟨rfl, hb⟩)
  go_quiet (fail)
  go_wp2
  refine bodyPost_ret (v := .tuple #[.bool false, .slice none 0 0, .int .i64 0, .bool false]) (by simp [results, Try.results8, go_sem]) rfl ⟨rfl, ?_⟩
  exact below_drewN (hb.alloc hb.size _) _

set_option maxHeartbeats 400000 in
theorem bytes11_any (a : Option Addr) (len cap : Nat) (w : World) :
    Calls Try.prog 11 #[.slice a len cap] w fun e w' => e = .returned (.bool (decide (len ≤ 1048576))) ∧ w' = w := by
  by_cases h : len ≤ 1048576
  · have e1 : decide (len ≤ 1048576) = true := by simpa using h
    rw [e1]
    go_enter Try.func11, Try.ntmps11
    go_wp2
    go_ret
    exact ⟨rfl, rfl⟩
  · have e1 : decide (len ≤ 1048576) = false := by simpa using h
    rw [e1]
    go_enter Try.func11, Try.ntmps11
    go_wp2
    go_ret
    exact ⟨rfl, rfl⟩
set_option maxHeartbeats 400000 in
theorem bytes6_any (a : Option Addr) (len cap : Nat) (w : World) :
    Calls Try.prog 6 #[.slice a len cap] w fun e w' => e = .returned (.bool (decide (len ≤ 1048576))) ∧ w' = w := by
  by_cases h : len ≤ 1048576
  · have e1 : decide (len ≤ 1048576) = true := by simpa using h
    rw [e1]
    go_enter Try.func6, Try.ntmps6
    go_wp2
    go_ret
    exact ⟨rfl, rfl⟩
  · have e1 : decide (len ≤ 1048576) = false := by simpa using h
    rw [e1]
    go_enter Try.func6, Try.ntmps6
    go_wp2
    go_ret
    exact ⟨rfl, rfl⟩

/-- THE CLONE OF A SLICE THAT CAME IN, as a text. -/
theorem clone_text (a : Option Addr) (len cap : Nat) (zs : List Int) (w : World) (hl : len ≤ 1048576) (h : IsRow .u8 w a len cap zs) (hne : a ≠ none) :
    Calls Try.prog 7 #[.slice a len cap] w fun e w' => ∃ T : List Int, T.length = len ∧ (∀ n ∈ T, 0 ≤ n ∧ n ≤ 255) ∧ e = .returned (.slice (some ⟨w.heap.size, 0, none⟩) len len) ∧ Below w.heap.size w w' ∧ Text w' w.heap.size T := by
  refine (clone_row a len cap zs w hl h hne).mono ?_
  rintro e w' ⟨z, hz, rfl, hb, hr⟩
  refine ⟨(List.range len).map z, by simp, ?_, rfl, hb, ?_⟩
  · intro n hn
    obtain ⟨i, _, rfl⟩ := List.mem_map.1 hn
    exact hz i
  · unfold Text
    rw [List.length_map, List.length_range]
    refine hr.congr fun i hi => ?_
    unfold zT
    rw [List.getD_eq_getElem?_getD, List.getElem?_map, List.getElem?_range hi]
    rfl
end Go.Proofs.Qxb6604182a
