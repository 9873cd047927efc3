/-
  The walk of declinationBounds.
-/
import Derived.Test.Qxb6604178aDecA
import Derived.Deep.RegionWith
import Derived.Deep.Cut
namespace Go.Proofs.Qxb6604178a
open Go.RowKit Fl

theorem bcell {W w1 : World} (hb : Below W.heap.size W w1) : (∀ b o, b < W.heap.size → w1.cell? ⟨b, o, none⟩ = W.cell? ⟨b, o, none⟩) ∧ (∀ b o, b < W.heap.size → w1.frozen? ⟨b, o, none⟩ = W.frozen? ⟨b, o, none⟩) :=
  ⟨fun b o h => hb.cell (p := ⟨b, o, none⟩) h, fun b o h => hb.frozen (p := ⟨b, o, none⟩) h⟩

theorem two_calls {w W w1 w2 : World} {v0 v1 v2 : Value} (hW : Below w.heap.size w W) (hs : w.heap.size + 2 ≤ W.heap.size)
    (c0 : W.cell? ⟨w.heap.size + 1, 0, none⟩ = some v0) (c1 : W.cell? ⟨w.heap.size + 1, 1, none⟩ = some v1) (c2 : W.cell? ⟨w.heap.size + 1, 2, none⟩ = some v2)
    (b1 : Below W.heap.size W w1) (b2 : Below w1.heap.size w1 w2) :
    Below w.heap.size w w2 ∧ w.heap.size + 2 ≤ w2.heap.size ∧ w2.cell? ⟨w.heap.size + 1, 0, none⟩ = some v0 ∧ w2.cell? ⟨w.heap.size + 1, 1, none⟩ = some v1 ∧ w2.cell? ⟨w.heap.size + 1, 2, none⟩ = some v2 := by
  have hb : Below W.heap.size W w2 := b1.trans (b2.mono b1.size)
  have hz := hb.size
  obtain ⟨hc, _⟩ := bcell hb
  exact ⟨hW.trans (hb.mono (by omega)), by omega, by rw [hc _ _ (by omega)]; exact c0, by rw [hc _ _ (by omega)]; exact c1, by rw [hc _ _ (by omega)]; exact c2⟩

set_option maxHeartbeats 1000000 in
theorem bounds_any (y0 y1 y2 d c0 c1 c2 c3 c4 r0 r1 r2 : Nat) (w : World) (h : BdOk y0 y1 y2 d) :
    Calls Try.prog 32 #[.agg #[.float .f64 c0, .float .f64 c1, .float .f64 c2, .float .f64 c3, .float .f64 c4, .float .f64 d, .float .f64 r0, .float .f64 r1, .float .f64 r2, .float .f64 y0, .float .f64 y1, .float .f64 y2]] w
      fun e w' => e = .returned (.tuple #[.float .f64 (loF y0 y1 y2 d), .float .f64 (hiF y0 y1 y2 d)]) ∧ Below w.heap.size w w' := by
  have q1 := fun t w => run_add (P := Try.prog) fin_one h.hd t w
  have q2 := fun t w => run_sub (P := Try.prog) h.hy1 h.hy0 t w
  have q3 := fun t w => run_sub (P := Try.prog) h.hy2 h.hy1 t w
  go_enter Try.func32, Try.ntmps32
  go_wp2
  go_quiet (fail)
  go_wp2
  go_cut [2, 3] from 18 (fun s2 s3 wx => s2 = .float .f64 (ip y0 y1 y2 d) ∧ s3 = .float .f64 (ip y0 y1 y2 (lastF d)) ∧ Below w.heap.size w wx ∧ w.heap.size + 2 ≤ wx.heap.size ∧ wx.cell? ⟨w.heap.size + 1, 0, none⟩ = some (.float .f64 y0) ∧ wx.cell? ⟨w.heap.size + 1, 1, none⟩ = some (.float .f64 y1) ∧ wx.cell? ⟨w.heap.size + 1, 2, none⟩ = some (.float .f64 y2))
  case first =>
    go_region_with (go_at_call 34; refine (interpolate_any _ _ _ _ _ h.hy0 h.hy1 h.hy2 ?_).mono ?_; (first | exact h.hi1 | exact h.hi2); rintro e w' ⟨rfl, hb⟩; obtain ⟨hc, hf⟩ := bcell hb; have hz := hb.size; try simp at hz)
    all_goals
      go_wp2_with fail
      go_meet
      case rel =>
        refine ⟨rfl, rfl, two_calls (w := w) ?_ ?_ ?_ ?_ ?_ (by assumption) hb⟩
        · exact below_drewN (((Below.refl _ _).alloc (Nat.le_refl _) _).alloc (by simp) _) _
        · simp
        · simp [go_sem]
        · simp [go_sem]
        · simp [go_sem]
  case rest =>
    obtain ⟨rfl, rfl, hb, hz, hc0, hc1, hc2⟩ := hcut
    have hg : (FloatKind.f64.format.order (ip y0 y1 y2 d) (ip y0 y1 y2 (lastF d)) == some .gt) = fgt (ip y0 y1 y2 d) (ip y0 y1 y2 (lastF d)) := rfl
    have hlh : (fgt (ip y0 y1 y2 d) (ip y0 y1 y2 (lastF d)) = true ∧ lo0 y0 y1 y2 d = ip y0 y1 y2 (lastF d) ∧ hi0 y0 y1 y2 d = ip y0 y1 y2 d) ∨ (fgt (ip y0 y1 y2 d) (ip y0 y1 y2 (lastF d)) = false ∧ lo0 y0 y1 y2 d = ip y0 y1 y2 d ∧ hi0 y0 y1 y2 d = ip y0 y1 y2 (lastF d)) := by
      unfold lo0 hi0
      cases fgt (ip y0 y1 y2 d) (ip y0 y1 y2 (lastF d)) <;> simp
    by_cases heq : feq (fsub y2 y1) (fsub y1 y0) = true
    · have HF : Hid (loF y0 y1 y2 d = lo0 y0 y1 y2 d ∧ hiF y0 y1 y2 d = hi0 y0 y1 y2 d) := by
        have e : inF y0 y1 y2 d = false := by unfold inF; rw [heq]; rfl
        exact ⟨by unfold loF; rw [e]; rfl, by unfold hiF; rw [e]; rfl⟩
      have heq : FloatKind.f64.format.order (fsub y2 y1) (fsub y1 y0) = some .eq := by simpa [feq] using heq
      rcases hlh with ⟨g, l0, h0⟩ | ⟨g, l0, h0⟩
      all_goals
        rw [g] at hg
        have HF : Hid (loF y0 y1 y2 d = _ ∧ hiF y0 y1 y2 d = _) := ⟨HF.out.1.trans l0, HF.out.2.trans h0⟩
        clear l0 h0 g
        go_wp2
        go_quiet (fail)
        go_wp2_with fail
        rw [HF.out.1, HF.out.2]
        go_ret2
        exact ⟨rfl, below_drewN hb _⟩
    · have heq : feq (fsub y2 y1) (fsub y1 y0) = false := by simpa using heq
      obtain ⟨n1, n2⟩ := h.hn heq
      have q4 := fun t w => run_add (P := Try.prog) h.hi1.ha h.hi1.hb t w
      have q5 := fun t w => run_sub (P := Try.prog) h.hi1.hb h.hi1.ha t w
      have q6 := fun t w => run_mul (P := Try.prog) fin_two h.hi1.hc t w
      have q7 := fun t w => run_quo (P := Try.prog) n1 n2 t w
      have hnq : (FloatKind.f64.format.order (fsub y2 y1) (fsub y1 y0) != some .eq) = true := by
        simpa [feq, bne] using heq
      by_cases hin : inF y0 y1 y2 d = true
      · have HF : Hid (loF y0 y1 y2 d = fmin (lo0 y0 y1 y2 d) (ip y0 y1 y2 (trnF y0 y1 y2)) ∧ hiF y0 y1 y2 d = fmax (hi0 y0 y1 y2 d) (ip y0 y1 y2 (trnF y0 y1 y2))) :=
          ⟨by unfold loF; rw [if_pos hin], by unfold hiF; rw [if_pos hin]⟩
        have hi3 := h.hi3 hin
        have H3 : Hid (fin (ip y0 y1 y2 (trnF y0 y1 y2)) = true) := hi3.hr
        have hin2 : fgt (trnF y0 y1 y2) d = true ∧ flt (trnF y0 y1 y2) (lastF d) = true := by
          unfold inF at hin; rw [heq] at hin; simpa using hin
        obtain ⟨i1, i2⟩ := hin2
        have i1 : FloatKind.f64.format.order (fdiv (fneg (fadd (fsub y1 y0) (fsub y2 y1))) (fmul 4611686018427387904 (fsub (fsub y2 y1) (fsub y1 y0)))) d = some .gt := by
          simpa [fgt, trnF, trn] using i1
        have i2 : FloatKind.f64.format.order (fdiv (fneg (fadd (fsub y1 y0) (fsub y2 y1))) (fmul 4611686018427387904 (fsub (fsub y2 y1) (fsub y1 y0)))) (fadd 4607182418800017408 d) = some .lt := by
          simpa [flt, trnF, trn, lastF] using i2
        have HI : Hid (IpOk y1 (fsub y1 y0) (fsub y2 y1) (fdiv (fneg (fadd (fsub y1 y0) (fsub y2 y1))) (fmul 4611686018427387904 (fsub (fsub y2 y1) (fsub y1 y0))))) := hi3
        clear hin heq hi3
        have r1 : fin (ip y0 y1 y2 d) = true := h.hi1.hr
        have r2 : fin (ip y0 y1 y2 (fadd 4607182418800017408 d)) = true := h.hi2.hr
        have r3 : fin (ip y0 y1 y2 (fdiv (fneg (fadd (fsub y1 y0) (fsub y2 y1))) (fmul 4611686018427387904 (fsub (fsub y2 y1) (fsub y1 y0))))) = true := H3.out
        have m1 := fun ts t w => run_min (P := Try.prog) r1 r3 ts t w
        have m2 := fun ts t w => run_min (P := Try.prog) r2 r3 ts t w
        have m3 := fun ts t w => run_max (P := Try.prog) r1 r3 ts t w
        have m4 := fun ts t w => run_max (P := Try.prog) r2 r3 ts t w
        clear r1 r2 r3
        rcases hlh with ⟨g, l0, h0⟩ | ⟨g, l0, h0⟩
        all_goals
          rw [g] at hg
          rw [l0, h0] at HF
          clear l0 h0 g
          go_wp2
          go_quiet (fail)
          go_wp2_with (go_at_call 34; refine (interpolate_any _ _ _ _ _ h.hy0 h.hy1 h.hy2 HI.out).mono ?_; rintro e w' ⟨rfl, hb'⟩)
          rw [HF.out.1, HF.out.2]
          go_ret2
          refine ⟨rfl, (below_drewN hb _).trans (hb'.mono ?_)⟩
          simp; omega
      · have HF : Hid (loF y0 y1 y2 d = lo0 y0 y1 y2 d ∧ hiF y0 y1 y2 d = hi0 y0 y1 y2 d) :=
          ⟨by unfold loF; rw [if_neg hin], by unfold hiF; rw [if_neg hin]⟩
        have hin2 : fgt (trnF y0 y1 y2) d = false ∨ fgt (trnF y0 y1 y2) d = true ∧ flt (trnF y0 y1 y2) (lastF d) = false := by
          unfold inF at hin; rw [heq] at hin
          revert hin
          cases fgt (trnF y0 y1 y2) d <;> simp
        clear hin heq
        rcases hin2 with i1 | ⟨i1, i2⟩
        · have i1 : (FloatKind.f64.format.order (fdiv (fneg (fadd (fsub y1 y0) (fsub y2 y1))) (fmul 4611686018427387904 (fsub (fsub y2 y1) (fsub y1 y0)))) d == some .gt) = false := i1
          rcases hlh with ⟨g, l0, h0⟩ | ⟨g, l0, h0⟩
          all_goals
            rw [g] at hg
            rw [l0, h0] at HF
            clear l0 h0 g
            go_wp2
            go_quiet (fail)
            go_wp2_with fail
            rw [HF.out.1, HF.out.2]
            go_ret2
            exact ⟨rfl, below_drewN hb _⟩
        · have i1 : FloatKind.f64.format.order (fdiv (fneg (fadd (fsub y1 y0) (fsub y2 y1))) (fmul 4611686018427387904 (fsub (fsub y2 y1) (fsub y1 y0)))) d = some .gt := by
            simpa [fgt, trnF, trn] using i1
          have i2 : (FloatKind.f64.format.order (fdiv (fneg (fadd (fsub y1 y0) (fsub y2 y1))) (fmul 4611686018427387904 (fsub (fsub y2 y1) (fsub y1 y0)))) (fadd 4607182418800017408 d) == some .lt) = false := i2
          rcases hlh with ⟨g, l0, h0⟩ | ⟨g, l0, h0⟩
          all_goals
            rw [g] at hg
            rw [l0, h0] at HF
            clear l0 h0 g
            go_wp2
            go_quiet (fail)
            go_wp2_with fail
            rw [HF.out.1, HF.out.2]
            go_ret2
            exact ⟨rfl, below_drewN hb _⟩
end Go.Proofs.Qxb6604178a
