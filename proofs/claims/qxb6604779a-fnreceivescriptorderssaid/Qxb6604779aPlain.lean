/-
  The plain law: what one step of 'receive' does to rounds, votes and maps.
-/
import Derived.Test.Qxb6604779aElI
namespace Go.Proofs.Qxb6604779a

theorem beats_cmp {vl vz ve wl wz we : Int} : (beatsP vl vz ve wl wz we = true) ↔ 0 < cmpP vl vz ve wl wz we := by
  unfold beatsP cmpP
  constructor
  · intro h
    repeat' split at h
    all_goals (simp at h)
    all_goals (repeat' split)
    all_goals omega
  · intro h
    repeat' split at h
    all_goals (repeat' split)
    all_goals (first | omega | (simp; omega))
theorem cmp_self (a b c : Int) : cmpP a b c a b c = 0 := by
  unfold cmpP
  repeat' split
  all_goals omega
theorem cmp_anti (a b c x y z : Int) : cmpP a b c x y z = - cmpP x y z a b c := by
  unfold cmpP
  repeat' split
  all_goals omega
theorem cmp_le {al az ae bl bz be : Int} : cmpP al az ae bl bz be ≤ 0 ↔ (ae < be ∨ (ae = be ∧ (az < bz ∨ (az = bz ∧ al ≤ bl)))) := by
  unfold cmpP
  repeat' split
  all_goals omega
theorem cmp_trans {a b c x y z p q r : Int} (h : cmpP a b c x y z ≤ 0) (k : cmpP x y z p q r ≤ 0) : cmpP a b c p q r ≤ 0 := by
  rw [cmp_le] at *
  omega
theorem cmp_zero {a b c x y z : Int} (h : cmpP a b c x y z = 0) : a = x ∧ b = y ∧ c = z := by
  unfold cmpP at h
  repeat' split at h
  all_goals omega

/-- What the law asks of one step. -/
structure Good (me ol oz oe : Int) (s : St) (n : Note) (ch : Bool) (t : St) : Prop where
  up : ¬ t.r < s.r
  rise : t.r = s.r → ¬ cmpP t.pl t.pz t.pe s.pl s.pz s.pe < 0
  own : cmpP ol oz oe s.pl s.pz s.pe ≤ 0 → ¬ cmpP ol oz oe t.pl t.pz t.pe > 0
  nv : n.s = 0 → n.r = t.r → ¬ cmpP n.l n.z n.e t.pl t.pz t.pe > 0
  moves : t.r = s.r → ¬ (t.pl = s.pl ∧ t.pz = s.pz ∧ t.pe = s.pe) → t.pl = n.l ∧ t.pz = n.z ∧ t.pe = n.e
  told : ch = (decide (t.r ≠ s.r) || decide (¬ (t.pl = s.pl ∧ t.pz = s.pz ∧ t.pe = s.pe)))
  gone : n.s = 0 → t.S n.f = none
  kept : n.s ≠ 0 → t.S n.f = some n
  mine : n.s = 0 → s.r ≤ n.r → t.V me = some ⟨t.pl, t.pz, t.pe, t.r, 0, me⟩

theorem step_good (me ol oz oe : Int) (s : St) (n : Note) : Good me ol oz oe s n (stepP me ol oz oe s n).1 (stepP me ol oz oe s n).2 := by
  obtain ⟨nl, nz, ne, nr, ns, nf⟩ := n
  obtain ⟨r, pl, pz, pe, V, S⟩ := s
  unfold stepP
  simp only
  split
  · rename_i h0
    split
    · rename_i h1
      split
      · rename_i hb
        rw [beats_cmp] at hb
        refine ⟨by simp; omega, fun h => by simp at h; omega, fun _ => ?_, fun _ _ => ?_, fun h => by simp at h; omega, ?_, fun _ => by simp [delN], fun h => absurd h0 h, fun _ _ => by simp [putN]⟩
        · have := cmp_anti ol oz oe nl nz ne; simp only; omega
        · have := cmp_self nl nz ne; simp only; omega
        · have : nr ≠ r := by omega
          simp [this]
      · rename_i hb
        have hb' : ¬ 0 < cmpP nl nz ne ol oz oe := fun h => hb (beats_cmp.2 h)
        refine ⟨by simp; omega, fun h => by simp at h; omega, fun _ => ?_, fun _ _ => ?_, fun h => by simp at h; omega, ?_, fun _ => by simp [delN], fun h => absurd h0 h, fun _ _ => by simp [putN]⟩
        · have := cmp_self ol oz oe; simp only; omega
        · simp only; omega
        · have : nr ≠ r := by omega
          simp [this]
    · rename_i h1
      split
      · rename_i h2
        refine ⟨by simp, fun _ => ?_, fun h => by simpa using h, fun _ h => by simp at h; omega, fun _ h => by simp at h, by simp, fun _ => by simp [delN], fun h => absurd h0 h, fun _ h => by simp at h; omega⟩
        have := cmp_self pl pz pe; simp only; omega
      · rename_i h2
        split
        · rename_i hb
          rw [beats_cmp] at hb
          have ha := cmp_anti pl pz pe nl nz ne
          refine ⟨by simp, fun _ => ?_, fun h => ?_, fun _ _ => ?_, fun _ _ => ⟨rfl, rfl, rfl⟩, ?_, fun _ => by simp [delN], fun h => absurd h0 h, fun _ _ => by simp [putN]⟩
          · simp only; omega
          · simp only at h ⊢
            have := cmp_trans h (show cmpP pl pz pe nl nz ne ≤ 0 by omega)
            omega
          · have := cmp_self nl nz ne; simp only; omega
          · have hne : ¬ (nl = pl ∧ nz = pz ∧ ne = pe) := by
              rintro ⟨rfl, rfl, rfl⟩
              have := cmp_self nl nz ne
              omega
            simp only [hne]
            simp
        · rename_i hb
          have hb' : ¬ 0 < cmpP nl nz ne pl pz pe := fun h => hb (beats_cmp.2 h)
          refine ⟨by simp, fun _ => ?_, fun h => by simpa using h, fun _ _ => ?_, fun _ h => by simp at h, by simp, fun _ => by simp [delN], fun h => absurd h0 h, fun _ _ => by simp [putN]⟩
          · have := cmp_self pl pz pe; simp only; omega
          · simp only; omega
  · rename_i h0
    split
    · refine ⟨by simp, fun _ => ?_, fun h => by simpa using h, fun h => absurd h h0, fun _ h => by simp at h, by simp, fun h => absurd h h0, fun _ => by simp [putN], fun h => absurd h h0⟩
      have := cmp_self pl pz pe; simp only; omega
    · refine ⟨by simp, fun _ => ?_, fun h => by simpa using h, fun h => absurd h h0, fun _ h => by simp at h, by simp, fun h => absurd h h0, fun _ => by simp [putN], fun h => absurd h h0⟩
      have := cmp_self pl pz pe; simp only; omega
end Go.Proofs.Qxb6604779a
