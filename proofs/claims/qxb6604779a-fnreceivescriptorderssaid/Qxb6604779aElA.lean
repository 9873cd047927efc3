/-
  The walks of the small functions over an election.
-/
import Derived.Test.Qxb6604779aMapA
import Derived.LoopTactic
import Derived.BigQuiet
import Derived.Deep.QuietTactic
import Derived.Deep.RegionHeld3
namespace Go.Proofs.Qxb6604779a
open Go.RowKit

set_option maxHeartbeats 400000 in
theorem zzNote_any (l z e r s f : Int) (w : World) : Calls Try.prog 24 #[.int .i64 l, .int .i64 z, .int .i64 e, .int .i64 r, .int .i32 s, .int .i64 f] w
    fun x w' => x = .returned (noteV l z e r s f) ∧ But [] w w' := by
  go_enter Try.func24, Try.ntmps24
  go_wp2
  refine bodyPost_ret (v := noteV l z e r s f) (by simp [results, Try.results24, go_sem, noteV]) rfl ⟨rfl, ?_⟩
  repeat (first | exact But.refl _ _ | (refine But.setCell ?_ (Or.inr (by simp)) _) | (refine But.alloc ?_ _))

/-- The cells of an election. -/
theorem Elec.cells {w : World} {E bv bs : Nat} {me size ol oz oe r pl pz pe : Int} {V S : Int → Option Note} (h : Elec w E bv bs me size ol oz oe r pl pz pe V S) :
    w.cell? ⟨E, 0, none⟩ = some (.int .i64 me) ∧ w.cell? ⟨E, 1, none⟩ = some (.int .i64 size) ∧ w.cell? ⟨E, 2, none⟩ = some (.int .i64 ol) ∧ w.cell? ⟨E, 3, none⟩ = some (.int .i64 oz) ∧ w.cell? ⟨E, 4, none⟩ = some (.int .i64 oe) ∧
    w.cell? ⟨E, 5, none⟩ = some (.int .i64 r) ∧ w.cell? ⟨E, 6, none⟩ = some (.int .i64 pl) ∧ w.cell? ⟨E, 7, none⟩ = some (.int .i64 pz) ∧ w.cell? ⟨E, 8, none⟩ = some (.int .i64 pe) ∧
    w.cell? ⟨E, 9, none⟩ = some (.map (some bv)) ∧ w.cell? ⟨E, 10, none⟩ = some (.map (some bs)) := by
  have hb := h.blk
  refine ⟨?_, ?_, ?_, ?_, ?_, ?_, ?_, ?_, ?_, ?_, ?_⟩ <;> simp [World.cell?, hb]
theorem Elec.free {w : World} {E bv bs : Nat} {me size ol oz oe r pl pz pe : Int} {V S : Int → Option Note} (h : Elec w E bv bs me size ol oz oe r pl pz pe V S) :
    w.frozen? ⟨E, 5, none⟩ = false ∧ w.frozen? ⟨E, 6, none⟩ = false ∧ w.frozen? ⟨E, 7, none⟩ = false ∧ w.frozen? ⟨E, 8, none⟩ = false ∧ w.frozen? ⟨E, 9, none⟩ = false := by
  have hb := h.blk
  refine ⟨?_, ?_, ?_, ?_, ?_⟩ <;> simp [World.frozen?, hb]
theorem Elec.lt {w : World} {E bv bs : Nat} {me size ol oz oe r pl pz pe : Int} {V S : Int → Option Note} (h : Elec w E bv bs me size ol oz oe r pl pz pe V S) : E < w.heap.size :=
  (Array.getElem?_eq_some_iff.1 h.blk).1
theorem Elec.nev {w : World} {E bv bs : Nat} {me size ol oz oe r pl pz pe : Int} {V S : Int → Option Note} (h : Elec w E bv bs me size ol oz oe r pl pz pe V S) : E ≠ bv := by
  obtain ⟨es, c, hb, _⟩ := h.v
  rintro rfl
  have := h.blk
  rw [hb] at this
  cases this
theorem Elec.nes {w : World} {E bv bs : Nat} {me size ol oz oe r pl pz pe : Int} {V S : Int → Option Note} (h : Elec w E bv bs me size ol oz oe r pl pz pe V S) : E ≠ bs := by
  obtain ⟨es, c, hb, _⟩ := h.s
  rintro rfl
  have := h.blk
  rw [hb] at this
  cases this
theorem Elec.drew {w : World} {E bv bs : Nat} {me size ol oz oe r pl pz pe : Int} {V S : Int → Option Note} (h : Elec w E bv bs me size ol oz oe r pl pz pe V S) : Elec w.drew E bv bs me size ol oz oe r pl pz pe V S := ⟨h.blk, h.v, h.s, h.ne⟩
/-- Blocks made and turned elsewhere leave an election alone. -/
theorem Elec.but {w w' : World} {X : List Nat} {E bv bs : Nat} {me size ol oz oe r pl pz pe : Int} {V S : Int → Option Note} (h : Elec w E bv bs me size ol oz oe r pl pz pe V S) (hb : But X w w') (h0 : E ∉ X) (h1 : bv ∉ X) (h2 : bs ∉ X) :
    Elec w' E bv bs me size ol oz oe r pl pz pe V S :=
  ⟨(hb.block E h.lt h0).trans h.blk, hb.keepsMap h1 h.v, hb.keepsMap h2 h.s, h.ne⟩
theorem Elec.putV {w : World} {E bv bs : Nat} {me size ol oz oe r pl pz pe : Int} {V S : Int → Option Note} (h : Elec w E bv bs me size ol oz oe r pl pz pe V S) (k nl nz ne nr ns nf : Int) :
    Elec (putW Try.prog w bv k (noteV nl nz ne nr ns nf)) E bv bs me size ol oz oe r pl pz pe (putN V k ⟨nl, nz, ne, nr, ns, nf⟩) S := by
  obtain ⟨_, h1, h2⟩ := h.v.put k nl nz ne nr ns nf
  exact ⟨(h2.block E h.lt (by simpa using h.nev)).trans h.blk, h1, h2.keepsMap (by simpa using h.ne.symm) h.s, h.ne⟩
theorem Elec.putS {w : World} {E bv bs : Nat} {me size ol oz oe r pl pz pe : Int} {V S : Int → Option Note} (h : Elec w E bv bs me size ol oz oe r pl pz pe V S) (k nl nz ne nr ns nf : Int) :
    Elec (putW Try.prog w bs k (noteV nl nz ne nr ns nf)) E bv bs me size ol oz oe r pl pz pe V (putN S k ⟨nl, nz, ne, nr, ns, nf⟩) := by
  obtain ⟨_, h1, h2⟩ := h.s.put k nl nz ne nr ns nf
  exact ⟨(h2.block E h.lt (by simpa using h.nes)).trans h.blk, h2.keepsMap (by simpa using h.ne) h.v, h1, h.ne⟩
theorem Elec.delS {w : World} {E bv bs : Nat} {me size ol oz oe r pl pz pe : Int} {V S : Int → Option Note} (h : Elec w E bv bs me size ol oz oe r pl pz pe V S) (k : Int) :
    Elec (delW Try.prog w bs k) E bv bs me size ol oz oe r pl pz pe V (delN S k) := by
  obtain ⟨_, h1, h2⟩ := h.s.del k
  exact ⟨(h2.block E h.lt (by simpa using h.nes)).trans h.blk, h2.keepsMap (by simpa using h.ne) h.v, h1, h.ne⟩

set_option maxRecDepth 100000 in
set_option maxHeartbeats 1000000 in
theorem putVote_any (E bv bs : Nat) (me size ol oz oe r pl pz pe : Int) (V S : Int → Option Note) (k nl nz ne nr ns nf : Int) (w : World) (h : Elec w E bv bs me size ol oz oe r pl pz pe V S) :
    Calls Try.prog 17 #[.pointer (some ⟨E, 0, none⟩), .int .i64 k, .int .i64 nl, .int .i64 nz, .int .i64 ne, .int .i64 nr, .int .i32 ns, .int .i64 nf] w
    fun x w' => x = .returned (.tuple #[]) ∧ Elec w' E bv bs me size ol oz oe r pl pz pe (putN V k ⟨nl, nz, ne, nr, ns, nf⟩) S ∧ But [bv] w w' := by
  have HE : Hid (Elec w E bv bs me size ol oz oe r pl pz pe V S) := h
  have hc := h.cells.2.2.2.2.2.2.2.2.2.1
  clear h
  go_enter Try.func17, Try.ntmps17
  go_wp2_with fail
  go_region_held3 (fun w' => w'.cell? ⟨E, 9, none⟩ = some (.map (some bv))) (first | go_keep | exact HE1.out.cells.2.2.2.2.2.2.2.2.2.1 | exact (HE1.out.putV _ _ _ _ _ _ _).cells.2.2.2.2.2.2.2.2.2.1)
    (first | (go_at_call 24; refine (zzNote_any _ _ _ _ _ _ _).mono ?_; rintro e w' ⟨rfl, hb⟩; have HB : Hid (But [] w w') := ((But.refl [] w).drew.trans hb); have HE1 : Hid (Elec w' E bv bs me size ol oz oe r pl pz pe V S) := (HE.out.drew.but hb (by simp) (by simp) (by simp)); have hu := (HE1.out.v.put k nl nz ne nr ns nf).1))
  go_wp2
  refine bodyPost_end (v := .tuple #[]) (by simp [results, Try.results17, go_sem]) rfl ?_
  exact ⟨rfl, HE1.out.putV _ _ _ _ _ _ _, (HB.out.mono (by simp)).trans (HE1.out.v.put k nl nz ne nr ns nf).2.2⟩

set_option maxRecDepth 100000 in
set_option maxHeartbeats 1000000 in
theorem putSettled_any (E bv bs : Nat) (me size ol oz oe r pl pz pe : Int) (V S : Int → Option Note) (k nl nz ne nr ns nf : Int) (w : World) (h : Elec w E bv bs me size ol oz oe r pl pz pe V S) :
    Calls Try.prog 18 #[.pointer (some ⟨E, 0, none⟩), .int .i64 k, .int .i64 nl, .int .i64 nz, .int .i64 ne, .int .i64 nr, .int .i32 ns, .int .i64 nf] w
    fun x w' => x = .returned (.tuple #[]) ∧ Elec w' E bv bs me size ol oz oe r pl pz pe V (putN S k ⟨nl, nz, ne, nr, ns, nf⟩) ∧ But [bs] w w' := by
  have HE : Hid (Elec w E bv bs me size ol oz oe r pl pz pe V S) := h
  have hc := h.cells.2.2.2.2.2.2.2.2.2.2
  clear h
  go_enter Try.func18, Try.ntmps18
  go_wp2_with fail
  go_region_held3 (fun w' => w'.cell? ⟨E, 10, none⟩ = some (.map (some bs))) (first | go_keep | exact HE1.out.cells.2.2.2.2.2.2.2.2.2.2 | exact (HE1.out.putS _ _ _ _ _ _ _).cells.2.2.2.2.2.2.2.2.2.2)
    (first | (go_at_call 24; refine (zzNote_any _ _ _ _ _ _ _).mono ?_; rintro e w' ⟨rfl, hb⟩; have HB : Hid (But [] w w') := ((But.refl [] w).drew.trans hb); have HE1 : Hid (Elec w' E bv bs me size ol oz oe r pl pz pe V S) := (HE.out.drew.but hb (by simp) (by simp) (by simp)); have hu := (HE1.out.s.put k nl nz ne nr ns nf).1))
  go_wp2
  refine bodyPost_end (v := .tuple #[]) (by simp [results, Try.results18, go_sem]) rfl ?_
  exact ⟨rfl, HE1.out.putS _ _ _ _ _ _ _, (HB.out.mono (by simp)).trans (HE1.out.s.put k nl nz ne nr ns nf).2.2⟩


set_option maxRecDepth 100000 in
set_option maxHeartbeats 1000000 in
theorem mine_any (E bv bs : Nat) (me size ol oz oe r pl pz pe : Int) (V S : Int → Option Note) (w : World) (h : Elec w E bv bs me size ol oz oe r pl pz pe V S) :
    Calls Try.prog 27 #[.pointer (some ⟨E, 0, none⟩)] w fun x w' => x = .returned (noteV pl pz pe r 0 me) ∧ But [] w w' := by
  obtain ⟨c0, c1, c2, c3, c4, c5, c6, c7, c8, c9, c10⟩ := h.cells
  have n1 := World.new_ne w _ c0
  have n2 := World.new_ne w _ c5
  have n3 := World.new_ne w _ c6
  have n4 := World.new_ne w _ c7
  have n5 := World.new_ne w _ c8
  clear h c1 c2 c3 c4 c9 c10
  go_enter Try.func27, Try.ntmps27
  go_wp2_with fail
  go_region_held3 (fun w' => w'.cell? ⟨E, 0, none⟩ = some (.int .i64 me) ∧ w'.cell? ⟨E, 5, none⟩ = some (.int .i64 r) ∧ w'.cell? ⟨E, 6, none⟩ = some (.int .i64 pl) ∧ w'.cell? ⟨E, 7, none⟩ = some (.int .i64 pz) ∧ w'.cell? ⟨E, 8, none⟩ = some (.int .i64 pe)) (go_keep) (fail)
  go_wp2
  refine bodyPost_ret (v := noteV pl pz pe r 0 me) (by simp [results, Try.results27, go_sem, noteV]) rfl ⟨rfl, ?_⟩
  repeat (first | exact But.refl _ _ | (refine But.setCell ?_ (Or.inr (by simp)) _) | (refine But.alloc ?_ _) | (refine But.drew ?_))

/-- 'beats'. -/
def beatsP (vl vz ve wl wz we : Int) : Bool := if ve = we then (if vz = wz then decide (wl < vl) else decide (wz < vz)) else decide (we < ve)
set_option maxHeartbeats 1000000 in
theorem beats_any (vl vz ve wl wz we : Int) (w : World) : Calls Try.prog 26 #[.agg #[.int .i64 vl, .int .i64 vz, .int .i64 ve], .agg #[.int .i64 wl, .int .i64 wz, .int .i64 we]] w
    fun x w' => x = .returned (.bool (beatsP vl vz ve wl wz we)) ∧ But [] w w' := by
  unfold beatsP
  by_cases h1 : ve = we
  · rw [if_pos h1]
    by_cases h2 : vz = wz
    · rw [if_pos h2]
      subst h1 h2
      go_enter Try.func26, Try.ntmps26
      go_wp2
      go_ret
      exact ⟨rfl, ((But.refl _ _).alloc _).alloc _⟩
    · rw [if_neg h2]
      subst h1
      go_enter Try.func26, Try.ntmps26
      go_wp2
      go_ret
      exact ⟨rfl, ((But.refl _ _).alloc _).alloc _⟩
  · rw [if_neg h1]
    go_enter Try.func26, Try.ntmps26
    go_wp2
    go_ret
    exact ⟨rfl, ((But.refl _ _).alloc _).alloc _⟩

/-- 'cmpVoteB1'. -/
def cmpP (al az ae bl bz be : Int) : Int := if ae < be then -1 else if be < ae then 1 else if az < bz then -1 else if bz < az then 1 else if al < bl then -1 else if bl < al then 1 else 0
end Go.Proofs.Qxb6604779a
