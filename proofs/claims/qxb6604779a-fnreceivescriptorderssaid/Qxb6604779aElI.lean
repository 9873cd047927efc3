/-
  buildB1.
-/
import Derived.Test.Qxb6604779aElH
namespace Go.Proofs.Qxb6604779a
open Go.RowKit

/-- An entry of seven cells. -/
def EntryAt (w : World) (b o : Nat) : Prop := ∃ k l z e r s f : Int, w.cell? ⟨b, o, none⟩ = some (.int .i64 k) ∧ w.cell? ⟨b, o + 1, none⟩ = some (.int .i64 l) ∧ w.cell? ⟨b, o + 2, none⟩ = some (.int .i64 z) ∧
  w.cell? ⟨b, o + 3, none⟩ = some (.int .i64 e) ∧ w.cell? ⟨b, o + 4, none⟩ = some (.int .i64 r) ∧ w.cell? ⟨b, o + 5, none⟩ = some (.int .i32 s) ∧ w.cell? ⟨b, o + 6, none⟩ = some (.int .i64 f)
/-- A row of entries. -/
def Entries (w : World) (a : Option Addr) (len : Nat) : Prop := 0 < len → ∃ b off, a = some ⟨b, off, none⟩ ∧ ∀ i, i < len → EntryAt w b (off + i * 7)

theorem zzNew_ex (me size ol oz oe r pl pz pe : Int) (B : Nat) (w : World) (hB : B ≤ w.heap.size) :
    Calls Try.prog 16 #[.int .i64 me, .int .i64 size, .int .i64 ol, .int .i64 oz, .int .i64 oe, .int .i64 r, .int .i64 pl, .int .i64 pz, .int .i64 pe] w
    fun x w' => ∃ E bv bs, x = .returned (.pointer (some ⟨E, 0, none⟩)) ∧ Elec w' E bv bs me size ol oz oe r pl pz pe (fun _ => none) (fun _ => none) ∧ (B ≤ E ∧ B ≤ bv ∧ B ≤ bs) ∧ But [] w w' := by
  refine (zzNew_any me size ol oz oe r pl pz pe w).mono ?_
  rintro x w' ⟨rfl, he, hb⟩
  exact ⟨_, _, _, rfl, he, ⟨by omega, by omega, by omega⟩, hb⟩

theorem EntryAt.later {w w' : World} {B b o : Nat} (h : EntryAt w b o) (hb : Below B w w') (hlt : b < B) : EntryAt w' b o := by
  obtain ⟨k, l, z, e, r, s, f, h0, h1, h2, h3, h4, h5, h6⟩ := h
  refine ⟨k, l, z, e, r, s, f, ?_, ?_, ?_, ?_, ?_, ?_, ?_⟩
  all_goals first
    | exact (hb.cell (p := ⟨b, o, none⟩) hlt).trans h0
    | exact (hb.cell (p := ⟨b, o + 1, none⟩) hlt).trans h1
    | exact (hb.cell (p := ⟨b, o + 2, none⟩) hlt).trans h2
    | exact (hb.cell (p := ⟨b, o + 3, none⟩) hlt).trans h3
    | exact (hb.cell (p := ⟨b, o + 4, none⟩) hlt).trans h4
    | exact (hb.cell (p := ⟨b, o + 5, none⟩) hlt).trans h5
    | exact (hb.cell (p := ⟨b, o + 6, none⟩) hlt).trans h6
theorem EntryAt.lt {w : World} {b o : Nat} (h : EntryAt w b o) : b < w.heap.size := by
  obtain ⟨k, l, z, e, r, s, f, h0, _⟩ := h
  exact World.block_lt_of_cell? w _ h0

set_option maxRecDepth 100000 in
set_option maxHeartbeats 1000000 in
theorem build_any (me size ol oz oe round pl pz pe : Int) (a5 a6 : Option Addr) (l5 c5 l6 c6 : Nat) (w : World) (h5 : l5 ≤ 4096) (h6 : l6 ≤ 4096) (r5 : Entries w a5 l5) (r6 : Entries w a6 l6) :
    Calls Try.prog 6 #[.int .i64 me, .int .i64 size, .agg #[.int .i64 ol, .int .i64 oz, .int .i64 oe], .int .i64 round, .agg #[.int .i64 pl, .int .i64 pz, .int .i64 pe], .slice a5 l5 c5, .slice a6 l6 c6] w
    fun x w' => ∃ E bv bs V S, x = .returned (.pointer (some ⟨E, 0, none⟩)) ∧ ElecAt w' w.heap.size E me size ol oz oe ⟨round, pl, pz, pe, V, S⟩ bv bs ∧ Below w.heap.size w w' := by
  have R5 : Hid (Entries w a5 l5) := r5
  have R6 : Hid (Entries w a6 l6) := r6
  clear r5 r6
  go_enter Try.func6, Try.ntmps6
  go_wp2_with (go_at_call 16; refine (zzNew_ex _ _ _ _ _ _ _ _ _ w.heap.size _ (by simp; omega)).mono ?_; rintro e w1 ⟨E, bv, bs, rfl, he, hge, hb⟩; have HE : Hid (Elec w1 E bv bs me size ol oz oe round pl pz pe (fun _ => none) (fun _ => none)) := he; have HG : Hid (w.heap.size ≤ E ∧ w.heap.size ≤ bv ∧ w.heap.size ≤ bs) := hge; have HB : Hid (Below w.heap.size w w1) := (((But.refl [] w).alloc _).alloc _ |>.trans hb).below (Nat.le_refl _) (by simp); clear he hge hb)
  go_loopw [16] (fun i wr => (∃ k : Nat, k ≤ l5 ∧ i = .int .i64 k) ∧ (∃ V, Elec wr E bv bs me size ol oz oe round pl pz pe V (fun _ => none)) ∧ Below w.heap.size w wr) (fun i _ => l5 - (intOf i).toNat)
  case atStart => exact ⟨⟨0, Nat.zero_le _, rfl⟩, ⟨_, HE.out⟩, HB.out⟩
  case round =>
    obtain ⟨⟨k, hk, rfl⟩, ⟨V, he⟩, hb⟩ := hrel
    have HE1 : Hid (Elec wr E bv bs me size ol oz oe round pl pz pe V (fun _ => none)) := he
    have HB1 : Hid (Below w.heap.size w wr) := hb
    clear he hb
    by_cases hlt : k < l5
    · obtain ⟨b, off, rfl, hc⟩ := R5.out (by omega)
      have hlt1 := (hc k hlt).lt
      obtain ⟨ck, cl, cz, ce, cr, cs, cf, d0, d1, d2, d3, d4, d5, d6⟩ := (hc k hlt).later HB1.out hlt1
      clear hc
      go_wp2_with (go_at_call 17; refine (putVote_any E bv bs me size ol oz oe round pl pz pe V (fun _ => none) _ _ _ _ _ _ _ _ (HE1.out.but ((But.refl [] _).alloc _) (by simp) (by simp) (by simp))).mono ?_; rintro e w2 ⟨rfl, he, hb⟩; have HE2 : Hid _ := he; have HB2 : Hid _ := hb; clear he hb)
      go_roundw
      case rel => exact ⟨⟨k + 1, by omega, by go_num⟩, ⟨_, HE2.out⟩, HB1.out.trans ((((But.refl [bv] wr).alloc _).trans HB2.out).below HB1.out.size (by have := HG.out; simp; omega))⟩
      case measure => simp [intOf]; omega
    · clear HE HB
      go_wp2
      go_loopw [18] (fun i wr => (∃ k : Nat, k ≤ l6 ∧ i = .int .i64 k) ∧ (∃ S, Elec wr E bv bs me size ol oz oe round pl pz pe V S) ∧ Below w.heap.size w wr) (fun i _ => l6 - (intOf i).toNat)
      case atStart => exact ⟨⟨0, Nat.zero_le _, rfl⟩, ⟨_, HE1.out⟩, HB1.out⟩
      case round =>
        obtain ⟨⟨j, hj, rfl⟩, ⟨S, he⟩, hb⟩ := hrel
        have HE3 : Hid (Elec wr E bv bs me size ol oz oe round pl pz pe V S) := he
        have HB3 : Hid (Below w.heap.size w wr) := hb
        clear he hb
        by_cases hlt2 : j < l6
        · obtain ⟨b, off, rfl, hc⟩ := R6.out (by omega)
          have hlt1 := (hc j hlt2).lt
          obtain ⟨ck, cl, cz, ce, cr, cs, cf, d0, d1, d2, d3, d4, d5, d6⟩ := (hc j hlt2).later HB3.out hlt1
          clear hc
          go_wp2_with (go_at_call 18; refine (putSettled_any E bv bs me size ol oz oe round pl pz pe V S _ _ _ _ _ _ _ _ (HE3.out.but ((But.refl [] _).alloc _) (by simp) (by simp) (by simp))).mono ?_; rintro e w2 ⟨rfl, he, hb⟩; have HE2 : Hid _ := he; have HB2 : Hid _ := hb; clear he hb)
          go_roundw
          case rel => exact ⟨⟨j + 1, by omega, by go_num⟩, ⟨_, HE2.out⟩, HB3.out.trans ((((But.refl [bs] wr).alloc _).trans HB2.out).below HB3.out.size (by have := HG.out; simp; omega))⟩
          case measure => simp [intOf]; omega
        · go_wp2
          go_ret
          exact ⟨E, bv, bs, V, S, rfl, ⟨HE3.out, HG.out⟩, HB3.out⟩
end Go.Proofs.Qxb6604779a
