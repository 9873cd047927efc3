/-
  'receive' in one word; its callers; the maker.
-/
import Derived.Test.Qxb6604779aElF
namespace Go.Proofs.Qxb6604779a
open Go.RowKit

/-- What an election holds that a note may turn. -/
structure St where
  (r pl pz pe : Int)
  (V S : Int → Option Note)
/-- The plain 'receive'. -/
def stepP (me ol oz oe : Int) (s : St) (n : Note) : Bool × St :=
  if n.s = 0 then
    if s.r < n.r then
      if beatsP n.l n.z n.e ol oz oe then (true, ⟨n.r, n.l, n.z, n.e, putN (putN (fun _ => none) n.f n) me ⟨n.l, n.z, n.e, n.r, 0, me⟩, delN s.S n.f⟩)
      else (true, ⟨n.r, ol, oz, oe, putN (putN (fun _ => none) n.f n) me ⟨ol, oz, oe, n.r, 0, me⟩, delN s.S n.f⟩)
    else if n.r < s.r then (false, { s with S := delN s.S n.f })
    else if beatsP n.l n.z n.e s.pl s.pz s.pe then (true, ⟨s.r, n.l, n.z, n.e, putN (putN s.V n.f n) me ⟨n.l, n.z, n.e, s.r, 0, me⟩, delN s.S n.f⟩)
    else (false, ⟨s.r, s.pl, s.pz, s.pe, putN (putN s.V n.f n) me ⟨s.pl, s.pz, s.pe, s.r, 0, me⟩, delN s.S n.f⟩)
  else if n.r = s.r then (false, { s with V := putN s.V n.f n, S := putN s.S n.f n })
  else (false, { s with S := putN s.S n.f n })

/-- The election at E, its state a letter; its maps lie from B on. -/
def ElecAt (w : World) (B E : Nat) (me size ol oz oe : Int) (s : St) (bv bs : Nat) : Prop :=
  Elec w E bv bs me size ol oz oe s.r s.pl s.pz s.pe s.V s.S ∧ B ≤ E ∧ B ≤ bv ∧ B ≤ bs

/-- What the callers may lean on: all but the election stands, as far as cells go; below B all stands. -/
structure Kept (B E : Nat) (w w' : World) : Prop where
  below : Below B w w'
  cells : ∀ (b : Nat) cs t fr, b ≠ E → w.heap[b]? = some (.cells cs t fr) → w'.heap[b]? = some (.cells cs t fr)

theorem Kept.refl (B E : Nat) (w : World) : Kept B E w w := ⟨Below.refl _ _, fun _ _ _ _ _ h => h⟩
theorem Kept.trans {B E : Nat} {a b c : World} (h : Kept B E a b) (k : Kept B E b c) : Kept B E a c :=
  ⟨h.below.trans k.below, fun i cs t fr hi hc => k.cells i cs t fr hi (h.cells i cs t fr hi hc)⟩
theorem Kept.of {B E : Nat} {w w' : World} (hb : But [] w w') (hB : B ≤ w.heap.size) : Kept B E w w' :=
  ⟨hb.below hB (by simp), fun i cs t fr _ hc => (hb.block i (Array.getElem?_eq_some_iff.1 hc).1 (by simp)).trans hc⟩
theorem ElecAt.kept {w w' : World} {B E : Nat} {me size ol oz oe : Int} {s : St} {bv bs : Nat} (h : ElecAt w B E me size ol oz oe s bv bs) (hb : But [E, bv, bs] w w') : Kept B E w w' := by
  obtain ⟨he, h1, h2, h3⟩ := h
  refine ⟨hb.below (Nat.le_of_lt (Nat.lt_of_le_of_lt h1 he.lt)) (by simp; omega), fun i cs t fr hi hc => (hb.block i (Array.getElem?_eq_some_iff.1 hc).1 ?_).trans hc⟩
  have nv : i ≠ bv := by
    rintro rfl
    obtain ⟨es, c, hm, _⟩ := he.v
    rw [hm] at hc
    cases hc
  have ns : i ≠ bs := by
    rintro rfl
    obtain ⟨es, c, hm, _⟩ := he.s
    rw [hm] at hc
    cases hc
  simp [hi, nv, ns]
theorem ElecAt.but {w w' : World} {B E : Nat} {me size ol oz oe : Int} {s : St} {bv bs : Nat} (h : ElecAt w B E me size ol oz oe s bv bs) (hb : But [] w w') : ElecAt w' B E me size ol oz oe s bv bs :=
  ⟨h.1.but hb (by simp) (by simp) (by simp), h.2⟩

theorem receive_any (B E bv bs : Nat) (me size ol oz oe : Int) (s : St) (n : Note) (w : World) (h : ElecAt w B E me size ol oz oe s bv bs) :
    Calls Try.prog 25 #[.pointer (some ⟨E, 0, none⟩), noteV n.l n.z n.e n.r n.s n.f] w
    fun x w' => x = .returned (.bool (stepP me ol oz oe s n).1) ∧ (∃ bv', ElecAt w' B E me size ol oz oe (stepP me ol oz oe s n).2 bv' bs) ∧ Kept B E w w' := by
  have hlt := h.1.lt
  obtain ⟨nl, nz, ne, nr, ns, nf⟩ := n
  obtain ⟨r, pl, pz, pe, V, S⟩ := s
  unfold stepP
  simp only
  by_cases h0 : ns = 0
  · rw [if_pos h0]
    by_cases h1 : r < nr
    · rw [if_pos h1]
      cases hb : beatsP nl nz ne ol oz oe
      · rw [if_neg (by simp)]
        refine (receive_b1f E bv bs me size ol oz oe r pl pz pe V S nl nz ne nr ns nf w h.1 h0 h1 hb).mono ?_
        rintro x w' ⟨b', hb', rfl, he, hk⟩
        subst h0
        exact ⟨rfl, ⟨b', he, h.2.1, by have := h.2.1; omega, h.2.2.2⟩, h.kept hk⟩
      · rw [if_pos rfl]
        refine (receive_b1t E bv bs me size ol oz oe r pl pz pe V S nl nz ne nr ns nf w h.1 h0 h1 hb).mono ?_
        rintro x w' ⟨b', hb', rfl, he, hk⟩
        subst h0
        exact ⟨rfl, ⟨b', he, h.2.1, by have := h.2.1; omega, h.2.2.2⟩, h.kept hk⟩
    · rw [if_neg h1]
      by_cases h2 : nr < r
      · rw [if_pos h2]
        refine (receive_b2 E bv bs me size ol oz oe r pl pz pe V S nl nz ne nr ns nf w h.1 h0 h2).mono ?_
        rintro x w' ⟨rfl, he, hk⟩
        exact ⟨rfl, ⟨bv, he, h.2⟩, h.kept hk⟩
      · rw [if_neg h2]
        obtain rfl : nr = r := by omega
        cases hb : beatsP nl nz ne pl pz pe
        · rw [if_neg (by simp)]
          refine (receive_b3f E bv bs me size ol oz oe nr pl pz pe V S nl nz ne ns nf w h.1 h0 hb).mono ?_
          rintro x w' ⟨rfl, he, hk⟩
          subst h0
          exact ⟨rfl, ⟨bv, he, h.2⟩, h.kept hk⟩
        · rw [if_pos rfl]
          refine (receive_b3t E bv bs me size ol oz oe nr pl pz pe V S nl nz ne ns nf w h.1 h0 hb).mono ?_
          rintro x w' ⟨rfl, he, hk⟩
          subst h0
          exact ⟨rfl, ⟨bv, he, h.2⟩, h.kept hk⟩
  · rw [if_neg h0]
    by_cases h1 : nr = r
    · rw [if_pos h1]
      refine (receive_a1 E bv bs me size ol oz oe r pl pz pe V S nl nz ne nr ns nf w h.1 h0 h1).mono ?_
      rintro x w' ⟨rfl, he, hk⟩
      exact ⟨rfl, ⟨bv, he, h.2⟩, h.kept hk⟩
    · rw [if_neg h1]
      refine (receive_a2 E bv bs me size ol oz oe r pl pz pe V S nl nz ne nr ns nf w h.1 h0 h1).mono ?_
      rintro x w' ⟨rfl, he, hk⟩
      exact ⟨rfl, ⟨bv, he, h.2⟩, h.kept hk⟩

set_option maxHeartbeats 1000000 in
theorem zzReceive_any (B E bv bs : Nat) (me size ol oz oe : Int) (s : St) (nl nz ne nr ns nf : Int) (w : World) (h : ElecAt w B E me size ol oz oe s bv bs) :
    Calls Try.prog 19 #[.pointer (some ⟨E, 0, none⟩), .int .i64 nl, .int .i64 nz, .int .i64 ne, .int .i64 nr, .int .i32 ns, .int .i64 nf] w
    fun x w' => x = .returned (.bool (stepP me ol oz oe s ⟨nl, nz, ne, nr, ns, nf⟩).1) ∧ (∃ bv', ElecAt w' B E me size ol oz oe (stepP me ol oz oe s ⟨nl, nz, ne, nr, ns, nf⟩).2 bv' bs) ∧ Kept B E w w' := by
  have HE : Hid (ElecAt w B E me size ol oz oe s bv bs) := h
  clear h
  go_enter Try.func19, Try.ntmps19
  go_wp2_with (first
    | (go_at_call 24; refine (zzNote_any _ _ _ _ _ _ _).mono ?_; rintro e w1 ⟨rfl, hb⟩; have HB : Hid (But [] w w1) := hb; clear hb)
    | (go_at_call 25; refine (receive_any B E bv bs me size ol oz oe s ⟨nl, nz, ne, nr, ns, nf⟩ _ (HE.out.but HB.out)).mono ?_; rintro e w2 ⟨rfl, he, hk⟩; have HE2 : Hid _ := he; have HK : Hid _ := hk; clear he hk))
  go_ret
  exact ⟨rfl, HE2.out, (Kept.of HB.out (Nat.le_of_lt (Nat.lt_of_le_of_lt HE.out.2.1 HE.out.1.lt))).trans HK.out⟩

set_option maxHeartbeats 1000000 in
theorem receiveB1_any (B E bv bs : Nat) (me size ol oz oe : Int) (s : St) (nl nz ne nr ns nf : Int) (w : World) (h : ElecAt w B E me size ol oz oe s bv bs) :
    Calls Try.prog 7 #[.pointer (some ⟨E, 0, none⟩), .agg #[.int .i64 nl, .int .i64 nz, .int .i64 ne, .int .i64 nr, .int .i32 ns, .int .i64 nf]] w
    fun x w' => x = .returned (.bool (stepP me ol oz oe s ⟨nl, nz, ne, nr, ns, nf⟩).1) ∧ (∃ bv', ElecAt w' B E me size ol oz oe (stepP me ol oz oe s ⟨nl, nz, ne, nr, ns, nf⟩).2 bv' bs) ∧ Kept B E w w' := by
  have HE : Hid (ElecAt w B E me size ol oz oe s bv bs) := h
  clear h
  go_enter Try.func7, Try.ntmps7
  go_wp2_with (go_at_call 19; refine (zzReceive_any B E bv bs me size ol oz oe s _ _ _ _ _ _ _ (HE.out.but ((But.refl [] _).alloc _))).mono ?_; rintro e w2 ⟨rfl, he, hk⟩; have HE2 : Hid _ := he; have HK : Hid _ := hk; clear he hk)
  go_ret
  exact ⟨rfl, HE2.out, (Kept.of ((But.refl [] _).alloc _) (Nat.le_of_lt (Nat.lt_of_le_of_lt HE.out.2.1 HE.out.1.lt))).trans HK.out⟩
end Go.Proofs.Qxb6604779a
