/-
  buildElpSeries, walked.
-/
import Derived.Test.Qxb6604178aElpE
import Derived.Deep.QuietTactic
import Derived.BigQuiet
namespace Go.Proofs.Qxb6604178a.Elp
open Go.RowKit Fl

theorem SerAt.but {w w' : World} {B S n : Nat} {T : Nat → MT} {K : Nat} {L : Nat → Nat} {R : Nat → Nat → PT} (h : SerAt w B S n T K L R) (hb : But [] w w') : SerAt w' B S n T K L R := by
  obtain ⟨vm, vp, rows, h⟩ := h
  refine ⟨vm, vp, rows, (hb.block S (heap_lt h.s) (by simp)).trans h.s, h.le, Nat.le_trans h.sz hb.size, own_but h.m hb (by simp), own_but h.p hb (by simp), fun k hk => ?_, h.apart⟩
  obtain ⟨v, hv, ho⟩ := h.r k hk
  exact ⟨v, hv, own_but ho hb (by simp)⟩
theorem SerAt.congr {w : World} {B S n : Nat} {T : Nat → MT} {K : Nat} {L L' : Nat → Nat} {R : Nat → Nat → PT} (h : SerAt w B S n T K L R) (hl : ∀ k, k < K → L' k = L k) : SerAt w B S n T K L' R := by
  obtain ⟨vm, vp, rows, h⟩ := h
  refine ⟨vm, vp, rows, h.s, h.le, h.sz, h.m, h.p, fun k hk => ?_, h.apart⟩
  rw [hl k hk]
  exact h.r k hk
theorem SerAt.new (w : World) (T : Nat → MT) (L : Nat → Nat) (R : Nat → Nat → PT) : SerAt (w.alloc (.cells #[.slice none 0 0, .slice none 0 0] 79)) w.heap.size w.heap.size 0 T 0 L R :=
  ⟨_, _, [], heap_alloc_new w _, Nat.le_refl _, by simp, World.ownsRow_nil _ _ _ _, World.ownsRow_nil _ _ _ _, fun k hk => by omega, fun i j v v' _ hj => by omega⟩

set_option maxRecDepth 100000 in
theorem zzNew_any (w : World) : Calls Try.prog 28 #[] w fun x w' => x = .returned (.pointer (some ⟨w.heap.size, 0, none⟩)) ∧ w' = w.alloc (.cells #[.slice none 0 0, .slice none 0 0] 79) := by
  go_enter Try.func28, Try.ntmps28
  go_wp2
  go_ret
  exact ⟨rfl, rfl⟩

theorem round_below {B : Nat} {a b c d : World} (h : Below B b c) (h1 : Same a b) (h2 : Same c d) : Below B a d :=
  ⟨(h2.os.trans h.os).trans h1.os, (h2.tape.trans h.tape).trans h1.tape, (h2.output.trans h.output).trans h1.output, by rw [h2.heap]; rw [← h1.heap]; exact h.size, fun k hk => by rw [h2.heap, ← h1.heap]; exact h.block k hk⟩
/-- The phases, negated or not. -/
def negR (neg : Bool) (R : Nat → Nat → PT) (k i : Nat) : PT := ⟨(R k i).m, (R k i).a, if neg = true then fneg (R k i).ph else (R k i).ph⟩

theorem At.get {w : World} {b o : Nat} {cs : List Value} (h : At w b o cs) (j : Nat) {v : Value} (hv : cs[j]? = some v) : w.cell? ⟨b, o + j, none⟩ = some v := h j v hv
theorem At.five {w : World} {b o : Nat} {t : MT} (h : At w b o (cellsM t)) : w.cell? ⟨b, o, none⟩ = some (.int .i8 (t.m 0)) ∧ w.cell? ⟨b, o + 1, none⟩ = some (.int .i8 (t.m 1)) ∧ w.cell? ⟨b, o + 2, none⟩ = some (.int .i8 (t.m 2)) ∧ w.cell? ⟨b, o + 3, none⟩ = some (.int .i8 (t.m 3)) ∧ w.cell? ⟨b, o + 4, none⟩ = some (.float .f64 t.a) :=
  ⟨h 0 _ rfl, h 1 _ rfl, h 2 _ rfl, h 3 _ rfl, h 4 _ rfl⟩

theorem SerAt.pertAt {w : World} {B S n : Nat} {T : Nat → MT} {K : Nat} {L : Nat → Nat} {R : Nat → Nat → PT} (i : Nat) (t : PT) (h : SerAt w B S n T (K + 1) (fun k => if k = K then i else L k) R) (ht : R K i = t) (hn : i < 1048576) :
    Calls Try.prog 31 #[.pointer (some ⟨S, 0, none⟩), .int .i64 K, .agg #[.int .i8 (t.m 0), .int .i8 (t.m 1), .int .i8 (t.m 2), .int .i8 (t.m 3), .int .i8 (t.m 4), .int .i8 (t.m 5), .int .i8 (t.m 6), .int .i8 (t.m 7), .int .i8 (t.m 8), .int .i8 (t.m 9), .int .i8 (t.m 10), .int .i8 (t.m 11), .int .i8 (t.m 12)], .float .f64 t.a, .float .f64 t.ph] w
    fun x w' => x = .returned (.tuple #[]) ∧ SerAt w' B S n T (K + 1) (fun k => if k = K then i + 1 else L k) R ∧ Below B w w' := by
  have := SerAt.pert h (by simpa using hn)
  simp only [if_true, ht] at this
  refine this.mono ?_
  rintro x w' ⟨rfl, h1, h2⟩
  refine ⟨rfl, SerAt.congr h1 fun k _ => ?_, h2⟩
  by_cases e : k = K <;> simp [e]
theorem At.fifteen {w : World} {b o : Nat} {t : PT} (h : At w b o (cellsP t)) : (w.cell? ⟨b, o, none⟩ = some (.int .i8 (t.m 0)) ∧ w.cell? ⟨b, o + 1, none⟩ = some (.int .i8 (t.m 1)) ∧ w.cell? ⟨b, o + 2, none⟩ = some (.int .i8 (t.m 2)) ∧ w.cell? ⟨b, o + 3, none⟩ = some (.int .i8 (t.m 3)) ∧ w.cell? ⟨b, o + 4, none⟩ = some (.int .i8 (t.m 4)) ∧ w.cell? ⟨b, o + 5, none⟩ = some (.int .i8 (t.m 5)) ∧ w.cell? ⟨b, o + 6, none⟩ = some (.int .i8 (t.m 6)) ∧ w.cell? ⟨b, o + 7, none⟩ = some (.int .i8 (t.m 7)) ∧ w.cell? ⟨b, o + 8, none⟩ = some (.int .i8 (t.m 8)) ∧ w.cell? ⟨b, o + 9, none⟩ = some (.int .i8 (t.m 9)) ∧ w.cell? ⟨b, o + 10, none⟩ = some (.int .i8 (t.m 10)) ∧ w.cell? ⟨b, o + 11, none⟩ = some (.int .i8 (t.m 11)) ∧ w.cell? ⟨b, o + 12, none⟩ = some (.int .i8 (t.m 12))) ∧ w.cell? ⟨b, o + 13, none⟩ = some (.float .f64 t.a) ∧ w.cell? ⟨b, o + 14, none⟩ = some (.float .f64 t.ph) :=
  ⟨⟨h 0 _ rfl, h 1 _ rfl, h 2 _ rfl, h 3 _ rfl, h 4 _ rfl, h 5 _ rfl, h 6 _ rfl, h 7 _ rfl, h 8 _ rfl, h 9 _ rfl, h 10 _ rfl, h 11 _ rfl, h 12 _ rfl⟩, h 13 _ rfl, h 14 _ rfl⟩

set_option maxRecDepth 100000 in
set_option maxHeartbeats 4000000 in
theorem build_any (a0 a1 : Option Addr) (n c0 K c1 : Nat) (neg : Bool) (T : Nat → MT) (L : Nat → Nat) (R : Nat → Nat → PT) (w : World) (h0 : Mains w a0 n T) (h1 : Perts w a1 K L R) (hn : n ≤ 65536) (hK : K ≤ 65536) (hL : ∀ k, k < K → L k ≤ 65536) :
    Calls Try.prog 10 #[.slice a0 n c0, .slice a1 K c1, .bool neg] w
    fun x w' => ∃ S, x = .returned (.pointer (some ⟨S, 0, none⟩)) ∧ SerAt w' w.heap.size S n T K L (negR neg R) ∧ Below w.heap.size w w' := by
  have H0 : Hid (Mains w a0 n T) := h0
  have H1 : Hid (Perts w a1 K L R) := h1
  have HL : Hid (∀ k, k < K → L k ≤ 65536) := hL
  clear h0 h1 hL
  go_enter Try.func10, Try.ntmps10
  go_wp2_with (go_at_call 28; refine (zzNew_any _).mono ?_; rintro e w1 ⟨rfl, rfl⟩)
  have hs0 : Hid (SerAt (w.alloc (.cells #[.slice none 0 0, .slice none 0 0] 79)) w.heap.size w.heap.size 0 T 0 L (negR neg R)) := SerAt.new w T L (negR neg R)
  generalize hS : w.heap.size = S at hs0 ⊢
  go_loopw [8] (fun i wr => ∃ k : Nat, k ≤ n ∧ i = .int .i64 k ∧ SerAt wr w.heap.size S k T 0 L (negR neg R) ∧ Below w.heap.size w wr) (fun i _ => n - (intOf i).toNat)
  case atStart => exact ⟨0, Nat.zero_le _, rfl, by rw [hS]; exact hs0.out, ((But.refl [] w).alloc _).below (Nat.le_refl _) (by simp)⟩
  case round =>
    obtain ⟨k, hk, rfl, hs, hb⟩ := hrel
    clear hs0
    have HS : Hid _ := hs
    have HB : Hid _ := hb
    clear hs hb
    by_cases hlt : k < n
    · obtain ⟨b, off, rfl, hc⟩ := (H0.out.later HB.out) (by omega)
      obtain ⟨q0, q1, q2, q3, q4⟩ := (hc k hlt).five
      clear hc
      go_wp2
      go_region_with (first | (go_at_call 29; refine (SerAt.main (SerAt.but HS.out (by repeat (first | with_reducible exact But.refl _ _ | apply But.drewN | apply But.drew))) (by omega)).mono ?_; rintro e w1 ⟨rfl, hs, hb⟩; have HS1 : Hid _ := hs; have HB1 : Hid _ := hb; clear hs hb))
      all_goals go_wp2
      all_goals
        refine ⟨⟨k + 1, by omega, by simp, SerAt.but HS1.out (by repeat (first | with_reducible exact But.refl _ _ | apply But.drewN | apply But.drew)), HB.out.trans (round_below HB1.out ⟨rfl, rfl, rfl, rfl⟩ ⟨rfl, rfl, rfl, rfl⟩)⟩, by simp [intOf]; omega⟩
    · obtain rfl : k = n := by omega
      go_wp2
      go_loopw [9] (fun i wr => ∃ q : Nat, q ≤ K ∧ i = .int .i64 q ∧ SerAt wr w.heap.size S k T q L (negR neg R) ∧ Below w.heap.size w wr) (fun i _ => K - (intOf i).toNat)
      case atStart => exact ⟨0, Nat.zero_le _, rfl, HS.out, HB.out⟩
      case round =>
        obtain ⟨q, hq, rfl, hs, hb⟩ := hrel
        clear HS HB
        have HS : Hid _ := hs
        have HB : Hid _ := hb
        clear hs hb
        by_cases hlq : q < K
        · obtain ⟨bp, offp, rfl, hc⟩ := H1.out (by omega)
          obtain ⟨ak, ck, hck, hrow⟩ := hc q hlq
          have HCK : Hid _ := hck
          have HR : Hid _ := hrow
          have hLq := HL.out q hlq
          clear hc hck hrow
          go_wp2_with (go_at_call 30; refine (SerAt.power (SerAt.but HS.out (by repeat (first | with_reducible exact But.refl _ _ | apply But.drewN | apply But.drew))) (by omega)).mono ?_; rintro e w1 ⟨rfl, hs, hb⟩; have HS1 : Hid _ := hs; have HB1 : Hid _ := hb; clear hs hb)
          go_loopw [10] (fun i wr => ∃ r : Nat, r ≤ L q ∧ i = .int .i64 r ∧ SerAt wr w.heap.size S k T (q + 1) (fun p => if p = q then r else L p) (negR neg R) ∧ Below w.heap.size w wr) (fun i _ => L q - (intOf i).toNat)
          case atStart => exact ⟨0, Nat.zero_le _, rfl, HS1.out, HB.out.trans HB1.out⟩
          case round =>
            obtain ⟨r, hr, rfl, hs, hb⟩ := hrel
            clear HS HB HS1 HB1
            have HS : Hid _ := hs
            have HB : Hid _ := hb
            clear hs hb
            have hck := (HB.out.cell (p := ⟨bp, offp + q, none⟩) (World.block_lt_of_cell? w _ HCK.out)).trans HCK.out
            by_cases hlr : r < L q
            · obtain ⟨br, offr, rfl, hcr⟩ := (Row.later HR.out HB.out) (by omega)
              obtain ⟨⟨e0, e1, e2, e3, e4, e5, e6, e7, e8, e9, e10, e11, e12⟩, e13, e14⟩ := (hcr r hlr).fifteen
              clear hcr
              cases neg
              · go_wp2_with (go_at_call 31; refine (SerAt.pertAt r ⟨(R q r).m, (R q r).a, (R q r).ph⟩ (SerAt.but HS.out (by repeat (first | with_reducible exact But.refl _ _ | apply But.alloc | apply But.drewN | apply But.drew))) rfl (by omega)).mono ?_; rintro e w1 ⟨rfl, hs, hb⟩; have HS1 : Hid _ := hs; have HB1 : Hid _ := hb; clear hs hb)
                refine ⟨⟨r + 1, by omega, by simp, HS1.out, (HB.out.alloc HB.out.size _).trans HB1.out⟩, by simp [intOf]; omega⟩
              · go_wp2_with (go_at_call 31; refine (SerAt.pertAt r ⟨(R q r).m, (R q r).a, fneg (R q r).ph⟩ (SerAt.but HS.out (by repeat (first | with_reducible exact But.refl _ _ | apply But.alloc | apply But.drewN | apply But.drew))) rfl (by omega)).mono ?_; rintro e w1 ⟨rfl, hs, hb⟩; have HS1 : Hid _ := hs; have HB1 : Hid _ := hb; clear hs hb)
                refine ⟨⟨r + 1, by omega, by simp, HS1.out, (HB.out.alloc HB.out.size _).trans HB1.out⟩, by simp [intOf]; omega⟩
            · obtain rfl : r = L q := by omega
              go_wp2
              refine ⟨⟨q + 1, by omega, by simp, SerAt.congr HS.out (fun p _ => ?_), HB.out⟩, by simp [intOf]; omega⟩
              by_cases e : p = q
              · subst e; simp
              · simp [e]
        · obtain rfl : q = K := by omega
          go_wp2
          go_ret
          exact ⟨S, rfl, HS.out, HB.out⟩
end Go.Proofs.Qxb6604178a.Elp
