/-
  (*elpSeries).sum, walked.
-/
import Derived.Test.Qxb6604178aElpH
namespace Go.Proofs.Qxb6604178a.Elp
open Go.RowKit Fl

theorem info70 : (Try.prog.info? 70).map (fun i => (i.zero, i.size, i.bytes)) = some (some (.agg #[.float .f64 0, .float .f64 0, .float .f64 0, .float .f64 0, .float .f64 0, .float .f64 0, .float .f64 0]), 7, 56) := by kernel_rfl
theorem info68 : (Try.prog.info? 68).map (fun i => (i.zero, i.size, i.bytes)) = some (some (.slice none 0 0), 1, 24) := by kernel_rfl

theorem own_open {w : World} {B : Nat} {e : TypeId} {s n : Nat} {v : Value} {xs : List Value} (h : w.ownsRow B e s v n xs) : ∃ a c, v = .slice a n c ∧ (0 < n → ∃ g, a = some ⟨g, 0, none⟩ ∧ ∀ j, j < n * s → w.cell? ⟨g, j, none⟩ = xs[j]?) := by
  rcases h.2 with ⟨rfl, rfl⟩ | ⟨g, cap, cur, rfl, _⟩
  · exact ⟨_, _, rfl, fun h => by omega⟩
  · exact ⟨_, _, rfl, fun _ => ⟨g, rfl, fun j hj => h.cellAt j hj⟩⟩
theorem SerAt.opened {w : World} {B S n : Nat} {T : Nat → MT} {K : Nat} {L : Nat → Nat} {R : Nat → Nat → PT} (h : SerAt w B S n T K L R) :
    ∃ am cm ap cp, w.cell? ⟨S, 0, none⟩ = some (.slice am n cm) ∧ w.cell? ⟨S, 1, none⟩ = some (.slice ap K cp) ∧ Mains w am n T ∧ Perts w ap K L R := by
  obtain ⟨vm, vp, rows, h⟩ := h
  obtain ⟨s0, s1, -, -⟩ := cells2 h.s
  obtain ⟨am, cm, rfl, hm⟩ := own_open h.m
  obtain ⟨ap, cp, rfl, hp⟩ := own_open h.p
  refine ⟨am, cm, ap, cp, s0, s1, fun h0 => ?_, fun h0 => ?_⟩
  · obtain ⟨g, rfl, hc⟩ := hm h0
    refine ⟨g, 0, rfl, fun i hi j v hv => ?_⟩
    have hj : j < 5 := by have := (List.getElem?_eq_some_iff.1 hv).1; simpa [cellsM] using this
    rw [Nat.zero_add, hc _ (by omega), flatM_at T hi hj]
    exact hv
  · obtain ⟨g, rfl, hc⟩ := hp h0
    refine ⟨g, 0, rfl, fun k hk => ?_⟩
    obtain ⟨v, hv, ho⟩ := h.r k hk
    obtain ⟨ak, ck, rfl, hr⟩ := own_open ho
    refine ⟨ak, ck, by rw [Nat.zero_add, hc k (by omega)]; exact hv, fun h1 => ?_⟩
    obtain ⟨g', rfl, hc'⟩ := hr h1
    refine ⟨g', 0, rfl, fun i hi j v hv => ?_⟩
    have hj : j < 15 := by have := (List.getElem?_eq_some_iff.1 hv).1; simpa [cellsP] using this
    rw [Nat.zero_add, hc' _ (by omega), flatP_at (R k) hi hj]
    exact hv

/-- What stands through the sum. -/
structure Std (w w0 : World) (S n : Nat) (T : Nat → MT) (K : Nat) (L : Nat → Nat) (R : Nat → Nat → PT) (X : Nat → Nat → Nat) (am ap : Option Addr) (cm cp b4 r6 : Nat) : Prop where
  but : But [] w w0
  s0 : w0.cell? ⟨S, 0, none⟩ = some (.slice am n cm)
  s1 : w0.cell? ⟨S, 1, none⟩ = some (.slice ap K cp)
  m : Mains w0 am n T
  p : Perts w0 ap K L R
  x : Polys w0 b4 0 X
  r : w0.heap[r6]? = some (.cells #[.slice none 0 0, .slice none 0 0] 32)
  r0 : w.heap.size ≤ r6
theorem Std.later {w w0 w1 : World} {S n : Nat} {T : Nat → MT} {K : Nat} {L : Nat → Nat} {R : Nat → Nat → PT} {X : Nat → Nat → Nat} {am ap : Option Addr} {cm cp b4 r6 : Nat} (h : Std w w0 S n T K L R X am ap cm cp b4 r6) (hb : But [] w0 w1) : Std w w1 S n T K L R X am ap cm cp b4 r6 :=
  ⟨h.but.trans hb, hb.has h.s0, hb.has h.s1, h.m.later (hb.below (Nat.le_refl _) (by simp)), h.p.later (hb.below (Nat.le_refl _) (by simp)), h.x.but hb, (hb.block r6 (heap_lt h.r) (by simp)).trans h.r, h.r0⟩
theorem Std.first {w : World} {B S n : Nat} {T : Nat → MT} {K : Nat} {L : Nat → Nat} {R : Nat → Nat → PT} {cs : Array Value} {X : Nat → Nat → Nat} (h : SerAt w B S n T K L R) (hX : ∀ i j, i < 13 → j < 6 → cs[i * 6 + j]? = some (.float .f64 (X i j))) :
    ∃ am ap cm cp, Std w ((w.alloc (.cells cs 62)).alloc (.cells #[.slice none 0 0, .slice none 0 0] 32)) S n T K L R X am ap cm cp w.heap.size (w.heap.size + 1) := by
  obtain ⟨am, cm, ap, cp, s0, s1, hm, hp⟩ := h.opened
  have hb : But [] w ((w.alloc (.cells cs 62)).alloc (.cells #[.slice none 0 0, .slice none 0 0] 32)) := ((But.refl [] w).alloc _).alloc _
  refine ⟨am, ap, cm, cp, hb, hb.has s0, hb.has s1, hm.later (hb.below (Nat.le_refl _) (by simp)), hp.later (hb.below (Nat.le_refl _) (by simp)), fun i j hi hj => ?_, two_new (But.refl [] _), by omega⟩
  rw [cell_of_row _ _ _ _ _ _ (two_old w _ _), Nat.zero_add]
  exact hX i j hi hj

theorem at_new {W : World} {b : Nat} {cs : Array Value} {t : TypeId} (h : W.heap[b]? = some (.cells cs t)) : At W b 0 cs.toList := fun j v hv => by
  rw [cell_of_row _ _ _ _ _ _ h, Nat.zero_add]
  simpa using hv
theorem muls5 {w W : World} {t : MT} (hb : But [] (w.alloc (.cells #[.int .i8 (t.m 0), .int .i8 (t.m 1), .int .i8 (t.m 2), .int .i8 (t.m 3), .float .f64 t.a] 81)) W) : Muls W w.heap.size 0 4 t.m := fun i hi => by
  rw [cell_of_row _ _ _ _ _ _ (one_new hb)]
  rcases (show i = 0 ∨ i = 1 ∨ i = 2 ∨ i = 3 by omega) with rfl | rfl | rfl | rfl <;> rfl

theorem muls15 {w W : World} {t : PT} (hb : But [] (w.alloc (.cells #[.int .i8 (t.m 0), .int .i8 (t.m 1), .int .i8 (t.m 2), .int .i8 (t.m 3), .int .i8 (t.m 4), .int .i8 (t.m 5), .int .i8 (t.m 6), .int .i8 (t.m 7), .int .i8 (t.m 8), .int .i8 (t.m 9), .int .i8 (t.m 10), .int .i8 (t.m 11), .int .i8 (t.m 12), .float .f64 t.a, .float .f64 t.ph] 86)) W) : Muls W w.heap.size 0 13 t.m := fun i hi => by
  rw [cell_of_row _ _ _ _ _ _ (one_new hb)]
  rcases (show i = 0 ∨ i = 1 ∨ i = 2 ∨ i = 3 ∨ i = 4 ∨ i = 5 ∨ i = 6 ∨ i = 7 ∨ i = 8 ∨ i = 9 ∨ i = 10 ∨ i = 11 ∨ i = 12 by omega) with rfl | rfl | rfl | rfl | rfl | rfl | rfl | rfl | rfl | rfl | rfl | rfl | rfl <;> rfl
/-- A row is begun. -/
structure Begun (wz w4 : World) (bp bk K q : Nat) (L : Nat → Nat) (R : Nat → Nat → PT) (X : Nat → Nat → Nat) : Prop where
  but : But [] wz w4
  rows : RowsTo w4 bp K q L R X
  cell : w4.cell? ⟨bp, q, none⟩ = some (.slice (some ⟨bk, 0, none⟩) (L q) (L q))
  grid : Grid w4 bk (L q) (fun _ _ => 0)
  ne : bp < bk
  lt : bk < w4.heap.size
  old : ∀ q', q' < q → ∀ bq l c, w4.cell? ⟨bp, q', none⟩ = some (.slice (some ⟨bq, 0, none⟩) l c) → bq ≠ bk
  le : wz.heap.size ≤ bk
theorem Begun.of {wz wr w3 : World} {bp K q : Nat} {L : Nat → Nat} {R : Nat → Nat → PT} {X : Nat → Nat → Nat} {v0 : Value} (hb2 : But [] wz wr) (hbp : wz.heap.size = bp) (hr : RowsTo wr bp K q L R X) (hq : q < K) (hb3 : But [] wr w3) (hg : Grid w3 wr.heap.size (L q) (fun _ _ => 0)) (hl : wr.heap.size < w3.heap.size) (p0 : w3.cell? ⟨bp, q, none⟩ = some v0) (hlt : bp < wr.heap.size) :
    Begun wz (w3.setCell ⟨bp, q, none⟩ (.slice (some ⟨wr.heap.size, 0, none⟩) (L q) (L q))) bp wr.heap.size K q L R X := by
  have hb4 : But [bp] w3 (w3.setCell ⟨bp, q, none⟩ (.slice (some ⟨wr.heap.size, 0, none⟩) (L q) (L q))) := (But.refl [bp] w3).setCell (.inl (by simp)) _
  refine ⟨(hb2.trans hb3).setCell (.inr (by simp; omega)) _, (hr.but hb3 (by simp)).lay hq _, World.cell?_setCell_same _ _ _ p0, hg.but hb4 (by simp; omega), hlt, Nat.lt_of_lt_of_le hl hb4.size, ?_, hb2.size⟩
  intro q' hq' bq l c hc
  obtain ⟨b', h1, h2, h3, -⟩ := hr.done q' hq'
  rw [World.cell?_setCell_other _ _ _ _ (by intro e'; injection e' with _ e' _; omega), hb3.has h3] at hc
  injection hc with hc
  injection hc with hc _ _
  injection hc with hc
  injection hc with hc _ _
  omega

theorem sum_end {w wr : World} {n : Nat} {T : Nat → MT} {K : Nat} {L : Nat → Nat} {R : Nat → Nat → PT} {X : Nat → Nat → Nat} {ph bm bp r6 : Nat} {x y : Value} (hw : But [] w wr) (h0 : w.heap.size ≤ r6) (h6m : r6 < bm) (h6p : r6 < bp) (ht : TermsTo wr bm n n (ampM T) (coefM T X ph)) (hr : RowsTo wr bp K K L R X) :
    SumAt (((wr.setCell ⟨r6, 0, none⟩ x).setCell ⟨r6, 1, none⟩ y).alloc (.cells #[.slice (some ⟨bm, 0, none⟩) n n] 68)) w.heap.size (.agg #[.slice (some ⟨wr.heap.size, 0, none⟩) 1 1, .slice (some ⟨bp, 0, none⟩) K K]) n T K L R X ph ∧ But [] w (((wr.setCell ⟨r6, 0, none⟩ x).setCell ⟨r6, 1, none⟩ y).alloc (.cells #[.slice (some ⟨bm, 0, none⟩) n n] 68)) := by
  have hb : But [r6] wr (((wr.setCell ⟨r6, 0, none⟩ x).setCell ⟨r6, 1, none⟩ y).alloc (.cells #[.slice (some ⟨bm, 0, none⟩) n n] 68)) := (((But.refl [r6] wr).setCell (.inl (by simp)) _).setCell (.inl (by simp)) _).alloc _
  refine ⟨⟨wr.heap.size, bm, bp, ⟨hw.size, by omega, by omega⟩, rfl, ?_, ht.but hb (by simp; omega), hr.past hb h6p⟩, ((hw.setCell (.inr h0) _).setCell (.inr h0) _).alloc _⟩
  have := heap_alloc_new ((wr.setCell ⟨r6, 0, none⟩ x).setCell ⟨r6, 1, none⟩ y) (.cells #[.slice (some ⟨bm, 0, none⟩) n n] 68)
  have e : ((wr.setCell ⟨r6, 0, none⟩ x).setCell ⟨r6, 1, none⟩ y).heap.size = wr.heap.size := by simp
  rw [e] at this
  rw [cell_of_row _ _ _ _ _ _ this]
  rfl

set_option maxRecDepth 100000 in
set_option maxHeartbeats 4000000 in
theorem sum_any (B S n : Nat) (T : Nat → MT) (K : Nat) (L : Nat → Nat) (R : Nat → Nat → PT) (cs : Array Value) (X : Nat → Nat → Nat) (ph : Nat) (w : World) (hs : SerAt w B S n T K L R) (hX : ∀ i j, i < 13 → j < 6 → cs[i * 6 + j]? = some (.float .f64 (X i j))) (hn : n ≤ 65536) (hK : K ≤ 65536) (hL : ∀ k, k < K → L k ≤ 65536) :
    Calls Try.prog 27 #[.pointer (some ⟨S, 0, none⟩), .agg cs, .float .f64 ph] w
    fun x w' => ∃ v, x = .returned v ∧ SumAt w' w.heap.size v n T K L R X ph ∧ But [] w w' := by
  obtain ⟨i70, hi70, hz70, hy70, hb70⟩ := info_parts info70
  obtain ⟨i68, hi68, hz68, hy68, hb68⟩ := info_parts info68
  obtain ⟨am, ap, cm, cp, h⟩ := Std.first hs hX
  have H0 : Hid _ := h
  have HL : Hid (∀ k, k < K → L k ≤ 65536) := hL
  clear hs hX hL h
  go_enter Try.func27, Try.ntmps27
  go_upto_region 1 with fail
  generalize World.alloc (World.alloc w _) _ = w0 at H0 ⊢
  generalize w.heap.size + 1 = r6 at H0 ⊢
  generalize hb4 : w.heap.size = b4 at H0 ⊢
  have s0 := H0.out.s0
  go_upto_region 3 with (at_make; refine wpList_make_full _ rfl _ _ 68 rfl 0 70 i70 _ 7 Try.underlying68 hi70 hz70 hy70 .i64 .i64 _ _ n rfl rfl rfl rfl (by rw [hb70]; omega) (by unfold maxLen; omega) (Nat.zero_le _) ?_; intro w1 hown hgrow; have HG : Hid _ := Grid.made hown; have hb := But.grown (X := []) hgrow (by simp); have s0' := hb.has s0; clear s0; have HB : Hid _ := hb; clear hown hgrow hb)
  generalize hbm : w0.heap.size = bm at HG ⊢
  go_loopw [26] (fun i wr => ∃ k : Nat, k ≤ n ∧ i = .int .i64 k ∧ But [] w0 wr ∧ TermsTo wr bm n k (ampM T) (coefM T X ph)) (fun i _ => n - (intOf i).toNat)
  case atStart => exact ⟨0, Nat.zero_le _, rfl, HB.out, _, HG.out, fun i hi => by omega⟩
  case round =>
    obtain ⟨k, hk, rfl, hb, ht⟩ := hrel
    clear HB HG s0'
    have HB : Hid _ := hb
    have HT : Hid _ := ht
    have HW : Hid _ := H0.out.later hb
    clear hb ht
    by_cases hlt : k < n
    · obtain ⟨b, off, rfl, hc⟩ := HW.out.m (by omega)
      obtain ⟨q0, q1, q2, q3, q4⟩ := (hc k hlt).five
      clear hc
      go_upto_region 5 with fail
      clear q0 q1 q2 q3 q4
      obtain ⟨c0, c1, c2, c3, c4⟩ := At.five (t := T k) (at_new (cs := #[.int .i8 ((T k).m 0), .int .i8 ((T k).m 1), .int .i8 ((T k).m 2), .int .i8 ((T k).m 3), .float .f64 (T k).a]) (one_new (But.refl [] (wr.alloc (.cells #[.int .i8 ((T k).m 0), .int .i8 ((T k).m 1), .int .i8 ((T k).m 2), .int .i8 ((T k).m 3), .float .f64 (T k).a] 81)))))
      simp only [Nat.zero_add] at c0 c1 c2 c3 c4
      have HC4 : Hid _ := c4
      go_region_with (first | (go_at_call 33; refine (comb_any wr.heap.size 0 4 _ b4 0 _ (T k).m X ph _ (by omega) (muls5 (by repeat (first | with_reducible exact But.refl _ _ | apply But.drewN | apply But.drew))) (Polys.but HW.out.x (by repeat (first | with_reducible exact But.refl _ _ | apply But.alloc | apply But.drewN | apply But.drew)))).mono ?_; rintro e w2 ⟨g, rfl, hg, hb2⟩; have hb3 := (But.trans (a := wr) (by repeat (first | with_reducible exact But.refl _ _ | apply But.alloc | apply But.drewN | apply But.drew)) hb2); have HT2 : Hid _ := TermsTo.but HT.out hb3 (by simp); have HB2 : Hid _ := hb3; have HGv : Hid _ := hg; obtain ⟨G, hgr, -⟩ := HT2.out; obtain ⟨⟨d0, d1, d2, d3, d4, d5, d6⟩, f0, f1, f2, f3, f4, f5, f6⟩ := Grid.fourteen hgr hlt; have e4 := hb2.has HC4.out; clear hgr hb2 hb3 hg))
      all_goals go_wp2
      all_goals
        refine ⟨⟨k + 1, by omega, by simp, ?_, (TermsTo.step HT2.out hlt g HGv.out ⟨rfl, rfl, rfl, rfl⟩).1⟩, by simp [intOf]; omega⟩
        refine (((HB.out.trans HB2.out).mono (Y := [bm]) (by simp)).trans (TermsTo.step HT2.out hlt g HGv.out ⟨rfl, rfl, rfl, rfl⟩).2).mono ?_
        intro x hx
        simp only [List.mem_singleton] at hx
        exact .inr (by omega)
    · obtain rfl : k = n := by omega
      have s1 := HW.out.s1
      go_upto_region 9 with (at_make; refine wpList_make_full _ rfl _ _ 30 rfl 0 68 i68 _ 1 Try.underlying30 hi68 hz68 hy68 .i64 .i64 _ _ K rfl rfl rfl rfl (by rw [hb68]; omega) (by unfold maxLen; omega) (Nat.zero_le _) ?_; intro w2 hown hgrow; have HRW : Hid (RowsTo w2 wr.heap.size K 0 L R X) := RowsTo.made hown; have hb := But.grown (X := []) hgrow (by simp); have s1' := hb.has s1; clear s1; have HB2 : Hid _ := hb; clear hown hgrow hb)
      have HSz : Hid (w0.heap.size ≤ wr.heap.size) := HB.out.size
      generalize hbp : wr.heap.size = bp at HRW HSz ⊢
      go_loopw [54] (fun i wr' => ∃ q : Nat, q ≤ K ∧ i = .int .i64 q ∧ But [] wr wr' ∧ RowsTo wr' bp K q L R X) (fun i _ => K - (intOf i).toNat)
      case atStart => exact ⟨0, Nat.zero_le _, rfl, HB2.out, HRW.out⟩
      case round =>
        obtain ⟨q, hq, rfl, hb, ht⟩ := hrel
        clear HB2 HRW s1'
        have HB2 : Hid _ := hb
        have HR : Hid _ := ht
        have HW2 : Hid _ := HW.out.later hb
        clear hb ht
        by_cases hlq : q < K
        · obtain ⟨b, off, rfl, hc⟩ := HW.out.p (by omega)
          obtain ⟨ak, ck, hck0, hrow⟩ := hc q hlq
          have hck := HB2.out.has hck0
          have HRow : Hid (Row _ ak (L q) (R q)) := hrow
          clear hck0
          have hLq := HL.out q hlq
          obtain ⟨v0, p0, pf⟩ := HR.out.all q hlq
          clear hc hrow
          go_upto_region 13 with (at_make; refine wpList_make_full _ rfl _ _ 68 rfl 0 70 i70 _ 7 Try.underlying68 hi70 hz70 hy70 .i64 .i64 _ _ (L q) rfl rfl rfl rfl (by rw [hb70]; omega) (by unfold maxLen; omega) (Nat.zero_le _) ?_; intro w3 hown hgrow; have HG3 : Hid (Grid w3 wr.heap.size (L q) (fun _ _ => 0)) := Grid.made hown; have HL3 : Hid (wr.heap.size < w3.heap.size) := (hown.lt wr.heap.size rfl).2; have hb := But.grown (X := []) hgrow (by simp); have p0' := hb.has p0; have pf' := (hb.frozen (p := ⟨bp, q, none⟩) (World.block_lt_of_cell? wr _ p0) (by simp)).trans pf; clear p0 pf hck; have HB3 : Hid _ := hb; clear hown hgrow hb)
          have HBg : Hid _ := Begun.of HB2.out hbp HR.out hlq HB3.out HG3.out HL3.out p0' (by obtain ⟨_, h, _⟩ := HR.out.all q hlq; exact World.block_lt_of_cell? wr _ h)
          clear HG3 HL3 HB3 p0' pf' HR HW2
          generalize World.setCell w3 _ _ = w4 at HBg ⊢
          generalize hbk : wr.heap.size = bk at HBg ⊢
          go_loopw [67] (fun i wr' => ∃ r : Nat, r ≤ L q ∧ i = .int .i64 r ∧ But [bk] w4 wr' ∧ TermsTo wr' bk (L q) r (ampP (R q)) (coefP (R q) X)) (fun i _ => L q - (intOf i).toNat)
          case atStart => exact ⟨0, Nat.zero_le _, rfl, But.refl _ _, _, HBg.out.grid, fun i hi => by omega⟩
          case round =>
            obtain ⟨r, hr, rfl, hb, ht⟩ := hrel
            have HB5 : Hid _ := hb
            have HT5 : Hid _ := ht
            have HZ : Hid _ := (((HBg.out.but.mono (Y := [bk]) (by simp)).trans hb).mono (Y := []) (fun x hx => .inr (by simp only [List.mem_singleton] at hx; have := HBg.out.le; omega)))
            have hcell := (hb.cell (p := ⟨bp, q, none⟩) (World.block_lt_of_cell? w4 _ HBg.out.cell) (by have := HBg.out.ne; simp; omega)).trans HBg.out.cell
            clear hb ht
            by_cases hlr : r < L q
            · have HW5 : Hid _ := HW.out.later HZ.out
              obtain ⟨br, offr, rfl, hcr⟩ := (Row.later HRow.out (HZ.out.below (Nat.le_refl _) (by simp))) (by omega)
              obtain ⟨⟨e0, e1, e2, e3, e4, e5, e6, e7, e8, e9, e10, e11, e12⟩, e13, e14⟩ := (hcr r hlr).fifteen
              clear hcr
              have hblt := World.block_lt_of_cell? wr _ hcell
              go_upto_region 15 with fail
              clear e0 e1 e2 e3 e4 e5 e6 e7 e8 e9 e10 e11 e12 e13 e14
              obtain ⟨-, c13, c14⟩ := At.fifteen (t := R q r) (at_new (cs := #[.int .i8 ((R q r).m 0), .int .i8 ((R q r).m 1), .int .i8 ((R q r).m 2), .int .i8 ((R q r).m 3), .int .i8 ((R q r).m 4), .int .i8 ((R q r).m 5), .int .i8 ((R q r).m 6), .int .i8 ((R q r).m 7), .int .i8 ((R q r).m 8), .int .i8 ((R q r).m 9), .int .i8 ((R q r).m 10), .int .i8 ((R q r).m 11), .int .i8 ((R q r).m 12), .float .f64 (R q r).a, .float .f64 (R q r).ph]) (one_new (But.refl [] (wr.alloc (.cells #[.int .i8 ((R q r).m 0), .int .i8 ((R q r).m 1), .int .i8 ((R q r).m 2), .int .i8 ((R q r).m 3), .int .i8 ((R q r).m 4), .int .i8 ((R q r).m 5), .int .i8 ((R q r).m 6), .int .i8 ((R q r).m 7), .int .i8 ((R q r).m 8), .int .i8 ((R q r).m 9), .int .i8 ((R q r).m 10), .int .i8 ((R q r).m 11), .int .i8 ((R q r).m 12), .float .f64 (R q r).a, .float .f64 (R q r).ph] 86)))))
              simp only [Nat.zero_add] at c13 c14
              have HC13 : Hid _ := c13
              have HC14 : Hid _ := c14
              have HCell : Hid _ := hcell
              go_region_with (first | (go_at_call 33; refine (comb_any wr.heap.size 0 13 _ b4 0 _ (R q r).m X (R q r).ph _ (by omega) (muls15 (by repeat (first | with_reducible exact But.refl _ _ | apply But.drewN | apply But.drew))) (Polys.but HW5.out.x (by repeat (first | with_reducible exact But.refl _ _ | apply But.alloc | apply But.drewN | apply But.drew)))).mono ?_; rintro e w6 ⟨g, rfl, hg, hb2⟩; have hb3 := (But.trans (a := wr) (by repeat (first | with_reducible exact But.refl _ _ | apply But.alloc | apply But.drewN | apply But.drew)) hb2); have HT6 : Hid _ := TermsTo.but HT5.out hb3 (by simp); have HB6 : Hid _ := hb3; have HGv : Hid _ := hg; obtain ⟨G, hgr, -⟩ := HT6.out; obtain ⟨⟨d0, d1, d2, d3, d4, d5, d6⟩, f0, f1, f2, f3, f4, f5, f6⟩ := Grid.fourteen hgr hlr; have g13 := hb2.has HC13.out; have g14 := hb2.has HC14.out; have hcell6 := hb3.has HCell.out; clear hgr hb2 hb3 hg))
              all_goals go_wp2
              all_goals
                refine ⟨⟨r + 1, by omega, by simp, ?_, (TermsTo.step HT6.out hlr g HGv.out ⟨rfl, rfl, rfl, rfl⟩).1⟩, by simp [intOf]; omega⟩
                exact (HB5.out.trans (HB6.out.mono (Y := [bk]) (by simp))).trans (TermsTo.step HT6.out hlr g HGv.out ⟨rfl, rfl, rfl, rfl⟩).2
            · obtain rfl : r = L q := by omega
              go_wp2
              refine ⟨⟨q + 1, by omega, by simp, HZ.out, HBg.out.rows.next HB5.out HBg.out.old HBg.out.ne (Nat.lt_of_lt_of_le HBg.out.lt HB5.out.size) HBg.out.cell HT5.out⟩, by simp [intOf]; omega⟩
        · obtain rfl : q = K := by omega
          obtain ⟨r0, r1, f0, f1⟩ := cells2 HW2.out.r
          have hr6 := heap_lt HW2.out.r
          go_wp2
          have h6 := heap_lt H0.out.r
          have hsz := HSz.out
          exact bodyPost_ret (v := .agg #[.slice (some ⟨wr.heap.size, 0, none⟩) 1 1, .slice (some ⟨bp, 0, none⟩) q q]) (by simp [results, Try.results27, go_sem, r0, r1, hr6]) rfl ⟨_, rfl, sum_end HW2.out.but HW2.out.r0 (by omega) (by omega) (TermsTo.but HT.out HB2.out (by simp)) HR.out⟩
end Go.Proofs.Qxb6604178a.Elp
