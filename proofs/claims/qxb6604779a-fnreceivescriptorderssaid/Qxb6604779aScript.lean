/-
  The script's loop, walked: with rows within the bounds every round passes.
-/
import Derived.Test.Qxb6604779aMid
import Derived.Deep.DeepCutAuto
namespace Go.Proofs.Qxb6604779a
open Go.RowKit

set_option maxRecDepth 100000 in
set_option maxHeartbeats 4000000 in
theorem script_any (me size ol oz oe round pl pz pe : Int) (a5 a6 a7 : Option Addr) (l5 c5 l6 c6 l7 c7 : Nat) (w : World) (h5 : l5 ≤ 4096) (h6 : l6 ≤ 4096) (h7 : l7 ≤ 8192) (r5 : Entries w a5 l5) (r6 : Entries w a6 l6) (r7 : Notes w a7 l7) :
    Calls Try.prog 4 #[.int .i64 me, .int .i64 size, .agg #[.int .i64 ol, .int .i64 oz, .int .i64 oe], .int .i64 round, .agg #[.int .i64 pl, .int .i64 pz, .int .i64 pe], .slice a5 l5 c5, .slice a6 l6 c6, .slice a7 l7 c7] w
    fun x w' => x = .returned (.bool true) ∧ Below w.heap.size w w' := by
  have R5 : Hid (Entries w a5 l5) := r5
  have R6 : Hid (Entries w a6 l6) := r6
  have R7 : Hid (Notes w a7 l7) := r7
  clear r5 r6 r7
  go_enter Try.func4, Try.ntmps4
  go_wp2_with (first
    | (go_at_call 12; refine (bytes12_any _ _ _ _ _ _ _ _ _ _ _ _ _ _ _ _ _ _ _).mono ?_; rintro e w1 ⟨⟨b, rfl⟩, hb⟩; obtain ⟨n1, n2⟩ := two_new hb; obtain ⟨o0, o1, o2, -, -, -⟩ := cells3 n1; obtain ⟨q0, q1, q2, -, -, -⟩ := cells3 n2; have HB : Hid (But [] _ w1) := hb; have HB0 : Hid (Below w.heap.size w w1) := ((((But.refl [] w).alloc _).alloc _).trans hb).below (Nat.le_refl _) (by simp); clear hb n1 n2; cases b)
    | (go_at_call 6; refine (build_any _ _ _ _ _ _ _ _ _ _ _ _ _ _ _ _ h5 h6 (R5.out.later HB0.out) (R6.out.later HB0.out)).mono ?_; rintro e w2 ⟨E, bv, bs, V, S, rfl, he, hb2⟩; have HT : Hid _ := top_of HB.out he hb2; clear he hb2))
  · go_ret
    exact ⟨rfl, HB0.out⟩
  · clear HB HB0 R5 R6 o0 o1 o2 q0 q1 q2
    go_loopw [18] (fun i wr => (∃ k : Nat, k ≤ l7 ∧ i = .int .i64 k) ∧ ∃ s bv, Top w wr w.heap.size E me size ol oz oe s bv bs) (fun i _ => l7 - (intOf i).toNat)
    case atStart => exact ⟨⟨0, Nat.zero_le _, rfl⟩, _, _, HT.out⟩
    case round =>
      obtain ⟨⟨k, hk, rfl⟩, s, bv', ht⟩ := hrel
      clear HT
      have HT : Hid (Top w wr w.heap.size E me size ol oz oe s bv' bs) := ht
      clear ht
      by_cases hlt : k < l7
      · obtain ⟨b, off, rfl, hc⟩ := R7.out (by omega)
        obtain ⟨n, hn⟩ := hc k hlt
        obtain ⟨d0, d1, d2, d3, d4, d5⟩ := hn.later HT.out.below hn.lt
        clear hc hn
        go_upto_region 17 with (first
          | (go_at_call 8; first
              | (refine (fieldsB1_any E bt bs me size ol oz oe (stepP me ol oz oe s n).2.r (stepP me ol oz oe s n).2.pl (stepP me ol oz oe s n).2.pz (stepP me ol oz oe s n).2.pe (stepP me ol oz oe s n).2.V (stepP me ol oz oe s n).2.S _ HE2.out.1).mono ?_; rintro e x3 ⟨rfl, hb3⟩; have HB3 : Hid (But [] _ x3) := hb3; clear hb3)
              | (refine (fieldsB1_any E bv' bs me size ol oz oe s.r s.pl s.pz s.pe s.V s.S _ (HT.out.el.1.but ((But.refl [] _).alloc _) (by simp) (by simp) (by simp))).mono ?_; rintro e x1 ⟨rfl, hb1⟩; have HE1 : Hid (ElecAt x1 w.heap.size E me size ol oz oe s bv' bs) := HT.out.el.but (((But.refl [] _).alloc _).trans hb1); have HB1 : Hid (But [] _ x1) := hb1; have m0 := cells6 (one_new hb1); obtain ⟨m0, m1, m2, m3, m4, m5, -⟩ := m0; have ml := World.block_lt_of_cell? x1 _ m0; have me1 : wr.heap.size ≠ x1.heap.size := Nat.ne_of_lt ml; have me2 : wr.heap.size ≠ x1.heap.size + 1 := Nat.ne_of_lt (Nat.lt_succ_of_lt ml); clear hb1))
          | (go_at_call 7; refine (receiveB1_any w.heap.size E bv' bs me size ol oz oe s _ _ _ _ _ _ _ (HE1.out.but (((But.refl [] _).alloc _).alloc _))).mono ?_; rintro e x2 ⟨rfl, ⟨bt, he⟩, hk⟩; have HE2 : Hid (ElecAt x2 w.heap.size E me size ol oz oe (stepP me ol oz oe s n).2 bt bs) := he; have HK : Hid _ := hk; clear he hk))
        have HM : Hid _ := mid_of HT.out HB1.out HK.out HE2.out HB3.out
        have HO : Hid (w.heap.size ≠ E) := HT.out.ne
        have HG := step_good me ol oz oe s n
        generalize World.alloc (World.alloc x3 _) _ = wx at HM ⊢
        generalize x1.heap.size + 1 = P0 at HM ⊢
        generalize x3.heap.size + 1 = P1 at HM ⊢
        generalize x3.heap.size = G at HM ⊢
        generalize wr.heap.size = N at HM ⊢
        clear HT HB1 HK HE2 HB3 HE1 m0 m1 m2 m3 m4 m5 ml me1 me2 d0 d1 d2 d3 d4 d5
        generalize stepP me ol oz oe s n = res at HG HM ⊢
        obtain ⟨ch, t⟩ := res
        have HGd : Hid (Good me ol oz oe s n ch t) := HG
        clear HG
        simp only at HM ⊢
        obtain ⟨o0, o1, o2, -, -, -⟩ := cells3 HM.out.o
        obtain ⟨g0, g1, g2, -, -, -⟩ := cells3 HM.out.g
        have hup := HGd.out.up
        go_upto_region 21 with fail
        clear o0 o1 o2 g0 g1 g2 hup
        go_cut [116] (fun c wy => c = .bool false ∧ But [] wx wy)
        case first =>
          as_aux_lemma =>
            obtain ⟨p0, p1, p2, -, -, -⟩ := cells3 HM.out.p0
            obtain ⟨q0, q1, q2, -, -, -⟩ := cells3 HM.out.p1
            by_cases hr : t.r = s.r
            · have hcm := HGd.out.rise hr
              have hrb : (t.r == s.r) = true := by simp [hr]
              clear hr
              go_wp2_with (go_at_call 13; refine (cmp_any _ _ _ _ _ _ _).mono ?_; rintro e wy ⟨rfl, hb⟩)
              go_meet
              case rel => exact ⟨by rw [decide_eq_false (by omega)], hb⟩
            · have hrb : (t.r == s.r) = false := by simp [hr]
              clear hr
              go_wp2_with fail
              go_meet
              case rel => exact ⟨rfl, But.refl _ _⟩
        case rest =>
          obtain ⟨rfl, hb⟩ := hcut
          replace HM : Hid _ := HM.out.but hb
          clear hb
          go_upto_region 23 with fail
          go_cut [126] (fun c wy => c = .bool false ∧ But [] wc wy)
          case first =>
            as_aux_lemma =>
              obtain ⟨o0, o1, o2, -, -, -⟩ := cells3 HM.out.o
              obtain ⟨p0, p1, p2, -, -, -⟩ := cells3 HM.out.p0
              obtain ⟨q0, q1, q2, -, -, -⟩ := cells3 HM.out.p1
              by_cases ho : cmpP ol oz oe s.pl s.pz s.pe ≤ 0
              · have hcm := HGd.out.own ho
                go_wp2_with (go_at_call 13; refine (cmp_any _ _ _ _ _ _ _).mono ?_; first
                  | (clear p0 p1 p2; rintro e wy ⟨rfl, hb0⟩; have hm := HM.out.but hb0; clear o0 o1 o2 q0 q1 q2; obtain ⟨o0, o1, o2, -, -, -⟩ := cells3 hm.o; obtain ⟨q0, q1, q2, -, -, -⟩ := cells3 hm.p1; clear hm)
                  | rintro e wy ⟨rfl, hb⟩)
                go_meet
                case rel => exact ⟨by rw [decide_eq_false (by omega)], hb0.trans hb⟩
              · go_wp2_with (go_at_call 13; refine (cmp_any _ _ _ _ _ _ _).mono ?_; rintro e wy ⟨rfl, hb⟩)
                go_meet
                case rel => exact ⟨rfl, hb⟩
          case rest =>
            obtain ⟨rfl, hb⟩ := hcut
            replace HM : Hid _ := HM.out.but hb
            clear hb
            obtain ⟨n0, n1, n2, n3, n4, n5, -⟩ := cells6 HM.out.n
            go_upto_region 26 with fail
            clear n0 n1 n2 n3 n4 n5
            have HV : Hid _ := one_new (But.refl [] (wc.alloc (.cells #[.int .i64 n.l, .int .i64 n.z, .int .i64 n.e] 23)))
            replace HM : Hid _ := HM.out.but ((But.refl [] wc).alloc (.cells #[.int .i64 n.l, .int .i64 n.z, .int .i64 n.e] 23))
            generalize World.alloc wc _ = wd at HM HV ⊢
            generalize wc.heap.size = NV at HV ⊢
            go_cut [148] (fun c wy => c = .bool false ∧ But [] wd wy)
            case first =>
              as_aux_lemma =>
                obtain ⟨n0, n1, n2, n3, n4, n5, -⟩ := cells6 HM.out.n
                obtain ⟨v0, v1, v2, -, -, -⟩ := cells3 HV.out
                obtain ⟨q0, q1, q2, -, -, -⟩ := cells3 HM.out.p1
                by_cases h0 : n.s = 0
                · have h0b : (n.s == 0) = true := by simp [h0]
                  by_cases hr : n.r = t.r
                  · have hcm := HGd.out.nv h0 hr
                    have hrb : (n.r == t.r) = true := by simp [hr]
                    clear h0 hr
                    go_wp2_with (go_at_call 13; refine (cmp_any _ _ _ _ _ _ _).mono ?_; rintro e wy ⟨rfl, hb⟩)
                    go_meet
                    case rel => exact ⟨by rw [decide_eq_false (by omega)], hb⟩
                  · have hrb : (n.r == t.r) = false := by simp [hr]
                    clear h0 hr
                    go_wp2_with fail
                    go_meet
                    case rel => exact ⟨rfl, But.refl _ _⟩
                · have h0b : (n.s == 0) = false := by simp [h0]
                  clear h0
                  go_wp2_with fail
                  go_meet
                  case rel => exact ⟨rfl, But.refl _ _⟩
            case rest =>
              obtain ⟨rfl, hb⟩ := hcut
              replace HM : Hid _ := HM.out.but hb
              replace HV : Hid _ := (hb.block _ (heap_lt HV.out) (by simp)).trans HV.out
              clear hb
              go_upto_region 28 with fail
              go_cut [161] (fun c wy => c = .bool false ∧ wy = wc)
              case first =>
                as_aux_lemma =>
                  obtain ⟨v0, v1, v2, -, -, -⟩ := cells3 HV.out
                  obtain ⟨p0, p1, p2, -, -, -⟩ := cells3 HM.out.p0
                  obtain ⟨q0, q1, q2, -, -, -⟩ := cells3 HM.out.p1
                  by_cases hr : t.r = s.r
                  · have hrb : (t.r == s.r) = true := by simp [hr]
                    by_cases hp : t.pl = s.pl ∧ t.pz = s.pz ∧ t.pe = s.pe
                    · obtain ⟨e0, e1, e2⟩ := hp
                      have e0b : (t.pl == s.pl) = true := by simp [e0]
                      have e1b : (t.pz == s.pz) = true := by simp [e1]
                      have e2b : (t.pe == s.pe) = true := by simp [e2]
                      clear hr e0 e1 e2
                      go_wp2_with fail
                      go_meet
                      case rel => exact ⟨rfl, rfl⟩
                    · obtain ⟨e0, e1, e2⟩ := HGd.out.moves hr hp
                      have e0b : (t.pl == n.l) = true := by simp [e0]
                      have e1b : (t.pz == n.z) = true := by simp [e1]
                      have e2b : (t.pe == n.e) = true := by simp [e2]
                      clear hr e0 e1 e2
                      go_wp2_with fail
                      all_goals go_meet
                      all_goals first
                        | exact ⟨rfl, rfl⟩
                        | (exfalso; have k0 := eq_of_beq e0b; have k1 := eq_of_beq e1b; have k2 := eq_of_beq e2b; omega)
                  · have hrb : (t.r == s.r) = false := by simp [hr]
                    clear hr
                    go_wp2_with fail
                    go_meet
                    case rel => exact ⟨rfl, rfl⟩
              case rest =>
                obtain ⟨rfl, rfl⟩ := hcut
                go_upto_region 30 with fail
                go_cut [171] (fun c wy => c = .bool false ∧ wy = wc)
                case first =>
                  as_aux_lemma =>
                    obtain ⟨p0, p1, p2, -, -, -⟩ := cells3 HM.out.p0
                    obtain ⟨q0, q1, q2, -, -, -⟩ := cells3 HM.out.p1
                    have ht := HGd.out.told
                    by_cases hr : t.r = s.r
                    · have hrb : (t.r == s.r) = true := by simp [hr]
                      have hrc : (t.r != s.r) = false := by simp [hr]
                      by_cases hp : t.pl = s.pl ∧ t.pz = s.pz ∧ t.pe = s.pe
                      · have hc0 : ch = false := (by rw [ht]; simp [hr, hp])
                        have hc : Hid (ch = false) := hc0
                        clear hc0
                        obtain ⟨e0, e1, e2⟩ := hp
                        have e0b : (t.pl == s.pl) = true := by simp [e0]
                        have e1b : (t.pz == s.pz) = true := by simp [e1]
                        have e2b : (t.pe == s.pe) = true := by simp [e2]
                        clear hr e0 e1 e2 ht
                        go_wp2_with fail
                        all_goals go_meet
                        all_goals exact ⟨by simp [hc.out], rfl⟩
                      · have hc0 : ch = true := (by rw [ht]; simp [hr, hp])
                        have hc : Hid (ch = true) := hc0
                        clear hc0
                        clear hr ht
                        go_wp2_with fail
                        all_goals go_meet
                        all_goals exact ⟨by simp [hc.out], rfl⟩
                    · have hrb : (t.r == s.r) = false := by simp [hr]
                      have hrc : (t.r != s.r) = true := by simp [hr]
                      have hc0 : ch = true := (by rw [ht]; simp [hr])
                      have hc : Hid (ch = true) := hc0
                      clear hc0
                      clear hr ht
                      go_wp2_with fail
                      all_goals go_meet
                      all_goals exact ⟨by simp [hc.out], rfl⟩
                case rest =>
                  obtain ⟨rfl, rfl⟩ := hcut
                  obtain ⟨n0, n1, n2, n3, n4, n5, -⟩ := cells6 HM.out.n
                  go_upto_region 33 with (go_at_call 14; refine (settledAt_any E bt bs me size ol oz oe t.r t.pl t.pz t.pe t.V t.S n.f _ HM.out.el.1).mono ?_; rintro e wd ⟨rfl, hb⟩; have HB : Hid (But [] _ wd) := hb; clear hb)
                  clear n0 n1 n2 n3 n4 n5
                  have HF : Hid _ := one_new (But.refl [] (wd.alloc (.cells #[.int .i64 (found (t.S n.f)).l, .int .i64 (found (t.S n.f)).z, .int .i64 (found (t.S n.f)).e, .int .i64 (found (t.S n.f)).r, .int .i32 (found (t.S n.f)).s, .int .i64 (found (t.S n.f)).f] 26)))
                  replace HM : Hid _ := HM.out.but (HB.out.alloc (.cells #[.int .i64 (found (t.S n.f)).l, .int .i64 (found (t.S n.f)).z, .int .i64 (found (t.S n.f)).e, .int .i64 (found (t.S n.f)).r, .int .i32 (found (t.S n.f)).s, .int .i64 (found (t.S n.f)).f] 26))
                  clear HB HV
                  generalize World.alloc wd _ = wd' at HM HF ⊢
                  generalize wd.heap.size = NF at HF ⊢
                  by_cases h0 : n.s = 0
                  · have hS := HGd.out.gone h0
                    have h0b : (n.s == 0) = true := by simp [h0]
                    have hV := HGd.out.mine h0
                    have HVm : Hid _ := hV
                    clear hV
                    simp only [hS] at HF ⊢
                    clear h0 hS
                    obtain ⟨n0, n1, n2, n3, n4, n5, -⟩ := cells6 HM.out.n
                    go_upto_region 38 with fail
                    by_cases hge : s.r ≤ n.r
                    · have HVs : Hid _ := HVm.out hge
                      clear HVm
                      go_upto_region 40 with (go_at_call 15; refine (voteAt_any E bt bs me size ol oz oe t.r t.pl t.pz t.pe t.V t.S me _ HM.out.el.1).mono ?_; rintro e we ⟨rfl, hb⟩; have HB : Hid (But [] _ we) := hb; clear hb)
                      simp only [HVs.out, found, Option.getD_some, Option.isSome_some]
                      clear n0 n1 n2 n3 n4 n5 HVs
                      have HF' : Hid _ := one_new (But.refl [] (we.alloc (.cells #[.int .i64 t.pl, .int .i64 t.pz, .int .i64 t.pe, .int .i64 t.r, .int .i32 0, .int .i64 me] 26)))
                      replace HM : Hid _ := HM.out.but (HB.out.alloc (.cells #[.int .i64 t.pl, .int .i64 t.pz, .int .i64 t.pe, .int .i64 t.r, .int .i32 0, .int .i64 me] 26))
                      clear HB HF
                      generalize World.alloc we _ = we' at HM HF' ⊢
                      generalize we.heap.size = NF' at HF' ⊢
                      obtain ⟨f0, f1, f2, f3, f4, f5, -⟩ := cells6 HF'.out
                      obtain ⟨q0, q1, q2, -, -, -⟩ := cells3 HM.out.p1
                      go_wp2_with fail
                      exact ⟨⟨⟨k + 1, by omega, by simp⟩, _, _, ⟨HM.out.el, HM.out.below, HM.out.o, HO.out⟩⟩, by simp [intOf]; omega⟩
                    · go_wp2_with fail
                      exact ⟨⟨⟨k + 1, by omega, by simp⟩, _, _, ⟨HM.out.el, HM.out.below, HM.out.o, HO.out⟩⟩, by simp [intOf]; omega⟩
                  · have hS := HGd.out.kept h0
                    have h0b : (n.s == 0) = false := by simp [h0]
                    simp only [hS] at HF ⊢
                    clear h0 hS
                    obtain ⟨n0, n1, n2, n3, n4, n5, -⟩ := cells6 HM.out.n
                    obtain ⟨f0, f1, f2, f3, f4, f5, -⟩ := cells6 HF.out
                    go_wp2_with fail
                    all_goals first
                      | exact ⟨⟨⟨k + 1, by omega, by simp⟩, _, _, ⟨HM.out.el, HM.out.below, HM.out.o, HO.out⟩⟩, by simp [intOf]; omega⟩
                      | simp_all [found]
      · go_wp2
        go_ret
        exact ⟨rfl, HT.out.below⟩
end Go.Proofs.Qxb6604779a
