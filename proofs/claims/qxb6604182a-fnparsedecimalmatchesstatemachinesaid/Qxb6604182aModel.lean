/-
  The walk of the state machine zzModelDecimal.
-/
import Derived.Test.Qxb6604182aPlainB
import Derived.Test.Qxb6604182aModelA
import Derived.Deep.RegionWith
import Derived.Deep.Cut
import Derived.Deep.DeepCutAuto
namespace Go.Proofs.Qxb6604182a
open Go.RowKit
set_option linter.unusedSimpArgs false

/-- Bounds on the exponent's count and number. -/
def ExpB (sig v : Int) : Prop := (∃ n : Nat, n ≤ 13 ∧ sig = n ∧ 0 ≤ v ∧ v < 10 ^ n) ∨ (sig = 14 ∧ 0 ≤ v ∧ v < 10000000000000)
theorem ExpB.bd {sig v : Int} (h : ExpB sig v) : 0 ≤ sig ∧ sig ≤ 14 ∧ 0 ≤ v ∧ v ≤ 100000000000000 := by
  rcases h with ⟨n, hn, rfl, h0, h1⟩ | ⟨rfl, h0, h1⟩
  · have : (10 : Int) ^ n ≤ 10 ^ 13 := by
      have : (10 : Nat) ^ n ≤ 10 ^ 13 := Nat.pow_le_pow_right (by omega) hn
      exact_mod_cast this
    have e : (10 : Int) ^ 13 = 10000000000000 := by decide
    omega
  · omega
theorem ExpB.step {sig v c : Int} (hc : 48 ≤ c ∧ c ≤ 57) (h : ExpB sig v) : ExpB (expS (sig, v) c).1 (expS (sig, v) c).2 := by
  unfold expS
  simp only
  rcases h with ⟨n, hn, rfl, h0, h1⟩ | ⟨rfl, h0, h1⟩
  · by_cases hz : (n : Int) = 0 ∧ c = 48
    · rw [if_pos hz]; exact Or.inl ⟨n, hn, rfl, h0, h1⟩
    · rw [if_neg hz]
      have hlt : (n : Int) < 14 := by omega
      rw [if_pos hlt]
      by_cases h13 : (n : Int) + 1 ≤ 13
      · rw [if_pos h13]
        left
        have e10 : (10 : Int) ^ (n + 1) = 10 * 10 ^ n := by rw [Int.pow_succ, Int.mul_comm]
        exact ⟨n + 1, by omega, by simp, by simp only; omega, by simp only; rw [e10]; omega⟩
      · rw [if_neg h13]
        right
        have hn13 : n = 13 := by omega
        subst hn13
        have e13 : (10 : Int) ^ 13 = 10000000000000 := by decide
        rw [e13] at h1
        exact ⟨by simp only; omega, h0, h1⟩
  · rw [if_neg (by omega), if_neg (by omega), if_neg (by omega)]
    exact Or.inr ⟨rfl, h0, h1⟩

/-- What is known of the machine behind k bytes: its answer is the whole text's; its numbers are small; its mantissa lies in a row of the call's own. -/
structure MRel (w : World) (T : List Int) (k : Nat) (s : St) (mv : Value) (wr : World) : Prop where
  ans : M s0 T = M s (T.drop k)
  st : s.state ≤ 8
  eb : ExpB s.sig s.v
  f0 : 0 ≤ s.frac
  f1 : s.frac ≤ k
  ml : s.mant.length ≤ k
  own : wr.ownsRow w.heap.size 5 1 mv s.mant.length (s.mant.map (Value.int .u8))
  bel : Below w.heap.size w wr
  emp : s.mant = [] → s.state ≤ 1 ∧ s.stopped = false
  nil : s.mant = [] → mv = .slice none 0 0

theorem drop_cons (T : List Int) (k : Nat) (hk : k < T.length) : T.drop k = zT T k :: T.drop (k + 1) := by
  rw [List.drop_eq_getElem_cons hk]
  unfold zT
  rw [List.getD_eq_getElem?_getD, List.getElem?_eq_getElem hk]; rfl

theorem MRel.ref {w wr : World} {T : List Int} {k : Nat} {s : St} {mv : Value} (h : MRel w T k s mv wr) (hk : k < T.length) (hs : s.stopped = false) (hst : stepM s (zT T k) = none) : M s0 T = none := by
  rw [h.ans, drop_cons T k hk, M_cons s _ _ hs, hst]; rfl
/-- A step that leaves the mantissa. -/
theorem MRel.next {w wr : World} {T : List Int} {k : Nat} {s s' : St} {mv : Value} (h : MRel w T k s mv wr) (hk : k < T.length) (hs : s.stopped = false) (hst : stepM s (zT T k) = some s')
    (h1 : s'.state ≤ 8) (h2 : ExpB s'.sig s'.v) (h3 : s'.frac = s.frac) (h4 : s'.mant = s.mant) (h5 : s.mant = [] → s'.state ≤ 1 ∧ s'.stopped = false) : MRel w T (k + 1) s' mv wr := by
  refine ⟨?_, h1, h2, by rw [h3]; exact h.f0, by rw [h3]; have := h.f1; omega, by rw [h4]; have := h.ml; omega, by rw [h4]; exact h.own, h.bel, fun e => h5 (by rw [← h4]; exact e), fun e => h.nil (by rw [← h4]; exact e)⟩
  rw [h.ans, drop_cons T k hk, M_cons s _ _ hs, hst]; rfl
/-- A step that takes a digit into the mantissa. -/
theorem MRel.push {w wr w1 : World} {T : List Int} {k : Nat} {s s' : St} {mv mv' : Value} {row : Option Nat} (h : MRel w T k s mv wr) (hk : k < T.length) (hs : s.stopped = false) (hst : stepM s (zT T k) = some s')
    (h1 : s'.state ≤ 8) (h2 : ExpB s'.sig s'.v) (h3 : s'.frac = s.frac ∨ s'.frac = s.frac + 1) (h4 : s'.mant = s.mant ++ [zT T k]) (o : Obj)
    (hown : w1.ownsRow w.heap.size 5 1 mv' (s.mant.length + 1) (s.mant.map (Value.int .u8) ++ [.int .u8 (zT T k)])) (hg : (wr.alloc o).grownBy w1 row) (hrow : row = mv.ownBlock) : MRel w T (k + 1) s' mv' w1 := by
  have hb := h.bel.alloc h.bel.size o
  have hf0 := h.f0
  have hf1 := h.f1
  have hml := h.ml
  refine ⟨?_, h1, h2, by omega, by rcases h3 with h3 | h3 <;> rw [h3] <;> simp <;> omega, by rw [h4]; simp; omega, ?_, ?_, fun e => ?_, fun e => ?_⟩
  · rw [h.ans, drop_cons T k hk, M_cons s _ _ hs, hst]; rfl
  · rw [h4]; simpa using hown
  · refine hb.grown hg (by have := h.bel.size; simp; omega) (fun j hj => ?_)
    rw [hrow] at hj
    exact (h.own.lt j hj).1
  · rw [h4] at e; simp at e
  · rw [h4] at e; simp at e

/-- At the loop's end. -/
theorem MRel.fin {w wr : World} {T : List Int} {k : Nat} {s : St} {mv : Value} (h : MRel w T k s mv wr) (hx : T.length ≤ k ∨ s.stopped = true) : M s0 T = finS s := by
  rw [h.ans]
  rcases hx with hx | hx
  · rw [List.drop_eq_nil_of_le hx]; rfl
  · have e : mach s (T.drop k) = some s := by cases T.drop k <;> simp [mach, hx]
    unfold M; rw [e]; rfl
/-- The machine has stopped short of a number. -/
def rejB (st : Nat) (sp : Bool) : Bool := decide (sp = false ∧ (st = 0 ∨ st = 1 ∨ st = 4 ∨ st = 6 ∨ st = 7))
theorem fin_rej {st : Nat} {ng : Bool} {mt : List Int} {fr : Int} {en : Bool} {sg vv : Int} {sp : Bool} (h : rejB st sp = true) : finS ⟨st, ng, mt, fr, en, sg, vv, sp⟩ = none := by
  unfold finS
  rw [if_pos (of_decide_eq_true h)]
theorem fin_acc {st : Nat} {ng : Bool} {mt : List Int} {fr : Int} {en : Bool} {sg vv : Int} {sp : Bool} (h : rejB st sp = false) : finS ⟨st, ng, mt, fr, en, sg, vv, sp⟩ = some (ng, mt, (if en then -magM sg vv else magM sg vv) - fr, !sp) := by
  unfold finS
  rw [if_neg (of_decide_eq_false h)]
theorem own_slice {W : World} {base e size n : Nat} {v : Value} {xs : List Value} (h : W.ownsRow base e size v n xs) (h0 : 0 < n) : ∃ g cap, v = .slice (some ⟨g, 0, none⟩) n cap := by
  rcases h.2 with ⟨_, h1⟩ | ⟨g, cap, cur, hv, hb, _⟩
  · omega
  · exact ⟨g, cap, hv⟩
theorem MRel.pos {w wr : World} {T : List Int} {k st : Nat} {ng : Bool} {mt : List Int} {fr : Int} {en : Bool} {sg vv : Int} {sp : Bool} {mv : Value} (h : MRel w T k ⟨st, ng, mt, fr, en, sg, vv, sp⟩ mv wr) (hr : rejB st sp = false) : 0 < mt.length := by
  refine Nat.pos_of_ne_zero fun h0 => ?_
  have hm : mt = [] := List.length_eq_zero_iff.1 h0
  obtain ⟨h1, h2⟩ := h.emp hm
  have := of_decide_eq_false hr
  apply this
  simp only at h1 h2
  exact ⟨h2, by omega⟩

/-- The relation at a round's head. -/
def MAt (w : World) (T : List Int) (c6 c7 c8 c9 c10 c11 c12 c13 c14 : Value) (wr : World) : Prop :=
  ∃ (k : Nat) (s : St), k ≤ T.length ∧ c6 = .int .i64 s.state ∧ c7 = .bool s.neg ∧ c9 = .int .i64 s.frac ∧ c10 = .bool s.eneg ∧ c11 = .int .i64 s.sig ∧ c12 = .int .i64 s.v ∧ c13 = .bool s.stopped ∧ c14 = .int .i64 k ∧ MRel w T k s c8 wr

/-- What zzModelDecimal hands back. -/
def MRes (T : List Int) (e : Ending) (w' : World) : Prop :=
  match M s0 T with
  | none => e = .returned (.tuple #[.bool false, .slice none 0 0, .int .i64 0, .bool false])
  | some (neg, ds, ex, ok) => ∃ a cap, e = .returned (.tuple #[.bool neg, .slice (some a) ds.length cap, .int .i64 ex, .bool ok]) ∧ ∀ i, i < ds.length → w'.cell? (a.add i) = some (.int .u8 (ds.getD i 0))
theorem MRes.none {T : List Int} {w' : World} (h : M s0 T = none) : MRes T (.returned (.tuple #[.bool false, .slice none 0 0, .int .i64 0, .bool false])) w' := by
  unfold MRes; rw [h]

theorem MRes.some {T : List Int} {w wr : World} {neg : Bool} {ds : List Int} {ex : Int} {ok : Bool} {g cap : Nat} (h : M s0 T = .some (neg, ds, ex, ok)) (hown : wr.ownsRow w.heap.size 5 1 (.slice (some ⟨g, 0, Option.none⟩) ds.length cap) ds.length (ds.map (Value.int .u8))) :
    MRes T (.returned (.tuple #[.bool neg, .slice (some ⟨g, 0, Option.none⟩) ds.length cap, .int .i64 ex, .bool ok])) wr := by
  unfold MRes; rw [h]
  refine ⟨⟨g, 0, Option.none⟩, cap, rfl, fun i hi => hown.cells (g := g) rfl i _ ?_⟩
  rw [List.getElem?_map, List.getElem?_eq_getElem hi, List.getD_eq_getElem?_getD, List.getElem?_eq_getElem hi]
  rfl

/-- 'e' or 'E'. -/
def isEc (c : Int) : Bool := decide (c = 101 ∨ c = 69)

set_option maxRecDepth 100000 in
set_option maxHeartbeats 8000000 in
theorem model_any (b cap : Nat) (T : List Int) (w : World) (hT : T.length ≤ 1048576) (hc : ∀ i, i < T.length → w.cell? ⟨b, i, none⟩ = some (.int .u8 (zT T i))) :
    Calls Try.prog 9 #[.slice (some ⟨b, 0, none⟩) T.length cap] w fun e w' => MRes T e w' ∧ Below w.heap.size w w' := by
  have HC : Hid (∀ i, i < T.length → w.cell? ⟨b, i, none⟩ = some (.int .u8 (zT T i))) := hc
  clear hc
  obtain ⟨i0, hi, hz0, hz1, hz2⟩ := info_parts Try.info5
  go_enter Try.func9, Try.ntmps9
  go_wp2
  go_loopw [6, 7, 8, 9, 10, 11, 12, 13, 14] (fun c6 c7 c8 c9 c10 c11 c12 c13 c14 wr => MAt w T c6 c7 c8 c9 c10 c11 c12 c13 c14 wr) (fun _ _ _ _ _ _ _ _ i _ => T.length - (intOf i).toNat)
  case atStart =>
    exact ⟨0, s0, Nat.zero_le _, rfl, rfl, rfl, rfl, rfl, rfl, rfl, rfl, ⟨rfl, by decide, Or.inl ⟨0, by decide, rfl, by decide, by decide⟩, by decide, by decide, by decide, World.ownsRow_nil _ _ _ _, Below.refl _ _, fun _ => ⟨by decide, rfl⟩, fun _ => rfl⟩⟩
  case round =>
    obtain ⟨k, ⟨st, ng, mt, fr, en, sg, vv, sp⟩, hk, rfl, rfl, rfl, rfl, rfl, rfl, rfl, rfl, hm⟩ := hrel
    have HM : Hid (MRel w T k ⟨st, ng, mt, fr, en, sg, vv, sp⟩ u8 wr) := hm
    clear hm
    dsimp only
    obtain ⟨hb1, hb2, hb3, hb4⟩ := HM.out.eb.bd
    have hf0 : 0 ≤ fr := HM.out.f0
    have hf1 : fr ≤ k := HM.out.f1
    dsimp only at hb1 hb2 hb3 hb4
    by_cases hgo : k < T.length ∧ sp = false
    · obtain ⟨hlt, rfl⟩ := hgo
      have hck := HC.out k hlt
      have hbl := block_lt hck
      have hck2 : wr.cell? ⟨b, k, none⟩ = some (.int .u8 (zT T k)) := (HM.out.bel.cell (p := ⟨b, k, none⟩) hbl).trans hck
      have hml : mt.length ≤ k := HM.out.ml
      have hml1 : mt.length + 1 ≤ maxLen := by unfold maxLen; omega
      have hml2 : (mt.length + 1) * 1 ≤ 140737488355328 := by omega
      have hst8 : st ≤ 8 := HM.out.st
      clear hck hbl
      obtain ⟨c, hcz⟩ : ∃ c, c = zT T k := ⟨_, rfl⟩
      rw [← hcz] at hck2
      have HZ : Hid (c = zT T k) := hcz
      clear hcz
      have hst : st = 0 ∨ st = 1 ∨ st = 2 ∨ st = 3 ∨ st = 4 ∨ st = 5 ∨ st = 6 ∨ st = 7 ∨ st = 8 := by omega
      clear hst8
      rcases hst with rfl | rfl | rfl | rfl | rfl | rfl | rfl | rfl | rfl
      · -- state 0
        by_cases h45 : c = 45
        · have hcc : c = 45 := h45
          clear h45
          subst hcc
          have HD : Hid (isD 45 = false) := (by decide : isD 45 = false)
          have HS : Hid (stepM ⟨0, ng, mt, fr, en, sg, vv, false⟩ 45 = some ⟨1, true, mt, fr, en, sg, vv, false⟩) := show stepM ⟨0, ng, mt, fr, en, sg, vv, false⟩ 45 = some ⟨1, true, mt, fr, en, sg, vv, false⟩ by simp [stepM, isD]
          as_aux_lemma =>
            go_wp2_with (go_at_call 17; refine (isDigit_is _ false _ HD.out).mono ?_; rintro e w4 ⟨rfl, hw4⟩; replace hw4 := hw4.symm; subst hw4)
            all_goals
              go_roundw
              case rel => exact ⟨k + 1, ⟨1, true, mt, fr, en, sg, vv, false⟩, by omega, rfl, rfl, rfl, rfl, rfl, rfl, rfl, by go_num, HM.out.next hlt rfl (by rw [← HZ.out]; exact HS.out) (by simp) HM.out.eb rfl rfl (fun _ => ⟨by simp, rfl⟩)⟩
              case measure => simp [intOf]; omega
        · by_cases h48 : c = 48
          · have hcc : c = 48 := h48
            clear h48
            subst hcc
            have HD : Hid (isD 48 = true) := (by decide : isD 48 = true)
            have HS : Hid (stepM ⟨0, ng, mt, fr, en, sg, vv, false⟩ 48 = some ⟨2, ng, mt ++ [48], fr, en, sg, vv, false⟩) := show stepM ⟨0, ng, mt, fr, en, sg, vv, false⟩ 48 = some ⟨2, ng, mt ++ [48], fr, en, sg, vv, false⟩ by simp [stepM, isD]
            as_aux_lemma =>
              go_wp2_with (first | (go_at_call 17; refine (isDigit_is _ true _ HD.out).mono ?_; rintro e w4 ⟨rfl, hw4⟩; replace hw4 := hw4.symm; subst hw4) | (at_builtin; refine wpList_append_own _ rfl _ _ 22 rfl w.heap.size 5 i0 (.int .u8 0) 1 1 Try.underlying22 hi hz0 hz1 hz2 rfl (by decide) _ _ _ rfl (HM.out.own.alloc _) ⟨wr.heap.size, 0, none⟩ 1 1 [.int .u8 48] rfl rfl (cell_one_new _ _ _) (by intro u hu; simp at hu; subst hu; rfl) hml1 hml2 (by have := HM.out.bel.size; simp; omega) ?_; intro v6 w6 hown6 hg6 hn6; have HO6 : Hid _ := hown6; have HG6 : Hid _ := hg6; clear hown6 hg6 hn6))
              all_goals
                go_roundw
                case rel => exact ⟨k + 1, ⟨2, ng, mt ++ [48], fr, en, sg, vv, false⟩, by omega, rfl, rfl, rfl, rfl, rfl, rfl, rfl, by go_num, HM.out.push hlt rfl (by rw [← HZ.out]; exact HS.out) (by simp) HM.out.eb (Or.inl rfl) (by rw [← HZ.out]) _ (by rw [← HZ.out]; exact HO6.out) HG6.out rfl⟩
                case measure => simp [intOf]; omega
          · cases hd : isD c
            · have HD : Hid (isD c = false) := hd
              have n45 : (c == 45) = false := by simpa using h45
              have n48 : (c == 48) = false := by simpa using h48
              clear hd
              have HS : Hid (stepM ⟨0, ng, mt, fr, en, sg, vv, false⟩ c = none) := show stepM ⟨0, ng, mt, fr, en, sg, vv, false⟩ c = none by simp [stepM, HD.out, h45, h48]
              clear h45 h48
              as_aux_lemma =>
                go_wp2_with (go_at_call 17; refine (isDigit_is _ false _ HD.out).mono ?_; rintro e w4 ⟨rfl, hw4⟩; replace hw4 := hw4.symm; subst hw4)
                all_goals refine bodyPost_ret (v := .tuple #[.bool false, .slice none 0 0, .int .i64 0, .bool false]) (by simp [results, Try.results9, go_sem]) rfl ⟨MRes.none (HM.out.ref hlt rfl (by rw [← HZ.out]; exact HS.out)), HM.out.bel⟩
            · have HD : Hid (isD c = true) := hd
              obtain ⟨hd1, hd2⟩ := isD_t hd
              have n45 : (c == 45) = false := by simp; omega
              have n48 : (c == 48) = false := by simp; omega
              have n46 : (c == 46) = false := by simp; omega
              have n101 : (c == 101) = false := by simp; omega
              have n69 : (c == 69) = false := by simp; omega
              have n43 : (c == 43) = false := by simp; omega
              clear hd
              have HS : Hid (stepM ⟨0, ng, mt, fr, en, sg, vv, false⟩ c = some ⟨3, ng, mt ++ [c], fr, en, sg, vv, false⟩) := show stepM ⟨0, ng, mt, fr, en, sg, vv, false⟩ c = some ⟨3, ng, mt ++ [c], fr, en, sg, vv, false⟩ by have x48 : ¬ c = 48 := h48; have x45 : ¬ c = 45 := (by omega); simp [stepM, HD.out, x48, x45]
              clear h48 h45
              as_aux_lemma =>
                go_wp2_with (first | (go_at_call 17; refine (isDigit_is _ true _ HD.out).mono ?_; rintro e w4 ⟨rfl, hw4⟩; replace hw4 := hw4.symm; subst hw4) | (at_builtin; refine wpList_append_own _ rfl _ _ 22 rfl w.heap.size 5 i0 (.int .u8 0) 1 1 Try.underlying22 hi hz0 hz1 hz2 rfl (by decide) _ _ _ rfl (HM.out.own.alloc _) ⟨wr.heap.size, 0, none⟩ 1 1 [.int .u8 c] rfl rfl (cell_one_new _ _ _) (by intro u hu; simp at hu; subst hu; rfl) hml1 hml2 (by have := HM.out.bel.size; simp; omega) ?_; intro v6 w6 hown6 hg6 hn6; have HO6 : Hid _ := hown6; have HG6 : Hid _ := hg6; clear hown6 hg6 hn6))
                all_goals
                  go_roundw
                  case rel => exact ⟨k + 1, ⟨3, ng, mt ++ [c], fr, en, sg, vv, false⟩, by omega, rfl, rfl, rfl, rfl, rfl, rfl, rfl, by go_num, HM.out.push hlt rfl (by rw [← HZ.out]; exact HS.out) (by simp) HM.out.eb (Or.inl rfl) (by rw [← HZ.out]) _ (by rw [← HZ.out]; exact HO6.out) HG6.out rfl⟩
                  case measure => simp [intOf]; omega
      · -- state 1
        by_cases h48 : c = 48
        · have hcc : c = 48 := h48
          clear h48
          subst hcc
          have HD : Hid (isD 48 = true) := (by decide : isD 48 = true)
          have HS : Hid (stepM ⟨1, ng, mt, fr, en, sg, vv, false⟩ 48 = some ⟨2, ng, mt ++ [48], fr, en, sg, vv, false⟩) := show stepM ⟨1, ng, mt, fr, en, sg, vv, false⟩ 48 = some ⟨2, ng, mt ++ [48], fr, en, sg, vv, false⟩ by simp [stepM, isD]
          as_aux_lemma =>
            go_wp2_with (first | (go_at_call 17; refine (isDigit_is _ true _ HD.out).mono ?_; rintro e w4 ⟨rfl, hw4⟩; replace hw4 := hw4.symm; subst hw4) | (at_builtin; refine wpList_append_own _ rfl _ _ 22 rfl w.heap.size 5 i0 (.int .u8 0) 1 1 Try.underlying22 hi hz0 hz1 hz2 rfl (by decide) _ _ _ rfl (HM.out.own.alloc _) ⟨wr.heap.size, 0, none⟩ 1 1 [.int .u8 48] rfl rfl (cell_one_new _ _ _) (by intro u hu; simp at hu; subst hu; rfl) hml1 hml2 (by have := HM.out.bel.size; simp; omega) ?_; intro v6 w6 hown6 hg6 hn6; have HO6 : Hid _ := hown6; have HG6 : Hid _ := hg6; clear hown6 hg6 hn6))
            all_goals
              go_roundw
              case rel => exact ⟨k + 1, ⟨2, ng, mt ++ [48], fr, en, sg, vv, false⟩, by omega, rfl, rfl, rfl, rfl, rfl, rfl, rfl, by go_num, HM.out.push hlt rfl (by rw [← HZ.out]; exact HS.out) (by simp) HM.out.eb (Or.inl rfl) (by rw [← HZ.out]) _ (by rw [← HZ.out]; exact HO6.out) HG6.out rfl⟩
              case measure => simp [intOf]; omega
        · cases hd : isD c
          · have HD : Hid (isD c = false) := hd
            have n48 : (c == 48) = false := by simpa using h48
            clear hd
            have HS : Hid (stepM ⟨1, ng, mt, fr, en, sg, vv, false⟩ c = none) := show stepM ⟨1, ng, mt, fr, en, sg, vv, false⟩ c = none by simp [stepM, HD.out, h48]
            clear h48
            as_aux_lemma =>
              go_wp2_with (go_at_call 17; refine (isDigit_is _ false _ HD.out).mono ?_; rintro e w4 ⟨rfl, hw4⟩; replace hw4 := hw4.symm; subst hw4)
              all_goals refine bodyPost_ret (v := .tuple #[.bool false, .slice none 0 0, .int .i64 0, .bool false]) (by simp [results, Try.results9, go_sem]) rfl ⟨MRes.none (HM.out.ref hlt rfl (by rw [← HZ.out]; exact HS.out)), HM.out.bel⟩
          · have HD : Hid (isD c = true) := hd
            obtain ⟨hd1, hd2⟩ := isD_t hd
            have n45 : (c == 45) = false := by simp; omega
            have n48 : (c == 48) = false := by simp; omega
            have n46 : (c == 46) = false := by simp; omega
            have n101 : (c == 101) = false := by simp; omega
            have n69 : (c == 69) = false := by simp; omega
            have n43 : (c == 43) = false := by simp; omega
            clear hd
            have HS : Hid (stepM ⟨1, ng, mt, fr, en, sg, vv, false⟩ c = some ⟨3, ng, mt ++ [c], fr, en, sg, vv, false⟩) := show stepM ⟨1, ng, mt, fr, en, sg, vv, false⟩ c = some ⟨3, ng, mt ++ [c], fr, en, sg, vv, false⟩ by have x48 : ¬ c = 48 := h48; simp [stepM, HD.out, x48]
            clear h48
            as_aux_lemma =>
              go_wp2_with (first | (go_at_call 17; refine (isDigit_is _ true _ HD.out).mono ?_; rintro e w4 ⟨rfl, hw4⟩; replace hw4 := hw4.symm; subst hw4) | (at_builtin; refine wpList_append_own _ rfl _ _ 22 rfl w.heap.size 5 i0 (.int .u8 0) 1 1 Try.underlying22 hi hz0 hz1 hz2 rfl (by decide) _ _ _ rfl (HM.out.own.alloc _) ⟨wr.heap.size, 0, none⟩ 1 1 [.int .u8 c] rfl rfl (cell_one_new _ _ _) (by intro u hu; simp at hu; subst hu; rfl) hml1 hml2 (by have := HM.out.bel.size; simp; omega) ?_; intro v6 w6 hown6 hg6 hn6; have HO6 : Hid _ := hown6; have HG6 : Hid _ := hg6; clear hown6 hg6 hn6))
              all_goals
                go_roundw
                case rel => exact ⟨k + 1, ⟨3, ng, mt ++ [c], fr, en, sg, vv, false⟩, by omega, rfl, rfl, rfl, rfl, rfl, rfl, rfl, by go_num, HM.out.push hlt rfl (by rw [← HZ.out]; exact HS.out) (by simp) HM.out.eb (Or.inl rfl) (by rw [← HZ.out]) _ (by rw [← HZ.out]; exact HO6.out) HG6.out rfl⟩
                case measure => simp [intOf]; omega
      · -- state 2
        cases hd : isD c
        · by_cases h46 : c = 46
          · have hcc : c = 46 := h46
            clear h46
            subst hcc
            have HD : Hid (isD 46 = false) := (by decide : isD 46 = false)
            have HS : Hid (stepM ⟨2, ng, mt, fr, en, sg, vv, false⟩ 46 = some ⟨4, ng, mt, fr, en, sg, vv, false⟩) := show stepM ⟨2, ng, mt, fr, en, sg, vv, false⟩ 46 = some ⟨4, ng, mt, fr, en, sg, vv, false⟩ by simp [stepM, isD]
            as_aux_lemma =>
              go_wp2_with (go_at_call 17; refine (isDigit_is _ false _ HD.out).mono ?_; rintro e w4 ⟨rfl, hw4⟩; replace hw4 := hw4.symm; subst hw4)
              all_goals
                go_roundw
                case rel => exact ⟨k + 1, ⟨4, ng, mt, fr, en, sg, vv, false⟩, by omega, rfl, rfl, rfl, rfl, rfl, rfl, rfl, by go_num, HM.out.next hlt rfl (by rw [← HZ.out]; exact HS.out) (by simp) HM.out.eb rfl rfl (fun e => absurd (HM.out.emp e).1 (by simp))⟩
                case measure => simp [intOf]; omega
          · by_cases h101 : c = 101
            · have hcc : c = 101 := h101
              clear h101
              subst hcc
              have HD : Hid (isD 101 = false) := (by decide : isD 101 = false)
              have HS : Hid (stepM ⟨2, ng, mt, fr, en, sg, vv, false⟩ 101 = some ⟨6, ng, mt, fr, en, sg, vv, false⟩) := show stepM ⟨2, ng, mt, fr, en, sg, vv, false⟩ 101 = some ⟨6, ng, mt, fr, en, sg, vv, false⟩ by simp [stepM, isD]
              as_aux_lemma =>
                go_wp2_with (go_at_call 17; refine (isDigit_is _ false _ HD.out).mono ?_; rintro e w4 ⟨rfl, hw4⟩; replace hw4 := hw4.symm; subst hw4)
                all_goals
                  go_roundw
                  case rel => exact ⟨k + 1, ⟨6, ng, mt, fr, en, sg, vv, false⟩, by omega, rfl, rfl, rfl, rfl, rfl, rfl, rfl, by go_num, HM.out.next hlt rfl (by rw [← HZ.out]; exact HS.out) (by simp) HM.out.eb rfl rfl (fun e => absurd (HM.out.emp e).1 (by simp))⟩
                  case measure => simp [intOf]; omega
            · by_cases h69 : c = 69
              · have hcc : c = 69 := h69
                clear h69
                subst hcc
                have HD : Hid (isD 69 = false) := (by decide : isD 69 = false)
                have HS : Hid (stepM ⟨2, ng, mt, fr, en, sg, vv, false⟩ 69 = some ⟨6, ng, mt, fr, en, sg, vv, false⟩) := show stepM ⟨2, ng, mt, fr, en, sg, vv, false⟩ 69 = some ⟨6, ng, mt, fr, en, sg, vv, false⟩ by simp [stepM, isD]
                as_aux_lemma =>
                  go_wp2_with (go_at_call 17; refine (isDigit_is _ false _ HD.out).mono ?_; rintro e w4 ⟨rfl, hw4⟩; replace hw4 := hw4.symm; subst hw4)
                  all_goals
                    go_roundw
                    case rel => exact ⟨k + 1, ⟨6, ng, mt, fr, en, sg, vv, false⟩, by omega, rfl, rfl, rfl, rfl, rfl, rfl, rfl, by go_num, HM.out.next hlt rfl (by rw [← HZ.out]; exact HS.out) (by simp) HM.out.eb rfl rfl (fun e => absurd (HM.out.emp e).1 (by simp))⟩
                    case measure => simp [intOf]; omega
              · have HD : Hid (isD c = false) := hd
                have n46 : (c == 46) = false := by simpa using h46
                have n101 : (c == 101) = false := by simpa using h101
                have n69 : (c == 69) = false := by simpa using h69
                clear hd
                have HS : Hid (stepM ⟨2, ng, mt, fr, en, sg, vv, false⟩ c = some ⟨2, ng, mt, fr, en, sg, vv, true⟩) := show stepM ⟨2, ng, mt, fr, en, sg, vv, false⟩ c = some ⟨2, ng, mt, fr, en, sg, vv, true⟩ by simp [stepM, HD.out, h46, h101, h69]
                clear h46 h101 h69
                as_aux_lemma =>
                  go_wp2_with (go_at_call 17; refine (isDigit_is _ false _ HD.out).mono ?_; rintro e w4 ⟨rfl, hw4⟩; replace hw4 := hw4.symm; subst hw4)
                  all_goals
                    go_roundw
                    case rel => exact ⟨k + 1, ⟨2, ng, mt, fr, en, sg, vv, true⟩, by omega, rfl, rfl, rfl, rfl, rfl, rfl, rfl, by go_num, HM.out.next hlt rfl (by rw [← HZ.out]; exact HS.out) (by simp) HM.out.eb rfl rfl (fun e => absurd (HM.out.emp e).1 (by simp))⟩
                    case measure => simp [intOf]; omega
        · have HD : Hid (isD c = true) := hd
          obtain ⟨hd1, hd2⟩ := isD_t hd
          have n45 : (c == 45) = false := by simp; omega
          have n46 : (c == 46) = false := by simp; omega
          have n101 : (c == 101) = false := by simp; omega
          have n69 : (c == 69) = false := by simp; omega
          have n43 : (c == 43) = false := by simp; omega
          clear hd
          have HS : Hid (stepM ⟨2, ng, mt, fr, en, sg, vv, false⟩ c = none) := show stepM ⟨2, ng, mt, fr, en, sg, vv, false⟩ c = none by simp [stepM, HD.out]
          as_aux_lemma =>
            go_wp2_with (go_at_call 17; refine (isDigit_is _ true _ HD.out).mono ?_; rintro e w4 ⟨rfl, hw4⟩; replace hw4 := hw4.symm; subst hw4)
            all_goals refine bodyPost_ret (v := .tuple #[.bool false, .slice none 0 0, .int .i64 0, .bool false]) (by simp [results, Try.results9, go_sem]) rfl ⟨MRes.none (HM.out.ref hlt rfl (by rw [← HZ.out]; exact HS.out)), HM.out.bel⟩
      · -- state 3
        cases hd : isD c
        · by_cases h46 : c = 46
          · have hcc : c = 46 := h46
            clear h46
            subst hcc
            have HD : Hid (isD 46 = false) := (by decide : isD 46 = false)
            have HS : Hid (stepM ⟨3, ng, mt, fr, en, sg, vv, false⟩ 46 = some ⟨4, ng, mt, fr, en, sg, vv, false⟩) := show stepM ⟨3, ng, mt, fr, en, sg, vv, false⟩ 46 = some ⟨4, ng, mt, fr, en, sg, vv, false⟩ by simp [stepM, isD]
            as_aux_lemma =>
              go_wp2_with (go_at_call 17; refine (isDigit_is _ false _ HD.out).mono ?_; rintro e w4 ⟨rfl, hw4⟩; replace hw4 := hw4.symm; subst hw4)
              all_goals
                go_roundw
                case rel => exact ⟨k + 1, ⟨4, ng, mt, fr, en, sg, vv, false⟩, by omega, rfl, rfl, rfl, rfl, rfl, rfl, rfl, by go_num, HM.out.next hlt rfl (by rw [← HZ.out]; exact HS.out) (by simp) HM.out.eb rfl rfl (fun e => absurd (HM.out.emp e).1 (by simp))⟩
                case measure => simp [intOf]; omega
          · by_cases h101 : c = 101
            · have hcc : c = 101 := h101
              clear h101
              subst hcc
              have HD : Hid (isD 101 = false) := (by decide : isD 101 = false)
              have HS : Hid (stepM ⟨3, ng, mt, fr, en, sg, vv, false⟩ 101 = some ⟨6, ng, mt, fr, en, sg, vv, false⟩) := show stepM ⟨3, ng, mt, fr, en, sg, vv, false⟩ 101 = some ⟨6, ng, mt, fr, en, sg, vv, false⟩ by simp [stepM, isD]
              as_aux_lemma =>
                go_wp2_with (go_at_call 17; refine (isDigit_is _ false _ HD.out).mono ?_; rintro e w4 ⟨rfl, hw4⟩; replace hw4 := hw4.symm; subst hw4)
                all_goals
                  go_roundw
                  case rel => exact ⟨k + 1, ⟨6, ng, mt, fr, en, sg, vv, false⟩, by omega, rfl, rfl, rfl, rfl, rfl, rfl, rfl, by go_num, HM.out.next hlt rfl (by rw [← HZ.out]; exact HS.out) (by simp) HM.out.eb rfl rfl (fun e => absurd (HM.out.emp e).1 (by simp))⟩
                  case measure => simp [intOf]; omega
            · by_cases h69 : c = 69
              · have hcc : c = 69 := h69
                clear h69
                subst hcc
                have HD : Hid (isD 69 = false) := (by decide : isD 69 = false)
                have HS : Hid (stepM ⟨3, ng, mt, fr, en, sg, vv, false⟩ 69 = some ⟨6, ng, mt, fr, en, sg, vv, false⟩) := show stepM ⟨3, ng, mt, fr, en, sg, vv, false⟩ 69 = some ⟨6, ng, mt, fr, en, sg, vv, false⟩ by simp [stepM, isD]
                as_aux_lemma =>
                  go_wp2_with (go_at_call 17; refine (isDigit_is _ false _ HD.out).mono ?_; rintro e w4 ⟨rfl, hw4⟩; replace hw4 := hw4.symm; subst hw4)
                  all_goals
                    go_roundw
                    case rel => exact ⟨k + 1, ⟨6, ng, mt, fr, en, sg, vv, false⟩, by omega, rfl, rfl, rfl, rfl, rfl, rfl, rfl, by go_num, HM.out.next hlt rfl (by rw [← HZ.out]; exact HS.out) (by simp) HM.out.eb rfl rfl (fun e => absurd (HM.out.emp e).1 (by simp))⟩
                    case measure => simp [intOf]; omega
              · have HD : Hid (isD c = false) := hd
                have n46 : (c == 46) = false := by simpa using h46
                have n101 : (c == 101) = false := by simpa using h101
                have n69 : (c == 69) = false := by simpa using h69
                clear hd
                have HS : Hid (stepM ⟨3, ng, mt, fr, en, sg, vv, false⟩ c = some ⟨3, ng, mt, fr, en, sg, vv, true⟩) := show stepM ⟨3, ng, mt, fr, en, sg, vv, false⟩ c = some ⟨3, ng, mt, fr, en, sg, vv, true⟩ by simp [stepM, HD.out, h46, h101, h69]
                clear h46 h101 h69
                as_aux_lemma =>
                  go_wp2_with (go_at_call 17; refine (isDigit_is _ false _ HD.out).mono ?_; rintro e w4 ⟨rfl, hw4⟩; replace hw4 := hw4.symm; subst hw4)
                  all_goals
                    go_roundw
                    case rel => exact ⟨k + 1, ⟨3, ng, mt, fr, en, sg, vv, true⟩, by omega, rfl, rfl, rfl, rfl, rfl, rfl, rfl, by go_num, HM.out.next hlt rfl (by rw [← HZ.out]; exact HS.out) (by simp) HM.out.eb rfl rfl (fun e => absurd (HM.out.emp e).1 (by simp))⟩
                    case measure => simp [intOf]; omega
        · have HD : Hid (isD c = true) := hd
          obtain ⟨hd1, hd2⟩ := isD_t hd
          have n45 : (c == 45) = false := by simp; omega
          have n46 : (c == 46) = false := by simp; omega
          have n101 : (c == 101) = false := by simp; omega
          have n69 : (c == 69) = false := by simp; omega
          have n43 : (c == 43) = false := by simp; omega
          clear hd
          have HS : Hid (stepM ⟨3, ng, mt, fr, en, sg, vv, false⟩ c = some ⟨3, ng, mt ++ [c], fr, en, sg, vv, false⟩) := show stepM ⟨3, ng, mt, fr, en, sg, vv, false⟩ c = some ⟨3, ng, mt ++ [c], fr, en, sg, vv, false⟩ by simp [stepM, HD.out]
          as_aux_lemma =>
            go_wp2_with (first | (go_at_call 17; refine (isDigit_is _ true _ HD.out).mono ?_; rintro e w4 ⟨rfl, hw4⟩; replace hw4 := hw4.symm; subst hw4) | (at_builtin; refine wpList_append_own _ rfl _ _ 22 rfl w.heap.size 5 i0 (.int .u8 0) 1 1 Try.underlying22 hi hz0 hz1 hz2 rfl (by decide) _ _ _ rfl (HM.out.own.alloc _) ⟨wr.heap.size, 0, none⟩ 1 1 [.int .u8 c] rfl rfl (cell_one_new _ _ _) (by intro u hu; simp at hu; subst hu; rfl) hml1 hml2 (by have := HM.out.bel.size; simp; omega) ?_; intro v6 w6 hown6 hg6 hn6; have HO6 : Hid _ := hown6; have HG6 : Hid _ := hg6; clear hown6 hg6 hn6))
            all_goals
              go_roundw
              case rel => exact ⟨k + 1, ⟨3, ng, mt ++ [c], fr, en, sg, vv, false⟩, by omega, rfl, rfl, rfl, rfl, rfl, rfl, rfl, by go_num, HM.out.push hlt rfl (by rw [← HZ.out]; exact HS.out) (by simp) HM.out.eb (Or.inl rfl) (by rw [← HZ.out]) _ (by rw [← HZ.out]; exact HO6.out) HG6.out rfl⟩
              case measure => simp [intOf]; omega
      · -- state 4
        cases hd : isD c
        · have HD : Hid (isD c = false) := hd
          clear hd
          have HS : Hid (stepM ⟨4, ng, mt, fr, en, sg, vv, false⟩ c = none) := show stepM ⟨4, ng, mt, fr, en, sg, vv, false⟩ c = none by simp [stepM, HD.out]
          skip
          as_aux_lemma =>
            go_wp2_with (go_at_call 17; refine (isDigit_is _ false _ HD.out).mono ?_; rintro e w4 ⟨rfl, hw4⟩; replace hw4 := hw4.symm; subst hw4)
            all_goals refine bodyPost_ret (v := .tuple #[.bool false, .slice none 0 0, .int .i64 0, .bool false]) (by simp [results, Try.results9, go_sem]) rfl ⟨MRes.none (HM.out.ref hlt rfl (by rw [← HZ.out]; exact HS.out)), HM.out.bel⟩
        · have HD : Hid (isD c = true) := hd
          obtain ⟨hd1, hd2⟩ := isD_t hd
          have n45 : (c == 45) = false := by simp; omega
          have n46 : (c == 46) = false := by simp; omega
          have n101 : (c == 101) = false := by simp; omega
          have n69 : (c == 69) = false := by simp; omega
          have n43 : (c == 43) = false := by simp; omega
          clear hd
          have HS : Hid (stepM ⟨4, ng, mt, fr, en, sg, vv, false⟩ c = some ⟨5, ng, mt ++ [c], fr + 1, en, sg, vv, false⟩) := show stepM ⟨4, ng, mt, fr, en, sg, vv, false⟩ c = some ⟨5, ng, mt ++ [c], fr + 1, en, sg, vv, false⟩ by simp [stepM, HD.out]
          as_aux_lemma =>
            go_wp2_with (first | (go_at_call 17; refine (isDigit_is _ true _ HD.out).mono ?_; rintro e w4 ⟨rfl, hw4⟩; replace hw4 := hw4.symm; subst hw4) | (at_builtin; refine wpList_append_own _ rfl _ _ 22 rfl w.heap.size 5 i0 (.int .u8 0) 1 1 Try.underlying22 hi hz0 hz1 hz2 rfl (by decide) _ _ _ rfl (HM.out.own.alloc _) ⟨wr.heap.size, 0, none⟩ 1 1 [.int .u8 c] rfl rfl (cell_one_new _ _ _) (by intro u hu; simp at hu; subst hu; rfl) hml1 hml2 (by have := HM.out.bel.size; simp; omega) ?_; intro v6 w6 hown6 hg6 hn6; have HO6 : Hid _ := hown6; have HG6 : Hid _ := hg6; clear hown6 hg6 hn6))
            all_goals
              go_roundw
              case rel => exact ⟨k + 1, ⟨5, ng, mt ++ [c], fr + 1, en, sg, vv, false⟩, by omega, rfl, rfl, rfl, rfl, rfl, rfl, rfl, by go_num, HM.out.push hlt rfl (by rw [← HZ.out]; exact HS.out) (by simp) HM.out.eb (Or.inr rfl) (by rw [← HZ.out]) _ (by rw [← HZ.out]; exact HO6.out) HG6.out rfl⟩
              case measure => simp [intOf]; omega
      · -- state 5
        cases hd : isD c
        · by_cases h101 : c = 101
          · have hcc : c = 101 := h101
            clear h101
            subst hcc
            have HD : Hid (isD 101 = false) := (by decide : isD 101 = false)
            have HS : Hid (stepM ⟨5, ng, mt, fr, en, sg, vv, false⟩ 101 = some ⟨6, ng, mt, fr, en, sg, vv, false⟩) := show stepM ⟨5, ng, mt, fr, en, sg, vv, false⟩ 101 = some ⟨6, ng, mt, fr, en, sg, vv, false⟩ by simp [stepM, isD]
            as_aux_lemma =>
              go_wp2_with (go_at_call 17; refine (isDigit_is _ false _ HD.out).mono ?_; rintro e w4 ⟨rfl, hw4⟩; replace hw4 := hw4.symm; subst hw4)
              all_goals
                go_roundw
                case rel => exact ⟨k + 1, ⟨6, ng, mt, fr, en, sg, vv, false⟩, by omega, rfl, rfl, rfl, rfl, rfl, rfl, rfl, by go_num, HM.out.next hlt rfl (by rw [← HZ.out]; exact HS.out) (by simp) HM.out.eb rfl rfl (fun e => absurd (HM.out.emp e).1 (by simp))⟩
                case measure => simp [intOf]; omega
          · by_cases h69 : c = 69
            · have hcc : c = 69 := h69
              clear h69
              subst hcc
              have HD : Hid (isD 69 = false) := (by decide : isD 69 = false)
              have HS : Hid (stepM ⟨5, ng, mt, fr, en, sg, vv, false⟩ 69 = some ⟨6, ng, mt, fr, en, sg, vv, false⟩) := show stepM ⟨5, ng, mt, fr, en, sg, vv, false⟩ 69 = some ⟨6, ng, mt, fr, en, sg, vv, false⟩ by simp [stepM, isD]
              as_aux_lemma =>
                go_wp2_with (go_at_call 17; refine (isDigit_is _ false _ HD.out).mono ?_; rintro e w4 ⟨rfl, hw4⟩; replace hw4 := hw4.symm; subst hw4)
                all_goals
                  go_roundw
                  case rel => exact ⟨k + 1, ⟨6, ng, mt, fr, en, sg, vv, false⟩, by omega, rfl, rfl, rfl, rfl, rfl, rfl, rfl, by go_num, HM.out.next hlt rfl (by rw [← HZ.out]; exact HS.out) (by simp) HM.out.eb rfl rfl (fun e => absurd (HM.out.emp e).1 (by simp))⟩
                  case measure => simp [intOf]; omega
            · have HD : Hid (isD c = false) := hd
              have n101 : (c == 101) = false := by simpa using h101
              have n69 : (c == 69) = false := by simpa using h69
              clear hd
              have HS : Hid (stepM ⟨5, ng, mt, fr, en, sg, vv, false⟩ c = some ⟨5, ng, mt, fr, en, sg, vv, true⟩) := show stepM ⟨5, ng, mt, fr, en, sg, vv, false⟩ c = some ⟨5, ng, mt, fr, en, sg, vv, true⟩ by simp [stepM, HD.out, h101, h69]
              clear h101 h69
              as_aux_lemma =>
                go_wp2_with (go_at_call 17; refine (isDigit_is _ false _ HD.out).mono ?_; rintro e w4 ⟨rfl, hw4⟩; replace hw4 := hw4.symm; subst hw4)
                all_goals
                  go_roundw
                  case rel => exact ⟨k + 1, ⟨5, ng, mt, fr, en, sg, vv, true⟩, by omega, rfl, rfl, rfl, rfl, rfl, rfl, rfl, by go_num, HM.out.next hlt rfl (by rw [← HZ.out]; exact HS.out) (by simp) HM.out.eb rfl rfl (fun e => absurd (HM.out.emp e).1 (by simp))⟩
                  case measure => simp [intOf]; omega
        · have HD : Hid (isD c = true) := hd
          obtain ⟨hd1, hd2⟩ := isD_t hd
          have n45 : (c == 45) = false := by simp; omega
          have n46 : (c == 46) = false := by simp; omega
          have n101 : (c == 101) = false := by simp; omega
          have n69 : (c == 69) = false := by simp; omega
          have n43 : (c == 43) = false := by simp; omega
          clear hd
          have HS : Hid (stepM ⟨5, ng, mt, fr, en, sg, vv, false⟩ c = some ⟨5, ng, mt ++ [c], fr + 1, en, sg, vv, false⟩) := show stepM ⟨5, ng, mt, fr, en, sg, vv, false⟩ c = some ⟨5, ng, mt ++ [c], fr + 1, en, sg, vv, false⟩ by simp [stepM, HD.out]
          as_aux_lemma =>
            go_wp2_with (first | (go_at_call 17; refine (isDigit_is _ true _ HD.out).mono ?_; rintro e w4 ⟨rfl, hw4⟩; replace hw4 := hw4.symm; subst hw4) | (at_builtin; refine wpList_append_own _ rfl _ _ 22 rfl w.heap.size 5 i0 (.int .u8 0) 1 1 Try.underlying22 hi hz0 hz1 hz2 rfl (by decide) _ _ _ rfl (HM.out.own.alloc _) ⟨wr.heap.size, 0, none⟩ 1 1 [.int .u8 c] rfl rfl (cell_one_new _ _ _) (by intro u hu; simp at hu; subst hu; rfl) hml1 hml2 (by have := HM.out.bel.size; simp; omega) ?_; intro v6 w6 hown6 hg6 hn6; have HO6 : Hid _ := hown6; have HG6 : Hid _ := hg6; clear hown6 hg6 hn6))
            all_goals
              go_roundw
              case rel => exact ⟨k + 1, ⟨5, ng, mt ++ [c], fr + 1, en, sg, vv, false⟩, by omega, rfl, rfl, rfl, rfl, rfl, rfl, rfl, by go_num, HM.out.push hlt rfl (by rw [← HZ.out]; exact HS.out) (by simp) HM.out.eb (Or.inr rfl) (by rw [← HZ.out]) _ (by rw [← HZ.out]; exact HO6.out) HG6.out rfl⟩
              case measure => simp [intOf]; omega
      · -- state 6
        by_cases h45 : c = 45
        · have hcc : c = 45 := h45
          clear h45
          subst hcc
          have HD : Hid (isD 45 = false) := (by decide : isD 45 = false)
          have HS : Hid (stepM ⟨6, ng, mt, fr, en, sg, vv, false⟩ 45 = some ⟨7, ng, mt, fr, true, sg, vv, false⟩) := show stepM ⟨6, ng, mt, fr, en, sg, vv, false⟩ 45 = some ⟨7, ng, mt, fr, true, sg, vv, false⟩ by simp [stepM, isD]
          as_aux_lemma =>
            go_wp2_with (go_at_call 17; refine (isDigit_is _ false _ HD.out).mono ?_; rintro e w4 ⟨rfl, hw4⟩; replace hw4 := hw4.symm; subst hw4)
            all_goals
              go_roundw
              case rel => exact ⟨k + 1, ⟨7, ng, mt, fr, true, sg, vv, false⟩, by omega, rfl, rfl, rfl, rfl, rfl, rfl, rfl, by go_num, HM.out.next hlt rfl (by rw [← HZ.out]; exact HS.out) (by simp) HM.out.eb rfl rfl (fun e => absurd (HM.out.emp e).1 (by simp))⟩
              case measure => simp [intOf]; omega
        · by_cases h43 : c = 43
          · have hcc : c = 43 := h43
            clear h43
            subst hcc
            have HD : Hid (isD 43 = false) := (by decide : isD 43 = false)
            have HS : Hid (stepM ⟨6, ng, mt, fr, en, sg, vv, false⟩ 43 = some ⟨7, ng, mt, fr, en, sg, vv, false⟩) := show stepM ⟨6, ng, mt, fr, en, sg, vv, false⟩ 43 = some ⟨7, ng, mt, fr, en, sg, vv, false⟩ by simp [stepM, isD]
            as_aux_lemma =>
              go_wp2_with (go_at_call 17; refine (isDigit_is _ false _ HD.out).mono ?_; rintro e w4 ⟨rfl, hw4⟩; replace hw4 := hw4.symm; subst hw4)
              all_goals
                go_roundw
                case rel => exact ⟨k + 1, ⟨7, ng, mt, fr, en, sg, vv, false⟩, by omega, rfl, rfl, rfl, rfl, rfl, rfl, rfl, by go_num, HM.out.next hlt rfl (by rw [← HZ.out]; exact HS.out) (by simp) HM.out.eb rfl rfl (fun e => absurd (HM.out.emp e).1 (by simp))⟩
                case measure => simp [intOf]; omega
          · cases hd : isD c
            · have HD : Hid (isD c = false) := hd
              have n45 : (c == 45) = false := by simpa using h45
              have n43 : (c == 43) = false := by simpa using h43
              clear hd
              have HS : Hid (stepM ⟨6, ng, mt, fr, en, sg, vv, false⟩ c = none) := show stepM ⟨6, ng, mt, fr, en, sg, vv, false⟩ c = none by simp [stepM, HD.out, h45, h43]
              clear h45 h43
              as_aux_lemma =>
                go_wp2_with (go_at_call 17; refine (isDigit_is _ false _ HD.out).mono ?_; rintro e w4 ⟨rfl, hw4⟩; replace hw4 := hw4.symm; subst hw4)
                all_goals refine bodyPost_ret (v := .tuple #[.bool false, .slice none 0 0, .int .i64 0, .bool false]) (by simp [results, Try.results9, go_sem]) rfl ⟨MRes.none (HM.out.ref hlt rfl (by rw [← HZ.out]; exact HS.out)), HM.out.bel⟩
            · have HD : Hid (isD c = true) := hd
              obtain ⟨hd1, hd2⟩ := isD_t hd
              have n45 : (c == 45) = false := by simp; omega
              have n46 : (c == 46) = false := by simp; omega
              have n101 : (c == 101) = false := by simp; omega
              have n69 : (c == 69) = false := by simp; omega
              have n43 : (c == 43) = false := by simp; omega
              clear hd
              have HS : Hid (stepM ⟨6, ng, mt, fr, en, sg, vv, false⟩ c = some ⟨8, ng, mt, fr, en, (expS (sg, vv) c).1, (expS (sg, vv) c).2, false⟩) := show stepM ⟨6, ng, mt, fr, en, sg, vv, false⟩ c = some ⟨8, ng, mt, fr, en, (expS (sg, vv) c).1, (expS (sg, vv) c).2, false⟩ by have x45 : ¬ c = 45 := (by omega); have x43 : ¬ c = 43 := (by omega); simp [stepM, HD.out, x45, x43]
              clear h45 h43
              as_aux_lemma =>
                go_wp2_with (first | (go_at_call 17; refine (isDigit_is _ true _ HD.out).mono ?_; rintro e w4 ⟨rfl, hw4⟩; replace hw4 := hw4.symm; subst hw4) | (go_at_call 19; refine (expStep_any sg vv _ _ hd1 hd2 hb1 hb2 hb3 hb4).mono ?_; rintro e w5 ⟨rfl, hw5⟩; replace hw5 := hw5.symm; subst hw5))
                all_goals
                  go_roundw
                  case rel => exact ⟨k + 1, ⟨8, ng, mt, fr, en, (expS (sg, vv) c).1, (expS (sg, vv) c).2, false⟩, by omega, rfl, rfl, rfl, rfl, rfl, rfl, rfl, by go_num, HM.out.next hlt rfl (by rw [← HZ.out]; exact HS.out) (by simp) (HM.out.eb.step ⟨hd1, hd2⟩) rfl rfl (fun e => absurd (HM.out.emp e).1 (by simp))⟩
                  case measure => simp [intOf]; omega
      · -- state 7
        cases hd : isD c
        · have HD : Hid (isD c = false) := hd
          clear hd
          have HS : Hid (stepM ⟨7, ng, mt, fr, en, sg, vv, false⟩ c = none) := show stepM ⟨7, ng, mt, fr, en, sg, vv, false⟩ c = none by simp [stepM, HD.out]
          skip
          as_aux_lemma =>
            go_wp2_with (go_at_call 17; refine (isDigit_is _ false _ HD.out).mono ?_; rintro e w4 ⟨rfl, hw4⟩; replace hw4 := hw4.symm; subst hw4)
            all_goals refine bodyPost_ret (v := .tuple #[.bool false, .slice none 0 0, .int .i64 0, .bool false]) (by simp [results, Try.results9, go_sem]) rfl ⟨MRes.none (HM.out.ref hlt rfl (by rw [← HZ.out]; exact HS.out)), HM.out.bel⟩
        · have HD : Hid (isD c = true) := hd
          obtain ⟨hd1, hd2⟩ := isD_t hd
          have n45 : (c == 45) = false := by simp; omega
          have n46 : (c == 46) = false := by simp; omega
          have n101 : (c == 101) = false := by simp; omega
          have n69 : (c == 69) = false := by simp; omega
          have n43 : (c == 43) = false := by simp; omega
          clear hd
          have HS : Hid (stepM ⟨7, ng, mt, fr, en, sg, vv, false⟩ c = some ⟨8, ng, mt, fr, en, (expS (sg, vv) c).1, (expS (sg, vv) c).2, false⟩) := show stepM ⟨7, ng, mt, fr, en, sg, vv, false⟩ c = some ⟨8, ng, mt, fr, en, (expS (sg, vv) c).1, (expS (sg, vv) c).2, false⟩ by simp [stepM, HD.out]
          as_aux_lemma =>
            go_wp2_with (first | (go_at_call 17; refine (isDigit_is _ true _ HD.out).mono ?_; rintro e w4 ⟨rfl, hw4⟩; replace hw4 := hw4.symm; subst hw4) | (go_at_call 19; refine (expStep_any sg vv _ _ hd1 hd2 hb1 hb2 hb3 hb4).mono ?_; rintro e w5 ⟨rfl, hw5⟩; replace hw5 := hw5.symm; subst hw5))
            all_goals
              go_roundw
              case rel => exact ⟨k + 1, ⟨8, ng, mt, fr, en, (expS (sg, vv) c).1, (expS (sg, vv) c).2, false⟩, by omega, rfl, rfl, rfl, rfl, rfl, rfl, rfl, by go_num, HM.out.next hlt rfl (by rw [← HZ.out]; exact HS.out) (by simp) (HM.out.eb.step ⟨hd1, hd2⟩) rfl rfl (fun e => absurd (HM.out.emp e).1 (by simp))⟩
              case measure => simp [intOf]; omega
      · -- state 8
        cases hd : isD c
        · have HD : Hid (isD c = false) := hd
          clear hd
          have HS : Hid (stepM ⟨8, ng, mt, fr, en, sg, vv, false⟩ c = some ⟨8, ng, mt, fr, en, sg, vv, true⟩) := show stepM ⟨8, ng, mt, fr, en, sg, vv, false⟩ c = some ⟨8, ng, mt, fr, en, sg, vv, true⟩ by simp [stepM, HD.out]
          skip
          as_aux_lemma =>
            go_wp2_with (go_at_call 17; refine (isDigit_is _ false _ HD.out).mono ?_; rintro e w4 ⟨rfl, hw4⟩; replace hw4 := hw4.symm; subst hw4)
            all_goals
              go_roundw
              case rel => exact ⟨k + 1, ⟨8, ng, mt, fr, en, sg, vv, true⟩, by omega, rfl, rfl, rfl, rfl, rfl, rfl, rfl, by go_num, HM.out.next hlt rfl (by rw [← HZ.out]; exact HS.out) (by simp) HM.out.eb rfl rfl (fun e => absurd (HM.out.emp e).1 (by simp))⟩
              case measure => simp [intOf]; omega
        · have HD : Hid (isD c = true) := hd
          obtain ⟨hd1, hd2⟩ := isD_t hd
          have n45 : (c == 45) = false := by simp; omega
          have n46 : (c == 46) = false := by simp; omega
          have n101 : (c == 101) = false := by simp; omega
          have n69 : (c == 69) = false := by simp; omega
          have n43 : (c == 43) = false := by simp; omega
          clear hd
          have HS : Hid (stepM ⟨8, ng, mt, fr, en, sg, vv, false⟩ c = some ⟨8, ng, mt, fr, en, (expS (sg, vv) c).1, (expS (sg, vv) c).2, false⟩) := show stepM ⟨8, ng, mt, fr, en, sg, vv, false⟩ c = some ⟨8, ng, mt, fr, en, (expS (sg, vv) c).1, (expS (sg, vv) c).2, false⟩ by simp [stepM, HD.out]
          as_aux_lemma =>
            go_wp2_with (first | (go_at_call 17; refine (isDigit_is _ true _ HD.out).mono ?_; rintro e w4 ⟨rfl, hw4⟩; replace hw4 := hw4.symm; subst hw4) | (go_at_call 19; refine (expStep_any sg vv _ _ hd1 hd2 hb1 hb2 hb3 hb4).mono ?_; rintro e w5 ⟨rfl, hw5⟩; replace hw5 := hw5.symm; subst hw5))
            all_goals
              go_roundw
              case rel => exact ⟨k + 1, ⟨8, ng, mt, fr, en, (expS (sg, vv) c).1, (expS (sg, vv) c).2, false⟩, by omega, rfl, rfl, rfl, rfl, rfl, rfl, rfl, by go_num, HM.out.next hlt rfl (by rw [← HZ.out]; exact HS.out) (by simp) (HM.out.eb.step ⟨hd1, hd2⟩) rfl rfl (fun e => absurd (HM.out.emp e).1 (by simp))⟩
              case measure => simp [intOf]; omega
    · have hex : (k < T.length ∧ sp = true) ∨ (¬ k < T.length ∧ sp = true) ∨ (¬ k < T.length ∧ sp = false) := by
        cases sp
        · right; right; exact ⟨fun h => hgo ⟨h, rfl⟩, rfl⟩
        · by_cases h : k < T.length
          · exact Or.inl ⟨h, rfl⟩
          · exact Or.inr (Or.inl ⟨h, rfl⟩)
      clear hgo
      have hst8 : st ≤ 8 := HM.out.st
      rcases hex with ⟨hkl, rfl⟩ | ⟨hkl, rfl⟩ | ⟨hkl, rfl⟩
      · have HX : Hid (T.length ≤ k ∨ (St.mk st ng mt fr en sg vv true).stopped = true) := Or.inr rfl
        go_upto_region 81 with fail
        go_cut [157] (fun s157 wx => s157 = .bool (rejB st true) ∧ wx = wr)
        case first =>
          have HJ : Hid (rejB st true = false) := show rejB st true = false by unfold rejB; simp
          go_wp2
          go_meet
          case rel => exact ⟨by rw [HJ.out], rfl⟩
        case rest =>
          obtain ⟨rfl, rfl⟩ := hcut
          cases hrej : rejB st true
          · have HA : Hid (M s0 T = some (ng, mt, (if en then -magM sg vv else magM sg vv) - fr, false)) := show M s0 T = _ by rw [HM.out.fin HX.out, fin_acc hrej]; rfl
            obtain ⟨g8, cp8, hv8⟩ := own_slice HM.out.own (HM.out.pos hrej)
            subst hv8
            clear hrej
            by_cases h13 : 13 < sg
            · have HG : Hid (magM sg vv = 1099511627776) := show magM sg vv = 1099511627776 by unfold magM; rw [if_pos (Or.inl h13)]; rfl
              cases en
              · have HA2 : Hid (M s0 T = some (ng, mt, 1099511627776 - fr, false)) := show M s0 T = _ by rw [HA.out, HG.out]; rfl
                as_aux_lemma =>
                  go_wp2
                  exact bodyPost_ret (v := .tuple #[.bool ng, .slice (some ⟨g8, 0, none⟩) mt.length cp8, .int .i64 (1099511627776 - fr), .bool false]) (by simp [results, Try.results9, go_sem]) rfl ⟨MRes.some HA2.out HM.out.own, HM.out.bel⟩
              · have HA2 : Hid (M s0 T = some (ng, mt, -1099511627776 - fr, false)) := show M s0 T = _ by rw [HA.out, HG.out]; rfl
                as_aux_lemma =>
                  go_wp2
                  exact bodyPost_ret (v := .tuple #[.bool ng, .slice (some ⟨g8, 0, none⟩) mt.length cp8, .int .i64 (-1099511627776 - fr), .bool false]) (by simp [results, Try.results9, go_sem]) rfl ⟨MRes.some HA2.out HM.out.own, HM.out.bel⟩
            · by_cases hcp : 1099511627776 < vv
              · have HG : Hid (magM sg vv = 1099511627776) := show magM sg vv = 1099511627776 by unfold magM capE; rw [if_pos (Or.inr hcp)]
                cases en
                · have HA2 : Hid (M s0 T = some (ng, mt, 1099511627776 - fr, false)) := show M s0 T = _ by rw [HA.out, HG.out]; rfl
                  as_aux_lemma =>
                    go_wp2
                    exact bodyPost_ret (v := .tuple #[.bool ng, .slice (some ⟨g8, 0, none⟩) mt.length cp8, .int .i64 (1099511627776 - fr), .bool false]) (by simp [results, Try.results9, go_sem]) rfl ⟨MRes.some HA2.out HM.out.own, HM.out.bel⟩
                · have HA2 : Hid (M s0 T = some (ng, mt, -1099511627776 - fr, false)) := show M s0 T = _ by rw [HA.out, HG.out]; rfl
                  as_aux_lemma =>
                    go_wp2
                    exact bodyPost_ret (v := .tuple #[.bool ng, .slice (some ⟨g8, 0, none⟩) mt.length cp8, .int .i64 (-1099511627776 - fr), .bool false]) (by simp [results, Try.results9, go_sem]) rfl ⟨MRes.some HA2.out HM.out.own, HM.out.bel⟩
              · have HG : Hid (magM sg vv = vv) := show magM sg vv = vv by unfold magM; rw [if_neg (by unfold capE; omega)]
                cases en
                · have HA2 : Hid (M s0 T = some (ng, mt, vv - fr, false)) := show M s0 T = _ by rw [HA.out, HG.out]; rfl
                  as_aux_lemma =>
                    go_wp2
                    exact bodyPost_ret (v := .tuple #[.bool ng, .slice (some ⟨g8, 0, none⟩) mt.length cp8, .int .i64 (vv - fr), .bool false]) (by simp [results, Try.results9, go_sem]) rfl ⟨MRes.some HA2.out HM.out.own, HM.out.bel⟩
                · have HA2 : Hid (M s0 T = some (ng, mt, -vv - fr, false)) := show M s0 T = _ by rw [HA.out, HG.out]; rfl
                  as_aux_lemma =>
                    go_wp2
                    exact bodyPost_ret (v := .tuple #[.bool ng, .slice (some ⟨g8, 0, none⟩) mt.length cp8, .int .i64 (-vv - fr), .bool false]) (by simp [results, Try.results9, go_sem]) rfl ⟨MRes.some HA2.out HM.out.own, HM.out.bel⟩
          · have HN : Hid (M s0 T = none) := show M s0 T = none by rw [HM.out.fin HX.out, fin_rej hrej]
            clear hrej
            go_wp2
            exact bodyPost_ret (v := .tuple #[.bool false, .slice none 0 0, .int .i64 0, .bool false]) (by simp [results, Try.results9, go_sem]) rfl ⟨MRes.none HN.out, HM.out.bel⟩
      · have HX : Hid (T.length ≤ k ∨ (St.mk st ng mt fr en sg vv true).stopped = true) := Or.inr rfl
        go_upto_region 81 with fail
        go_cut [157] (fun s157 wx => s157 = .bool (rejB st true) ∧ wx = wr)
        case first =>
          have HJ : Hid (rejB st true = false) := show rejB st true = false by unfold rejB; simp
          go_wp2
          go_meet
          case rel => exact ⟨by rw [HJ.out], rfl⟩
        case rest =>
          obtain ⟨rfl, rfl⟩ := hcut
          cases hrej : rejB st true
          · have HA : Hid (M s0 T = some (ng, mt, (if en then -magM sg vv else magM sg vv) - fr, false)) := show M s0 T = _ by rw [HM.out.fin HX.out, fin_acc hrej]; rfl
            obtain ⟨g8, cp8, hv8⟩ := own_slice HM.out.own (HM.out.pos hrej)
            subst hv8
            clear hrej
            by_cases h13 : 13 < sg
            · have HG : Hid (magM sg vv = 1099511627776) := show magM sg vv = 1099511627776 by unfold magM; rw [if_pos (Or.inl h13)]; rfl
              cases en
              · have HA2 : Hid (M s0 T = some (ng, mt, 1099511627776 - fr, false)) := show M s0 T = _ by rw [HA.out, HG.out]; rfl
                as_aux_lemma =>
                  go_wp2
                  exact bodyPost_ret (v := .tuple #[.bool ng, .slice (some ⟨g8, 0, none⟩) mt.length cp8, .int .i64 (1099511627776 - fr), .bool false]) (by simp [results, Try.results9, go_sem]) rfl ⟨MRes.some HA2.out HM.out.own, HM.out.bel⟩
              · have HA2 : Hid (M s0 T = some (ng, mt, -1099511627776 - fr, false)) := show M s0 T = _ by rw [HA.out, HG.out]; rfl
                as_aux_lemma =>
                  go_wp2
                  exact bodyPost_ret (v := .tuple #[.bool ng, .slice (some ⟨g8, 0, none⟩) mt.length cp8, .int .i64 (-1099511627776 - fr), .bool false]) (by simp [results, Try.results9, go_sem]) rfl ⟨MRes.some HA2.out HM.out.own, HM.out.bel⟩
            · by_cases hcp : 1099511627776 < vv
              · have HG : Hid (magM sg vv = 1099511627776) := show magM sg vv = 1099511627776 by unfold magM capE; rw [if_pos (Or.inr hcp)]
                cases en
                · have HA2 : Hid (M s0 T = some (ng, mt, 1099511627776 - fr, false)) := show M s0 T = _ by rw [HA.out, HG.out]; rfl
                  as_aux_lemma =>
                    go_wp2
                    exact bodyPost_ret (v := .tuple #[.bool ng, .slice (some ⟨g8, 0, none⟩) mt.length cp8, .int .i64 (1099511627776 - fr), .bool false]) (by simp [results, Try.results9, go_sem]) rfl ⟨MRes.some HA2.out HM.out.own, HM.out.bel⟩
                · have HA2 : Hid (M s0 T = some (ng, mt, -1099511627776 - fr, false)) := show M s0 T = _ by rw [HA.out, HG.out]; rfl
                  as_aux_lemma =>
                    go_wp2
                    exact bodyPost_ret (v := .tuple #[.bool ng, .slice (some ⟨g8, 0, none⟩) mt.length cp8, .int .i64 (-1099511627776 - fr), .bool false]) (by simp [results, Try.results9, go_sem]) rfl ⟨MRes.some HA2.out HM.out.own, HM.out.bel⟩
              · have HG : Hid (magM sg vv = vv) := show magM sg vv = vv by unfold magM; rw [if_neg (by unfold capE; omega)]
                cases en
                · have HA2 : Hid (M s0 T = some (ng, mt, vv - fr, false)) := show M s0 T = _ by rw [HA.out, HG.out]; rfl
                  as_aux_lemma =>
                    go_wp2
                    exact bodyPost_ret (v := .tuple #[.bool ng, .slice (some ⟨g8, 0, none⟩) mt.length cp8, .int .i64 (vv - fr), .bool false]) (by simp [results, Try.results9, go_sem]) rfl ⟨MRes.some HA2.out HM.out.own, HM.out.bel⟩
                · have HA2 : Hid (M s0 T = some (ng, mt, -vv - fr, false)) := show M s0 T = _ by rw [HA.out, HG.out]; rfl
                  as_aux_lemma =>
                    go_wp2
                    exact bodyPost_ret (v := .tuple #[.bool ng, .slice (some ⟨g8, 0, none⟩) mt.length cp8, .int .i64 (-vv - fr), .bool false]) (by simp [results, Try.results9, go_sem]) rfl ⟨MRes.some HA2.out HM.out.own, HM.out.bel⟩
          · have HN : Hid (M s0 T = none) := show M s0 T = none by rw [HM.out.fin HX.out, fin_rej hrej]
            clear hrej
            go_wp2
            exact bodyPost_ret (v := .tuple #[.bool false, .slice none 0 0, .int .i64 0, .bool false]) (by simp [results, Try.results9, go_sem]) rfl ⟨MRes.none HN.out, HM.out.bel⟩
      · have HX : Hid (T.length ≤ k ∨ (St.mk st ng mt fr en sg vv false).stopped = true) := Or.inl (show T.length ≤ k by omega)
        go_upto_region 81 with fail
        go_cut [157] (fun s157 wx => s157 = .bool (rejB st false) ∧ wx = wr)
        case first =>
          have hst : st = 0 ∨ st = 1 ∨ st = 2 ∨ st = 3 ∨ st = 4 ∨ st = 5 ∨ st = 6 ∨ st = 7 ∨ st = 8 := by omega
          clear hst8
          rcases hst with rfl | rfl | rfl | rfl | rfl | rfl | rfl | rfl | rfl
          all_goals
            go_wp2
            go_meet
            case rel => exact ⟨rfl, rfl⟩
        case rest =>
          obtain ⟨rfl, rfl⟩ := hcut
          cases hrej : rejB st false
          · have HA : Hid (M s0 T = some (ng, mt, (if en then -magM sg vv else magM sg vv) - fr, true)) := show M s0 T = _ by rw [HM.out.fin HX.out, fin_acc hrej]; rfl
            obtain ⟨g8, cp8, hv8⟩ := own_slice HM.out.own (HM.out.pos hrej)
            subst hv8
            clear hrej
            by_cases h13 : 13 < sg
            · have HG : Hid (magM sg vv = 1099511627776) := show magM sg vv = 1099511627776 by unfold magM; rw [if_pos (Or.inl h13)]; rfl
              cases en
              · have HA2 : Hid (M s0 T = some (ng, mt, 1099511627776 - fr, true)) := show M s0 T = _ by rw [HA.out, HG.out]; rfl
                as_aux_lemma =>
                  go_wp2
                  exact bodyPost_ret (v := .tuple #[.bool ng, .slice (some ⟨g8, 0, none⟩) mt.length cp8, .int .i64 (1099511627776 - fr), .bool true]) (by simp [results, Try.results9, go_sem]) rfl ⟨MRes.some HA2.out HM.out.own, HM.out.bel⟩
              · have HA2 : Hid (M s0 T = some (ng, mt, -1099511627776 - fr, true)) := show M s0 T = _ by rw [HA.out, HG.out]; rfl
                as_aux_lemma =>
                  go_wp2
                  exact bodyPost_ret (v := .tuple #[.bool ng, .slice (some ⟨g8, 0, none⟩) mt.length cp8, .int .i64 (-1099511627776 - fr), .bool true]) (by simp [results, Try.results9, go_sem]) rfl ⟨MRes.some HA2.out HM.out.own, HM.out.bel⟩
            · by_cases hcp : 1099511627776 < vv
              · have HG : Hid (magM sg vv = 1099511627776) := show magM sg vv = 1099511627776 by unfold magM capE; rw [if_pos (Or.inr hcp)]
                cases en
                · have HA2 : Hid (M s0 T = some (ng, mt, 1099511627776 - fr, true)) := show M s0 T = _ by rw [HA.out, HG.out]; rfl
                  as_aux_lemma =>
                    go_wp2
                    exact bodyPost_ret (v := .tuple #[.bool ng, .slice (some ⟨g8, 0, none⟩) mt.length cp8, .int .i64 (1099511627776 - fr), .bool true]) (by simp [results, Try.results9, go_sem]) rfl ⟨MRes.some HA2.out HM.out.own, HM.out.bel⟩
                · have HA2 : Hid (M s0 T = some (ng, mt, -1099511627776 - fr, true)) := show M s0 T = _ by rw [HA.out, HG.out]; rfl
                  as_aux_lemma =>
                    go_wp2
                    exact bodyPost_ret (v := .tuple #[.bool ng, .slice (some ⟨g8, 0, none⟩) mt.length cp8, .int .i64 (-1099511627776 - fr), .bool true]) (by simp [results, Try.results9, go_sem]) rfl ⟨MRes.some HA2.out HM.out.own, HM.out.bel⟩
              · have HG : Hid (magM sg vv = vv) := show magM sg vv = vv by unfold magM; rw [if_neg (by unfold capE; omega)]
                cases en
                · have HA2 : Hid (M s0 T = some (ng, mt, vv - fr, true)) := show M s0 T = _ by rw [HA.out, HG.out]; rfl
                  as_aux_lemma =>
                    go_wp2
                    exact bodyPost_ret (v := .tuple #[.bool ng, .slice (some ⟨g8, 0, none⟩) mt.length cp8, .int .i64 (vv - fr), .bool true]) (by simp [results, Try.results9, go_sem]) rfl ⟨MRes.some HA2.out HM.out.own, HM.out.bel⟩
                · have HA2 : Hid (M s0 T = some (ng, mt, -vv - fr, true)) := show M s0 T = _ by rw [HA.out, HG.out]; rfl
                  as_aux_lemma =>
                    go_wp2
                    exact bodyPost_ret (v := .tuple #[.bool ng, .slice (some ⟨g8, 0, none⟩) mt.length cp8, .int .i64 (-vv - fr), .bool true]) (by simp [results, Try.results9, go_sem]) rfl ⟨MRes.some HA2.out HM.out.own, HM.out.bel⟩
          · have HN : Hid (M s0 T = none) := show M s0 T = none by rw [HM.out.fin HX.out, fin_rej hrej]
            clear hrej
            go_wp2
            exact bodyPost_ret (v := .tuple #[.bool false, .slice none 0 0, .int .i64 0, .bool false]) (by simp [results, Try.results9, go_sem]) rfl ⟨MRes.none HN.out, HM.out.bel⟩
end Go.Proofs.Qxb6604182a
