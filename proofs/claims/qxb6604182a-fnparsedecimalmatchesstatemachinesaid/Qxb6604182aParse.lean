/-
  The walk of parseDecimal.
-/
import Derived.Test.Qxb6604182aPlainB
import Derived.Test.Qxb6604182aWalkB
import Derived.Deep.RegionWith
import Derived.Lib.MinMax
import Derived.Deep.Cut
import Derived.Deep.DeepCutAuto
namespace Go.Proofs.Qxb6604182a
open Go.RowKit

/-- The text lies in block b. -/
def Text (w : World) (b : Nat) (T : List Int) : Prop := w.rowIs b 5 T.length (fun i => .int .u8 (zT T i))

theorem Text.later {w wx : World} {b : Nat} {T : List Int} (h : Text w b T) (hb : Below w.heap.size w wx) : Text wx b T := World.rowIs.of_block h (hb.block b (World.rowIs.lt h))
theorem Text.row {w : World} {b : Nat} {T : List Int} (h : Text w b T) (s o : Nat) (ho : s < T.length → o = s) : Row w b o (T.length - s) (fun i => zT T (s + i)) := fun i hi => by
  rw [ho (by omega)]
  exact World.rowIs.cell h (by omega)

theorem leading_list (b o s cap : Nat) (T : List Int) (w : World) (hT : T.length ≤ 1048576) (hcap : T.length - s ≤ cap) (ho : s < T.length → o = s) (hr : Text w b T) :
    Calls Try.prog 21 #[.slice (some ⟨b, o, none⟩) (T.length - s) cap] w fun e w' => ∃ o', (s + run T s < T.length → o' = s + run T s) ∧
      e = .returned (.tuple #[.slice (some ⟨b, o, none⟩) (run T s) cap, .slice (some ⟨b, o', none⟩) (T.length - s - run T s) (cap - run T s)]) ∧ ∃ q, w' = w.drewN q := by
  refine (leading_any b o (T.length - s) cap (fun i => zT T (s + i)) w (by omega) hcap (hr.row s o ho)).mono ?_
  rintro e w' ⟨n, o', h1, h2, h3, h4, rfl, q, rfl⟩
  have hn := run_of T s n h1 h2 h3
  subst hn
  refine ⟨o', fun h => ?_, rfl, q, rfl⟩
  rw [h4 (by omega), ho (by omega)]

theorem leading_len (b o s L cap : Nat) (T : List Int) (w : World) (hT : T.length ≤ 1048576) (hL : L = T.length - s) (hcap : L ≤ cap) (ho : s < T.length → o = s) (hr : Text w b T) :
    Calls Try.prog 21 #[.slice (some ⟨b, o, none⟩) L cap] w fun e w' => ∃ o', (s + run T s < T.length → o' = s + run T s) ∧
      e = .returned (.tuple #[.slice (some ⟨b, o, none⟩) (run T s) cap, .slice (some ⟨b, o', none⟩) (L - run T s) (cap - run T s)]) ∧ ∃ q, w' = w.drewN q := by
  subst hL
  exact leading_list b o s cap T w hT hcap ho hr

def cells3 (a b c : Value) : Nat → Value := fun i => if i = 0 then a else if i = 1 then b else c

/-- THE CALL's OWN MEMORY: its result's cell, and 'num'. -/
structure PS (w wx : World) (neg : Bool) (v : Value) (ex : Int) : Prop where
  below : Below w.heap.size w wx
  res : wx.rowIs w.heap.size 35 3 (cells3 (.bool false) (.slice none 0 0) (.int .i64 0))
  num : wx.rowIs (w.heap.size + 1) 35 3 (cells3 (.bool neg) v (.int .i64 ex))
theorem PS.c0 {w wx : World} {neg : Bool} {v : Value} {ex : Int} (h : PS w wx neg v ex) : wx.cell? ⟨w.heap.size + 1, 0, none⟩ = some (.bool neg) := h.num.cell (by omega)
theorem PS.c1 {w wx : World} {neg : Bool} {v : Value} {ex : Int} (h : PS w wx neg v ex) : wx.cell? ⟨w.heap.size + 1, 1, none⟩ = some v := h.num.cell (by omega)
theorem PS.c2 {w wx : World} {neg : Bool} {v : Value} {ex : Int} (h : PS w wx neg v ex) : wx.cell? ⟨w.heap.size + 1, 2, none⟩ = some (.int .i64 ex) := h.num.cell (by omega)
theorem PS.r0 {w wx : World} {neg : Bool} {v : Value} {ex : Int} (h : PS w wx neg v ex) : wx.cell? ⟨w.heap.size, 0, none⟩ = some (.bool false) := h.res.cell (by omega)
theorem PS.r1 {w wx : World} {neg : Bool} {v : Value} {ex : Int} (h : PS w wx neg v ex) : wx.cell? ⟨w.heap.size, 1, none⟩ = some (.slice none 0 0) := h.res.cell (by omega)
theorem PS.r2 {w wx : World} {neg : Bool} {v : Value} {ex : Int} (h : PS w wx neg v ex) : wx.cell? ⟨w.heap.size, 2, none⟩ = some (.int .i64 0) := h.res.cell (by omega)
theorem PS.drewN {w wx : World} {neg : Bool} {v : Value} {ex : Int} (h : PS w wx neg v ex) (n : Nat) : PS w (wx.drewN n) neg v ex := ⟨below_drewN h.below n, h.res, h.num⟩
theorem PS.set0 {w wx : World} {neg : Bool} {v : Value} {ex : Int} (h : PS w wx neg v ex) (b : Bool) : PS w (wx.setCell ⟨w.heap.size + 1, 0, none⟩ (.bool b)) b v ex :=
  ⟨h.below.setCell (by simp) _, h.res.setOther (by simp) _, (h.num.set 0 _).congr fun i hi => by unfold cells3; split <;> simp_all⟩
theorem PS.set1 {w wx : World} {neg : Bool} {v : Value} {ex : Int} (h : PS w wx neg v ex) (v' : Value) : PS w (wx.setCell ⟨w.heap.size + 1, 1, none⟩ v') neg v' ex :=
  ⟨h.below.setCell (by simp) _, h.res.setOther (by simp) _, (h.num.set 1 _).congr fun i hi => by unfold cells3; by_cases h1 : i = 1 <;> simp_all⟩
theorem PS.set2 {w wx : World} {neg : Bool} {v : Value} {ex : Int} (h : PS w wx neg v ex) (n : Int) : PS w (wx.setCell ⟨w.heap.size + 1, 2, none⟩ (.int .i64 n)) neg v n :=
  ⟨h.below.setCell (by simp) _, h.res.setOther (by simp) _, (h.num.set 2 _).congr fun i hi => by
    unfold cells3
    by_cases h2 : i = 2
    · subst h2; simp
    · have : i = 0 ∨ i = 1 := by omega
      rcases this with rfl | rfl <;> simp⟩

theorem PS.start (w : World) : PS w ((w.alloc (.cells #[.bool false, .slice none 0 0, .int .i64 0] 35)).alloc (.cells #[.bool false, .slice none 0 0, .int .i64 0] 35)) false (.slice none 0 0) 0 := by
  have key : ∀ i, i < 3 → (#[.bool false, .slice none 0 0, .int .i64 0] : Array Value)[i]? = some (cells3 (.bool false) (.slice none 0 0) (.int .i64 0) i) := fun i hi => by
    match i, hi with
    | 0, _ => rfl
    | 1, _ => rfl
    | 2, _ => rfl
  refine ⟨((Below.refl _ _).alloc (Nat.le_refl _) _).alloc (by simp) _, (World.rowIs_alloc w #[.bool false, .slice none 0 0, .int .i64 0] 35 _ key).alloc _, ?_⟩
  have := World.rowIs_alloc (w.alloc (.cells #[.bool false, .slice none 0 0, .int .i64 0] 35)) #[.bool false, .slice none 0 0, .int .i64 0] 35 _ key
  simpa using this

/-- What parseDecimal hands back. -/
def PRes (T : List Int) (e : Ending) (w' : World) : Prop :=
  match parseP T with
  | none => e = .returned (.tuple #[.agg #[.bool false, .slice none 0 0, .int .i64 0], .bool false])
  | some (neg, ds, ex, ok) => ∃ a cap, e = .returned (.tuple #[.agg #[.bool neg, .slice (some a) ds.length cap, .int .i64 ex], .bool ok]) ∧ ∀ i, i < ds.length → w'.cell? (a.add i) = some (.int .u8 (ds.getD i 0))

theorem PRes.none {T : List Int} {w' : World} (h : parseP T = none) : PRes T (.returned (.tuple #[.agg #[.bool false, .slice none 0 0, .int .i64 0], .bool false])) w' := by
  unfold PRes; rw [h]

/-- What 'num.digits' is: a slice of these bytes. -/
def Dig (wx : World) (v : Value) (ds : List Int) : Prop := ∃ a cap, v = .slice (some a) ds.length cap ∧ ∀ i, i < ds.length → wx.cell? (a.add i) = some (.int .u8 (ds.getD i 0))

theorem PS.grown {w wx w1 : World} {neg : Bool} {v : Value} {ex : Int} {row : Option Nat} (h : PS w wx neg v ex) (hg : wx.grownBy w1 row) (hr : ∀ k, row = some k → w.heap.size + 2 ≤ k) : PS w w1 neg v ex := by
  have hl := h.num.lt
  refine ⟨h.below.grown hg (by omega) (fun k hk => by have := hr k hk; omega), h.res.of_block (hg.block _ (by omega) ?_), h.num.of_block (hg.block _ hl ?_)⟩
  · intro e; have := hr _ e.symm; omega
  · intro e; have := hr _ e.symm; omega

theorem news_cells {W : World} {b o s : Nat} {T : List Int} (hr : Text W b T) (ho : o = s) : ∀ j u, ((digs T s).map (Value.int .u8))[j]? = some u → W.cell? ((⟨b, o, none⟩ : Addr).add j) = some u := by
  intro j u hu
  rw [Go.WideShapes.add_plain, ho]
  rw [List.getElem?_map] at hu
  obtain ⟨c, hc, rfl⟩ := Option.map_eq_some_iff.1 hu
  obtain ⟨hl, he⟩ := List.getElem?_eq_some_iff.1 hc
  rw [digs_len] at hl
  have h1 := run_le T s
  have := World.rowIs.cell hr (show s + j < T.length by omega)
  rw [this, ← digs_get T s j hl, List.getD_eq_getElem?_getD, hc]
  rfl

/-- The digits of the whole part, where they lie. -/
theorem Dig.whole {W : World} {b o s cap : Nat} {T : List Int} (hr : Text W b T) (ho : o = s) : Dig W (.slice (some ⟨b, o, none⟩) (run T s) cap) (digs T s) := by
  refine ⟨⟨b, o, none⟩, cap, by rw [digs_len], fun i hi => ?_⟩
  refine news_cells hr ho i _ ?_
  rw [List.getElem?_map, List.getElem?_eq_getElem hi, List.getD_eq_getElem?_getD, List.getElem?_eq_getElem hi]
  rfl
/-- The digits that were gathered. -/
theorem Dig.own {W : World} {base n : Nat} {v : Value} {ds : List Int} (h : W.ownsRow base 5 1 v n (ds.map (Value.int .u8))) (hn : n = ds.length) (h0 : ds ≠ []) : Dig W v ds := by
  have h' := h
  rcases h.2 with ⟨_, h1⟩ | ⟨g, cap, cur, rfl, _, hrest⟩
  · exfalso; apply h0; rw [h1] at hn; exact List.length_eq_zero_iff.1 hn.symm
  · refine ⟨⟨g, 0, none⟩, cap, by rw [hn], fun i hi => ?_⟩
    refine h'.cells (g := g) rfl i _ ?_
    rw [List.getElem?_map, List.getElem?_eq_getElem hi, List.getD_eq_getElem?_getD, List.getElem?_eq_getElem hi]
    rfl
theorem Dig.block {W : World} {base n : Nat} {v : Value} {xs : List Value} (h : W.ownsRow base 5 1 v n xs) {a : Addr} {l c : Nat} (hv : v = .slice (some a) l c) : base ≤ a.block := by
  subst hv
  exact (h.lt a.block rfl).1
theorem Dig.kept {W W' : World} {v : Value} {ds : List Int} (h : Dig W v ds) (hc : ∀ a l c, v = .slice (some a) l c → ∀ i, i < ds.length → W'.cell? (a.add i) = W.cell? (a.add i)) : Dig W' v ds := by
  obtain ⟨a, cap, rfl, hcell⟩ := h
  exact ⟨a, cap, rfl, fun i hi => by rw [hc a _ _ rfl i hi]; exact hcell i hi⟩

theorem own_form {W : World} {base e size n : Nat} {v : Value} {xs : List Value} (h : W.ownsRow base e size v n xs) (h0 : 0 < n) : ∃ g cap, v = .slice (some ⟨g, 0, none⟩) n cap ∧ base ≤ g := by
  rcases h.2 with ⟨_, h1⟩ | ⟨g, cap, cur, hv, hb, _⟩
  · omega
  · exact ⟨g, cap, hv, hb⟩

/-- 'e' or 'E' stands at place p. -/
def isE (T : List Int) (p : Nat) : Bool := at_ T p 101 || at_ T p 69

/-- The exponent's digits, the first k of them. -/
def expAt (T : List Int) (q k : Nat) : Int := expP ((digs T q).take k)
theorem expAt_zero (T : List Int) (q : Nat) : expAt T q 0 = 0 := rfl
theorem expAt_succ (T : List Int) (q k : Nat) (hk : k < run T q) : expAt T q (k + 1) = min (expAt T q k * 10 + (zT T (q + k) - 48)) 1099511627776 := by
  unfold expAt expP
  have hl : k < (digs T q).length := by rw [digs_len]; exact hk
  rw [List.take_succ_eq_append_getElem hl, List.foldl_append]
  have : (digs T q)[k] = zT T (q + k) := by rw [← digs_get T q k hk, List.getD_eq_getElem?_getD, List.getElem?_eq_getElem hl]; rfl
  rw [this]
  rfl
theorem expAt_full (T : List Int) (q : Nat) : expAt T q (run T q) = expP (digs T q) := by
  unfold expAt
  rw [List.take_of_length_le (by rw [digs_len]; exact Nat.le_refl _)]
theorem digs_isD (T : List Int) (q k : Nat) (hk : k < run T q) : 48 ≤ zT T (q + k) ∧ zT T (q + k) ≤ 57 := by
  refine isD_t (takeWhile_all (T.drop q) _ ?_)
  rw [takeW, ← digs_get T q k hk]
  have hl : k < (digs T q).length := by rw [digs_len]; exact hk
  rw [List.getD_eq_getElem?_getD, List.getElem?_eq_getElem hl]
  exact List.getElem_mem hl
theorem expAt_bd (T : List Int) (q : Nat) : ∀ k, k ≤ run T q → 0 ≤ expAt T q k ∧ expAt T q k ≤ 1099511627776
  | 0, _ => by rw [expAt_zero]; decide
  | k + 1, hk => by
    have h1 := expAt_bd T q k (by omega)
    have h2 := digs_isD T q k hk
    rw [expAt_succ T q k hk]
    omega

/-- A number read: what is handed back. -/
theorem PRes.some {T : List Int} {w' : World} {neg : Bool} {ds : List Int} {ex : Int} {ok : Bool} {v : Value} (h : parseP T = .some (neg, ds, ex, ok)) (hd : Dig w' v ds) : PRes T (.returned (.tuple #[.agg #[.bool neg, v, .int .i64 ex], .bool ok])) w' := by
  obtain ⟨a, cap, rfl, hc⟩ := hd
  unfold PRes; rw [h]
  exact ⟨a, cap, rfl, hc⟩

/-- The result's cells written: what is handed back, and what stays. -/
theorem finish {w wx : World} {neg : Bool} {ex : Int} {a : Addr} {l c : Nat} {ds : List Int} (P : PS w wx neg (.slice (some a) l c) ex) (hd : Dig wx (.slice (some a) l c) ds) (hne : a.block ≠ w.heap.size) (ex' : Int) :
    Below w.heap.size w (((wx.setCell ⟨w.heap.size, 0, none⟩ (.bool neg)).setCell ⟨w.heap.size, 1, none⟩ (.slice (some a) l c)).setCell ⟨w.heap.size, 2, none⟩ (.int .i64 ex')) ∧
    Dig (((wx.setCell ⟨w.heap.size, 0, none⟩ (.bool neg)).setCell ⟨w.heap.size, 1, none⟩ (.slice (some a) l c)).setCell ⟨w.heap.size, 2, none⟩ (.int .i64 ex')) (.slice (some a) l c) ds := by
  refine ⟨((P.below.setCell (by simp) _).setCell (by simp) _).setCell (by simp) _, hd.kept fun a' l' c' he i hi => ?_⟩
  cases he
  have hb : (a.add i).block = a.block := by unfold Addr.add; split <;> rfl
  have key : ∀ (o : Nat), (⟨w.heap.size, o, none⟩ : Addr) ≠ a.add i := fun o h => by
    have := congrArg Addr.block h
    rw [hb] at this
    exact hne this.symm
  rw [World.cell?_setCell_other (h := key 2), World.cell?_setCell_other (h := key 1), World.cell?_setCell_other (h := key 0)]

theorem finish2 {w wx : World} {neg : Bool} {ex : Int} {a : Addr} {l c : Nat} {ds : List Int} (P : PS w wx neg (.slice (some a) l c) ex) (hd : Dig wx (.slice (some a) l c) ds) (hne : a.block ≠ w.heap.size) (hne2 : a.block ≠ w.heap.size + 1) (x : Int) :
    Below w.heap.size w ((((wx.setCell ⟨w.heap.size + 1, 2, none⟩ (.int .i64 x)).setCell ⟨w.heap.size, 0, none⟩ (.bool neg)).setCell ⟨w.heap.size, 1, none⟩ (.slice (some a) l c)).setCell ⟨w.heap.size, 2, none⟩ (.int .i64 x)) ∧
    Dig ((((wx.setCell ⟨w.heap.size + 1, 2, none⟩ (.int .i64 x)).setCell ⟨w.heap.size, 0, none⟩ (.bool neg)).setCell ⟨w.heap.size, 1, none⟩ (.slice (some a) l c)).setCell ⟨w.heap.size, 2, none⟩ (.int .i64 x)) (.slice (some a) l c) ds := by
  refine finish (P.set2 x) (hd.kept fun a' l' c' he i hi => ?_) hne x
  cases he
  have hb : (a.add i).block = a.block := by unfold Addr.add; split <;> rfl
  have key : (⟨w.heap.size + 1, 2, none⟩ : Addr) ≠ a.add i := fun h => by
    have := congrArg Addr.block h
    rw [hb] at this
    exact hne2 this.symm
  rw [World.cell?_setCell_other (h := key)]

/-- Where the walk stands behind the fraction. -/
def Mid (w : World) (b : Nat) (T : List Int) (v0 : Value) (wx : World) : Prop :=
  ∃ (p3 o3 : Nat) (ds : List Int) (ex : Int) (v : Value), parseP T = tailP (at_ T 0 45) ds ex (T.drop p3) ∧ p3 ≤ T.length ∧ (p3 < T.length → o3 = p3) ∧
    v0 = .slice (some ⟨b, o3, none⟩) (T.length - p3) (T.length - p3) ∧ PS w wx (at_ T 0 45) v ex ∧ Dig wx v ds ∧ -1048576 ≤ ex ∧ ex ≤ 0 ∧ (∀ a l c, v = .slice (some a) l c → a.block ≠ w.heap.size ∧ a.block ≠ w.heap.size + 1)

set_option maxRecDepth 100000 in
set_option maxHeartbeats 8000000 in
theorem parse_any (b : Nat) (T : List Int) (w : World) (hT : T.length ≤ 1048576) (hr : Text w b T) :
    Calls Try.prog 18 #[.slice (some ⟨b, 0, none⟩) T.length T.length] w fun e w' => PRes T e w' ∧ Below w.heap.size w w' := by
  have P0 := PS.start w
  have HR : Hid (Text w b T) := hr
  clear hr
  go_enter Try.func18, Try.ntmps18
  go_upto_region 2 with fail
  go_cut [20] (fun s20 wx => s20 = .bool (at_ T 0 45) ∧ PS w wx false (.slice none 0 0) 0)
  case first =>
    as_aux_lemma =>
      have HP : Hid _ := P0
      clear P0
      by_cases hl : 0 < T.length
      · have hc := World.rowIs.cell (HR.out.later HP.out.below) hl
        cases h : at_ T 0 45
        · have h3 : (zT T 0 == 45) = false := by simpa using at_f h hl
          have H : Hid (at_ T 0 45 = false) := h
          clear h
          go_wp2
          go_meet
          case rel => exact ⟨by rw [H.out], HP.out⟩
        · have h2 := (at_t h).2
          have H : Hid (at_ T 0 45 = true) := h
          clear h
          go_wp2
          go_meet
          case rel => exact ⟨by rw [H.out], HP.out⟩
      · have h : Hid (at_ T 0 45 = false) := by
          cases h : at_ T 0 45
          · rfl
          · exact absurd (at_t h).1 hl
        go_wp2
        go_meet
        case rel => exact ⟨by rw [h.out], HP.out⟩
  case rest =>
    obtain ⟨rfl, P1⟩ := hcut
    clear P0
    go_upto_if 20 with fail
    go_cut [0] (fun v wx => ∃ o, (sgn T < T.length → o = sgn T) ∧ v = .slice (some ⟨b, o, none⟩) (T.length - sgn T) (T.length - sgn T) ∧ PS w wx (at_ T 0 45) (.slice none 0 0) 0)
    case first =>
      as_aux_lemma =>
        cases h : at_ T 0 45
        · have e : Hid (sgn T = 0) := by unfold sgn; rw [h]; rfl
          have H : Hid (at_ T 0 45 = false) := h
          have HP : Hid (PS w wc false (.slice none 0 0) 0) := P1
          clear P1 h
          go_wp2
          go_meet
          case rel => rw [e.out, H.out]; exact ⟨0, fun _ => rfl, rfl, HP.out⟩
        · have e : Hid (sgn T = 1) := by unfold sgn; rw [h]; rfl
          have H : Hid (at_ T 0 45 = true) := h
          have hl := (at_t h).1
          have hc0 := P1.c0
          have hf0 := P1.num.frozen 0
          have HP : Hid (PS w wc false (.slice none 0 0) 0) := P1
          clear P1 h
          by_cases h1 : T.length = 1
          · have HL : Hid (T.length = 1) := h1
            go_wp2
            go_meet
            case rel => rw [e.out, H.out, HL.out]; exact ⟨0, fun h => absurd h (by omega), rfl, HP.out.set0 true⟩
          · have h1' : 1 < T.length := by omega
            go_wp2
            go_meet
            case rel => rw [e.out, H.out]; exact ⟨1, fun _ => rfl, rfl, HP.out.set0 true⟩
    case rest =>
      obtain ⟨o1, ho1, rfl, P2⟩ := hcut
      clear P1
      have hs := sgn_le T
      generalize hsg : sgn T = sN at *
      have HSG : Hid (sgn T = sN) := hsg
      clear hsg
      have HO1 : Hid (sN < T.length → o1 = sN) := ho1
      clear ho1
      have HP2 : Hid (PS w wc (at_ T 0 45) (.slice none 0 0) 0) := P2
      clear P2
      go_upto_region 6 with (go_at_call 21; refine (leading_list b o1 sN _ T _ hT (Nat.le_refl _) HO1.out (HR.out.later HP2.out.below)).mono ?_; rintro e w2 ⟨o2, ho2, rfl, q2, rfl⟩; have HO2 : Hid (sN + run T sN < T.length → o2 = sN + run T sN) := ho2; clear ho2)
      go_cut [42] (fun s42 wx => s42 = .bool (rej1 T sN) ∧ PS w wx (at_ T 0 45) (.slice none 0 0) 0)
      case first =>
        as_aux_lemma =>
          have HP : Hid _ := HP2.out.drewN q2
          by_cases h0 : run T sN = 0
          · have HRJ : Hid (rej1 T sN = true) := rej1_0 h0
            go_wp2
            go_meet
            case rel => exact ⟨by rw [HRJ.out], HP.out⟩
          · have h0' : 0 < run T sN := by omega
            have hrl := run_le T sN
            have ho := HO1.out (by omega)
            have hc := World.rowIs.cell (HR.out.later HP.out.below) (show sN < T.length by omega)
            subst ho
            have h0i : ((run T o1 : Int) == 0) = false := by simpa using h0
            by_cases h1 : 1 < run T o1
            · cases h : at_ T o1 48
              · have h3 : (zT T o1 == 48) = false := by simpa using at_f h (by omega)
                have HRJ : Hid (rej1 T o1 = false) := rej1_f h0 (fun _ => h)
                clear h
                go_wp2
                go_meet
                case rel => exact ⟨by rw [HRJ.out], HP.out⟩
              · have h2 := (at_t h).2
                have HRJ : Hid (rej1 T o1 = true) := rej1_z h1 h
                clear h
                go_wp2
                go_meet
                case rel => exact ⟨by rw [HRJ.out], HP.out⟩
            · have HRJ : Hid (rej1 T o1 = false) := rej1_f h0 (fun h => absurd h h1)
              go_wp2
              go_meet
              case rel => exact ⟨by rw [HRJ.out], HP.out⟩
      case rest =>
        obtain ⟨rfl, P3⟩ := hcut
        clear HP2
        have HP3 : Hid (PS w wc (at_ T 0 45) (.slice none 0 0) 0) := P3
        go_upto_if 42 with fail
        cases hrej : rej1 T sN
        case true =>
          have k0 := P3.r0
          have k1 := P3.r1
          have k2 := P3.r2
          have f0 := P3.res.frozen 0
          have f1 := P3.res.frozen 1
          have f2 := P3.res.frozen 2
          clear P3
          have HN : Hid (parseP T = none) := show parseP T = none by rw [parse_eq, HSG.out, hrej]; rfl
          clear hrej
          go_wp2
          refine bodyPost_ret (v := .tuple #[.agg #[.bool false, .slice none 0 0, .int .i64 0], .bool false]) (by simp [results, Try.results18, go_sem, k0, k1, k2]) rfl ⟨PRes.none HN.out, ?_⟩
          exact ((HP3.out.below.setCell (by simp) _).setCell (by simp) _).setCell (by simp) _
        case false =>
          have k1 := P3.c1
          have f1 := P3.num.frozen 1
          clear P3
          have HJ : Hid (rej1 T sN = false) := hrej
          clear hrej
          go_upto_region 9 with fail
          have hrl := run_le T sN
          simp only [Nat.sub_sub]
          generalize hpp : sN + run T sN = pN at *
          have HPP : Hid (sN + run T sN = pN) := hpp
          have hpl : pN ≤ T.length := by omega
          clear hpp
          have HP4 : Hid (PS w (wc.setCell ⟨w.heap.size + 1, 1, none⟩ (.slice (some ⟨b, o1, none⟩) (run T sN) (T.length - sN))) (at_ T 0 45) (.slice (some ⟨b, o1, none⟩) (run T sN) (T.length - sN)) 0) := HP3.out.set1 _
          clear HP3 k1 f1
          go_cut [54] (fun s54 wx => s54 = .bool (at_ T pN 46) ∧ PS w wx (at_ T 0 45) (.slice (some ⟨b, o1, none⟩) (run T sN) (T.length - sN)) 0)
          case first =>
            as_aux_lemma =>
              by_cases hl : pN < T.length
              · have hc := World.rowIs.cell (HR.out.later HP4.out.below) hl
                have ho := HO2.out hl
                subst ho
                cases h : at_ T o2 46
                · have h3 : (zT T o2 == 46) = false := by simpa using at_f h hl
                  have H : Hid (at_ T o2 46 = false) := h
                  clear h
                  go_wp2
                  go_meet
                  case rel => exact ⟨by rw [H.out], HP4.out⟩
                · have h2 := (at_t h).2
                  have H : Hid (at_ T o2 46 = true) := h
                  clear h
                  go_wp2
                  go_meet
                  case rel => exact ⟨by rw [H.out], HP4.out⟩
              · have h : Hid (at_ T pN 46 = false) := by
                  cases h : at_ T pN 46
                  · rfl
                  · exact absurd (at_t h).1 hl
                have hz : T.length - pN = 0 := by omega
                go_wp2
                go_meet
                case rel => exact ⟨by rw [h.out], HP4.out⟩
          case rest =>
            obtain ⟨rfl, P5⟩ := hcut
            clear HP4
            have HP5 : Hid (PS w wc (at_ T 0 45) (.slice (some ⟨b, o1, none⟩) (run T sN) (T.length - sN)) 0) := P5
            have hb := World.rowIs.lt HR.out
            have hrn : 0 < run T sN := by
              refine Nat.pos_of_ne_zero fun h0 => ?_
              have := (rej1_0 h0).out
              rw [HJ.out] at this
              cases this
            have HO1' : Hid (o1 = sN) := HO1.out (by omega)
            have HPE : Hid (parseP T = fracP (at_ T 0 45) (digs T sN) (T.drop pN)) := show parseP T = _ by rw [parse_eq, HSG.out, HJ.out, HPP.out]; rfl
            go_upto_if 54 with fail
            go_cut [0] (fun v0 wx => Mid w b T v0 wx)
            case first =>
              as_aux_lemma =>
                cases hdot : at_ T pN 46
                · have HPE2 : Hid (parseP T = tailP (at_ T 0 45) (digs T sN) 0 (T.drop pN)) := show parseP T = _ by rw [HPE.out, frac_eq, hdot]; rfl
                  clear P5 hdot
                  go_wp2
                  go_meet
                  case rel =>
                    refine ⟨pN, o2, _, 0, _, HPE2.out, hpl, HO2.out, rfl, HP5.out, Dig.whole (HR.out.later HP5.out.below) HO1'.out, by decide, by decide, fun a l c he => ?_⟩
                    cases he
                    constructor <;> simp <;> omega
                · obtain ⟨hpl2, _⟩ := at_t hdot
                  have ho2 := HO2.out hpl2
                  subst ho2
                  have HFE : Hid (fracP (at_ T 0 45) (digs T sN) (T.drop o2) = if run T (o2 + 1) = 0 then none else tailP (at_ T 0 45) (digs T sN ++ digs T (o2 + 1)) (-(run T (o2 + 1) : Int)) (T.drop (o2 + 1 + run T (o2 + 1)))) := show fracP _ _ _ = _ by rw [frac_eq, hdot]; rfl
                  clear hdot
                  have k0 := P5.r0
                  have k1 := P5.r1
                  have k2 := P5.r2
                  have f0 := P5.res.frozen 0
                  have f1 := P5.res.frozen 1
                  have f2 := P5.res.frozen 2
                  have hr2 := run_le T (o2 + 1)
                  by_cases h0 : run T (o2 + 1) = 0
                  · have HN : Hid (parseP T = none) := show parseP T = none by rw [HPE.out, HFE.out, if_pos h0]
                    by_cases h1 : T.length - o2 = 1
                    · have HL : Hid (T.length = o2 + 1) := show T.length = o2 + 1 by omega
                      go_wp2_with (go_at_call 21; refine (leading_len b o2 (o2 + 1) _ _ T _ hT (by rw [HL.out]; omega) (Nat.le_refl _) (fun h => absurd h (by rw [HL.out]; omega)) (HR.out.later HP5.out.below)).mono ?_; rintro e w4 ⟨o4, ho4, rfl, q4, rfl⟩; clear ho4)
                      refine bodyPost_ret (v := .tuple #[.agg #[.bool false, .slice none 0 0, .int .i64 0], .bool false]) (by simp [results, Try.results18, go_sem, k0, k1, k2]) rfl ⟨PRes.none HN.out, ?_⟩
                      exact below_drewN (((HP5.out.below.setCell (by simp) _).setCell (by simp) _).setCell (by simp) _) _
                    · have h1' : 1 < T.length - o2 := by omega
                      go_wp2_with (go_at_call 21; refine (leading_len b (o2 + 1) (o2 + 1) _ _ T _ hT (by omega) (Nat.le_refl _) (fun _ => rfl) (HR.out.later HP5.out.below)).mono ?_; rintro e w4 ⟨o4, ho4, rfl, q4, rfl⟩; clear ho4)
                      refine bodyPost_ret (v := .tuple #[.agg #[.bool false, .slice none 0 0, .int .i64 0], .bool false]) (by simp [results, Try.results18, go_sem, k0, k1, k2]) rfl ⟨PRes.none HN.out, ?_⟩
                      exact below_drewN (((HP5.out.below.setCell (by simp) _).setCell (by simp) _).setCell (by simp) _) _
                  · have h1' : 1 < T.length - o2 := by omega
                    have h0i : ((run T (o2 + 1) : Int) == 0) = false := by simpa using h0
                    obtain ⟨i0, hi, hz0, hz1, hz2⟩ := info_parts Try.info5
                    have hml : run T sN + run T (o2 + 1) ≤ maxLen := by unfold maxLen; omega
                    clear P5 k0 k1 k2 f0 f1 f2
                    go_wp2_with (first
                      | (go_at_call 21; refine (leading_len b (o2 + 1) (o2 + 1) _ _ T _ hT (by omega) (Nat.le_refl _) (fun _ => rfl) (HR.out.later HP5.out.below)).mono ?_; rintro e w4 ⟨o4, ho4, rfl, q4, rfl⟩; have HO4 : Hid (o2 + 1 + run T (o2 + 1) < T.length → o4 = o2 + 1 + run T (o2 + 1)) := ho4; clear ho4)
                      | (at_builtin; refine wpList_append_own _ rfl (.const (.slice none 0 0)) (.tmp 65) 22 rfl (w.heap.size + 2) 5 i0 (.int .u8 0) 1 1 Try.underlying22 hi hz0 hz1 hz2 rfl (by decide) (.slice none 0 0) 0 [] rfl (World.ownsRow_nil _ _ _ _) ⟨b, o1, none⟩ (run T sN) (T.length - sN) ((digs T sN).map (Value.int .u8)) rfl (by rw [List.length_map, digs_len, Nat.mul_one]) (news_cells (HR.out.later (below_drewN HP5.out.below _)) HO1'.out) (ints_oneCell _ _) (by omega) (by omega) (by have := HP5.out.num.lt; simp; omega) ?_; intro v5 w5 hown5 hg5 hn5; have HP6 : Hid (PS w w5 _ _ _) := (HP5.out.drewN q4).grown hg5 (fun k hk => by cases hk); have HW5 : Hid _ := hown5; clear hg5 hn5)
                      | (at_builtin; refine wpList_append_own _ rfl (.tmp 66) (.tmp 67) 22 rfl (w.heap.size + 2) 5 i0 (.int .u8 0) 1 1 Try.underlying22 hi hz0 hz1 hz2 rfl (by decide) v5 _ _ rfl hown5 ⟨b, o2 + 1, none⟩ (run T (o2 + 1)) _ ((digs T (o2 + 1)).map (Value.int .u8)) rfl (by rw [List.length_map, digs_len, Nat.mul_one]) (news_cells (HR.out.later HP6.out.below) rfl) (ints_oneCell _ _) (by omega) (by omega) (by have := HP6.out.num.lt; omega) ?_; intro v6 w6 hown6 hg6 hn6; have HP7 : Hid (PS w w6 _ _ _) := HP6.out.grown hg6 (fun k hk => (hown5.lt k hk).1); have c1 := HP7.out.c1; have c2 := HP7.out.c2; have f1 := HP7.out.num.frozen 1; have f2 := HP7.out.num.frozen 2; obtain ⟨g6, cp6, hv6, hg6'⟩ := own_form hown6 (by omega); subst hv6; have HW6 : Hid _ := hown6; clear hg6 hn6 hown5 hown6))
                    go_meet
                    case rel =>
                      have hds : (digs T sN ++ digs T (o2 + 1)).length = run T sN + run T (o2 + 1) := by rw [List.length_append, digs_len, digs_len]
                      have hown := HW6.out
                      rw [List.nil_append, ← List.map_append, Nat.zero_add] at hown
                      have hdig := Dig.own hown hds.symm (by intro h; rw [h] at hds; simp at hds; omega)
                      refine ⟨o2 + 1 + run T (o2 + 1), o4, digs T sN ++ digs T (o2 + 1), -(run T (o2 + 1) : Int), _, ?_, by omega, HO4.out, ?_, (HP7.out.set1 _).set2 _, ?_, by omega, by omega, ?_⟩
                      · rw [HPE.out, HFE.out, if_neg h0]
                      · rw [show T.length - o2 - 1 - run T (o2 + 1) = T.length - (o2 + 1 + run T (o2 + 1)) by omega]
                      · refine hdig.kept fun a l c he i hi => ?_
                        cases he
                        rw [Go.WideShapes.add_plain, World.cell?_setCell_other (h := by simp <;> omega), World.cell?_setCell_other (h := by simp <;> omega)]
                      · intro a l c he
                        cases he
                        simp
                        omega
            case rest =>
              obtain ⟨p3, o3, ds, ex, v, hpe, hp3, ho3, rfl, P8, hdig, hx1, hx2, hblk⟩ := hcut
              clear P5 HP5 HPE HO1' HO1 HO2 HJ HPP HSG
              obtain ⟨a, cpd, hv, hcells⟩ := hdig
              subst hv
              obtain ⟨hb1, hb2⟩ := hblk a _ _ rfl
              have HDG : Hid (Dig wc (.slice (some a) ds.length cpd) ds) := ⟨a, cpd, rfl, hcells⟩
              have HP8 : Hid (PS w wc (at_ T 0 45) (.slice (some a) ds.length cpd) ex) := P8
              have HE : Hid (parseP T = tailP (at_ T 0 45) ds ex (T.drop p3)) := hpe
              have HO3 : Hid (p3 < T.length → o3 = p3) := ho3
              have HB1 : Hid (a.block ≠ w.heap.size) := hb1
              have HB2 : Hid (a.block ≠ w.heap.size + 1) := hb2
              clear hcells hpe ho3 hblk hb1 hb2 P8 hrl hpl hrn hs
              go_upto_region 16 with fail
              go_cut [88] (fun s88 wx => s88 = .bool (isE T p3) ∧ PS w wx (at_ T 0 45) (.slice (some a) ds.length cpd) ex ∧ Dig wx (.slice (some a) ds.length cpd) ds)
              case first =>
                as_aux_lemma =>
                  by_cases hl : p3 < T.length
                  · have hc := World.rowIs.cell (HR.out.later HP8.out.below) hl
                    have ho := HO3.out hl
                    subst ho
                    cases h : at_ T o3 101
                    · have h3 : (zT T o3 == 101) = false := by simpa using at_f h hl
                      cases h' : at_ T o3 69
                      · have h4 : (zT T o3 == 69) = false := by simpa using at_f h' hl
                        have H : Hid (isE T o3 = false) := show isE T o3 = false by unfold isE; rw [h, h']; rfl
                        clear h h'
                        go_wp2
                        go_meet
                        case rel => exact ⟨by rw [H.out], HP8.out, HDG.out⟩
                      · have h4 := (at_t h').2
                        have H : Hid (isE T o3 = true) := show isE T o3 = true by unfold isE; rw [h, h']; rfl
                        clear h h'
                        go_wp2
                        go_meet
                        case rel => exact ⟨by rw [H.out], HP8.out, HDG.out⟩
                    · have h4 := (at_t h).2
                      have H : Hid (isE T o3 = true) := show isE T o3 = true by unfold isE; rw [h]; rfl
                      clear h
                      go_wp2
                      go_meet
                      case rel => exact ⟨by rw [H.out], HP8.out, HDG.out⟩
                  · have hno : ∀ c, at_ T p3 c = false := fun c => by
                      cases h : at_ T p3 c
                      · rfl
                      · exact absurd (at_t h).1 hl
                    have h : Hid (isE T p3 = false) := show isE T p3 = false by unfold isE; rw [hno, hno]; rfl
                    have hz : T.length - p3 = 0 := by omega
                    clear hno
                    go_wp2
                    go_meet
                    case rel => exact ⟨by rw [h.out], HP8.out, HDG.out⟩
              case rest =>
                obtain ⟨rfl, P9, hdig⟩ := hcut
                clear HP8 HDG
                have HP9 : Hid _ := P9
                have HDG : Hid _ := hdig
                clear hdig
                go_upto_if 88 with fail
                cases hE : isE T p3
                case false =>
                  have k0 := P9.r0
                  have k1 := P9.r1
                  have k2 := P9.r2
                  have f0 := P9.res.frozen 0
                  have f1 := P9.res.frozen 1
                  have f2 := P9.res.frozen 2
                  have c0 := P9.c0
                  have c1 := P9.c1
                  have c2 := P9.c2
                  have F := finish HP9.out HDG.out HB1.out ex
                  have HF : Hid _ := F
                  clear F
                  by_cases hl : p3 < T.length
                  · have HS : Hid (parseP T = some (at_ T 0 45, ds, ex, false)) := show parseP T = _ by rw [HE.out, tail_other _ _ _ _ _ hl hE]
                    have h0i : (((T.length - p3 : Nat) : Int) == 0) = false := by
                      have : ¬ T.length - p3 = 0 := by omega
                      simpa using this
                    clear P9 hE
                    go_wp2
                    exact bodyPost_ret (v := .tuple #[.agg #[.bool (at_ T 0 45), .slice (some a) ds.length cpd, .int .i64 ex], .bool false]) (by simp [results, Try.results18, go_sem, k0, k1, k2]) rfl ⟨PRes.some HS.out HF.out.2, HF.out.1⟩
                  · have HS : Hid (parseP T = some (at_ T 0 45, ds, ex, true)) := show parseP T = _ by rw [HE.out, tail_end _ _ _ _ _ (by omega)]
                    have hz : T.length - p3 = 0 := by omega
                    clear P9 hE
                    go_wp2
                    exact bodyPost_ret (v := .tuple #[.agg #[.bool (at_ T 0 45), .slice (some a) ds.length cpd, .int .i64 ex], .bool true]) (by simp [results, Try.results18, go_sem, k0, k1, k2]) rfl ⟨PRes.some HS.out HF.out.2, HF.out.1⟩
                case true =>
                  have hl : p3 < T.length := by
                    unfold isE at hE
                    rw [Bool.or_eq_true] at hE
                    rcases hE with h | h <;> exact (at_t h).1
                  have HX : Hid _ := tail_exp (at_ T 0 45) ds T ex p3 hE
                  clear hE P9
                  have ho := HO3.out hl
                  subst ho
                  clear HO3
                  go_upto_region 17 with fail
                  go_cut [0] (fun v0 wx => ∃ o', (o3 + 1 < T.length → o' = o3 + 1) ∧ v0 = .slice (some ⟨b, o', none⟩) (T.length - (o3 + 1)) (T.length - (o3 + 1)) ∧ wx = wc)
                  case first =>
                    as_aux_lemma =>
                      by_cases h1 : T.length - o3 = 1
                      · have HL : Hid (T.length = o3 + 1) := show T.length = o3 + 1 by omega
                        go_wp2
                        go_meet
                        case rel => exact ⟨o3, fun h => absurd h (by rw [HL.out]; omega), by rw [HL.out]; simp, rfl⟩
                      · have h1' : 1 < T.length - o3 := by omega
                        go_wp2
                        go_meet
                        case rel => exact ⟨o3 + 1, fun _ => rfl, by rw [Nat.sub_sub], rfl⟩
                  case rest =>
                    obtain ⟨o4, ho4, rfl, rfl⟩ := hcut
                    have HO4 : Hid (o3 + 1 < T.length → o4 = o3 + 1) := ho4
                    clear ho4
                    go_upto_region 18 with fail
                    go_cut [7] (fun s7 wx => s7 = .bool (at_ T (o3 + 1) 45) ∧ wx = wc)
                    case first =>
                      as_aux_lemma =>
                        by_cases hl1 : o3 + 1 < T.length
                        · have hc := World.rowIs.cell (HR.out.later HP9.out.below) hl1
                          have ho := HO4.out hl1
                          rw [← ho] at hc
                          have HH : Hid (o4 = o3 + 1) := ho
                          cases h : at_ T (o3 + 1) 45
                          · have h3 : (zT T o4 == 45) = false := by rw [ho]; simpa using at_f h hl1
                            have H : Hid (at_ T (o3 + 1) 45 = false) := h
                            clear h ho
                            go_wp2
                            go_meet
                            case rel => exact ⟨by rw [H.out], rfl⟩
                          · have h2 : zT T o4 = 45 := by rw [ho]; exact (at_t h).2
                            have H : Hid (at_ T (o3 + 1) 45 = true) := h
                            clear h ho
                            go_wp2
                            go_meet
                            case rel => exact ⟨by rw [H.out], rfl⟩
                        · have h : Hid (at_ T (o3 + 1) 45 = false) := by
                            cases h : at_ T (o3 + 1) 45
                            · rfl
                            · exact absurd (at_t h).1 hl1
                          have hz : T.length - (o3 + 1) = 0 := by omega
                          go_wp2
                          go_meet
                          case rel => exact ⟨by rw [h.out], rfl⟩
                    case rest =>
                      obtain ⟨rfl, rfl⟩ := hcut
                      go_upto_region 19 with fail
                      go_cut [114] (fun s114 wx => s114 = .bool (at_ T (o3 + 1) 45 || at_ T (o3 + 1) 43) ∧ wx = wc)
                      case first =>
                        as_aux_lemma =>
                          by_cases hl1 : o3 + 1 < T.length
                          · have hc := World.rowIs.cell (HR.out.later HP9.out.below) hl1
                            have ho := HO4.out hl1
                            rw [← ho] at hc
                            by_cases h : at_ T (o3 + 1) 45 = true
                            · have h2 : zT T o4 = 45 := by rw [ho]; exact (at_t h).2
                              have H : Hid ((at_ T (o3 + 1) 45 || at_ T (o3 + 1) 43) = true) := show _ = true by rw [h]; rfl
                              clear h ho
                              go_wp2
                              go_meet
                              case rel => exact ⟨by rw [H.out], rfl⟩
                            · replace h := Bool.eq_false_iff.2 h
                              have h3 : (zT T o4 == 45) = false := by rw [ho]; simpa using at_f h hl1
                              by_cases h' : at_ T (o3 + 1) 43 = true
                              · have h2 : zT T o4 = 43 := by rw [ho]; exact (at_t h').2
                                have H : Hid ((at_ T (o3 + 1) 45 || at_ T (o3 + 1) 43) = true) := show _ = true by rw [h, h']; rfl
                                clear h h' ho
                                go_wp2
                                go_meet
                                case rel => exact ⟨by rw [H.out], rfl⟩
                              · replace h' := Bool.eq_false_iff.2 h'
                                have h4 : (zT T o4 == 43) = false := by rw [ho]; simpa using at_f h' hl1
                                have H : Hid ((at_ T (o3 + 1) 45 || at_ T (o3 + 1) 43) = false) := show _ = false by rw [h, h']; rfl
                                clear h h' ho
                                go_wp2
                                go_meet
                                case rel => exact ⟨by rw [H.out], rfl⟩
                          · have hno : ∀ c, at_ T (o3 + 1) c = false := fun c => by
                              cases h : at_ T (o3 + 1) c
                              · rfl
                              · exact absurd (at_t h).1 hl1
                            have h : Hid ((at_ T (o3 + 1) 45 || at_ T (o3 + 1) 43) = false) := show _ = false by rw [hno, hno]; rfl
                            have hz : T.length - (o3 + 1) = 0 := by omega
                            clear hno
                            go_wp2
                            go_meet
                            case rel => exact ⟨by rw [h.out], rfl⟩
                      case rest =>
                        obtain ⟨rfl, rfl⟩ := hcut
                        go_upto_if 114 with fail
                        go_cut [0] (fun v0 wx => ∃ o', (expQ T o3 < T.length → o' = expQ T o3) ∧ v0 = .slice (some ⟨b, o', none⟩) (T.length - expQ T o3) (T.length - expQ T o3) ∧ expQ T o3 ≤ T.length ∧ wx = wc)
                        case first =>
                          as_aux_lemma =>
                            cases h : (at_ T (o3 + 1) 45 || at_ T (o3 + 1) 43)
                            · have HQ : Hid (expQ T o3 = o3 + 1) := show expQ T o3 = o3 + 1 by unfold expQ; rw [h]; rfl
                              clear h
                              go_wp2
                              go_meet
                              case rel => rw [HQ.out]; exact ⟨o4, HO4.out, rfl, by omega, rfl⟩
                            · have HQ : Hid (expQ T o3 = o3 + 2) := show expQ T o3 = o3 + 2 by unfold expQ; rw [h]; rfl
                              have hl1 : o3 + 1 < T.length := by
                                rw [Bool.or_eq_true] at h
                                rcases h with h | h <;> exact (at_t h).1
                              have HH : Hid (o4 = o3 + 1) := HO4.out hl1
                              clear h
                              by_cases h1 : T.length - (o3 + 1) = 1
                              · have HL : Hid (T.length = o3 + 2) := show T.length = o3 + 2 by omega
                                go_wp2
                                go_meet
                                case rel => rw [HQ.out]; exact ⟨o4, fun h => absurd h (by rw [HL.out]; omega), by rw [HL.out]; simp, by omega, rfl⟩
                              · have h1' : 1 < T.length - (o3 + 1) := by omega
                                go_wp2
                                go_meet
                                case rel => rw [HQ.out]; exact ⟨o4 + 1, fun _ => by rw [HH.out], by rw [Nat.sub_sub], by omega, rfl⟩
                        case rest =>
                          obtain ⟨o5, ho5, rfl, hq5, rfl⟩ := hcut
                          generalize hqq : expQ T o3 = qN at *
                          have HO5 : Hid (qN < T.length → o5 = qN) := ho5
                          clear hqq HO4 ho5
                          have hX := HX.out
                          have hrq := run_le T qN
                          have P9 := HP9.out
                          have k0 := P9.r0
                          have k1 := P9.r1
                          have k2 := P9.r2
                          have f0 := P9.res.frozen 0
                          have f1 := P9.res.frozen 1
                          have f2 := P9.res.frozen 2
                          have c0 := P9.c0
                          have c1 := P9.c1
                          have c2 := P9.c2
                          have g2 := P9.num.frozen 2
                          clear P9
                          by_cases h0 : run T qN = 0
                          · have HN : Hid (parseP T = none) := show parseP T = none by rw [HE.out, hX, if_pos h0]
                            clear hX
                            go_wp2_with (go_at_call 21; refine (leading_len b o5 qN _ _ T _ hT rfl (Nat.le_refl _) HO5.out (HR.out.later HP9.out.below)).mono ?_; rintro e w4 ⟨o6, ho6, rfl, q6, rfl⟩; clear ho6)
                            refine bodyPost_ret (v := .tuple #[.agg #[.bool false, .slice none 0 0, .int .i64 0], .bool false]) (by simp [results, Try.results18, go_sem, k0, k1, k2]) rfl ⟨PRes.none HN.out, ?_⟩
                            exact below_drewN (((HP9.out.below.setCell (by simp) _).setCell (by simp) _).setCell (by simp) _) _
                          · have HS : Hid (parseP T = some (at_ T 0 45, ds, ex + (if at_ T (o3 + 1) 45 then -expP (digs T qN) else expP (digs T qN)), decide (T.length ≤ qN + run T qN))) := show parseP T = _ by rw [HE.out, hX, if_neg h0]
                            clear hX
                            have h0i : ((run T qN : Int) == 0) = false := by simpa using h0
                            have ho := HO5.out (by omega)
                            subst ho
                            go_wp2_with (go_at_call 21; refine (leading_len b o5 o5 _ _ T _ hT rfl (Nat.le_refl _) HO5.out (HR.out.later HP9.out.below)).mono ?_; rintro e w4 ⟨o6, ho6, rfl, q6, rfl⟩; clear ho6)
                            go_loop [9, 128] (fun x i => ∃ k : Nat, k ≤ run T o5 ∧ i = .int .i64 k ∧ x = .int .i64 (expAt T o5 k)) (fun _ i => run T o5 - (intOf i).toNat)
                            case atStart => exact ⟨0, Nat.zero_le _, rfl, rfl⟩
                            case round =>
                              obtain ⟨k, hk, rfl, rfl⟩ := hrel
                              have hbd := expAt_bd T o5 k hk
                              obtain ⟨hbd1, hbd2⟩ := hbd
                              by_cases hlt : k < run T o5
                              · have hc := World.rowIs.cell (HR.out.later HP9.out.below) (show o5 + k < T.length by omega)
                                obtain ⟨hd1, hd2⟩ := digs_isD T o5 k hlt
                                have HXS : Hid _ := expAt_succ T o5 k hlt
                                go_wp2
                                go_round
                                case rel => exact ⟨k + 1, by omega, by go_num, by rw [HXS.out]⟩
                                case measure => simp [intOf]; omega
                              · have hkk : k = run T o5 := by omega
                                have HK : Hid (expAt T o5 k = expP (digs T o5)) := show _ = _ by rw [hkk]; exact expAt_full T o5
                                clear hkk
                                have HF := fun x => finish2 HP9.out HDG.out HB1.out HB2.out x
                                have HFH : Hid _ := HF
                                clear HF
                                by_cases hend : T.length - o5 - run T o5 = 0
                                · have HD : Hid (decide (T.length ≤ o5 + run T o5) = true) := show decide _ = true by simp; omega
                                  cases hneg : at_ T (o3 + 1) 45 <;> rw [hneg] at HS <;> clear hneg
                                  · have HS2 : Hid (parseP T = some (at_ T 0 45, ds, ex + expAt T o5 k, true)) := show parseP T = _ by rw [HS.out, HD.out, HK.out]; rfl
                                    clear HS
                                    as_aux_lemma =>
                                      go_wp2
                                      exact bodyPost_ret (v := .tuple #[.agg #[.bool (at_ T 0 45), .slice (some a) ds.length cpd, .int .i64 (ex + expAt T o5 k)], .bool true]) (by simp [results, Try.results18, go_sem, k0, k1, k2]) rfl ⟨PRes.some HS2.out (HFH.out _).2, below_drewN (HFH.out _).1 _⟩
                                  · have HS2 : Hid (parseP T = some (at_ T 0 45, ds, ex + -expAt T o5 k, true)) := show parseP T = _ by rw [HS.out, HD.out, HK.out]; rfl
                                    clear HS
                                    as_aux_lemma =>
                                      go_wp2
                                      exact bodyPost_ret (v := .tuple #[.agg #[.bool (at_ T 0 45), .slice (some a) ds.length cpd, .int .i64 (ex + -expAt T o5 k)], .bool true]) (by simp [results, Try.results18, go_sem, k0, k1, k2]) rfl ⟨PRes.some HS2.out (HFH.out _).2, below_drewN (HFH.out _).1 _⟩
                                · have HD : Hid (decide (T.length ≤ o5 + run T o5) = false) := show decide _ = false by simp; omega
                                  have hendi : (((T.length - o5 - run T o5 : Nat) : Int) == 0) = false := by simpa using hend
                                  cases hneg : at_ T (o3 + 1) 45 <;> rw [hneg] at HS <;> clear hneg
                                  · have HS2 : Hid (parseP T = some (at_ T 0 45, ds, ex + expAt T o5 k, false)) := show parseP T = _ by rw [HS.out, HD.out, HK.out]; rfl
                                    clear HS
                                    as_aux_lemma =>
                                      go_wp2
                                      exact bodyPost_ret (v := .tuple #[.agg #[.bool (at_ T 0 45), .slice (some a) ds.length cpd, .int .i64 (ex + expAt T o5 k)], .bool false]) (by simp [results, Try.results18, go_sem, k0, k1, k2]) rfl ⟨PRes.some HS2.out (HFH.out _).2, below_drewN (HFH.out _).1 _⟩
                                  · have HS2 : Hid (parseP T = some (at_ T 0 45, ds, ex + -expAt T o5 k, false)) := show parseP T = _ by rw [HS.out, HD.out, HK.out]; rfl
                                    clear HS
                                    as_aux_lemma =>
                                      go_wp2
                                      exact bodyPost_ret (v := .tuple #[.agg #[.bool (at_ T 0 45), .slice (some a) ds.length cpd, .int .i64 (ex + -expAt T o5 k)], .bool false]) (by simp [results, Try.results18, go_sem, k0, k1, k2]) rfl ⟨PRes.some HS2.out (HFH.out _).2, below_drewN (HFH.out _).1 _⟩
end Go.Proofs.Qxb6604182a
