/-
  The series is built: a main term, a power, a perturbation appended.
-/
import Derived.Test.Qxb6604178aElpA
import Derived.Deep.RegionHeldLaw
import Derived.Deep.RegionLaw
import Derived.Deep.AppendLies
import Derived.Laws.OwnMore
import Derived.OwnWalk
namespace Go.Proofs.Qxb6604178a.Elp
open Go.RowKit Fl

theorem info81 : (Try.prog.info? 81).map (fun i => (i.zero, i.size, i.bytes)) = some (some (.agg #[.int .i8 0, .int .i8 0, .int .i8 0, .int .i8 0, .float .f64 0]), 5, 16) := by kernel_rfl
theorem info84 : (Try.prog.info? 84).map (fun i => (i.zero, i.size, i.bytes)) = some (some (.slice none 0 0), 1, 24) := by kernel_rfl
theorem info86 : (Try.prog.info? 86).map (fun i => (i.zero, i.size, i.bytes)) = some (some (.agg #[.int .i8 0, .int .i8 0, .int .i8 0, .int .i8 0, .int .i8 0, .int .i8 0, .int .i8 0, .int .i8 0, .int .i8 0, .int .i8 0, .int .i8 0, .int .i8 0, .int .i8 0, .float .f64 0, .float .f64 0]), 15, 32) := by kernel_rfl

theorem own_but {w w' : World} {B : Nat} {e : TypeId} {s n : Nat} {v : Value} {xs : List Value} {X : List Nat} (h : w.ownsRow B e s v n xs) (hb : But X w w') (hx : ∀ g, v.ownBlock = some g → g ∉ X) : w'.ownsRow B e s v n xs := by
  refine ⟨h.1, ?_⟩
  rcases h.2 with hn | ⟨g, cap, cur, rfl, hg, hc, r⟩
  · exact .inl hn
  · refine .inr ⟨g, cap, cur, rfl, hg, ?_, r⟩
    rw [hb.block g (Array.getElem?_eq_some_iff.1 hc).1 (hx g rfl)]
    exact hc
theorem heap_lt {w : World} {b : Nat} {o : Obj} (h : w.heap[b]? = some o) : b < w.heap.size := (Array.getElem?_eq_some_iff.1 h).1
/-- Where a row lies: its block's tag. -/
theorem own_tag {w : World} {B : Nat} {e : TypeId} {s n : Nat} {v : Value} {xs : List Value} (h : w.ownsRow B e s v n xs) {g : Nat} (hg : v.ownBlock = some g) : ∃ cur, w.heap[g]? = some (.cells cur e) := by
  rcases h.2 with ⟨rfl, _⟩ | ⟨g', cap, cur, rfl, _, hc, _⟩
  · simp [Value.ownBlock] at hg
  · simp [Value.ownBlock] at hg
    subst hg
    exact ⟨cur, hc⟩
theorem own_ne {w : World} {B : Nat} {e : TypeId} {s n : Nat} {v : Value} {xs : List Value} (h : w.ownsRow B e s v n xs) {b : Nat} {cs : Array Value} {t : TypeId} {fr : Nat × Nat} (hb : w.heap[b]? = some (.cells cs t fr)) (ht : t ≠ e) : ∀ g, v.ownBlock = some g → g ≠ b := by
  rintro g hg rfl
  obtain ⟨cur, hc⟩ := own_tag h hg
  rw [hb] at hc
  injection hc with hc
  injection hc with _ h2 _
  exact ht h2
theorem set2_0 {w : World} {S : Nat} {x y v : Value} {t : TypeId} {fr : Nat × Nat} (h : w.heap[S]? = some (.cells #[x, y] t fr)) : (w.setCell ⟨S, 0, none⟩ v).heap[S]? = some (.cells #[v, y] t fr) := by
  simp [World.setCell, Array.getElem?_modify, h]
theorem set2_1 {w : World} {S : Nat} {x y v : Value} {t : TypeId} {fr : Nat × Nat} (h : w.heap[S]? = some (.cells #[x, y] t fr)) : (w.setCell ⟨S, 1, none⟩ v).heap[S]? = some (.cells #[x, v] t fr) := by
  simp [World.setCell, Array.getElem?_modify, h]
theorem cells2 {w : World} {b t : Nat} {x y : Value} (h : w.heap[b]? = some (.cells #[x, y] t)) : w.cell? ⟨b, 0, none⟩ = some x ∧ w.cell? ⟨b, 1, none⟩ = some y ∧ w.frozen? ⟨b, 0, none⟩ = false ∧ w.frozen? ⟨b, 1, none⟩ = false := by
  refine ⟨?_, ?_, ?_, ?_⟩ <;> simp [World.cell?, World.frozen?, h]

theorem one_new {w w1 : World} {o : Obj} (hb : But [] (w.alloc o) w1) : w1.heap[w.heap.size]? = some o :=
  (hb.block w.heap.size (by simp) (by simp)).trans (heap_alloc_new w o)
theorem two_new {w w1 : World} {o1 o2 : Obj} (hb : But [] ((w.alloc o1).alloc o2) w1) : w1.heap[w.heap.size + 1]? = some o2 := by
  have := one_new hb
  simpa using this

theorem grown_keeps {w W w1 : World} {row : Option Nat} {S : Nat} {o : Obj} (hS : w.heap[S]? = some o) (hb : But [] w W) (hg : W.grownBy w1 row) (hne : ∀ g, row = some g → g ≠ S) : w1.heap[S]? = some o := by
  have hW : W.heap[S]? = some o := (hb.block S (heap_lt hS) (by simp)).trans hS
  rw [hg.block S (heap_lt hW) (fun e => hne S e.symm rfl)]
  exact hW
theorem grown_but {w W w1 : World} {row : Option Nat} (hb : But [] w W) (hg : W.grownBy w1 row) : But row.toList w w1 :=
  (hb.mono (by simp)).trans (But.grown hg (by rintro g rfl; simp))

/-- The two worlds differ in the draws alone. -/
structure Same (a b : World) : Prop where
  heap : b.heap = a.heap
  os : b.os = a.os
  tape : b.tape = a.tape
  output : b.output = a.output
theorem Same.but {X : List Nat} {w a b : World} (h : Same a b) (hb : But X w a) : But X w b :=
  ⟨h.os.trans hb.os, h.tape.trans hb.tape, h.output.trans hb.output, by rw [h.heap]; exact hb.size, fun k hk hx => by rw [h.heap]; exact hb.block k hk hx⟩
theorem Same.own {a b : World} {B : Nat} {e : TypeId} {s n : Nat} {v : Value} {xs : List Value} (h : Same a b) (ho : a.ownsRow B e s v n xs) : b.ownsRow B e s v n xs := own_but ho (X := []) (h.but (But.refl _ _)) (by simp)

theorem main_end {B S n g cap : Nat} {vm vp : Value} {M : List Value} {w w1 W : World} (hW : Same (w1.setCell ⟨S, 0, none⟩ (.slice (some ⟨g, 0, none⟩) n cap)) W) (hS : w1.heap[S]? = some (.cells #[vm, vp] 79)) (ho : w1.ownsRow B 81 5 (.slice (some ⟨g, 0, none⟩) n cap) n M) (hb : But vm.ownBlock.toList w w1) :
    ∃ g cap, W.heap[S]? = some (.cells #[.slice (some ⟨g, 0, none⟩) n cap, vp] 79) ∧ W.ownsRow B 81 5 (.slice (some ⟨g, 0, none⟩) n cap) n M ∧ But (S :: vm.ownBlock.toList) w W := by
  refine ⟨g, cap, by rw [hW.heap]; exact set2_0 hS, hW.own (own_but ho (X := [S]) ((But.refl [S] w1).setCell (.inl (by simp)) _) ?_), hW.but ((hb.mono (fun x hx => .inl (List.mem_cons_of_mem _ hx))).setCell (.inl (by simp)) _)⟩
  intro g' hg'
  simpa using own_ne ho hS (by decide) g' hg'

set_option maxRecDepth 100000 in
set_option maxHeartbeats 4000000 in
theorem addMain_any (B S n : Nat) (vm vp : Value) (M : List Value) (m0 m1 m2 m3 : Int) (a : Nat) (w : World) (hS : w.heap[S]? = some (.cells #[vm, vp] 79)) (ho : w.ownsRow B 81 5 vm n M) (hB : B ≤ w.heap.size) (hn : n < 1048576) :
    Calls Try.prog 29 #[.pointer (some ⟨S, 0, none⟩), .agg #[.int .i8 m0, .int .i8 m1, .int .i8 m2, .int .i8 m3], .float .f64 a] w
    fun x w' => x = .returned (.tuple #[]) ∧ ∃ g cap, w'.heap[S]? = some (.cells #[.slice (some ⟨g, 0, none⟩) (n + 1) cap, vp] 79) ∧
      w'.ownsRow B 81 5 (.slice (some ⟨g, 0, none⟩) (n + 1) cap) (n + 1) (M ++ [.int .i8 m0, .int .i8 m1, .int .i8 m2, .int .i8 m3, .float .f64 a]) ∧ But (S :: vm.ownBlock.toList) w w' := by
  obtain ⟨i0, hi, hz0, hz1, hz2⟩ := info_parts info81
  have HS : Hid (w.heap[S]? = some (.cells #[vm, vp] 79)) := hS
  have HO : Hid (w.ownsRow B 81 5 vm n M) := ho
  obtain ⟨s0, s1, f0, f1⟩ := cells2 hS
  have hSl := heap_lt hS
  clear hS ho
  go_enter Try.func29, Try.ntmps29
  go_wp2
  go_region_law (refine step_append_lies _ rfl _ _ _ rfl B 81 i0 _ 5 16 Try.underlying76 hi hz0 hz1 hz2 rfl (by decide) vm n M (by simp [Act.eval]) (own_but HO.out (X := []) (by repeat (first | with_reducible exact But.refl _ _ | apply But.alloc | apply But.drewN | apply But.drew)) (by simp)) ⟨w.heap.size + 1, 0, none⟩ 1 1 [.int .i8 m0, .int .i8 m1, .int .i8 m2, .int .i8 m3, .float .f64 a] (by simp [Act.eval]) rfl (World.news_of_block (cs := #[.int .i8 m0, .int .i8 m1, .int .i8 m2, .int .i8 m3, .float .f64 a]) (two_new (by repeat (first | with_reducible exact But.refl _ _ | apply But.drewN | apply But.drew)))) (by simp [Value.oneCell']) (by omega) (by unfold maxLen; omega) (by omega) (by simp; omega) (w.heap.size + 2) (by simp) ?_; intro g cap w1 hown hgrow hat hlt; have hS1 := grown_keeps HS.out (by repeat (first | with_reducible exact But.refl _ _ | apply But.alloc | apply But.drewN | apply But.drew)) hgrow (own_ne HO.out HS.out (by decide)); have hb1 := grown_but (w := w) (by repeat (first | with_reducible exact But.refl _ _ | apply But.alloc | apply But.drewN | apply But.drew)) hgrow; clear s0 s1 f0 f1; obtain ⟨s0, s1, f0, f1⟩ := cells2 hS1; have HS1 : Hid _ := hS1; have HO1 : Hid _ := hown; have HB1 : Hid _ := hb1; clear hS1 hb1 hown hgrow hat hlt)
  all_goals go_wp2
  all_goals
    refine bodyPost_end (v := .tuple #[]) (by simp [results, Try.results29, go_sem]) rfl ⟨rfl, main_end ⟨rfl, rfl, rfl, rfl⟩ HS1.out HO1.out HB1.out⟩

theorem two_old (w : World) (o1 o2 : Obj) : ((w.alloc o1).alloc o2).heap[w.heap.size]? = some o1 := by
  rw [Below.heap_alloc _ _ _ (by simp)]
  exact heap_alloc_new w o1
theorem power_end {B S K g cap : Nat} {vm vp : Value} {rows : List Value} {w w1 W : World} (hW : Same (w1.setCell ⟨S, 1, none⟩ (.slice (some ⟨g, 0, none⟩) K cap)) W) (hS : w1.heap[S]? = some (.cells #[vm, vp] 79)) (ho : w1.ownsRow B 84 1 (.slice (some ⟨g, 0, none⟩) K cap) K (rows ++ [.slice (some ⟨w.heap.size, 0, none⟩) 0 0])) (he : w1.heap[w.heap.size]? = some (.cells #[] 86)) (hB : B ≤ w.heap.size) (hb : But vp.ownBlock.toList w w1) :
    ∃ g cap g0, W.heap[S]? = some (.cells #[vm, .slice (some ⟨g, 0, none⟩) K cap] 79) ∧ W.ownsRow B 84 1 (.slice (some ⟨g, 0, none⟩) K cap) K (rows ++ [.slice (some ⟨g0, 0, none⟩) 0 0]) ∧ W.ownsRow B 86 15 (.slice (some ⟨g0, 0, none⟩) 0 0) 0 [] ∧ w.heap.size ≤ g0 ∧ But (S :: vp.ownBlock.toList) w W := by
  have hne : w.heap.size ≠ S := by
    rintro rfl
    rw [hS] at he
    injection he with he
    injection he with h1 _ _
    cases h1
  refine ⟨g, cap, w.heap.size, by rw [hW.heap]; exact set2_1 hS, hW.own (own_but ho (X := [S]) ((But.refl [S] w1).setCell (.inl (by simp)) _) ?_), hW.own (own_but (w := w1) ⟨rfl, .inr ⟨_, _, #[], rfl, hB, he, Nat.le_refl _, Nat.zero_le _, rfl, rfl⟩⟩ (X := [S]) ((But.refl [S] w1).setCell (.inl (by simp)) _) ?_), Nat.le_refl _, hW.but ((hb.mono (fun x hx => .inl (List.mem_cons_of_mem _ hx))).setCell (.inl (by simp)) _)⟩
  · intro g' hg'
    simpa using own_ne ho hS (by decide) g' hg'
  · intro g' hg'
    simp [Value.ownBlock] at hg'
    subst hg'
    simpa using hne

set_option maxRecDepth 100000 in
set_option maxHeartbeats 4000000 in
theorem addPower_any (B S K : Nat) (vm vp : Value) (rows : List Value) (w : World) (hS : w.heap[S]? = some (.cells #[vm, vp] 79)) (ho : w.ownsRow B 84 1 vp K rows) (hB : B ≤ w.heap.size) (hn : K < 1048576) :
    Calls Try.prog 30 #[.pointer (some ⟨S, 0, none⟩)] w
    fun x w' => x = .returned (.tuple #[]) ∧ ∃ g cap g0, w'.heap[S]? = some (.cells #[vm, .slice (some ⟨g, 0, none⟩) (K + 1) cap] 79) ∧
      w'.ownsRow B 84 1 (.slice (some ⟨g, 0, none⟩) (K + 1) cap) (K + 1) (rows ++ [.slice (some ⟨g0, 0, none⟩) 0 0]) ∧ w'.ownsRow B 86 15 (.slice (some ⟨g0, 0, none⟩) 0 0) 0 [] ∧ w.heap.size ≤ g0 ∧ But (S :: vp.ownBlock.toList) w w' := by
  obtain ⟨i0, hi, hz0, hz1, hz2⟩ := info_parts info84
  have HS : Hid (w.heap[S]? = some (.cells #[vm, vp] 79)) := hS
  have HO : Hid (w.ownsRow B 84 1 vp K rows) := ho
  obtain ⟨s0, s1, f0, f1⟩ := cells2 hS
  have hSl := heap_lt hS
  clear hS ho
  go_enter Try.func30, Try.ntmps30
  go_wp2_with (at_builtin; refine wpList_append_lies _ rfl _ _ _ rfl B 84 i0 _ 1 24 Try.underlying77 hi hz0 hz1 hz2 rfl (by decide) vp K rows rfl (own_but HO.out (X := []) (by repeat (first | with_reducible exact But.refl _ _ | apply But.alloc | apply But.drewN | apply But.drew)) (by simp)) ⟨w.heap.size + 1, 0, none⟩ 1 1 [.slice (some ⟨w.heap.size, 0, none⟩) 0 0] rfl rfl (World.news_of_block (cs := #[.slice (some ⟨w.heap.size, 0, none⟩) 0 0]) (two_new (by with_reducible exact But.refl _ _))) (by simp [Value.oneCell']) (by omega) (by unfold maxLen; omega) (by omega) (by simp; omega) (w.heap.size + 2) (by simp) ?_; intro g cap w1 hown hgrow hat hlt; have hS1 := grown_keeps HS.out (by repeat (first | with_reducible exact But.refl _ _ | apply But.alloc | apply But.drewN | apply But.drew)) hgrow (own_ne HO.out HS.out (by decide)); have HE : Hid _ := grown_keeps (two_old w (.cells #[] 86) (.cells #[.slice (some ⟨w.heap.size, 0, none⟩) 0 0] 84)) (But.refl [] _) hgrow (fun g hg e => by have := (HO.out.lt g hg).2; omega); have hb1 := grown_but (w := w) (by repeat (first | with_reducible exact But.refl _ _ | apply But.alloc | apply But.drewN | apply But.drew)) hgrow; clear s0 s1 f0 f1; obtain ⟨s0, s1, f0, f1⟩ := cells2 hS1; have HS1 : Hid _ := hS1; have HO1 : Hid _ := hown; have HB1 : Hid _ := hb1; clear hS1 hb1 hown hgrow hat hlt)
  refine bodyPost_end (v := .tuple #[]) (by simp [results, Try.results30, go_sem]) rfl ⟨rfl, power_end ⟨rfl, rfl, rfl, rfl⟩ HS1.out HO1.out HE.out hB HB1.out⟩
end Go.Proofs.Qxb6604178a.Elp
