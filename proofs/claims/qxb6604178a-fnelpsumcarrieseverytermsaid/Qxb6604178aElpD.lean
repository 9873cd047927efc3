/-
  The series is built: a perturbation appended.
-/
import Derived.Test.Qxb6604178aElpC
namespace Go.Proofs.Qxb6604178a.Elp
open Go.RowKit Fl

theorem at_le {P : Prop} {g a : Nat} (h : P ∨ g = a + 2) : P ∨ a ≤ g := by
  rcases h with h | h
  · exact .inl h
  · exact .inr (by omega)
theorem pert_end {B S K k n g cap gp capp : Nat} {v : Value} {vm : Value} {rows xs : List Value} {w w1 W : World} (hW : Same (w1.setCell ⟨gp, k, none⟩ (.slice (some ⟨g, 0, none⟩) n cap)) W) (hS : w1.heap[S]? = some (.cells #[vm, .slice (some ⟨gp, 0, none⟩) K capp] 79))
    (hp : w1.ownsRow B 84 1 (.slice (some ⟨gp, 0, none⟩) K capp) K rows) (ho : w1.ownsRow B 86 15 (.slice (some ⟨g, 0, none⟩) n cap) n xs) (hat : v.ownBlock = some g ∨ w.heap.size ≤ g) (hb : But v.ownBlock.toList w w1) :
    ∃ g cap, W.heap[S]? = some (.cells #[vm, .slice (some ⟨gp, 0, none⟩) K capp] 79) ∧ W.ownsRow B 84 1 (.slice (some ⟨gp, 0, none⟩) K capp) K (rows.set k (.slice (some ⟨g, 0, none⟩) n cap)) ∧ W.ownsRow B 86 15 (.slice (some ⟨g, 0, none⟩) n cap) n xs ∧ (v.ownBlock = some g ∨ w.heap.size ≤ g) ∧ But (gp :: v.ownBlock.toList) w W := by
  have hgS := own_ne hp hS (by decide) gp rfl
  refine ⟨g, cap, ?_, hW.own (hp.stored k _).1, hW.own (own_but ho (X := [gp]) ((But.refl [gp] w1).setCell (.inl (by simp)) _) ?_), hat, hW.but ((hb.mono (fun x hx => .inl (List.mem_cons_of_mem _ hx))).setCell (.inl (by simp)) _)⟩
  · rw [hW.heap, Below.heap_setCell _ _ _ _ (fun e => hgS e.symm)]
    exact hS
  · intro g' hg'
    obtain ⟨cur, hc⟩ := own_tag hp (g := gp) rfl
    simpa using own_ne ho hc (by decide) g' hg'

theorem pert_apart {w : World} {B K n gp capp : Nat} {v : Value} {rows xs : List Value} (ho : w.ownsRow B 86 15 v n xs) (hp : w.ownsRow B 84 1 (.slice (some ⟨gp, 0, none⟩) K capp) K rows) : ∀ g, (Value.slice (some ⟨gp, 0, none⟩) K capp).ownBlock = some g → g ∉ v.ownBlock.toList := by
  intro g hg hm
  obtain ⟨cur, hc⟩ := own_tag hp hg
  rw [Option.mem_toList] at hm
  exact own_ne ho hc (by decide) g hm rfl

set_option maxRecDepth 100000 in
set_option maxHeartbeats 4000000 in
theorem addPert_any (B S K k n gp capp : Nat) (vm v : Value) (rows xs : List Value) (ms : Nat → Int) (a ph : Nat) (w : World) (hS : w.heap[S]? = some (.cells #[vm, .slice (some ⟨gp, 0, none⟩) K capp] 79)) (hp : w.ownsRow B 84 1 (.slice (some ⟨gp, 0, none⟩) K capp) K rows) (hk : k < K) (hv : rows[k]? = some v)
    (ho : w.ownsRow B 86 15 v n xs) (hB : B ≤ w.heap.size) (hn : n < 1048576) :
    Calls Try.prog 31 #[.pointer (some ⟨S, 0, none⟩), .int .i64 k, .agg #[.int .i8 (ms 0), .int .i8 (ms 1), .int .i8 (ms 2), .int .i8 (ms 3), .int .i8 (ms 4), .int .i8 (ms 5), .int .i8 (ms 6), .int .i8 (ms 7), .int .i8 (ms 8), .int .i8 (ms 9), .int .i8 (ms 10), .int .i8 (ms 11), .int .i8 (ms 12)], .float .f64 a, .float .f64 ph] w
    fun x w' => x = .returned (.tuple #[]) ∧ ∃ g cap, w'.heap[S]? = some (.cells #[vm, .slice (some ⟨gp, 0, none⟩) K capp] 79) ∧ w'.ownsRow B 84 1 (.slice (some ⟨gp, 0, none⟩) K capp) K (rows.set k (.slice (some ⟨g, 0, none⟩) (n + 1) cap)) ∧
      w'.ownsRow B 86 15 (.slice (some ⟨g, 0, none⟩) (n + 1) cap) (n + 1) (xs ++ [.int .i8 (ms 0), .int .i8 (ms 1), .int .i8 (ms 2), .int .i8 (ms 3), .int .i8 (ms 4), .int .i8 (ms 5), .int .i8 (ms 6), .int .i8 (ms 7), .int .i8 (ms 8), .int .i8 (ms 9), .int .i8 (ms 10), .int .i8 (ms 11), .int .i8 (ms 12), .float .f64 a, .float .f64 ph]) ∧ (v.ownBlock = some g ∨ w.heap.size ≤ g) ∧ But (gp :: v.ownBlock.toList) w w' := by
  obtain ⟨i0, hi, hz0, hz1, hz2⟩ := info_parts info86
  have HS : Hid _ := hS
  have HP : Hid _ := hp
  have HO : Hid (w.ownsRow B 86 15 v n xs) := ho
  obtain ⟨s0, s1, f0, f1⟩ := cells2 hS
  have hSl := heap_lt hS
  have c0 : w.cell? ⟨gp, k, none⟩ = some v := (hp.cellAt k (by omega)).trans hv
  have cf := hp.frozenAt k
  have hgl : gp < w.heap.size := (hp.lt gp rfl).2
  have HV : Hid (rows[k]? = some v) := hv
  clear hS ho hp hv
  go_enter Try.func31, Try.ntmps31
  go_wp2
  go_region_law (refine step_append_lies _ rfl _ _ _ rfl B 86 i0 _ 15 32 Try.underlying84 hi hz0 hz1 hz2 rfl (by decide) v n xs (by simp [Act.eval]) (own_but HO.out (X := []) (by repeat (first | with_reducible exact But.refl _ _ | apply But.alloc | apply But.drewN | apply But.drew)) (by simp)) ⟨w.heap.size + 1, 0, none⟩ 1 1 [.int .i8 (ms 0), .int .i8 (ms 1), .int .i8 (ms 2), .int .i8 (ms 3), .int .i8 (ms 4), .int .i8 (ms 5), .int .i8 (ms 6), .int .i8 (ms 7), .int .i8 (ms 8), .int .i8 (ms 9), .int .i8 (ms 10), .int .i8 (ms 11), .int .i8 (ms 12), .float .f64 a, .float .f64 ph] (by simp [Act.eval]) rfl (World.news_of_block (cs := #[.int .i8 (ms 0), .int .i8 (ms 1), .int .i8 (ms 2), .int .i8 (ms 3), .int .i8 (ms 4), .int .i8 (ms 5), .int .i8 (ms 6), .int .i8 (ms 7), .int .i8 (ms 8), .int .i8 (ms 9), .int .i8 (ms 10), .int .i8 (ms 11), .int .i8 (ms 12), .float .f64 a, .float .f64 ph]) (two_new (by repeat (first | with_reducible exact But.refl _ _ | apply But.drewN | apply But.drew)))) (by simp [Value.oneCell']) (by omega) (by unfold maxLen; omega) (by omega) (by simp; omega) (w.heap.size + 2) (by simp) ?_; intro g cap w1 hown hgrow hat hlt; have hS1 := grown_keeps HS.out (by repeat (first | with_reducible exact But.refl _ _ | apply But.alloc | apply But.drewN | apply But.drew)) hgrow (own_ne HO.out HS.out (by decide)); have hb1 := grown_but (w := w) (by repeat (first | with_reducible exact But.refl _ _ | apply But.alloc | apply But.drewN | apply But.drew)) hgrow; have hp1 := own_but HP.out hb1 (pert_apart HO.out HP.out); clear s0 s1 f0 f1 c0 cf; have c0 := (hp1.cellAt k (by omega)).trans HV.out; have cf := hp1.frozenAt k; obtain ⟨s0, s1, f0, f1⟩ := cells2 hS1; have HS1 : Hid _ := hS1; have HO1 : Hid _ := hown; have HB1 : Hid _ := hb1; have HP1 : Hid _ := hp1; have HA1 : Hid _ := hat; clear hS1 hb1 hown hgrow hat hlt hp1)
  all_goals go_wp2
  all_goals
    refine bodyPost_end (v := .tuple #[]) (by simp [results, Try.results31, go_sem]) rfl ⟨rfl, pert_end ⟨rfl, rfl, rfl, rfl⟩ HS1.out HP1.out HO1.out (at_le HA1.out) HB1.out⟩
end Go.Proofs.Qxb6604178a.Elp
