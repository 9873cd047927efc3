/-
  A map from int64 to whatever values, as a function: made, looked up, stored into, deleted from.
-/
import Derived.Test.Qxb6604779aRows
import Derived.WalkKit
import Derived.WalkSpells
import Derived.WalkLawsBesides
import Derived.Maps.Keyed
import Derived.ChangeMaps5
import Derived.Below
namespace Go.Proofs.Qxb6604779a
open Go.RowKit Go.MapKept Go.ChangeMaps

/-- Block b of w is a map that holds what f says. -/
def MapIs (w : World) (b : Nat) (f : Int → Option Value) : Prop :=
  ∃ es clock, w.heap[b]? = some (.map es clock) ∧ (∀ e ∈ es.toList, ∃ k, e.key = .int .i64 k) ∧ es.toList.Pairwise (fun x y => x.key ≠ y.key) ∧
    ∀ k v, f k = some v ↔ ∃ e ∈ es.toList, e.key = .int .i64 k ∧ e.val = v

def putF (f : Int → Option Value) (k : Int) (v : Value) (x : Int) : Option Value := if x = k then some v else f x
def delF (f : Int → Option Value) (k : Int) (x : Int) : Option Value := if x = k then none else f x

variable {w : World} {b : Nat} {f : Int → Option Value}

theorem MapIs.lt (h : MapIs w b f) : b < w.heap.size := by
  obtain ⟨es, clock, hb, _⟩ := h
  exact (Array.getElem?_eq_some_iff.1 hb).1
theorem MapIs.congr {w' : World} (h : MapIs w b f) (e : w'.heap[b]? = w.heap[b]?) : MapIs w' b f := by
  obtain ⟨es, clock, hb, r⟩ := h
  exact ⟨es, clock, e.trans hb, r⟩
theorem MapIs.made (w : World) : MapIs (w.alloc (.map #[] 0)) w.heap.size (fun _ => none) :=
  ⟨#[], 0, (MapKept.heap_alloc w _).1, by simp, by simp, by simp⟩

theorem isKey (k : Int) : IsKey (.int .i64) (.int .i64 k) := rfl
theorem key_all {l : List MapEntry} (h : ∀ e ∈ l, ∃ k, e.key = .int .i64 k) : ∀ e ∈ l, IsKey (.int .i64) e.key := fun e he => by
  obtain ⟨k, hk⟩ := h e he
  rw [hk]
  rfl
theorem unique {l : List MapEntry} (h : l.Pairwise (fun x y => x.key ≠ y.key)) : ∀ x ∈ l, ∀ y ∈ l, x.key = y.key → x = y := by
  induction l with
  | nil => simp
  | cons a l ih =>
    obtain ⟨h1, h2⟩ := List.pairwise_cons.1 h
    intro x hx y hy e
    rcases List.mem_cons.1 hx with rfl | hx <;> rcases List.mem_cons.1 hy with rfl | hy
    · rfl
    · exact absurd e (h1 y hy)
    · exact absurd e.symm (h1 _ (by assumption))
    · exact ih h2 x hx y hy e

theorem MapIs.look (h : MapIs w b f) (z : Value) (hz : (zeroValue 58).run Try.prog w = .ok z w) (k : Int) :
    (Instr.lookup 49 (.map (some b)) (.int .i64 k) true).run Try.prog w = .ok (.tuple #[(f k).getD z, .bool (f k).isSome]) w := by
  obtain ⟨es, clock, hb, hk, hp, hf⟩ := h
  rcases findNow_spec (isKey k) es.toList 0 (key_all hk) with ⟨h1, h2⟩ | ⟨j, e0, h1, h2, h3⟩
  · have hn : f k = none := by
      cases hfk : f k with
      | none => rfl
      | some v =>
        obtain ⟨e, he, h3, _⟩ := (hf k v).1 hfk
        exact absurd h3 (h2 e he)
    rw [hn]
    simp [Instr.lookup, run_underlying Try.underlying49, MapKept.run_getObj_map hb, run_checkKey Try.underlying2 (isKey k), run_findKey Try.underlying2 h1, hz, Result.andThen]
  · have hn : f k = some e0.val := (hf k _).2 ⟨e0, List.mem_of_getElem? h2, h3, rfl⟩
    rw [hn]
    simp [Instr.lookup, run_underlying Try.underlying49, MapKept.run_getObj_map hb, run_checkKey Try.underlying2 (isKey k), run_findKey Try.underlying2 h1, Result.andThen]

/-- The world behind 'm[k] = v'. -/
def putW (P : Program) (w : World) (b : Nat) (k : Int) (v : Value) : World :=
  match (Instr.mapUpdate 49 (.map (some b)) (.int .i64 k) v).run P w with
  | .ok _ w' => w'
  | _ => w
/-- The world behind 'delete(m, k)'. -/
def delW (P : Program) (w : World) (b : Nat) (k : Int) : World :=
  match (Builtin.delete_ #[49, 2] 0 #[.map (some b), .int .i64 k]).run P w with
  | .ok _ w' => w'
  | _ => w

theorem MapIs.put (h : MapIs w b f) (k : Int) (v : Value) : ∃ o, (∃ es clock, w.heap[b]? = some (.map es clock)) ∧
    (Instr.mapUpdate 49 (.map (some b)) (.int .i64 k) v).run Try.prog w = .ok () (setBlock w b o) ∧ MapIs (setBlock w b o) b (putF f k v) := by
  obtain ⟨es, clock, hb, hk, hp, hf⟩ := h
  rcases findNow_spec (isKey k) es.toList 0 (key_all hk) with ⟨h1, h2⟩ | ⟨j, e0, h1, h2, h3⟩
  · refine ⟨.map (es.push ⟨.int .i64 k, v, clock⟩) (clock + 1), ⟨es, clock, hb⟩, ?_, _, _, heap_setBlock_same hb _, ?_, ?_, ?_⟩
    · simp [Instr.mapUpdate, run_underlying Try.underlying49, MapKept.run_getObj_map hb, run_checkKey Try.underlying2 (isKey k), run_findKey Try.underlying2 h1, MapKept.run_setObj_map _ hb, Result.andThen, setBlock]
    · intro e he
      simp only [Array.toList_push, List.mem_append, List.mem_singleton] at he
      rcases he with he | rfl
      · exact hk e he
      · exact ⟨k, rfl⟩
    · rw [Array.toList_push, List.pairwise_append]
      refine ⟨hp, by simp, fun x hx y hy => ?_⟩
      rw [List.mem_singleton] at hy
      subst hy
      exact h2 x hx
    · intro x u
      unfold putF
      simp only [Array.toList_push, List.mem_append, List.mem_singleton]
      by_cases hx : x = k
      · subst hx
        rw [if_pos rfl]
        constructor
        · intro h; cases h
          exact ⟨_, Or.inr rfl, rfl, rfl⟩
        · rintro ⟨e, he | rfl, h3, h4⟩
          · exact absurd h3 (h2 e he)
          · rw [← h4]
      · rw [if_neg hx, hf]
        constructor
        · rintro ⟨e, he, h3⟩
          exact ⟨e, Or.inl he, h3⟩
        · rintro ⟨e, he | rfl, h3, h4⟩
          · exact ⟨e, he, h3, h4⟩
          · simp at h3; exact absurd h3.symm hx
  · have hj : es[j]? = some e0 := by simpa using h2
    have hjl : j < es.toList.length := (List.getElem?_eq_some_iff.1 h2).1
    have hlist : (es.modify j (fun e' => { e' with key := .int .i64 k, val := v })).toList = es.toList.set j { e0 with key := .int .i64 k, val := v } := by rw [Array.toList_modify, modify_eq_set _ _ _ _ h2]
    have hmem : ∀ x, x ∈ es.toList.set j { e0 with key := .int .i64 k, val := v } ↔ x = { e0 with key := .int .i64 k, val := v } ∨ (x ∈ es.toList ∧ x.key ≠ .int .i64 k) := by
      intro x
      constructor
      · intro hx
        obtain ⟨i, hi, ex⟩ := List.getElem_of_mem hx
        rw [List.getElem_set] at ex
        split at ex
        · exact Or.inl ex.symm
        · rename_i hne
          have hi' : i < es.toList.length := by simpa using hi
          refine Or.inr ⟨ex ▸ List.getElem_mem hi', fun hxk => hne ?_⟩
          have hge : es.toList[j]'hjl = e0 := (List.getElem?_eq_some_iff.1 h2).2
          rcases Nat.lt_trichotomy i j with hlt | heq | hgt
          · have := (List.pairwise_iff_getElem.1 hp) i j hi' hjl hlt
            rw [ex, hge, hxk, h3] at this
            exact absurd rfl this
          · exact heq.symm
          · have := (List.pairwise_iff_getElem.1 hp) j i hjl hi' hgt
            rw [ex, hge, hxk, h3] at this
            exact absurd rfl this
      · rintro (rfl | ⟨hx, hxk⟩)
        · exact List.mem_iff_getElem.2 ⟨j, by simpa using hjl, by simp⟩
        · obtain ⟨i, hi, ex⟩ := List.getElem_of_mem hx
          refine List.mem_iff_getElem.2 ⟨i, by simpa using hi, ?_⟩
          rw [List.getElem_set]
          split
          · rename_i heq
            subst heq
            have hge : es.toList[j]'hjl = e0 := (List.getElem?_eq_some_iff.1 h2).2
            rw [hge] at ex
            subst ex
            exact absurd h3 hxk
          · exact ex
    refine ⟨.map (es.modify j (fun e' => { e' with key := .int .i64 k, val := v })) clock, ⟨es, clock, hb⟩, ?_, _, _, heap_setBlock_same hb _, ?_, ?_, ?_⟩
    · simp [Instr.mapUpdate, run_underlying Try.underlying49, MapKept.run_getObj_map hb, run_checkKey Try.underlying2 (isKey k), run_findKey Try.underlying2 h1, hj, h3, run_keyThatStays (isKey k), MapKept.run_setObj_map _ hb, Result.andThen, setBlock]
    · intro e he
      rw [hlist, hmem] at he
      rcases he with rfl | ⟨he, _⟩
      · exact ⟨k, rfl⟩
      · exact hk e he
    · rw [hlist, ← List.pairwise_map (f := fun e : MapEntry => e.key) (R := fun a b => a ≠ b), List.map_set]
      have : (es.toList.map fun e => e.key).set j (Value.int .i64 k) = es.toList.map fun e => e.key := by
        have hge : es.toList[j]'hjl = e0 := (List.getElem?_eq_some_iff.1 h2).2
        refine List.ext_getElem (by simp) fun i h4 h5 => ?_
        rw [List.getElem_set]
        split
        · rename_i heq
          subst heq
          rw [List.getElem_map, hge, h3]
        · rfl
      rw [this, List.pairwise_map]
      exact hp
    · intro x u
      rw [hlist]
      simp only [hmem]
      unfold putF
      by_cases hx : x = k
      · subst hx
        rw [if_pos rfl]
        constructor
        · intro h; cases h
          exact ⟨_, Or.inl rfl, rfl, rfl⟩
        · rintro ⟨e, rfl | ⟨he, h4⟩, h5, h6⟩
          · rw [← h6]
          · exact absurd h5 h4
      · rw [if_neg hx, hf]
        constructor
        · rintro ⟨e, he, h4, h5⟩
          refine ⟨e, Or.inr ⟨he, fun h6 => hx ?_⟩, h4, h5⟩
          rw [h6] at h4
          simpa using h4.symm
        · rintro ⟨e, rfl | ⟨he, h4⟩, h5, h6⟩
          · simp at h5; exact absurd h5.symm hx
          · exact ⟨e, he, h5, h6⟩

theorem MapIs.del (h : MapIs w b f) (ty : TypeId) (k : Int) : ∃ o, (∃ es clock, w.heap[b]? = some (.map es clock)) ∧
    (Builtin.delete_ #[49, 2] ty #[.map (some b), .int .i64 k]).run Try.prog w = .ok (.tuple #[]) (setBlock w b o) ∧ MapIs (setBlock w b o) b (delF f k) := by
  obtain ⟨es, clock, hb, hk, hp, hf⟩ := h
  rcases findNow_spec (isKey k) es.toList 0 (key_all hk) with ⟨h1, h2⟩ | ⟨j, e0, h1, h2, h3⟩
  · refine ⟨.map es clock, ⟨es, clock, hb⟩, ?_, _, _, heap_setBlock_same hb _, hk, hp, ?_⟩
    · simp [Builtin.delete_, run_underlying Try.underlying49, MapKept.run_getObj_map hb, run_checkKey Try.underlying2 (isKey k), run_findKey Try.underlying2 h1, MapKept.run_setObj_map _ hb, Result.andThen, setBlock]
    · intro x u
      unfold delF
      by_cases hx : x = k
      · subst hx
        rw [if_pos rfl]
        refine ⟨fun h => (by cases h), ?_⟩
        rintro ⟨e, he, h3, _⟩
        exact absurd h3 (h2 e he)
      · rw [if_neg hx, hf]
  · have hjl : j < es.toList.length := (List.getElem?_eq_some_iff.1 h2).1
    have hge : es.toList[j]'hjl = e0 := (List.getElem?_eq_some_iff.1 h2).2
    have hjs : j < es.size := by simpa using hjl
    have hlist : (es.eraseIdxIfInBounds j).toList = es.toList.eraseIdx j := by simp [Array.eraseIdxIfInBounds, hjs]
    refine ⟨.map (es.eraseIdxIfInBounds j) clock, ⟨es, clock, hb⟩, ?_, _, _, heap_setBlock_same hb _, ?_, ?_, ?_⟩
    · simp [Builtin.delete_, run_underlying Try.underlying49, MapKept.run_getObj_map hb, run_checkKey Try.underlying2 (isKey k), run_findKey Try.underlying2 h1, MapKept.run_setObj_map _ hb, Result.andThen, setBlock]
    · intro e he
      rw [hlist] at he
      exact hk e (List.mem_of_mem_eraseIdx he)
    · rw [hlist]
      exact hp.sublist (List.eraseIdx_sublist ..)
    · intro x u
      rw [hlist]
      unfold delF
      have hmem : ∀ e, e ∈ es.toList.eraseIdx j ↔ e ∈ es.toList ∧ e.key ≠ .int .i64 k := by
        intro e
        constructor
        · intro he
          refine ⟨List.mem_of_mem_eraseIdx he, fun hek => ?_⟩
          obtain ⟨i, hne, hi⟩ := List.mem_eraseIdx_iff_getElem?.1 he
          have hil := (List.getElem?_eq_some_iff.1 hi).1
          have hig : es.toList[i]'hil = e := (List.getElem?_eq_some_iff.1 hi).2
          rcases Nat.lt_trichotomy i j with hlt | heq | hgt
          · have := (List.pairwise_iff_getElem.1 hp) i j hil hjl hlt
            rw [hig, hge, hek, h3] at this
            exact absurd rfl this
          · exact absurd heq hne
          · have := (List.pairwise_iff_getElem.1 hp) j i hjl hil hgt
            rw [hig, hge, hek, h3] at this
            exact absurd rfl this
        · rintro ⟨he, hek⟩
          obtain ⟨i, hi, ex⟩ := List.getElem_of_mem he
          refine List.mem_eraseIdx_iff_getElem?.2 ⟨i, fun h => ?_, by rw [List.getElem?_eq_getElem hi, ex]⟩
          subst h
          rw [hge] at ex
          subst ex
          exact absurd h3 hek
      simp only [hmem]
      by_cases hx : x = k
      · subst hx
        rw [if_pos rfl]
        refine ⟨fun h => (by cases h), ?_⟩
        rintro ⟨e, ⟨_, h4⟩, h5, _⟩
        exact absurd h5 h4
      · rw [if_neg hx, hf]
        constructor
        · rintro ⟨e, he, h4, h5⟩
          refine ⟨e, ⟨he, fun h6 => hx ?_⟩, h4, h5⟩
          rw [h6] at h4
          simpa using h4.symm
        · rintro ⟨e, ⟨he, _⟩, h5, h6⟩
          exact ⟨e, he, h5, h6⟩

/-- But for the blocks of X the old blocks are as they were. -/
structure But (X : List Nat) (w w' : World) : Prop where
  os : w'.os = w.os
  tape : w'.tape = w.tape
  output : w'.output = w.output
  size : w.heap.size ≤ w'.heap.size
  block : ∀ k, k < w.heap.size → k ∉ X → w'.heap[k]? = w.heap[k]?

theorem But.refl (X : List Nat) (w : World) : But X w w := ⟨rfl, rfl, rfl, Nat.le_refl _, fun _ _ _ => rfl⟩
theorem But.trans {X : List Nat} {a b c : World} (h : But X a b) (k : But X b c) : But X a c :=
  ⟨k.os.trans h.os, k.tape.trans h.tape, k.output.trans h.output, Nat.le_trans h.size k.size, fun i hi hx => (k.block i (Nat.lt_of_lt_of_le hi h.size) hx).trans (h.block i hi hx)⟩
theorem But.mono {X Y : List Nat} {a b : World} (h : But X a b) (hs : ∀ x ∈ X, x ∈ Y ∨ a.heap.size ≤ x) : But Y a b :=
  ⟨h.os, h.tape, h.output, h.size, fun i hi hx => h.block i hi fun hm => (hs i hm).elim hx fun h => by omega⟩
theorem But.drew {X : List Nat} {a w : World} (h : But X a w) : But X a w.drew := ⟨h.os, h.tape, h.output, h.size, h.block⟩
theorem But.alloc {X : List Nat} {a w : World} (h : But X a w) (o : Obj) : But X a (w.alloc o) :=
  h.trans ⟨rfl, rfl, rfl, by simp, fun k hk _ => Below.heap_alloc _ _ _ hk⟩
theorem But.setCell {X : List Nat} {a w : World} (h : But X a w) {p : Addr} (hp : p.block ∈ X ∨ a.heap.size ≤ p.block) (u : Value) : But X a (w.setCell p u) :=
  ⟨h.os, h.tape, h.output, by simpa [World.setCell] using h.size, fun k hk hx => by
    rw [Below.heap_setCell _ _ _ _ (fun e => ?_)]
    · exact h.block k hk hx
    · subst e; exact hp.elim hx fun h => by omega⟩
theorem But.cell {X : List Nat} {w w' : World} (h : But X w w') {p : Addr} (hp : p.block < w.heap.size) (hx : p.block ∉ X) : w'.cell? p = w.cell? p := World.cell?_of_block (w := w) (h.block p.block hp hx)
theorem But.frozen {X : List Nat} {w w' : World} (h : But X w w') {p : Addr} (hp : p.block < w.heap.size) (hx : p.block ∉ X) : w'.frozen? p = w.frozen? p := World.frozen?_of_block (w := w) (h.block p.block hp hx)
theorem But.below {X : List Nat} {w w' : World} (h : But X w w') {B : Nat} (hB : B ≤ w.heap.size) (hx : ∀ x ∈ X, B ≤ x) : Below B w w' :=
  ⟨h.os, h.tape, h.output, h.size, fun k hk => h.block k (by omega) fun hm => by have := hx k hm; omega⟩
theorem But.keepsMap {X : List Nat} {w w' : World} {b : Nat} {f : Int → Option Value} (h : But X w w') (hx : b ∉ X) (hm : MapIs w b f) : MapIs w' b f := hm.congr (h.block b hm.lt hx)

theorem But.setBlock {w : World} (b : Nat) (o : Obj) (h : ∃ es clock, w.heap[b]? = some (.map es clock)) : But [b] w (setBlock w b o) := by
  obtain ⟨es, clock, hb⟩ := h
  refine ⟨rfl, rfl, rfl, by simp [Go.ChangeMaps.setBlock], fun k _ hx => heap_setBlock_other hb _ (fun e => hx (by simp [e]))⟩

/-- 'm[k] = v', in one word. -/
theorem MapIs.putW {w : World} {b : Nat} {f : Int → Option Value} (h : MapIs w b f) (k : Int) (v : Value) :
    (Instr.mapUpdate 49 (.map (some b)) (.int .i64 k) v).run Try.prog w = .ok () (putW Try.prog w b k v) ∧ MapIs (putW Try.prog w b k v) b (putF f k v) ∧ But [b] w (putW Try.prog w b k v) := by
  obtain ⟨o, he, hrun, hm⟩ := h.put k v
  have e : Qxb6604779a.putW Try.prog w b k v = Go.ChangeMaps.setBlock w b o := by unfold Qxb6604779a.putW; rw [hrun]
  rw [e]
  exact ⟨hrun, hm, But.setBlock b o he⟩
theorem MapIs.delW {w : World} {b : Nat} {f : Int → Option Value} (h : MapIs w b f) (k : Int) :
    (∀ ty, (Builtin.delete_ #[49, 2] ty #[.map (some b), .int .i64 k]).run Try.prog w = .ok (.tuple #[]) (delW Try.prog w b k)) ∧ MapIs (delW Try.prog w b k) b (delF f k) ∧ But [b] w (delW Try.prog w b k) := by
  obtain ⟨o, he, hrun, hm⟩ := h.del 0 k
  have e : Qxb6604779a.delW Try.prog w b k = Go.ChangeMaps.setBlock w b o := by unfold Qxb6604779a.delW; rw [hrun]
  rw [e]
  exact ⟨fun ty => hrun, hm, But.setBlock b o he⟩

/-- A note. -/
structure Note where
  (l z e r s f : Int)
/-- .. as the program holds it. -/
def noteV (l z e r s f : Int) : Value := .agg #[.int .i64 l, .int .i64 z, .int .i64 e, .int .i64 r, .int .i32 s, .int .i64 f]
def Note.val (n : Note) : Value := noteV n.l n.z n.e n.r n.s n.f

/-- A map of notes. -/
def MapN (w : World) (b : Nat) (V : Int → Option Note) : Prop := MapIs w b (fun k => (V k).map Note.val)
def putN (V : Int → Option Note) (k : Int) (n : Note) (x : Int) : Option Note := if x = k then some n else V x
def delN (V : Int → Option Note) (k : Int) (x : Int) : Option Note := if x = k then none else V x
theorem MapN.put {w : World} {b : Nat} {V : Int → Option Note} (h : MapN w b V) (k l z e r s f : Int) :
    (Instr.mapUpdate 49 (.map (some b)) (.int .i64 k) (noteV l z e r s f)).run Try.prog w = .ok () (putW Try.prog w b k (noteV l z e r s f)) ∧ MapN (putW Try.prog w b k (noteV l z e r s f)) b (putN V k ⟨l, z, e, r, s, f⟩) ∧ But [b] w (putW Try.prog w b k (noteV l z e r s f)) := by
  obtain ⟨h1, h2, h3⟩ := MapIs.putW h k (noteV l z e r s f)
  refine ⟨h1, ?_, h3⟩
  have e : (fun x => (putN V k ⟨l, z, e, r, s, f⟩ x).map Note.val) = putF (fun k => (V k).map Note.val) k (noteV l z e r s f) := by
    funext x
    unfold putN putF
    split <;> rfl
  unfold MapN
  rw [e]
  exact h2
theorem MapN.del {w : World} {b : Nat} {V : Int → Option Note} (h : MapN w b V) (k : Int) :
    (∀ ty, (Builtin.delete_ #[49, 2] ty #[.map (some b), .int .i64 k]).run Try.prog w = .ok (.tuple #[]) (delW Try.prog w b k)) ∧ MapN (delW Try.prog w b k) b (delN V k) ∧ But [b] w (delW Try.prog w b k) := by
  obtain ⟨h1, h2, h3⟩ := MapIs.delW h k
  refine ⟨h1, ?_, h3⟩
  have e : (fun x => (delN V k x).map Note.val) = delF (fun k => (V k).map Note.val) k := by
    funext x
    unfold delN delF
    split <;> rfl
  unfold MapN
  rw [e]
  exact h2
theorem zero58 (w : World) : (zeroValue 58).run Try.prog w = .ok (noteV 0 0 0 0 0 0) w := by
  have hz : (Try.prog.info? 58).map (fun i => i.zero) = some (some (noteV 0 0 0 0 0 0)) := by kernel_rfl
  cases hi : Try.prog.info? 58 with
  | none => rw [hi] at hz; cases hz
  | some i =>
    rw [hi] at hz
    simp at hz
    simp [zeroValue, typeInfo, hi, hz, Result.andThen]
/-- What a look-up finds. -/
def found (o : Option Note) : Note := o.getD ⟨0, 0, 0, 0, 0, 0⟩
theorem MapN.look {w : World} {b : Nat} {V : Int → Option Note} (h : MapN w b V) (k : Int) :
    (Instr.lookup 49 (.map (some b)) (.int .i64 k) true).run Try.prog w = .ok (.tuple #[.agg #[.int .i64 (found (V k)).l, .int .i64 (found (V k)).z, .int .i64 (found (V k)).e, .int .i64 (found (V k)).r, .int .i32 (found (V k)).s, .int .i64 (found (V k)).f], .bool (V k).isSome]) w := by
  rw [MapIs.look h _ (zero58 w) k]
  cases V k <;> rfl

/-- The election at block E. -/
structure Elec (w : World) (E bv bs : Nat) (me size ol oz oe r pl pz pe : Int) (V S : Int → Option Note) : Prop where
  blk : w.heap[E]? = some (.cells #[.int .i64 me, .int .i64 size, .int .i64 ol, .int .i64 oz, .int .i64 oe, .int .i64 r, .int .i64 pl, .int .i64 pz, .int .i64 pe, .map (some bv), .map (some bs)] 51 (0, 0))
  v : MapN w bv V
  s : MapN w bs S
  ne : bv ≠ bs
end Go.Proofs.Qxb6604779a
