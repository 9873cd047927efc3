/-
  The arguments opened: rows of terms, rows of rows, arrays of polynomials.
-/
import Derived.Test.Qxb6604178aElpM
import Derived.ProofKit
import Derived.OpenShut
import Derived.ShutString
import Derived.ChangeOld
import Derived.Below
import Derived.Deep.Slices
namespace Go.Proofs.Qxb6604178a.Elp
open Go.ChangeShapes Go.WideShapes Go.ChangeAt Go.RowKit Go.Deep

theorem cells24 : Try.prog.cellsOf 24 = 1 := by kernel_rfl
theorem cells25 : Try.prog.cellsOf 25 = 6 := by kernel_rfl
theorem cells26 : Try.prog.cellsOf 26 = 78 := by kernel_rfl
theorem cells41 : Try.prog.cellsOf 41 = 1 := by kernel_rfl
theorem cells42 : Try.prog.cellsOf 42 = 4 := by kernel_rfl
theorem cells44 : Try.prog.cellsOf 44 = 5 := by kernel_rfl
theorem cells48 : Try.prog.cellsOf 48 = 1 := by kernel_rfl
theorem cells49 : Try.prog.cellsOf 49 = 13 := by kernel_rfl
theorem cells51 : Try.prog.cellsOf 51 = 15 := by kernel_rfl
theorem cells53 : Try.prog.cellsOf 53 = 54 := by kernel_rfl

section
variable {H : Type} {enc : TypeId × Value → H} {w : World} {base : Nat} {spare : Nat → Bool} {held : Bool}

/-- A row of whatever elements, by its cells. -/
theorem open_cells {P : Program} {t e : TypeId} {c fuel : Nat} {a : Option Addr} {len cap : Nat} {x : DataW H × List MemPlace} (ht : P.underlying t = some (.slice e)) (hc : P.cellsOf e = c) (h0 : 0 < c)
    (hf : DataW.trod enc P w base spare held fuel t [.slice a len cap] = some x) :
    0 < len → ∃ b off, a = some ⟨b, off, none⟩ ∧ ∀ i, i < len → ∃ n cs x, cs.length = c ∧ (∀ j, j < c → w.cell? ⟨b, off + i * c + j, none⟩ = cs[j]?) ∧ DataW.trod enc P w base spare held n e cs = some x := by
  intro hl
  rcases open_slice ht hf with ⟨hcs, _⟩ | ⟨a', len', cap', m, n, D, Pl, hcs, _, hle, _, hm, _, hx⟩
  · simp at hcs
    omega
  · simp at hcs
    obtain ⟨rfl, rfl, rfl⟩ := hcs
    have hlm : len ≤ m := by rw [hm]; split <;> omega
    rw [hc] at hx
    have hspot : a'.spot = none := by
      obtain ⟨cs', h1, _⟩ := hx 0 (by omega)
      obtain ⟨_, hlen, hcell⟩ := World.cells?_some h1
      have h2 := hcell 0 h0
      rw [List.getElem?_eq_getElem (by omega)] at h2
      have := World.cell?_spot h2
      simpa [Addr.add] using this
    obtain ⟨b, off, spot⟩ := a'
    simp only at hspot
    subst hspot
    refine ⟨b, off, rfl, fun i hi => ?_⟩
    obtain ⟨cs', h1, h2⟩ := hx i (by omega)
    obtain ⟨_, hlen, hcell⟩ := World.cells?_some h1
    refine ⟨n, cs', _, hlen, fun j hj => ?_, h2⟩
    rw [← hcell j hj, add_add, add_plain, Nat.add_assoc]
theorem cell_float {P : Program} {t : TypeId} {k : FloatKind} {n : Nat} {cs : List Value} {y : DataW H × List MemPlace} (ht : P.underlying t = some (.float k)) (h : DataW.trod enc P w base spare held n t cs = some y) : ∃ b, cs = [.float k b] := by
  cases n with
  | zero => simp [DataW.trod] at h
  | succ n =>
    unfold DataW.trod at h
    rw [ht] at h
    split at h <;> simp_all
theorem slice_form {P : Program} {t e : TypeId} {n : Nat} {cs : List Value} {y : DataW H × List MemPlace} (ht : P.underlying t = some (.slice e)) (h : DataW.trod enc P w base spare held n t cs = some y) : ∃ a l c, cs = [.slice a l c] := by
  rcases open_slice ht h with ⟨hcs, _⟩ | ⟨a', len', cap', m, n, D, Pl, hcs, _⟩
  · exact ⟨_, _, _, hcs⟩
  · exact ⟨_, _, _, hcs⟩
theorem part_get {α : Type} (cs : List α) (o c j : Nat) (hj : j < c) : ((cs.drop o).take c)[j]? = cs[o + j]? := by
  rw [List.getElem?_take, if_pos hj, List.getElem?_drop]

/-- An array of small integers. -/
theorem ints_of {t : TypeId} {N fuel : Nat} {cs : List Value} {x : DataW H × List MemPlace} (ht : Try.prog.underlying t = some (.array N 41)) (h : DataW.trod enc Try.prog w base spare held fuel t cs = some x) :
    ∃ m : Nat → Int, ∀ i, i < N → cs[i]? = some (.int .i8 (m i)) := by
  obtain ⟨xs, n, _, _, _, hlen, hf⟩ := DataW.trod_array ht h
  refine choose_lt (α := Int) (p := fun i m => cs[i]? = some (.int .i8 m)) (fun i hi => ?_)
  have h1 := hf i hi
  rw [cells41, Nat.mul_one, List.getElem?_eq_getElem (by omega)] at h1
  obtain ⟨k, hk, _⟩ := DataW.trod_int Try.underlying41 h1
  refine ⟨k, ?_⟩
  have := part_get cs i 1 0 (by omega)
  rw [hk] at this
  simpa using this.symm
theorem floats_of {fuel : Nat} {cs : List Value} {x : DataW H × List MemPlace} (h : DataW.trod enc Try.prog w base spare held fuel 25 cs = some x) :
    ∃ f : Nat → Nat, ∀ j, j < 6 → cs[j]? = some (.float .f64 (f j)) := by
  obtain ⟨xs, n, _, _, _, hlen, hf⟩ := DataW.trod_array Try.underlying25 h
  refine choose_lt (α := Nat) (p := fun i m => cs[i]? = some (.float .f64 m)) (fun i hi => ?_)
  have h1 := hf i hi
  rw [cells24, Nat.mul_one, List.getElem?_eq_getElem (by omega)] at h1
  obtain ⟨k, hk⟩ := cell_float Try.underlying24 h1
  refine ⟨k, ?_⟩
  have := part_get cs i 1 0 (by omega)
  rw [hk] at this
  simpa using this.symm
theorem open_arr {r : Reach} {b0 : Nat} {t : TypeId} {N : Nat} {v : Value} {d : DataW H} {p : List MemPlace} (ht : Try.prog.underlying t = some (.array N 25)) (hct : Try.prog.cellsOf t = N * 6) (hv : Value.okWide Try.prog w r b0 t v) (h : DataW.Trod enc Try.prog w base spare held t v d p) :
    ∃ cs X, v = .agg cs ∧ Arr cs N X := by
  obtain ⟨cs, rfl, hsz⟩ : ∃ cs, v = .agg cs ∧ cs.size = Try.prog.cellsOf t := by
    simp only [Value.okWide, ht] at hv
    obtain ⟨cs, h1, h2, _⟩ := hv
    exact ⟨cs, h1, h2⟩
  obtain ⟨fuel, hf⟩ := h
  obtain ⟨xs, n, _, _, _, hlen, hf⟩ := DataW.trod_array ht hf
  have : ∀ i, i < N → ∃ f : Nat → Nat, ∀ j, j < 6 → cs[i * 6 + j]? = some (.float .f64 (f j)) := fun i hi => by
    have h1 := hf i hi
    rw [cells25, List.getElem?_eq_getElem (by omega)] at h1
    obtain ⟨f, hf⟩ := floats_of h1
    refine ⟨f, fun j hj => ?_⟩
    have := hf j hj
    rw [part_get _ _ _ _ hj] at this
    simpa [Value.cells] using this
  obtain ⟨X, hX⟩ := choose_lt this
  exact ⟨cs, X, rfl, by rw [hsz, hct], fun i j hi hj => hX i hi j hj⟩

theorem list5 {α : Type} : (cs : List α) → cs.length = 5 → ∃ c0 c1 c2 c3 c4, cs = [c0, c1, c2, c3, c4]
  | [c0, c1, c2, c3, c4], _ => ⟨c0, c1, c2, c3, c4, rfl⟩
theorem list15 {α : Type} : (cs : List α) → cs.length = 15 → ∃ c0 c1 c2 c3 c4 c5 c6 c7 c8 c9 c10 c11 c12 c13 c14, cs = [c0, c1, c2, c3, c4, c5, c6, c7, c8, c9, c10, c11, c12, c13, c14]
  | [c0, c1, c2, c3, c4, c5, c6, c7, c8, c9, c10, c11, c12, c13, c14], _ => ⟨c0, c1, c2, c3, c4, c5, c6, c7, c8, c9, c10, c11, c12, c13, c14, rfl⟩

theorem main_of {fuel : Nat} {cs : List Value} {x : DataW H × List MemPlace} (hl : cs.length = 5) (h : DataW.trod enc Try.prog w base spare held fuel 44 cs = some x) : ∃ t : MT, cs = cellsM t := by
  obtain ⟨c0, c1, c2, c3, c4, rfl⟩ := list5 cs hl
  obtain ⟨xs, n, _, _, _, hlen, hf⟩ := DataW.trod_struct Try.underlying44 h
  have g : ∀ i, i < 2 → ∃ y, xs[i]? = some y := fun i hi => ⟨_, List.getElem?_eq_getElem (by rw [hlen]; exact hi)⟩
  have h0 := hf 0 _ rfl
  have h1 := hf 1 _ rfl
  obtain ⟨y0, e0⟩ := g 0 (by omega)
  obtain ⟨y1, e1⟩ := g 1 (by omega)
  rw [e0] at h0
  rw [e1] at h1
  simp [cells42, cells24] at h0 h1
  obtain ⟨m, hm⟩ := ints_of Try.underlying42 h0
  obtain ⟨a, ha⟩ := cell_float Try.underlying24 h1
  have k0 := hm 0 (by omega)
  have k1 := hm 1 (by omega)
  have k2 := hm 2 (by omega)
  have k3 := hm 3 (by omega)
  simp at k0 k1 k2 k3 ha
  subst k0 k1 k2 k3 ha
  exact ⟨⟨m, a⟩, rfl⟩
theorem pert_of {fuel : Nat} {cs : List Value} {x : DataW H × List MemPlace} (hl : cs.length = 15) (h : DataW.trod enc Try.prog w base spare held fuel 51 cs = some x) : ∃ t : PT, cs = cellsP t := by
  obtain ⟨c0, c1, c2, c3, c4, c5, c6, c7, c8, c9, c10, c11, c12, c13, c14, rfl⟩ := list15 cs hl
  obtain ⟨xs, n, _, _, _, hlen, hf⟩ := DataW.trod_struct Try.underlying51 h
  have g : ∀ i, i < 3 → ∃ y, xs[i]? = some y := fun i hi => ⟨_, List.getElem?_eq_getElem (by rw [hlen]; exact hi)⟩
  have h0 := hf 0 _ rfl
  have h1 := hf 1 _ rfl
  have h2 := hf 2 _ rfl
  obtain ⟨y0, e0⟩ := g 0 (by omega)
  obtain ⟨y1, e1⟩ := g 1 (by omega)
  obtain ⟨y2, e2⟩ := g 2 (by omega)
  rw [e0] at h0
  rw [e1] at h1
  rw [e2] at h2
  simp [cells49, cells24] at h0 h1 h2
  obtain ⟨m, hm⟩ := ints_of Try.underlying49 h0
  obtain ⟨a, ha⟩ := cell_float Try.underlying24 h1
  obtain ⟨ph, hp⟩ := cell_float Try.underlying24 h2
  have k0 := hm 0 (by omega)
  have k1 := hm 1 (by omega)
  have k2 := hm 2 (by omega)
  have k3 := hm 3 (by omega)
  have k4 := hm 4 (by omega)
  have k5 := hm 5 (by omega)
  have k6 := hm 6 (by omega)
  have k7 := hm 7 (by omega)
  have k8 := hm 8 (by omega)
  have k9 := hm 9 (by omega)
  have k10 := hm 10 (by omega)
  have k11 := hm 11 (by omega)
  have k12 := hm 12 (by omega)
  simp at k0 k1 k2 k3 k4 k5 k6 k7 k8 k9 k10 k11 k12 ha hp
  subst k0 k1 k2 k3 k4 k5 k6 k7 k8 k9 k10 k11 k12 ha hp
  exact ⟨⟨m, a, ph⟩, rfl⟩

theorem mains_of {fuel : Nat} {a : Option Addr} {len cap : Nat} {x : DataW H × List MemPlace} (hf : DataW.trod enc Try.prog w base spare held fuel 22 [.slice a len cap] = some x) : ∃ T, Mains w a len T := by
  by_cases h0 : 0 < len
  · have inh : Inhabited MT := ⟨⟨fun _ => 0, 0⟩⟩
    obtain ⟨b, off, rfl, hc⟩ := open_cells Try.underlying22 cells44 (by omega) hf h0
    obtain ⟨T, hT⟩ := choose_lt (n := len) (p := fun i t => At w b (off + i * 5) (cellsM t)) (fun i hi => by
      obtain ⟨n, cs, x, hl, hcell, ht⟩ := hc i hi
      obtain ⟨t, rfl⟩ := main_of hl ht
      exact ⟨t, fun j v hv => (hcell j (by rw [← hl]; exact (List.getElem?_eq_some_iff.1 hv).1)).trans hv⟩)
    exact ⟨T, fun _ => ⟨b, off, rfl, hT⟩⟩
  · exact ⟨fun _ => ⟨fun _ => 0, 0⟩, fun h => absurd h h0⟩
theorem row_of {fuel : Nat} {a : Option Addr} {len cap : Nat} {x : DataW H × List MemPlace} (hf : DataW.trod enc Try.prog w base spare held fuel 48 [.slice a len cap] = some x) : ∃ R, Row w a len R := by
  by_cases h0 : 0 < len
  · have inh : Inhabited PT := ⟨⟨fun _ => 0, 0, 0⟩⟩
    obtain ⟨b, off, rfl, hc⟩ := open_cells Try.underlying48 cells51 (by omega) hf h0
    obtain ⟨T, hT⟩ := choose_lt (n := len) (p := fun i t => At w b (off + i * 15) (cellsP t)) (fun i hi => by
      obtain ⟨n, cs, x, hl, hcell, ht⟩ := hc i hi
      obtain ⟨t, rfl⟩ := pert_of hl ht
      exact ⟨t, fun j v hv => (hcell j (by rw [← hl]; exact (List.getElem?_eq_some_iff.1 hv).1)).trans hv⟩)
    exact ⟨T, fun _ => ⟨b, off, rfl, hT⟩⟩
  · exact ⟨fun _ => ⟨fun _ => 0, 0, 0⟩, fun h => absurd h h0⟩
theorem perts_of {fuel : Nat} {a : Option Addr} {len cap : Nat} {x : DataW H × List MemPlace} (hf : DataW.trod enc Try.prog w base spare held fuel 23 [.slice a len cap] = some x) : ∃ L R, Perts w a len L R := by
  by_cases h0 : 0 < len
  · have inh : Inhabited (Nat × (Nat → PT)) := ⟨(0, fun _ => ⟨fun _ => 0, 0, 0⟩)⟩
    obtain ⟨b, off, rfl, hc⟩ := open_cells Try.underlying23 cells48 (by omega) hf h0
    obtain ⟨LR, hLR⟩ := choose_lt (n := len) (p := fun k (lr : Nat × (Nat → PT)) => ∃ ak ck, w.cell? ⟨b, off + k, none⟩ = some (.slice ak lr.1 ck) ∧ Row w ak lr.1 lr.2) (fun k hk => by
      obtain ⟨n, cs, x, hl, hcell, ht⟩ := hc k hk
      obtain ⟨ak, l, ck, rfl⟩ := slice_form Try.underlying48 ht
      obtain ⟨R, hR⟩ := row_of ht
      refine ⟨(l, R), ak, ck, ?_, hR⟩
      have := hcell 0 (by omega)
      simpa using this)
    exact ⟨fun k => (LR k).1, fun k => (LR k).2, fun _ => ⟨b, off, rfl, hLR⟩⟩
  · exact ⟨fun _ => 0, fun _ _ => ⟨fun _ => 0, 0, 0⟩, fun h => absurd h h0⟩

theorem open_mains {r : Reach} {b0 : Nat} {v : Value} {d : DataW H} {p : List MemPlace} (hv : Value.okWide Try.prog w r b0 22 v) (h : DataW.Trod enc Try.prog w base spare held 22 v d p) : ∃ a len cap T, v = .slice a len cap ∧ Mains w a len T := by
  obtain ⟨a, len, cap, rfl⟩ := okWide_slice Try.underlying22 hv
  obtain ⟨fuel, hf⟩ := h
  obtain ⟨T, hT⟩ := mains_of hf
  exact ⟨a, len, cap, T, rfl, hT⟩
theorem open_perts {r : Reach} {b0 : Nat} {v : Value} {d : DataW H} {p : List MemPlace} (hv : Value.okWide Try.prog w r b0 23 v) (h : DataW.Trod enc Try.prog w base spare held 23 v d p) : ∃ a len cap L R, v = .slice a len cap ∧ Perts w a len L R := by
  obtain ⟨a, len, cap, rfl⟩ := okWide_slice Try.underlying23 hv
  obtain ⟨fuel, hf⟩ := h
  obtain ⟨L, R, hR⟩ := perts_of hf
  exact ⟨a, len, cap, L, R, rfl, hR⟩
end
end Go.Proofs.Qxb6604178a.Elp
