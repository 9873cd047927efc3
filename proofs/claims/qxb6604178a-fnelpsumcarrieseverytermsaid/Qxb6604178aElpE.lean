/-
  The series as data: what was handed in, what was built.
-/
import Derived.Test.Qxb6604178aElpD
namespace Go.Proofs.Qxb6604178a.Elp
open Go.RowKit Fl

/-- A main term. -/
structure MT where
  (m : Nat → Int)
  (a : Nat)
/-- A perturbation. -/
structure PT where
  (m : Nat → Int)
  (a ph : Nat)
def cellsM (t : MT) : List Value := [.int .i8 (t.m 0), .int .i8 (t.m 1), .int .i8 (t.m 2), .int .i8 (t.m 3), .float .f64 t.a]
def cellsP (t : PT) : List Value := [.int .i8 (t.m 0), .int .i8 (t.m 1), .int .i8 (t.m 2), .int .i8 (t.m 3), .int .i8 (t.m 4), .int .i8 (t.m 5), .int .i8 (t.m 6), .int .i8 (t.m 7), .int .i8 (t.m 8), .int .i8 (t.m 9), .int .i8 (t.m 10), .int .i8 (t.m 11), .int .i8 (t.m 12), .float .f64 t.a, .float .f64 t.ph]
/-- The cells lie there. -/
def At (w : World) (b o : Nat) (cs : List Value) : Prop := ∀ j v, cs[j]? = some v → w.cell? ⟨b, o + j, none⟩ = some v
def Mains (w : World) (a : Option Addr) (len : Nat) (T : Nat → MT) : Prop := 0 < len → ∃ b off, a = some ⟨b, off, none⟩ ∧ ∀ i, i < len → At w b (off + i * 5) (cellsM (T i))
def Row (w : World) (a : Option Addr) (len : Nat) (R : Nat → PT) : Prop := 0 < len → ∃ b off, a = some ⟨b, off, none⟩ ∧ ∀ i, i < len → At w b (off + i * 15) (cellsP (R i))
def Perts (w : World) (a : Option Addr) (K : Nat) (L : Nat → Nat) (R : Nat → Nat → PT) : Prop := 0 < K → ∃ b off, a = some ⟨b, off, none⟩ ∧ ∀ k, k < K → ∃ ak ck, w.cell? ⟨b, off + k, none⟩ = some (.slice ak (L k) ck) ∧ Row w ak (L k) (R k)

theorem At.later {w w' : World} {B b o : Nat} {cs : List Value} (h : At w b o cs) (hb : Below B w w') (hlt : b < B) : At w' b o cs := fun j v hv => (hb.cell (p := ⟨b, o + j, none⟩) hlt).trans (h j v hv)
theorem At.lt {w : World} {b o : Nat} {cs : List Value} (h : At w b o cs) (hn : 0 < cs.length) : b < w.heap.size := World.block_lt_of_cell? w _ (h 0 _ (List.getElem?_eq_getElem hn))
theorem Mains.later {w w' : World} {a : Option Addr} {len : Nat} {T : Nat → MT} (h : Mains w a len T) (hb : Below w.heap.size w w') : Mains w' a len T := fun h0 => by
  obtain ⟨b, off, ha, hc⟩ := h h0
  exact ⟨b, off, ha, fun i hi => (hc i hi).later hb ((hc i hi).lt (by simp [cellsM]))⟩
theorem Row.later {w w' : World} {a : Option Addr} {len : Nat} {R : Nat → PT} (h : Row w a len R) (hb : Below w.heap.size w w') : Row w' a len R := fun h0 => by
  obtain ⟨b, off, ha, hc⟩ := h h0
  exact ⟨b, off, ha, fun i hi => (hc i hi).later hb ((hc i hi).lt (by simp [cellsP]))⟩
theorem Perts.later {w w' : World} {a : Option Addr} {K : Nat} {L : Nat → Nat} {R : Nat → Nat → PT} (h : Perts w a K L R) (hb : Below w.heap.size w w') : Perts w' a K L R := fun h0 => by
  obtain ⟨b, off, ha, hc⟩ := h h0
  refine ⟨b, off, ha, fun k hk => ?_⟩
  obtain ⟨ak, ck, h1, h2⟩ := hc k hk
  exact ⟨ak, ck, (hb.cell (p := ⟨b, off + k, none⟩) (World.block_lt_of_cell? w _ h1)).trans h1, h2.later hb⟩

def flatM (T : Nat → MT) : Nat → List Value
  | 0 => []
  | n + 1 => flatM T n ++ cellsM (T n)
def flatP (R : Nat → PT) : Nat → List Value
  | 0 => []
  | n + 1 => flatP R n ++ cellsP (R n)
theorem flatM_len (T : Nat → MT) : ∀ n, (flatM T n).length = n * 5
  | 0 => rfl
  | n + 1 => by rw [flatM, List.length_append, flatM_len T n]; simp [cellsM]; omega
theorem flatP_len (R : Nat → PT) : ∀ n, (flatP R n).length = n * 15
  | 0 => rfl
  | n + 1 => by rw [flatP, List.length_append, flatP_len R n]; simp [cellsP]; omega
theorem flatM_at (T : Nat → MT) : ∀ {n i j : Nat}, i < n → j < 5 → (flatM T n)[i * 5 + j]? = (cellsM (T i))[j]?
  | n + 1, i, j, hi, hj => by
    rw [flatM]
    by_cases h : i < n
    · rw [List.getElem?_append_left (by rw [flatM_len]; omega)]
      exact flatM_at T h hj
    · obtain rfl : i = n := by omega
      rw [List.getElem?_append_right (by rw [flatM_len]; omega), flatM_len]
      congr 1
      omega
theorem flatP_at (R : Nat → PT) : ∀ {n i j : Nat}, i < n → j < 15 → (flatP R n)[i * 15 + j]? = (cellsP (R i))[j]?
  | n + 1, i, j, hi, hj => by
    rw [flatP]
    by_cases h : i < n
    · rw [List.getElem?_append_left (by rw [flatP_len]; omega)]
      exact flatP_at R h hj
    · obtain rfl : i = n := by omega
      rw [List.getElem?_append_right (by rw [flatP_len]; omega), flatP_len]
      congr 1
      omega

/-- The series that was built. -/
structure SerIs (w : World) (B S n : Nat) (T : Nat → MT) (K : Nat) (L : Nat → Nat) (R : Nat → Nat → PT) (vm vp : Value) (rows : List Value) : Prop where
  s : w.heap[S]? = some (.cells #[vm, vp] 79)
  le : B ≤ S
  sz : B ≤ w.heap.size
  m : w.ownsRow B 81 5 vm n (flatM T n)
  p : w.ownsRow B 84 1 vp K rows
  r : ∀ k, k < K → ∃ v, rows[k]? = some v ∧ w.ownsRow B 86 15 v (L k) (flatP (R k) (L k))
  apart : ∀ i j v v', i < j → j < K → rows[i]? = some v → rows[j]? = some v' → ∀ g, v.ownBlock = some g → v'.ownBlock ≠ some g
def SerAt (w : World) (B S n : Nat) (T : Nat → MT) (K : Nat) (L : Nat → Nat) (R : Nat → Nat → PT) : Prop := ∃ vm vp rows, SerIs w B S n T K L R vm vp rows

theorem rows_len {w : World} {B K : Nat} {v : Value} {xs : List Value} (h : w.ownsRow B 84 1 v K xs) : xs.length = K := by
  have := h.1
  omega

theorem SerAt.main {w : World} {B S n : Nat} {T : Nat → MT} {K : Nat} {L : Nat → Nat} {R : Nat → Nat → PT} (h : SerAt w B S n T K L R) (hn : n < 1048576) :
    Calls Try.prog 29 #[.pointer (some ⟨S, 0, none⟩), .agg #[.int .i8 ((T n).m 0), .int .i8 ((T n).m 1), .int .i8 ((T n).m 2), .int .i8 ((T n).m 3)], .float .f64 (T n).a] w
    fun x w' => x = .returned (.tuple #[]) ∧ SerAt w' B S (n + 1) T K L R ∧ Below B w w' := by
  obtain ⟨vm, vp, rows, h⟩ := h
  refine (addMain_any B S n vm vp _ _ _ _ _ _ w h.s h.m h.sz hn).mono ?_
  rintro x w' ⟨rfl, g, cap, h1, h2, hb⟩
  refine ⟨rfl, ⟨_, vp, rows, h1, h.le, Nat.le_trans h.sz hb.size, h2, own_but h.p hb ?_, fun k hk => ?_, h.apart⟩, hb.below h.sz ?_⟩
  · intro g' hg' hm
    simp only [List.mem_cons, Option.mem_toList] at hm
    rcases hm with rfl | hm
    · exact own_ne h.p h.s (by decide) _ hg' rfl
    · obtain ⟨cur, hc⟩ := own_tag h.m hm
      exact own_ne h.p hc (by decide) _ hg' rfl
  · obtain ⟨v, hv, ho⟩ := h.r k hk
    refine ⟨v, hv, own_but ho hb ?_⟩
    intro g' hg' hm
    simp only [List.mem_cons, Option.mem_toList] at hm
    rcases hm with rfl | hm
    · exact own_ne ho h.s (by decide) _ hg' rfl
    · obtain ⟨cur, hc⟩ := own_tag h.m hm
      exact own_ne ho hc (by decide) _ hg' rfl
  · intro x hx
    simp only [List.mem_cons, Option.mem_toList] at hx
    rcases hx with rfl | hx
    · exact h.le
    · exact (h.m.lt _ hx).1

theorem SerAt.power {w : World} {B S n : Nat} {T : Nat → MT} {K : Nat} {L : Nat → Nat} {R : Nat → Nat → PT} (h : SerAt w B S n T K L R) (hn : K < 1048576) :
    Calls Try.prog 30 #[.pointer (some ⟨S, 0, none⟩)] w
    fun x w' => x = .returned (.tuple #[]) ∧ SerAt w' B S n T (K + 1) (fun k => if k = K then 0 else L k) R ∧ Below B w w' := by
  obtain ⟨vm, vp, rows, h⟩ := h
  refine (addPower_any B S K vm vp rows w h.s h.p h.sz hn).mono ?_
  rintro x w' ⟨rfl, g, cap, g0, h1, h2, h3, hg0, hb⟩
  have hl := rows_len h.p
  refine ⟨rfl, ⟨vm, _, _, h1, h.le, Nat.le_trans h.sz hb.size, own_but h.m hb ?_, h2, fun k hk => ?_, ?_⟩, hb.below h.sz ?_⟩
  · intro g' hg' hm
    simp only [List.mem_cons, Option.mem_toList] at hm
    rcases hm with rfl | hm
    · exact own_ne h.m h.s (by decide) _ hg' rfl
    · obtain ⟨cur, hc⟩ := own_tag h.p hm
      exact own_ne h.m hc (by decide) _ hg' rfl
  · by_cases e : k = K
    · subst e
      exact ⟨_, by rw [List.getElem?_append_right (by omega)]; simp [hl]; rfl, by simpa [flatP] using h3⟩
    · obtain ⟨v, hv, ho⟩ := h.r k (by omega)
      refine ⟨v, by rw [List.getElem?_append_left (by omega)]; exact hv, ?_⟩
      simp only [if_neg e]
      refine own_but ho hb ?_
      intro g' hg' hm
      simp only [List.mem_cons, Option.mem_toList] at hm
      rcases hm with rfl | hm
      · exact own_ne ho h.s (by decide) _ hg' rfl
      · obtain ⟨cur, hc⟩ := own_tag h.p hm
        exact own_ne ho hc (by decide) _ hg' rfl
  · intro i j v v' hij hj hv hv' g' hg' hg''
    by_cases e : j = K
    · subst e
      rw [List.getElem?_append_right (by omega)] at hv'
      simp [hl] at hv'
      subst hv'
      simp [Value.ownBlock] at hg''
      subst hg''
      rw [List.getElem?_append_left (by omega)] at hv
      obtain ⟨v2, hv2, ho⟩ := h.r i (by omega)
      rw [hv] at hv2
      cases hv2
      have := (ho.lt _ hg').2
      omega
    · rw [List.getElem?_append_left (by omega)] at hv hv'
      exact h.apart i j v v' hij (by omega) hv hv' g' hg' hg''
  · intro x hx
    simp only [List.mem_cons, Option.mem_toList] at hx
    rcases hx with rfl | hx
    · exact h.le
    · exact (h.p.lt _ hx).1

/-- One perturbation into the last power. -/
theorem SerAt.pert {w : World} {B S n : Nat} {T : Nat → MT} {K : Nat} {L : Nat → Nat} {R : Nat → Nat → PT} (h : SerAt w B S n T (K + 1) L R) (hn : L K < 1048576) :
    Calls Try.prog 31 #[.pointer (some ⟨S, 0, none⟩), .int .i64 K, .agg #[.int .i8 ((R K (L K)).m 0), .int .i8 ((R K (L K)).m 1), .int .i8 ((R K (L K)).m 2), .int .i8 ((R K (L K)).m 3), .int .i8 ((R K (L K)).m 4), .int .i8 ((R K (L K)).m 5), .int .i8 ((R K (L K)).m 6), .int .i8 ((R K (L K)).m 7), .int .i8 ((R K (L K)).m 8), .int .i8 ((R K (L K)).m 9), .int .i8 ((R K (L K)).m 10), .int .i8 ((R K (L K)).m 11), .int .i8 ((R K (L K)).m 12)], .float .f64 (R K (L K)).a, .float .f64 (R K (L K)).ph] w
    fun x w' => x = .returned (.tuple #[]) ∧ SerAt w' B S n T (K + 1) (fun k => if k = K then L K + 1 else L k) R ∧ Below B w w' := by
  obtain ⟨vm, vp, rows, h⟩ := h
  obtain ⟨gp, capp, rfl, _, _⟩ := h.p.form (by omega)
  obtain ⟨v, hv, ho⟩ := h.r K (by omega)
  have hl := rows_len h.p
  refine (addPert_any B S (K + 1) K (L K) gp capp vm v rows _ (R K (L K)).m _ _ w h.s h.p (by omega) hv ho h.sz hn).mono ?_
  rintro x w' ⟨rfl, g, cap, h1, h2, h3, hat, hb⟩
  refine ⟨rfl, ⟨vm, _, _, h1, h.le, Nat.le_trans h.sz hb.size, own_but h.m hb ?_, h2, fun k hk => ?_, ?_⟩, hb.below h.sz ?_⟩
  · intro g' hg' hm
    simp only [List.mem_cons, Option.mem_toList] at hm
    rcases hm with rfl | hm
    · obtain ⟨cur, hc⟩ := own_tag h.p (g := g') rfl
      exact own_ne h.m hc (by decide) _ hg' rfl
    · obtain ⟨cur, hc⟩ := own_tag ho hm
      exact own_ne h.m hc (by decide) _ hg' rfl
  · by_cases e : k = K
    · subst e
      exact ⟨_, by rw [List.getElem?_set_self (by omega)], by simpa [flatP, cellsP] using h3⟩
    · obtain ⟨u, hu, hou⟩ := h.r k hk
      refine ⟨u, by rw [List.getElem?_set_ne (fun e' => e e'.symm)]; exact hu, ?_⟩
      simp only [if_neg e]
      refine own_but hou hb ?_
      intro g' hg' hm
      simp only [List.mem_cons, Option.mem_toList] at hm
      rcases hm with rfl | hm
      · obtain ⟨cur, hc⟩ := own_tag h.p (g := g') rfl
        exact own_ne hou hc (by decide) _ hg' rfl
      · exact h.apart k K u v (by omega) (by omega) hu hv g' hg' hm
  · intro i j u u' hij hj hu hu' g' hg' hg''
    by_cases e : j = K
    · subst e
      rw [List.getElem?_set_self (by omega)] at hu'
      rw [List.getElem?_set_ne (by omega)] at hu
      cases hu'
      simp [Value.ownBlock] at hg''
      subst hg''
      rcases hat with hat | hat
      · exact h.apart i j u v hij hj hu hv _ hg' hat
      · obtain ⟨u2, hu2, hou⟩ := h.r i (by omega)
        rw [hu] at hu2
        cases hu2
        have := (hou.lt _ hg').2
        omega
    · rw [List.getElem?_set_ne (by omega)] at hu hu'
      exact h.apart i j u u' hij hj hu hu' g' hg' hg''
  · intro x hx
    simp only [List.mem_cons, Option.mem_toList] at hx
    rcases hx with rfl | hx
    · exact (h.p.lt _ rfl).1
    · exact (ho.lt _ hx).1
end Go.Proofs.Qxb6604178a.Elp
