/-
  Plain words for float64 arithmetic: total functions on words; the walk's laws for them.
-/
import Derived.Laws.FloatArith
import Derived.WalkKit
import Derived.Deep.Draws
namespace Go.Proofs.Qxb6604178a.Fl

/-- The word stands for a finite number. -/
def fin (x : Nat) : Bool := x % 9223372036854775808 < 9218868437227405312
def fadd (x y : Nat) : Nat := (floatBits .add .f64 x y).getD 0
def fsub (x y : Nat) : Nat := (floatBits .sub .f64 x y).getD 0
def fmul (x y : Nat) : Nat := (floatBits .mul .f64 x y).getD 0
def fdiv (x y : Nat) : Nat := (floatBits .quo .f64 x y).getD 0
def fneg (x : Nat) : Nat := Op.negFloat .f64 x
def flt (x y : Nat) : Bool := FloatKind.f64.format.order x y == some .lt
def fgt (x y : Nat) : Bool := FloatKind.f64.format.order x y == some .gt
def feq (x y : Nat) : Bool := FloatKind.f64.format.order x y == some .eq
def fle (x y : Nat) : Bool := flt x y || feq x y
def fge (x y : Nat) : Bool := fgt x y || feq x y

theorem read_fin {x : Nat} (h : fin x = true) : ∃ s m e, Ieee.double.read x = .number s m e := by
  unfold fin at h
  have h := of_decide_eq_true h
  unfold Ieee.Format.read
  have e1 : Ieee.double.signWeight = 9223372036854775808 := by decide +kernel
  have e2 : Ieee.double.infRung = 9218868437227405312 := by decide +kernel
  dsimp only
  rw [e1, e2]
  by_cases hb : x % 9223372036854775808 < Ieee.double.binade
  · rw [if_pos hb]; exact ⟨_, _, _, rfl⟩
  · rw [if_neg hb, if_pos h]; exact ⟨_, _, _, rfl⟩

theorem add_some {x y : Nat} (hx : fin x = true) (hy : fin y = true) : floatBits .add .f64 x y = some (fadd x y) := by
  obtain ⟨s, m, e, hx⟩ := read_fin hx
  obtain ⟨t, n, f, hy⟩ := read_fin hy
  unfold fadd
  simp only [floatBits, FloatKind.format, Ieee.Format.add, hx, hy, Ieee.Datum.sum, Option.map_some, Option.getD_some]
theorem sub_some {x y : Nat} (hx : fin x = true) (hy : fin y = true) : floatBits .sub .f64 x y = some (fsub x y) := by
  obtain ⟨s, m, e, hx⟩ := read_fin hx
  obtain ⟨t, n, f, hy⟩ := read_fin hy
  unfold fsub
  simp only [floatBits, FloatKind.format, Ieee.Format.sub, hx, hy, Ieee.Datum.sum, Ieee.Datum.opposite, Option.map_some, Option.getD_some]
theorem mul_some {x y : Nat} (hx : fin x = true) (hy : fin y = true) : floatBits .mul .f64 x y = some (fmul x y) := by
  obtain ⟨s, m, e, hx⟩ := read_fin hx
  obtain ⟨t, n, f, hy⟩ := read_fin hy
  unfold fmul
  simp only [floatBits, FloatKind.format, Ieee.Format.mul, hx, hy, Ieee.Datum.product, Option.map_some, Option.getD_some]

/-- A divisor that is a finite number other than zero. -/
def dvs (y : Nat) : Bool := fin y && y % 9223372036854775808 != 0
theorem read_dvs {x : Nat} (h : dvs x = true) : ∃ s m e, m ≠ 0 ∧ Ieee.double.read x = .number s m e := by
  unfold dvs at h
  simp only [Bool.and_eq_true, bne_iff_ne, ne_eq] at h
  obtain ⟨h, h0⟩ := h
  unfold fin at h
  have h := of_decide_eq_true h
  unfold Ieee.Format.read
  have e1 : Ieee.double.signWeight = 9223372036854775808 := by decide +kernel
  have e2 : Ieee.double.infRung = 9218868437227405312 := by decide +kernel
  have e3 : Ieee.double.binade = 4503599627370496 := by decide +kernel
  dsimp only
  rw [e1, e2, e3]
  by_cases hb : x % 9223372036854775808 < 4503599627370496
  · rw [if_pos hb]; exact ⟨_, _, _, h0, rfl⟩
  · rw [if_neg hb, if_pos h]; exact ⟨_, _, _, by omega, rfl⟩
theorem div_some {x y : Nat} (hx : fin x = true) (hy : dvs y = true) : floatBits .quo .f64 x y = some (fdiv x y) := by
  obtain ⟨s, m, e, hx⟩ := read_fin hx
  obtain ⟨t, n, f, h0, hy⟩ := read_dvs hy
  unfold fdiv
  simp only [floatBits, FloatKind.format, Ieee.Format.div, hx, hy, Ieee.Datum.quotient, if_neg h0, Option.map_some, Option.getD_some]

section
variable {P : Program}
theorem run_add {x y : Nat} (hx : fin x = true) (hy : fin y = true) (t : TypeId) (w : World) : (binOp .add t (.float .f64 x) (.float .f64 y)).run P w = .ok (.float .f64 (fadd x y)) w :=
  run_float_arith w .add t .f64 x y _ (add_some hx hy)
theorem run_sub {x y : Nat} (hx : fin x = true) (hy : fin y = true) (t : TypeId) (w : World) : (binOp .sub t (.float .f64 x) (.float .f64 y)).run P w = .ok (.float .f64 (fsub x y)) w :=
  run_float_arith w .sub t .f64 x y _ (sub_some hx hy)
theorem run_mul {x y : Nat} (hx : fin x = true) (hy : fin y = true) (t : TypeId) (w : World) : (binOp .mul t (.float .f64 x) (.float .f64 y)).run P w = .ok (.float .f64 (fmul x y)) w :=
  run_float_arith w .mul t .f64 x y _ (mul_some hx hy)
theorem run_quo {x y : Nat} (hx : fin x = true) (hy : dvs y = true) (t : TypeId) (w : World) : (binOp .quo t (.float .f64 x) (.float .f64 y)).run P w = .ok (.float .f64 (fdiv x y)) w :=
  run_float_arith w .quo t .f64 x y _ (div_some hx hy)
end

@[go_sem] theorem alloc_drewN (w : World) (n : Nat) (o : Obj) : (w.drewN n).alloc o = (w.alloc o).drewN n := rfl
@[go_sem] theorem setCell_drewN (w : World) (n : Nat) (a : Addr) (v : Value) : (w.drewN n).setCell a v = (w.setCell a v).drewN n := by
  unfold World.drewN World.setCell
  split <;> rfl
@[go_sem] theorem run_store_float (P : Program) (w : World) (a : Addr) (m : Mode) (k : FloatKind) (n : Nat) : (store a (.float k n) m).run P w = stored P w a (.float k n) m := run_store P w a _ m rfl
@[go_sem] theorem unary_neg_float (x : Nat) : Op.unary .neg (.float .f64 x) = pure (.float .f64 (fneg x)) := rfl

/-! The program's float constants. -/
theorem fin_one : fin 4607182418800017408 = true := by decide +kernel
theorem fin_two : fin 4611686018427387904 = true := by decide +kernel
theorem dvs_two : dvs 4611686018427387904 = true := by decide +kernel

/-- threePoint. -/
def tp (y0 y1 y2 n : Nat) : Nat :=
  fadd (fadd (fmul y0 (fdiv (fmul n (fsub n 4607182418800017408)) 4611686018427387904))
    (fmul y1 (fmul (fsub 4607182418800017408 n) (fadd 4607182418800017408 n))))
    (fmul y2 (fdiv (fmul n (fadd n 4607182418800017408)) 4611686018427387904))
/-- Every word on threePoint's road is finite. -/
structure TpOk (y0 y1 y2 n : Nat) : Prop where
  hy0 : fin y0 = true
  hy1 : fin y1 = true
  hy2 : fin y2 = true
  hn : fin n = true
  ha1 : fin (fsub n 4607182418800017408) = true
  ha2 : fin (fmul n (fsub n 4607182418800017408)) = true
  ha3 : fin (fdiv (fmul n (fsub n 4607182418800017408)) 4611686018427387904) = true
  ha4 : fin (fmul y0 (fdiv (fmul n (fsub n 4607182418800017408)) 4611686018427387904)) = true
  hb1 : fin (fsub 4607182418800017408 n) = true
  hb2 : fin (fadd 4607182418800017408 n) = true
  hb3 : fin (fmul (fsub 4607182418800017408 n) (fadd 4607182418800017408 n)) = true
  hb4 : fin (fmul y1 (fmul (fsub 4607182418800017408 n) (fadd 4607182418800017408 n))) = true
  hb5 : fin (fadd (fmul y0 (fdiv (fmul n (fsub n 4607182418800017408)) 4611686018427387904)) (fmul y1 (fmul (fsub 4607182418800017408 n) (fadd 4607182418800017408 n)))) = true
  hc1 : fin (fadd n 4607182418800017408) = true
  hc2 : fin (fmul n (fadd n 4607182418800017408)) = true
  hc3 : fin (fdiv (fmul n (fadd n 4607182418800017408)) 4611686018427387904) = true
  hc4 : fin (fmul y2 (fdiv (fmul n (fadd n 4607182418800017408)) 4611686018427387904)) = true
  hc5 : fin (tp y0 y1 y2 n) = true

def fabs (x : Nat) : Nat := if flt x 0 then fneg x else x

/-- interpolate: its last line, at the two first differences. -/
def ipq (y1 a b n : Nat) : Nat :=
  fadd y1 (fmul (fdiv n 4611686018427387904) (fadd (fadd a b) (fmul n (fsub b a))))
def ip (y0 y1 y2 n : Nat) : Nat := ipq y1 (fsub y1 y0) (fsub y2 y1) n
structure IpOk (y1 a b n : Nat) : Prop where
  hy1 : fin y1 = true
  ha : fin a = true
  hb : fin b = true
  hn : fin n = true
  hh : fin (fdiv n 4611686018427387904) = true
  hab : fin (fadd a b) = true
  hc : fin (fsub b a) = true
  hnc : fin (fmul n (fsub b a)) = true
  hs : fin (fadd (fadd a b) (fmul n (fsub b a))) = true
  hp : fin (fmul (fdiv n 4611686018427387904) (fadd (fadd a b) (fmul n (fsub b a)))) = true
  hr : fin (ipq y1 a b n) = true

def fmin (x y : Nat) : Nat :=
  match FloatKind.f64.format.order x y with
  | none => 0
  | some .lt => x
  | some .gt => y
  | some .eq => if (FloatKind.f64.decode x).neg then x else y
def fmax (x y : Nat) : Nat :=
  match FloatKind.f64.format.order x y with
  | none => 0
  | some .lt => y
  | some .gt => x
  | some .eq => if (FloatKind.f64.decode x).neg then y else x
theorem order_some {x y : Nat} (hx : fin x = true) (hy : fin y = true) : ∃ o, FloatKind.f64.format.order x y = some o := by
  obtain ⟨s, m, e, hx⟩ := read_fin hx
  obtain ⟨t, n, f, hy⟩ := read_fin hy
  simp only [FloatKind.format, Ieee.Format.order, hx, hy, Ieee.Datum.order, Option.some.injEq, exists_eq']
theorem min2_fin {x y : Nat} (hx : fin x = true) (hy : fin y = true) : Builtin.min2 (.float .f64 x) (.float .f64 y) = pure (.float .f64 (fmin x y)) := by
  obtain ⟨o, ho⟩ := order_some hx hy
  unfold Builtin.min2 fmin
  simp only [ho]
  cases o <;> rfl
theorem max2_fin {x y : Nat} (hx : fin x = true) (hy : fin y = true) : Builtin.max2 (.float .f64 x) (.float .f64 y) = pure (.float .f64 (fmax x y)) := by
  obtain ⟨o, ho⟩ := order_some hx hy
  unfold Builtin.max2 fmax
  simp only [ho]
  cases o <;> rfl

theorem run_min {P : Program} {x y : Nat} (hx : fin x = true) (hy : fin y = true) (ts : Array TypeId) (t : TypeId) (w : World) : (Builtin.min_ ts t #[.float .f64 x, .float .f64 y]).run P w = .ok (.float .f64 (fmin x y)) w := by
  simp [Builtin.min_, min2_fin hx hy]
theorem run_max {P : Program} {x y : Nat} (hx : fin x = true) (hy : fin y = true) (ts : Array TypeId) (t : TypeId) (w : World) : (Builtin.max_ ts t #[.float .f64 x, .float .f64 y]).run P w = .ok (.float .f64 (fmax x y)) w := by
  simp [Builtin.max_, max2_fin hx hy]

/-- The last place of the day. -/
abbrev lastF (d : Nat) : Nat := fadd 4607182418800017408 d
def lo0 (y0 y1 y2 d : Nat) : Nat := if fgt (ip y0 y1 y2 d) (ip y0 y1 y2 (lastF d)) then ip y0 y1 y2 (lastF d) else ip y0 y1 y2 d
def hi0 (y0 y1 y2 d : Nat) : Nat := if fgt (ip y0 y1 y2 d) (ip y0 y1 y2 (lastF d)) then ip y0 y1 y2 d else ip y0 y1 y2 (lastF d)
def trn (a b : Nat) : Nat := fdiv (fneg (fadd a b)) (fmul 4611686018427387904 (fsub b a))
def trnF (y0 y1 y2 : Nat) : Nat := trn (fsub y1 y0) (fsub y2 y1)
/-- Does the interpolation turn within the day? -/
def inF (y0 y1 y2 d : Nat) : Bool := !(feq (fsub y2 y1) (fsub y1 y0)) && (fgt (trnF y0 y1 y2) d && flt (trnF y0 y1 y2) (lastF d))
def loF (y0 y1 y2 d : Nat) : Nat := if inF y0 y1 y2 d then fmin (lo0 y0 y1 y2 d) (ip y0 y1 y2 (trnF y0 y1 y2)) else lo0 y0 y1 y2 d
def hiF (y0 y1 y2 d : Nat) : Nat := if inF y0 y1 y2 d then fmax (hi0 y0 y1 y2 d) (ip y0 y1 y2 (trnF y0 y1 y2)) else hi0 y0 y1 y2 d
structure BdOk (y0 y1 y2 d : Nat) : Prop where
  hy0 : fin y0 = true
  hy1 : fin y1 = true
  hy2 : fin y2 = true
  hd : fin d = true
  hi1 : IpOk y1 (fsub y1 y0) (fsub y2 y1) d
  hi2 : IpOk y1 (fsub y1 y0) (fsub y2 y1) (lastF d)
  hn : feq (fsub y2 y1) (fsub y1 y0) = false → fin (fneg (fadd (fsub y1 y0) (fsub y2 y1))) = true ∧ dvs (fmul 4611686018427387904 (fsub (fsub y2 y1) (fsub y1 y0))) = true
  hi3 : inF y0 y1 y2 d = true → IpOk y1 (fsub y1 y0) (fsub y2 y1) (trnF y0 y1 y2)
/-- The k-th place of the samples. -/
abbrev kf (n : Int) : Nat := fdiv (floatOfInt .f64 n) 4652218415073722368
abbrev tk (d : Nat) (n : Int) : Nat := fadd d (kf n)
def lowF (y0 y1 y2 d : Nat) : Nat → Nat
  | 0 => tp y0 y1 y2 d
  | k + 1 => if flt (tp y0 y1 y2 (tk d ((k : Int) + 1))) (lowF y0 y1 y2 d k) then tp y0 y1 y2 (tk d ((k : Int) + 1)) else lowF y0 y1 y2 d k
def highF (y0 y1 y2 d : Nat) : Nat → Nat
  | 0 => tp y0 y1 y2 d
  | k + 1 => if fgt (tp y0 y1 y2 (tk d ((k : Int) + 1))) (highF y0 y1 y2 d k) then tp y0 y1 y2 (tk d ((k : Int) + 1)) else highF y0 y1 y2 d k
abbrev reachF (d : Nat) : Nat := fadd (fabs d) 4607182418800017408
abbrev sumF (y0 y1 y2 : Nat) : Nat := fadd (fadd (fabs y0) (fabs y1)) (fabs y2)
abbrev polF (d : Nat) : Nat := fadd (fadd 4607182418800017408 (reachF d)) (fmul (reachF d) (reachF d))
abbrev scaleF (y0 y1 y2 d : Nat) : Nat := fmul (fmul 4616189618054758400 (sumF y0 y1 y2)) (polF d)
abbrev secF (y0 y1 y2 : Nat) : Nat := fadd (fsub y2 (fmul 4611686018427387904 y1)) y0
abbrev tolF (y0 y1 y2 d : Nat) : Nat :=
  fadd (fmul 4427486594234968593 (fadd 4607182418800017408 (scaleF y0 y1 y2 d))) (fdiv (fabs (secF y0 y1 y2)) 4710347945566797824)
structure AllOk (y0 y1 y2 d : Nat) : Prop where
  bd : BdOk y0 y1 y2 d
  t0 : TpOk y0 y1 y2 d
  ks : ∀ j : Nat, j < 1024 → fin (floatOfInt .f64 ((j : Int) + 1)) = true ∧ fin (kf ((j : Int) + 1)) = true ∧ TpOk y0 y1 y2 (tk d ((j : Int) + 1))
  a0 : fin (fabs y0) = true
  a1 : fin (fabs y1) = true
  a2 : fin (fabs y2) = true
  ad : fin (fabs d) = true
  r1 : fin (reachF d) = true
  s1 : fin (fadd (fabs y0) (fabs y1)) = true
  s2 : fin (sumF y0 y1 y2) = true
  s3 : fin (fmul 4616189618054758400 (sumF y0 y1 y2)) = true
  p1 : fin (fadd 4607182418800017408 (reachF d)) = true
  p2 : fin (fmul (reachF d) (reachF d)) = true
  p3 : fin (polF d) = true
  c1 : fin (scaleF y0 y1 y2 d) = true
  c2 : fin (fadd 4607182418800017408 (scaleF y0 y1 y2 d)) = true
  c3 : fin (fmul 4427486594234968593 (fadd 4607182418800017408 (scaleF y0 y1 y2 d))) = true
  e1 : fin (fmul 4611686018427387904 y1) = true
  e2 : fin (fsub y2 (fmul 4611686018427387904 y1)) = true
  e3 : fin (secF y0 y1 y2) = true
  e4 : fin (fabs (secF y0 y1 y2)) = true
  e5 : fin (fdiv (fabs (secF y0 y1 y2)) 4710347945566797824) = true
  l1 : fin (loF y0 y1 y2 d) = true
  l2 : fin (hiF y0 y1 y2 d) = true
  l3 : fin (lowF y0 y1 y2 d 1024) = true
  l4 : fin (highF y0 y1 y2 d 1024) = true
  v1 : fle (loF y0 y1 y2 d) (hiF y0 y1 y2 d) = true
  v2 : fle (fabs (fsub (loF y0 y1 y2 d) (lowF y0 y1 y2 d 1024))) (tolF y0 y1 y2 d) = true
  v3 : fle (fabs (fsub (hiF y0 y1 y2 d) (highF y0 y1 y2 d 1024))) (tolF y0 y1 y2 d) = true
/-- 'within(x, 1e6)'. -/
def wiF (x : Nat) : Bool := fge x (fneg 4696837146684686336) && fle x 4696837146684686336
theorem fin_four : fin 4616189618054758400 = true := by decide +kernel
theorem fin_e12 : fin 4427486594234968593 = true := by decide +kernel
theorem dvs_1024 : dvs 4652218415073722368 = true := by decide +kernel
theorem dvs_8e6 : dvs 4710347945566797824 = true := by decide +kernel
end Go.Proofs.Qxb6604178a.Fl
