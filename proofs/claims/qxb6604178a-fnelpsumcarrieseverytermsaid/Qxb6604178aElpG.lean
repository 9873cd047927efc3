/-
  The guards: lengths alone.
-/
import Derived.Test.Qxb6604178aElpA
import Derived.Deep.QuietTactic
import Derived.BigQuiet
namespace Go.Proofs.Qxb6604178a.Elp
open Go.RowKit Fl

/-- A row of rows, its lengths alone. -/
def Lens (w : World) (a : Option Addr) (K : Nat) (L : Nat → Nat) : Prop := 0 < K → ∃ b off, a = some ⟨b, off, none⟩ ∧ ∀ k, k < K → ∃ ak ck, w.cell? ⟨b, off + k, none⟩ = some (.slice ak (L k) ck)
theorem Lens.but {w w' : World} {a : Option Addr} {K : Nat} {L : Nat → Nat} (h : Lens w a K L) (hb : But [] w w') : Lens w' a K L := fun h0 => by
  obtain ⟨b, off, ha, hc⟩ := h h0
  refine ⟨b, off, ha, fun k hk => ?_⟩
  obtain ⟨ak, ck, h1⟩ := hc k hk
  exact ⟨ak, ck, hb.has h1⟩

set_option maxRecDepth 100000 in
set_option maxHeartbeats 4000000 in
theorem tooBig_any (a0 a1 : Option Addr) (n c0 K c1 : Nat) (L : Nat → Nat) (w : World) (h : Lens w a1 K L) :
    Calls Try.prog 8 #[.slice a0 n c0, .slice a1 K c1] w
    fun x w' => ∃ b, x = .returned (.bool b) ∧ (b = false → n ≤ 65536 ∧ K ≤ 65536 ∧ ∀ k, k < K → L k ≤ 65536) ∧ But [] w w' := by
  have HL : Hid (Lens w a1 K L) := h
  clear h
  go_enter Try.func8, Try.ntmps8
  by_cases hn : n ≤ 65536
  · by_cases hK : K ≤ 65536
    · go_wp2
      · go_ret
        exact ⟨_, rfl, by simp, But.refl _ _⟩
      · go_loopw [6, 5] (fun i t wr => ∃ (k : Nat) (z : Int), k ≤ K ∧ i = .int .i64 k ∧ t = .int .i64 z ∧ 0 ≤ z ∧ z ≤ 1048576 ∧ (∀ j, j < k → L j ≤ 65536) ∧ But [] w wr) (fun i _ _ => K - (intOf i).toNat)
        case atStart => exact ⟨0, _, Nat.zero_le _, rfl, rfl, by omega, by omega, fun j hj => by omega, But.refl _ _⟩
        case round =>
          obtain ⟨k, z, hk, rfl, rfl, z0, z1, hj, hb⟩ := hrel
          have HB : Hid _ := hb
          have HJ : Hid _ := hj
          clear hb hj
          by_cases hlt : k < K
          · obtain ⟨b, off, rfl, hc⟩ := HL.out (by omega)
            obtain ⟨ak, ck, hck⟩ := hc k hlt
            have hck' := HB.out.has hck
            clear hc hck
            by_cases hl : L k ≤ 65536
            · go_wp2
              · go_ret
                exact ⟨_, rfl, by simp, HB.out⟩
              · refine ⟨⟨k + 1, _, by omega, by simp, rfl, by omega, by omega, fun j hj => ?_, HB.out⟩, by simp [intOf]; omega⟩
                by_cases e : j = k
                · subst e; exact hl
                · exact HJ.out j (by omega)
            · go_wp2
              go_ret
              exact ⟨_, rfl, by simp, HB.out⟩
          · go_wp2
            go_ret
            refine ⟨_, rfl, fun _ => ⟨hn, hK, fun j hj => HJ.out j (by omega)⟩, HB.out⟩
    · go_wp2
      go_ret
      exact ⟨_, rfl, by simp, But.refl _ _⟩
  · go_wp2
    go_ret
    first
      | exact ⟨_, rfl, by simp, But.refl _ _⟩
      | exact ⟨rfl, But.refl _ _⟩

set_option maxRecDepth 100000 in
set_option maxHeartbeats 4000000 in
theorem bytes22_any (a0 a1 : Option Addr) (n c0 K c1 : Nat) (L : Nat → Nat) (cs ds : Array Value) (ph : Nat) (w : World) (h : Lens w a1 K L) :
    Calls Try.prog 22 #[.slice a0 n c0, .slice a1 K c1, .agg cs, .float .f64 ph, .agg ds] w
    fun x w' => (∃ b, x = .returned (.bool b)) ∧ But [] w w' := by
  have HL : Hid (Lens w a1 K L) := h
  clear h
  go_enter Try.func22, Try.ntmps22
  by_cases hn : n ≤ 1048576
  · go_wp2
    all_goals try (go_ret; exact ⟨⟨_, rfl⟩, ((But.refl _ _).alloc _).alloc _⟩)
    go_loopw [12, 11] (fun i t wr => ∃ (k : Nat) (z : Int), k ≤ n ∧ i = .int .i64 k ∧ t = .int .i64 z ∧ 0 ≤ z ∧ z ≤ 1048576 ∧ But [] w wr) (fun i _ _ => n - (intOf i).toNat)
    case atStart => exact ⟨0, _, Nat.zero_le _, rfl, rfl, by omega, by omega, ((But.refl _ _).alloc _).alloc _⟩
    case round =>
      obtain ⟨k, z, hk, rfl, rfl, z0, z1, hb⟩ := hrel
      have HB : Hid _ := hb
      clear hb
      by_cases hlt : k < n
      · go_wp2
        all_goals first
          | (go_ret; exact ⟨⟨_, rfl⟩, HB.out⟩)
          | (refine ⟨⟨k + 1, _, by omega, by simp, rfl, by omega, by omega, HB.out⟩, by simp [intOf]; omega⟩)
      · by_cases hK : K ≤ 1048576
        · go_wp2
          all_goals try (go_ret; exact ⟨⟨_, rfl⟩, HB.out⟩)
          go_loopw [13, 11] (fun i t wr => ∃ (k : Nat) (z : Int), k ≤ K ∧ i = .int .i64 k ∧ t = .int .i64 z ∧ 0 ≤ z ∧ z ≤ 1048576 ∧ But [] w wr) (fun i _ _ => K - (intOf i).toNat)
          case atStart => exact ⟨0, _, Nat.zero_le _, rfl, rfl, by omega, by omega, HB.out⟩
          case round =>
            obtain ⟨q, y, hq, rfl, rfl, y0, y1, hb⟩ := hrel
            clear HB
            have HB : Hid _ := hb
            clear hb
            by_cases hlq : q < K
            · obtain ⟨b, off, rfl, hc⟩ := HL.out (by omega)
              obtain ⟨ak, ck, hck⟩ := hc q hlq
              have hck' := HB.out.has hck
              have HC : Hid _ := hck
              clear hc hck
              by_cases hl : L q ≤ 1048576
              · go_wp2
                all_goals try (go_ret; exact ⟨⟨_, rfl⟩, HB.out⟩)
                go_loopw [14, 11] (fun i t wr => ∃ (k : Nat) (z : Int), k ≤ L q ∧ i = .int .i64 k ∧ t = .int .i64 z ∧ 0 ≤ z ∧ z ≤ 1048576 ∧ But [] w wr) (fun i _ _ => L q - (intOf i).toNat)
                case atStart => exact ⟨0, _, Nat.zero_le _, rfl, rfl, by omega, by omega, HB.out⟩
                case round =>
                  obtain ⟨r, x, hr, rfl, rfl, x0, x1, hb⟩ := hrel
                  clear HB hck'
                  have HB : Hid _ := hb
                  clear hb
                  have hck' := HB.out.has HC.out
                  by_cases hlr : r < L q
                  · go_wp2
                    all_goals first
                      | (go_ret; exact ⟨⟨_, rfl⟩, HB.out⟩)
                      | (refine ⟨⟨r + 1, _, by omega, by simp, rfl, by omega, by omega, HB.out⟩, by simp [intOf]; omega⟩)
                  · go_wp2
                    refine ⟨⟨q + 1, _, by omega, by simp, rfl, by omega, by omega, HB.out⟩, by simp [intOf]; omega⟩
              · go_wp2
                go_ret
                exact ⟨⟨_, rfl⟩, HB.out⟩
            · go_wp2
              go_ret
              exact ⟨⟨_, rfl⟩, HB.out⟩
        · go_wp2
          go_ret
          exact ⟨⟨_, rfl⟩, HB.out⟩
  · go_wp2
    go_ret
    exact ⟨⟨_, rfl⟩, ((But.refl _ _).alloc _).alloc _⟩
set_option maxRecDepth 100000 in
set_option maxHeartbeats 4000000 in
theorem bytes7_any (a0 a1 : Option Addr) (n c0 K c1 : Nat) (L : Nat → Nat) (cs : Array Value) (ph : Nat) (w : World) (h : Lens w a1 K L) :
    Calls Try.prog 7 #[.slice a0 n c0, .slice a1 K c1, .agg cs, .float .f64 ph] w
    fun x w' => (∃ b, x = .returned (.bool b)) ∧ But [] w w' := by
  have HL : Hid (Lens w a1 K L) := h
  clear h
  go_enter Try.func7, Try.ntmps7
  by_cases hn : n ≤ 1048576
  · go_wp2
    all_goals try (go_ret; exact ⟨⟨_, rfl⟩, (But.refl _ _).alloc _⟩)
    go_loopw [10, 9] (fun i t wr => ∃ (k : Nat) (z : Int), k ≤ n ∧ i = .int .i64 k ∧ t = .int .i64 z ∧ 0 ≤ z ∧ z ≤ 1048576 ∧ But [] w wr) (fun i _ _ => n - (intOf i).toNat)
    case atStart => exact ⟨0, _, Nat.zero_le _, rfl, rfl, by omega, by omega, (But.refl _ _).alloc _⟩
    case round =>
      obtain ⟨k, z, hk, rfl, rfl, z0, z1, hb⟩ := hrel
      have HB : Hid _ := hb
      clear hb
      by_cases hlt : k < n
      · go_wp2
        all_goals first
          | (go_ret; exact ⟨⟨_, rfl⟩, HB.out⟩)
          | (refine ⟨⟨k + 1, _, by omega, by simp, rfl, by omega, by omega, HB.out⟩, by simp [intOf]; omega⟩)
      · by_cases hK : K ≤ 1048576
        · go_wp2
          all_goals try (go_ret; exact ⟨⟨_, rfl⟩, HB.out⟩)
          go_loopw [11, 9] (fun i t wr => ∃ (k : Nat) (z : Int), k ≤ K ∧ i = .int .i64 k ∧ t = .int .i64 z ∧ 0 ≤ z ∧ z ≤ 1048576 ∧ But [] w wr) (fun i _ _ => K - (intOf i).toNat)
          case atStart => exact ⟨0, _, Nat.zero_le _, rfl, rfl, by omega, by omega, HB.out⟩
          case round =>
            obtain ⟨q, y, hq, rfl, rfl, y0, y1, hb⟩ := hrel
            clear HB
            have HB : Hid _ := hb
            clear hb
            by_cases hlq : q < K
            · obtain ⟨b, off, rfl, hc⟩ := HL.out (by omega)
              obtain ⟨ak, ck, hck⟩ := hc q hlq
              have hck' := HB.out.has hck
              have HC : Hid _ := hck
              clear hc hck
              by_cases hl : L q ≤ 1048576
              · go_wp2
                all_goals try (go_ret; exact ⟨⟨_, rfl⟩, HB.out⟩)
                go_loopw [12, 9] (fun i t wr => ∃ (k : Nat) (z : Int), k ≤ L q ∧ i = .int .i64 k ∧ t = .int .i64 z ∧ 0 ≤ z ∧ z ≤ 1048576 ∧ But [] w wr) (fun i _ _ => L q - (intOf i).toNat)
                case atStart => exact ⟨0, _, Nat.zero_le _, rfl, rfl, by omega, by omega, HB.out⟩
                case round =>
                  obtain ⟨r, x, hr, rfl, rfl, x0, x1, hb⟩ := hrel
                  clear HB hck'
                  have HB : Hid _ := hb
                  clear hb
                  have hck' := HB.out.has HC.out
                  by_cases hlr : r < L q
                  · go_wp2
                    all_goals first
                      | (go_ret; exact ⟨⟨_, rfl⟩, HB.out⟩)
                      | (refine ⟨⟨r + 1, _, by omega, by simp, rfl, by omega, by omega, HB.out⟩, by simp [intOf]; omega⟩)
                  · go_wp2
                    refine ⟨⟨q + 1, _, by omega, by simp, rfl, by omega, by omega, HB.out⟩, by simp [intOf]; omega⟩
              · go_wp2
                go_ret
                exact ⟨⟨_, rfl⟩, HB.out⟩
            · go_wp2
              go_ret
              exact ⟨⟨_, rfl⟩, HB.out⟩
        · go_wp2
          go_ret
          exact ⟨⟨_, rfl⟩, HB.out⟩
  · go_wp2
    go_ret
    exact ⟨⟨_, rfl⟩, (But.refl _ _).alloc _⟩
set_option maxRecDepth 100000 in
set_option maxHeartbeats 4000000 in
theorem bytes20_any (a0 a1 : Option Addr) (n c0 K c1 : Nat) (L : Nat → Nat) (cs : Array Value) (ph : Nat) (w : World) (h : Lens w a1 K L) :
    Calls Try.prog 20 #[.slice a0 n c0, .slice a1 K c1, .agg cs, .float .f64 ph] w
    fun x w' => (∃ b, x = .returned (.bool b)) ∧ But [] w w' := by
  have HL : Hid (Lens w a1 K L) := h
  clear h
  go_enter Try.func20, Try.ntmps20
  by_cases hn : n ≤ 1048576
  · go_wp2
    all_goals try (go_ret; exact ⟨⟨_, rfl⟩, (But.refl _ _).alloc _⟩)
    go_loopw [10, 9] (fun i t wr => ∃ (k : Nat) (z : Int), k ≤ n ∧ i = .int .i64 k ∧ t = .int .i64 z ∧ 0 ≤ z ∧ z ≤ 1048576 ∧ But [] w wr) (fun i _ _ => n - (intOf i).toNat)
    case atStart => exact ⟨0, _, Nat.zero_le _, rfl, rfl, by omega, by omega, (But.refl _ _).alloc _⟩
    case round =>
      obtain ⟨k, z, hk, rfl, rfl, z0, z1, hb⟩ := hrel
      have HB : Hid _ := hb
      clear hb
      by_cases hlt : k < n
      · go_wp2
        all_goals first
          | (go_ret; exact ⟨⟨_, rfl⟩, HB.out⟩)
          | (refine ⟨⟨k + 1, _, by omega, by simp, rfl, by omega, by omega, HB.out⟩, by simp [intOf]; omega⟩)
      · by_cases hK : K ≤ 1048576
        · go_wp2
          all_goals try (go_ret; exact ⟨⟨_, rfl⟩, HB.out⟩)
          go_loopw [11, 9] (fun i t wr => ∃ (k : Nat) (z : Int), k ≤ K ∧ i = .int .i64 k ∧ t = .int .i64 z ∧ 0 ≤ z ∧ z ≤ 1048576 ∧ But [] w wr) (fun i _ _ => K - (intOf i).toNat)
          case atStart => exact ⟨0, _, Nat.zero_le _, rfl, rfl, by omega, by omega, HB.out⟩
          case round =>
            obtain ⟨q, y, hq, rfl, rfl, y0, y1, hb⟩ := hrel
            clear HB
            have HB : Hid _ := hb
            clear hb
            by_cases hlq : q < K
            · obtain ⟨b, off, rfl, hc⟩ := HL.out (by omega)
              obtain ⟨ak, ck, hck⟩ := hc q hlq
              have hck' := HB.out.has hck
              have HC : Hid _ := hck
              clear hc hck
              by_cases hl : L q ≤ 1048576
              · go_wp2
                all_goals try (go_ret; exact ⟨⟨_, rfl⟩, HB.out⟩)
                go_loopw [12, 9] (fun i t wr => ∃ (k : Nat) (z : Int), k ≤ L q ∧ i = .int .i64 k ∧ t = .int .i64 z ∧ 0 ≤ z ∧ z ≤ 1048576 ∧ But [] w wr) (fun i _ _ => L q - (intOf i).toNat)
                case atStart => exact ⟨0, _, Nat.zero_le _, rfl, rfl, by omega, by omega, HB.out⟩
                case round =>
                  obtain ⟨r, x, hr, rfl, rfl, x0, x1, hb⟩ := hrel
                  clear HB hck'
                  have HB : Hid _ := hb
                  clear hb
                  have hck' := HB.out.has HC.out
                  by_cases hlr : r < L q
                  · go_wp2
                    all_goals first
                      | (go_ret; exact ⟨⟨_, rfl⟩, HB.out⟩)
                      | (refine ⟨⟨r + 1, _, by omega, by simp, rfl, by omega, by omega, HB.out⟩, by simp [intOf]; omega⟩)
                  · go_wp2
                    refine ⟨⟨q + 1, _, by omega, by simp, rfl, by omega, by omega, HB.out⟩, by simp [intOf]; omega⟩
              · go_wp2
                go_ret
                exact ⟨⟨_, rfl⟩, HB.out⟩
            · go_wp2
              go_ret
              exact ⟨⟨_, rfl⟩, HB.out⟩
        · go_wp2
          go_ret
          exact ⟨⟨_, rfl⟩, HB.out⟩
  · go_wp2
    go_ret
    exact ⟨⟨_, rfl⟩, (But.refl _ _).alloc _⟩
end Go.Proofs.Qxb6604178a.Elp
