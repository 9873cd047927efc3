/-
  The walks of the small functions that the three laws share.
-/
import Derived.Test.Qxb6604182aRows
import Derived.WalkKit
import Derived.WalkSpells
import Derived.WalkLawsBesides
import Derived.LoopTactic
import Derived.Deep.OwnRows
import Derived.Deep.QuietTactic
import Derived.BigQuiet
namespace Go.Proofs.Qxb6604182a
open Go.RowKit

theorem bcell {W w1 : World} (hb : Below W.heap.size W w1) : (∀ b o, b < W.heap.size → w1.cell? ⟨b, o, none⟩ = W.cell? ⟨b, o, none⟩) ∧ (∀ b o, b < W.heap.size → w1.frozen? ⟨b, o, none⟩ = W.frozen? ⟨b, o, none⟩) :=
  ⟨fun b o h => hb.cell (p := ⟨b, o, none⟩) h, fun b o h => hb.frozen (p := ⟨b, o, none⟩) h⟩
theorem block_lt {w : World} {b o : Nat} {v : Value} (h : w.cell? ⟨b, o, none⟩ = some v) : b < w.heap.size := by
  refine Nat.not_le.1 fun hn => ?_
  simp [World.cell?, hn] at h

/-- The bytes z lie at b, off. -/
def Row (w : World) (b off len : Nat) (z : Nat → Int) : Prop := ∀ i, i < len → w.cell? ⟨b, off + i, none⟩ = some (.int .u8 (z i))

theorem Try.info5 : (Try.prog.info? 5).map (fun i => (i.zero, i.size, i.bytes)) = some (some (.int .u8 0), 1, 1) := by kernel_rfl

set_option maxHeartbeats 400000 in
theorem bytes14_any (a : Option Addr) (len cap : Nat) (w : World) :
    Calls Try.prog 14 #[.slice a len cap] w fun e w' => e = .returned (.bool (decide (len ≤ 1048576))) ∧ w' = w := by
  by_cases h : len ≤ 1048576
  · have e1 : decide (len ≤ 1048576) = true := by simpa using h
    rw [e1]
    go_enter Try.func14, Try.ntmps14
    go_wp2
    go_ret
    exact ⟨rfl, rfl⟩
  · have e1 : decide (len ≤ 1048576) = false := by simpa using h
    rw [e1]
    go_enter Try.func14, Try.ntmps14
    go_wp2
    go_ret
    exact ⟨rfl, rfl⟩

/-- zzIsDigit. -/
def isD (c : Int) : Bool := decide (48 ≤ c ∧ c ≤ 57)
theorem isD_t {c : Int} (h : isD c = true) : 48 ≤ c ∧ c ≤ 57 := by simpa [isD] using h
theorem isD_f {c : Int} (h : isD c = false) : ¬ (48 ≤ c ∧ c ≤ 57) := by simpa [isD] using h
set_option maxHeartbeats 400000 in
theorem isDigit_any (c : Int) (w : World) : Calls Try.prog 17 #[.int .u8 c] w fun e w' => e = .returned (.bool (isD c)) ∧ w' = w := by
  cases h : isD c
  · have h := isD_f h
    by_cases h1 : 48 ≤ c
    · have h2 : ¬ c ≤ 57 := by omega
      clear h
      go_enter Try.func17, Try.ntmps17
      go_wp2
      go_ret
      exact ⟨rfl, rfl⟩
    · clear h
      go_enter Try.func17, Try.ntmps17
      go_wp2
      go_ret
      exact ⟨rfl, rfl⟩
  · obtain ⟨h1, h2⟩ := isD_t h
    clear h
    go_enter Try.func17, Try.ntmps17
    go_wp2
    go_ret
    exact ⟨rfl, rfl⟩

set_option maxHeartbeats 1000000 in
theorem leading_any (b off len cap : Nat) (z : Nat → Int) (w : World) (hl : len ≤ 1048576) (hlc : len ≤ cap) (hc : Row w b off len z) :
    Calls Try.prog 21 #[.slice (some ⟨b, off, none⟩) len cap] w fun e w' => ∃ n o, n ≤ len ∧ (∀ i, i < n → isD (z i) = true) ∧ (n < len → isD (z n) = false) ∧ (n < len → o = off + n) ∧
      e = .returned (.tuple #[.slice (some ⟨b, off, none⟩) n cap, .slice (some ⟨b, o, none⟩) (len - n) (cap - n)]) ∧ ∃ q, w' = w.drewN q := by
  go_enter Try.func21, Try.ntmps21
  go_wp2
  go_loop [4] (fun i => ∃ k : Nat, k ≤ len ∧ i = .int .i64 k ∧ ∀ j, j < k → isD (z j) = true) (fun i => len - (intOf i).toNat)
  case atStart => exact ⟨0, Nat.zero_le _, rfl, fun j hj => absurd hj (by omega)⟩
  case round =>
    obtain ⟨k, hk, rfl, hd⟩ := hrel
    have HD : Hid (∀ j, j < k → isD (z j) = true) := hd
    clear hd
    by_cases hlt : k < len
    · have hck := hc k hlt
      cases hz : isD (z k)
      · have hz2 := isD_f hz
        have HZ : Hid (isD (z k) = false) := hz
        clear hz
        by_cases h1 : 48 ≤ z k
        · have h2 : ¬ z k ≤ 57 := by omega
          clear hz2
          go_wp2
          go_quiet (fail)
          go_wp2
          go_ret2
          exact ⟨k, _, hk, HD.out, fun _ => HZ.out, fun _ => rfl, rfl, _, rfl⟩
        · clear hz2
          go_wp2
          go_quiet (fail)
          go_wp2
          go_ret2
          exact ⟨k, _, hk, HD.out, fun _ => HZ.out, fun _ => rfl, rfl, _, rfl⟩
      · obtain ⟨h1, h2⟩ := isD_t hz
        have HZ : Hid (isD (z k) = true) := hz
        clear hz
        go_wp2
        go_round
        case rel => 
          refine ⟨k + 1, by omega, by go_num, fun j hj => ?_⟩
          by_cases hjk : j = k
          · subst hjk; exact HZ.out
          · exact HD.out j (by omega)
        case measure => simp [intOf]; omega
    · by_cases hkl : k = cap
      · subst hkl
        have hk2 : len = k := by omega
        subst hk2
        go_wp2
        go_quiet (fail)
        go_wp2
        go_ret2
        exact ⟨len, off, hk, HD.out, fun h => absurd h hlt, fun h => absurd h hlt, by simp, _, rfl⟩
      · have hkl : k < cap := by omega
        have hkl2 : (k : Int) ≤ cap := by omega
        go_wp2
        go_quiet (fail)
        go_wp2
        go_ret2
        exact ⟨k, _, hk, HD.out, fun h => absurd h hlt, fun h => absurd h hlt, rfl, _, rfl⟩

set_option maxHeartbeats 400000 in
theorem zzleading_any (b off len cap : Nat) (z : Nat → Int) (w : World) (hl : len ≤ 1048576) (hlc : len ≤ cap) (hc : Row w b off len z) :
    Calls Try.prog 15 #[.slice (some ⟨b, off, none⟩) len cap] w fun e w' => ∃ n o, n ≤ len ∧ (∀ i, i < n → isD (z i) = true) ∧ (n < len → isD (z n) = false) ∧ (n < len → o = off + n) ∧
      e = .returned (.tuple #[.slice (some ⟨b, off, none⟩) n cap, .slice (some ⟨b, o, none⟩) (len - n) (cap - n)]) ∧ ∃ q, w' = w.drewN q := by
  go_enter Try.func15, Try.ntmps15
  go_wp2_with (go_at_call 21; refine (leading_any _ _ _ _ z _ hl hlc hc).mono ?_; rintro e w' ⟨n, o, n1, n2, n3, n4, rfl, q, rfl⟩)
  go_ret2
  exact ⟨n, o, n1, n2, n3, n4, rfl, q, rfl⟩

set_option maxHeartbeats 1000000 in
theorem isConcat_any (b off o n len cap : Nat) (c1 c2 : Nat) (z : Nat → Int) (w : World) (hl : len ≤ 1048576) (hn : n ≤ len) (ho : n < len → o = off + n) (hc : Row w b off len z) :
    Calls Try.prog 16 #[.slice (some ⟨b, off, none⟩) len cap, .slice (some ⟨b, off, none⟩) n c1, .slice (some ⟨b, o, none⟩) (len - n) c2] w fun e w' => e = .returned (.bool true) ∧ ∃ q, w' = w.drewN q := by
  obtain ⟨m, rfl⟩ : ∃ m, len = n + m := ⟨len - n, by omega⟩
  have hm : n + m - n = m := by omega
  rw [hm]
  have HO : Hid (n < n + m → o = off + n) := ho
  clear hm ho
  go_enter Try.func16, Try.ntmps16
  go_wp2
  go_loopw [7] (fun i wr => ∃ k : Nat, k ≤ n ∧ i = .int .i64 k ∧ ∃ q, wr = w.drewN q) (fun i _ => n - (intOf i).toNat)
  case atStart => exact ⟨0, Nat.zero_le _, rfl, 0, rfl⟩
  case round =>
    obtain ⟨k, hk, rfl, q, rfl⟩ := hrel
    by_cases hlt : k < n
    · have hck := hc k (by omega)
      go_wp2
      go_quiet (fail)
      go_wp2
      go_roundw
      case rel => exact ⟨k + 1, by omega, by go_num, _, rfl⟩
      case measure => simp [intOf]; omega
    · go_wp2
      go_loopw [8] (fun i wr => ∃ k : Nat, k ≤ m ∧ i = .int .i64 k ∧ ∃ q, wr = w.drewN q) (fun i _ => m - (intOf i).toNat)
      case atStart => exact ⟨0, Nat.zero_le _, rfl, q, rfl⟩
      case round =>
        obtain ⟨j, hj, rfl, q', rfl⟩ := hrel
        by_cases hlt2 : j < m
        · have hck := hc (n + j) (by omega)
          have hck2 : w.cell? ⟨b, o + j, none⟩ = some (.int .u8 (z (n + j))) := by rw [HO.out (by omega), Nat.add_assoc]; exact hck
          go_wp2
          go_quiet (fail)
          go_wp2
          go_roundw
          case rel => exact ⟨j + 1, by omega, by go_num, _, rfl⟩
          case measure => simp [intOf]; omega
        · go_wp2
          go_ret
          exact ⟨rfl, _, rfl⟩

theorem isDigit_is (c : Int) (b : Bool) (w : World) (h : isD c = b) : Calls Try.prog 17 #[.int .u8 c] w fun e w' => e = .returned (.bool b) ∧ w' = w := by
  subst h; exact isDigit_any c w

set_option maxHeartbeats 400000 in
theorem leading_nil (w : World) : Calls Try.prog 21 #[.slice none 0 0] w fun e w' => e = .returned (.tuple #[.slice none 0 0, .slice none 0 0]) ∧ ∃ q, w' = w.drewN q := by
  go_enter Try.func21, Try.ntmps21
  go_wp2
  go_loop [4] (fun i => i = .int .i64 0) (fun _ => 0)
  case atStart => rfl
  case round =>
    subst hrel
    go_wp2
    go_quiet (fail)
    go_wp2
    go_ret2
    exact ⟨rfl, _, rfl⟩
set_option maxHeartbeats 400000 in
theorem zzleading_nil (w : World) : Calls Try.prog 15 #[.slice none 0 0] w fun e w' => e = .returned (.tuple #[.slice none 0 0, .slice none 0 0]) ∧ ∃ q, w' = w.drewN q := by
  go_enter Try.func15, Try.ntmps15
  go_wp2_with (go_at_call 21; refine (leading_nil _).mono ?_; rintro e w' ⟨rfl, q, rfl⟩)
  go_ret2
  exact ⟨rfl, q, rfl⟩
set_option maxHeartbeats 400000 in
theorem isConcat_nil (w : World) : Calls Try.prog 16 #[.slice none 0 0, .slice none 0 0, .slice none 0 0] w fun e w' => e = .returned (.bool true) ∧ w' = w := by
  go_enter Try.func16, Try.ntmps16
  go_wp2
  go_loop [7] (fun i => i = .int .i64 0) (fun _ => 0)
  case atStart => rfl
  case round =>
    subst hrel
    go_wp2
    go_loop [8] (fun i => i = .int .i64 0) (fun _ => 0)
    case atStart => rfl
    case round =>
      subst hrel
      go_wp2
      go_ret
      exact ⟨rfl, rfl⟩
end Go.Proofs.Qxb6604182a
