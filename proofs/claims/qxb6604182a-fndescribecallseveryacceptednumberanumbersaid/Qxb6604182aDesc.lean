/-
  The walks of describe and zzIsNumberText.
-/
import Derived.Test.Qxb6604182aPlainB
import Derived.Test.Qxb6604182aWalkB
import Derived.Laws.BytesString
import Derived.Laws.Cells
namespace Go.Proofs.Qxb6604182a
open Go.RowKit

/-- The text as a string. -/
def strOf (T : List Int) : ByteArray := T.foldl (fun r n => r.push (UInt8.ofNat n.toNat)) ByteArray.empty

theorem run_str {w : World} {b cap : Nat} {T : List Int} (hc : ∀ i, i < T.length → w.cell? ⟨b, i, none⟩ = some (.int .u8 (T.getD i 0))) :
    (convert 22 9 (.slice (some ⟨b, 0, none⟩) T.length cap)).run Try.prog w = .ok (.string (strOf T)) w := by
  rw [run_convert_bytes_string w 22 9 5 _ _ _ Try.underlying22 Try.underlying5 Try.underlying9]
  refine run_bytesToString w ⟨b, 0, none⟩ T.length cap T ?_
  have := run_loadCells_list (P := Try.prog) (w := w) ⟨b, 0, none⟩ (T.map (Value.int .u8)) (fun j v hv => by
    rw [List.getElem?_map] at hv
    obtain ⟨c, hc', rfl⟩ := Option.map_eq_some_iff.1 hv
    obtain ⟨hl, he⟩ := List.getElem?_eq_some_iff.1 hc'
    rw [Go.WideShapes.add_plain, Nat.zero_add, hc j hl, List.getD_eq_getElem?_getD, hc']; rfl)
  rw [List.length_map] at this
  exact this

theorem strOf_data (T : List Int) : (strOf T).data.toList = T.map (fun n => UInt8.ofNat n.toNat) := by
  have key : ∀ (T : List Int) (r : ByteArray), (T.foldl (fun r n => r.push (UInt8.ofNat n.toNat)) r).data.toList = r.data.toList ++ T.map (fun n => UInt8.ofNat n.toNat) := by
    intro T
    induction T with
    | nil => intro r; simp
    | cons a T ih => intro r; rw [List.foldl_cons, ih]; simp [ByteArray.push]
  have := key T ByteArray.empty
  simpa [strOf] using this

theorem strOf_size (T : List Int) : (strOf T).size = T.length := by
  have := congrArg List.length (strOf_data T)
  simpa using this

set_option maxHeartbeats 1000000 in
theorem describe_any (b cap : Nat) (T : List Int) (c0 : Int) (w : World) (hT : T.length ≤ 1048576) (h0 : 0 < T.length) (hz : T.getD 0 0 = c0) (hcs : c0 = 45 ∨ (48 ≤ c0 ∧ c0 ≤ 57)) (hc : ∀ i, i < T.length → w.cell? ⟨b, i, none⟩ = some (.int .u8 (T.getD i 0))) :
    Calls Try.prog 20 #[.slice (some ⟨b, 0, none⟩) T.length cap] w fun e w' => e = .returned (.string (⟨#[110, 117, 109, 98, 101, 114, 32]⟩ ++ strOf T)) ∧ w' = w := by
  have hcv := run_str (cap := cap) hc
  have hc0 := hc 0 h0
  rw [hz] at hc0
  have e1 : (c0 == 34) = false := by rcases hcs with h | h <;> simp <;> omega
  have e2 : (c0 == 116) = false := by rcases hcs with h | h <;> simp <;> omega
  have e3 : (c0 == 102) = false := by rcases hcs with h | h <;> simp <;> omega
  have e4 : (c0 == 91) = false := by rcases hcs with h | h <;> simp <;> omega
  have e5 : (c0 == 123) = false := by rcases hcs with h | h <;> simp <;> omega
  have h0i : ((T.length : Int) == 0) = false := by
    rw [beq_eq_false_iff_ne]; omega
  have hSs : (strOf T).size ≤ 1048576 := by rw [strOf_size]; exact hT
  generalize hS : strOf T = S at *
  clear hc hz hcs hS
  go_enter Try.func20, Try.ntmps20
  go_wp2
  go_ret
  exact ⟨rfl, rfl⟩

/-- The words that describe lays ahead. -/
abbrev nP : ByteArray := { data := #[110, 117, 109, 98, 101, 114, 32] }

theorem idx_str (s : ByteArray) (j : Nat) (v : Int) (w : World) (h : 7 + j < s.size) (hv : ((s[7 + j]'h).toNat : Int) = v) : (Instr.index 9 (.string s) (.int .i64 (7 + (j : Int)))).run Try.prog w = .ok (.int .u8 v) w := by
  have e : ((7 : Int) + (j : Int)) = ((7 + j : Nat) : Int) := by omega
  rw [e, run_index_string w 9 s .i64 _ Try.underlying9, dif_pos ⟨by omega, by omega⟩]
  simp only [Int.toNat_natCast, hv]

set_option maxHeartbeats 1000000 in
theorem numText_any (b cap len : Nat) (z : Nat → Int) (s : ByteArray) (w : World) (hl : len ≤ 1048576) (hs : s.size = 7 + len)
    (h1 : ∀ i (h : i < s.size) (h7 : i < 7), (s[i]'h).toNat = (nP[i]'h7).toNat) (h2 : ∀ j (h : 7 + j < s.size), ((s[7 + j]'h).toNat : Int) = z j) (hc : ∀ i, i < len → w.cell? ⟨b, i, none⟩ = some (.int .u8 (z i))) :
    Calls Try.prog 12 #[.string s, .slice (some ⟨b, 0, none⟩) len cap] w fun e w' => e = .returned (.bool true) ∧ ∃ q, w' = w.drewN q := by
  have H1 : Hid (∀ i (h : i < s.size) (h7 : i < 7), (s[i]'h).toNat = (nP[i]'h7).toNat) := h1
  have H2 : Hid (∀ j (h : 7 + j < s.size), ((s[7 + j]'h).toNat : Int) = z j) := h2
  clear h1 h2
  go_enter Try.func12, Try.ntmps12
  go_wp2
  go_loopw [5] (fun i wr => ∃ k : Nat, k ≤ 7 ∧ i = .int .i64 k ∧ ∃ q, wr = w.drewN q) (fun i _ => 7 - (intOf i).toNat)
  case atStart => exact ⟨0, Nat.zero_le _, rfl, 0, rfl⟩
  case round =>
    obtain ⟨k, hk, rfl, q, rfl⟩ := hrel
    by_cases hlt : k < 7
    · have hks : k < s.size := by omega
      have hq := H1.out k hks hlt
      go_wp2
      go_quiet (fail)
      go_wp2
      go_roundw
      case rel => exact ⟨k + 1, by omega, by go_num, _, rfl⟩
      case measure => simp [intOf]; omega
    · go_wp2
      go_loopw [6] (fun i wr => ∃ k : Nat, k ≤ len ∧ i = .int .i64 k ∧ ∃ q, wr = w.drewN q) (fun i _ => len - (intOf i).toNat)
      case atStart => exact ⟨0, Nat.zero_le _, rfl, q, rfl⟩
      case round =>
        obtain ⟨j, hj, rfl, q', rfl⟩ := hrel
        by_cases hlt2 : j < len
        · have hjs : 7 + j < s.size := by omega
          have hix := fun w => idx_str s j (z j) w hjs (H2.out j hjs)
          have hcj := hc j hlt2
          go_wp2
          go_quiet (fail)
          go_wp2
          go_roundw
          case rel => exact ⟨j + 1, by omega, by go_num, _, rfl⟩
          case measure => simp [intOf]; omega
        · go_wp2
          go_ret
          exact ⟨rfl, _, rfl⟩

set_option maxHeartbeats 400000 in
theorem zzdescribe_any (b cap : Nat) (T : List Int) (c0 : Int) (w : World) (hT : T.length ≤ 1048576) (h0 : 0 < T.length) (hz : T.getD 0 0 = c0) (hcs : c0 = 45 ∨ (48 ≤ c0 ∧ c0 ≤ 57)) (hc : ∀ i, i < T.length → w.cell? ⟨b, i, none⟩ = some (.int .u8 (T.getD i 0))) :
    Calls Try.prog 13 #[.slice (some ⟨b, 0, none⟩) T.length cap] w fun e w' => e = .returned (.string (nP ++ strOf T)) ∧ w' = w := by
  have HC : Hid (Calls Try.prog 20 #[.slice (some ⟨b, 0, none⟩) T.length cap] w fun e w' => e = .returned (.string (nP ++ strOf T)) ∧ w' = w) := describe_any b cap T c0 w hT h0 hz hcs hc
  clear hc hcs hz
  go_enter Try.func13, Try.ntmps13
  go_wp2_with (go_at_call 20; refine HC.out.mono ?_; rintro e w' ⟨rfl, rfl⟩)
  go_ret
  exact ⟨rfl, rfl⟩

/-- The text that describe gives, byte for byte. -/
theorem desc_bytes (T : List Int) (hb : ∀ n ∈ T, 0 ≤ n ∧ n ≤ 255) : (nP ++ strOf T).size = 7 + T.length ∧
    (∀ i (h : i < (nP ++ strOf T).size) (h7 : i < 7), ((nP ++ strOf T)[i]'h).toNat = (nP[i]'h7).toNat) ∧ ∀ j (h : 7 + j < (nP ++ strOf T).size), (((nP ++ strOf T)[7 + j]'h).toNat : Int) = T.getD j 0 := by
  have hd : (nP ++ strOf T).data.toList = nP.data.toList ++ T.map (fun n => UInt8.ofNat n.toNat) := by
    rw [ByteArray.data_append, Array.toList_append, strOf_data]
  have hget : ∀ i (h : i < (nP ++ strOf T).size), some ((nP ++ strOf T)[i]'h) = (nP.data.toList ++ T.map (fun n => UInt8.ofNat n.toNat))[i]? := fun i h => by
    rw [← hd, Array.getElem?_toList]
    exact (Array.getElem?_eq_getElem h).symm
  have hs : (nP ++ strOf T).size = 7 + T.length := by
    rw [ByteArray.size_append, strOf_size]
    rfl
  refine ⟨hs, fun i h h7 => ?_, fun j h => ?_⟩
  · have := hget i h
    rw [List.getElem?_append_left (by simpa using h7)] at this
    have e : nP.data.toList[i]? = some (nP[i]'h7) := by rw [Array.getElem?_toList]; exact Array.getElem?_eq_getElem h7
    rw [e] at this
    rw [Option.some.inj this]
  · have := hget (7 + j) h
    have hj : j < T.length := by omega
    rw [List.getElem?_append_right (by simp)] at this
    have e7 : 7 + j - nP.data.toList.length = j := by simp
    rw [e7, List.getElem?_map, List.getElem?_eq_getElem hj] at this
    have e2 := Option.some.inj this
    rw [e2, List.getD_eq_getElem?_getD, List.getElem?_eq_getElem hj]
    have hbj := hb T[j] (List.getElem_mem hj)
    simp only [Option.getD_some, UInt8.toNat_ofNat']
    omega
end Go.Proofs.Qxb6604182a
