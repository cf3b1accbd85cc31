/-
  Qxb6000435a: the walks of the functions that only read: zzBytes_.., pairBytes.
-/
import Derived.Test.Qxb6000435aRows
import Derived.Test.Qxb6000435aPlain
import Derived.WalkKit
import Derived.WalkSpells
import Derived.WalkLawsBesides
namespace Go.Proofs.Qxb6000435a
open Go.RowKit

/-- A slice of strings that can be read: its elements are 'ss'. -/
def IsStrs (w : World) (a : Option Addr) (len : Nat) (ss : List ByteArray) : Prop :=
  ss.length = len ∧ (∀ s ∈ ss, s.size ≤ maxLen) ∧ (0 < len → ∃ b off, a = some ⟨b, off, none⟩ ∧ b < w.heap.size ∧ ∀ j, j < len → w.cell? ⟨b, off + j, none⟩ = some (.string (ss.getD j ByteArray.empty)))

theorem IsStrs.below {w w' : World} {a : Option Addr} {len B : Nat} {ss : List ByteArray} (h : IsStrs w a len ss) (hb : Below B w w') (hB : w.heap.size ≤ B) : IsStrs w' a len ss := by
  obtain ⟨h1, h2, h3⟩ := h
  refine ⟨h1, h2, fun hl => ?_⟩
  obtain ⟨b, off, e, hlt, hc⟩ := h3 hl
  exact ⟨b, off, e, by have := hb.size; omega, fun j hj => (hb.cell (by show b < B; omega)).trans (hc j hj)⟩

theorem IsStrs.size_at {w : World} {a : Option Addr} {len : Nat} {ss : List ByteArray} (h : IsStrs w a len ss) (k : Nat) : (ss.getD k ByteArray.empty).size ≤ maxLen := by
  by_cases hk : k < ss.length
  · rw [List.getD, List.getElem?_eq_getElem hk]
    exact h.2.1 _ (List.getElem_mem hk)
  · rw [List.getD, List.getElem?_eq_none (by omega)]
    exact Nat.zero_le _

set_option maxHeartbeats 400000 in
theorem pairBytes_any (a : Option Addr) (len cap : Nat) (ss : List ByteArray) (a1 : Option Addr) (len1 cap1 : Nat) (w : World) (hS : IsStrs w a len ss) :
    Calls Try.prog 11 #[.slice a len cap, .slice a1 len1 cap1] w fun e w' => (∃ n : Int, e = .returned (.int .i64 n)) ∧ w' = w := by
  obtain ⟨_, hsz, hS⟩ := hS
  by_cases h1 : 1048576 < (len : Int)
  · go_enter Try.func11, Try.ntmps11
    go_wp2
    go_ret
    exact ⟨⟨_, rfl⟩, rfl⟩
  by_cases h2 : 1048576 < (len1 : Int)
  · go_enter Try.func11, Try.ntmps11
    go_wp2
    go_ret
    exact ⟨⟨_, rfl⟩, rfl⟩
  go_enter Try.func11, Try.ntmps11
  go_wp2
  go_loop [5, 6] (fun n i => ∃ (k : Nat) (m : Int), k ≤ len ∧ i = .int .i64 k ∧ n = .int .i64 m) (fun _ i => len - (intOf i).toNat)
  case atStart => exact ⟨0, _, Nat.zero_le _, rfl, rfl⟩
  case round =>
    obtain ⟨k, m, hk, rfl, rfl⟩ := hrel
    by_cases hlt : k < len
    · obtain ⟨b, off, rfl, hb, hc⟩ := hS (by omega)
      have hck := hc k hlt
      clear hS hc
      go_wp2
      · go_ret
        exact ⟨⟨_, rfl⟩, rfl⟩
      · go_round
        case rel => exact ⟨k + 1, _, by omega, by go_num, rfl⟩
        case measure => simp [intOf]; omega
    · go_wp2
      go_ret
      exact ⟨⟨_, rfl⟩, rfl⟩

/-- It answers a bool; if that is true, p. -/
def BytesPost (p : Prop) (e : Ending) : Prop := ∃ r : Bool, e = .returned (.bool r) ∧ (r = true → p)
theorem bytes_no (p : Prop) : BytesPost p (.returned (.bool false)) := ⟨false, rfl, fun h => by cases h⟩
theorem bytes_yes {p : Prop} (h : p) : BytesPost p (.returned (.bool true)) := ⟨true, rfl, fun _ => h⟩

set_option maxHeartbeats 1000000 in
theorem bytes10 (a0 : Option Addr) (len0 cap0 : Nat) (s0 : List ByteArray) (a1 : Option Addr) (len1 cap1 : Nat) (a2 : Option Addr) (len2 cap2 : Nat) (s2 : List ByteArray) (a3 : Option Addr) (len3 cap3 : Nat) (w : World)
    (hS0 : IsStrs w a0 len0 s0) (hS2 : IsStrs w a2 len2 s2) :
    Calls Try.prog 10 #[.slice a0 len0 cap0, .slice a1 len1 cap1, .slice a2 len2 cap2, .slice a3 len3 cap3] w fun e w' => BytesPost (len0 ≤ 1048576 ∧ len2 ≤ 1048576) e ∧ w' = w := by
  obtain ⟨_, hsz0, hS0⟩ := hS0
  obtain ⟨_, hsz2, hS2⟩ := hS2
  by_cases h0 : 1048576 < (len0 : Int)
  · go_enter Try.func10, Try.ntmps10
    go_wp2
    go_ret
    exact ⟨bytes_no _, rfl⟩
  go_enter Try.func10, Try.ntmps10
  go_wp2
  go_loop [9, 10] (fun n i => ∃ (k : Nat) (m : Int), k ≤ len0 ∧ 0 ≤ m ∧ m ≤ 1048576 ∧ i = .int .i64 k ∧ n = .int .i64 m) (fun _ i => len0 - (intOf i).toNat)
  case atStart => exact ⟨0, _, Nat.zero_le _, by omega, by omega, rfl, rfl⟩
  case round =>
    obtain ⟨k, m, hk, hm0, hm1, rfl, rfl⟩ := hrel
    by_cases hlt : k < len0
    · obtain ⟨b, off, rfl, hb, hc⟩ := hS0 (by omega)
      have hck := hc k hlt
      clear hS0 hc hS2 hsz0 hsz2
      go_wp2
      · go_ret
        exact ⟨bytes_no _, rfl⟩
      · go_ret
        exact ⟨bytes_no _, rfl⟩
      · go_round
        case rel => exact ⟨k + 1, _, by omega, by omega, by omega, by go_num, rfl⟩
        case measure => simp [intOf]; omega
    · by_cases h1 : 1048576 < (len1 : Int)
      · go_wp2
        go_ret
        exact ⟨bytes_no _, rfl⟩
      by_cases h1' : 1048576 < m + (len1 : Int)
      · go_wp2
        go_ret
        exact ⟨bytes_no _, rfl⟩
      by_cases h2 : 1048576 < (len2 : Int)
      · go_wp2
        go_ret
        exact ⟨bytes_no _, rfl⟩
      by_cases h2' : 1048576 < m + (len1 : Int) + len2
      · go_wp2
        go_ret
        exact ⟨bytes_no _, rfl⟩
      go_wp2
      go_loop [9, 11] (fun n i => ∃ (k : Nat) (m : Int), k ≤ len2 ∧ 0 ≤ m ∧ m ≤ 1048576 ∧ i = .int .i64 k ∧ n = .int .i64 m) (fun _ i => len2 - (intOf i).toNat)
      case atStart => exact ⟨0, _, Nat.zero_le _, by omega, by omega, rfl, rfl⟩
      case round =>
        obtain ⟨k2, m2, hk2, hm20, hm21, rfl, rfl⟩ := hrel
        have g0 : len0 ≤ 1048576 := by omega
        have g2 : len2 ≤ 1048576 := by omega
        clear h1 h1' h2 h2' hm0 hm1 hk hlt hS0 h0 hsz0 hsz2
        by_cases hlt2 : k2 < len2
        · obtain ⟨b, off, rfl, hb, hc⟩ := hS2 (by omega)
          have hck := hc k2 hlt2
          clear hc hS2
          go_wp2
          · go_ret
            exact ⟨bytes_no _, rfl⟩
          · go_ret
            exact ⟨bytes_no _, rfl⟩
          · go_round
            case rel => exact ⟨k2 + 1, _, by omega, by omega, by omega, by go_num, rfl⟩
            case measure => simp [intOf]; omega
        · by_cases h3 : 1048576 < (len3 : Int)
          · go_wp2
            go_ret
            exact ⟨bytes_no _, rfl⟩
          by_cases h3' : 1048576 < m2 + (len3 : Int)
          · go_wp2
            go_ret
            exact ⟨bytes_no _, rfl⟩
          go_wp2
          go_ret
          exact ⟨bytes_yes (by first | exact trivial | exact ⟨g0, g2⟩), rfl⟩

set_option maxHeartbeats 1000000 in
theorem bytes17 (a0 : Option Addr) (len0 cap0 : Nat) (s0 : List ByteArray) (a1 : Option Addr) (len1 cap1 : Nat) (a2 : Option Addr) (len2 cap2 : Nat) (s2 : List ByteArray) (a3 : Option Addr) (len3 cap3 : Nat) (w : World)
    (hS0 : IsStrs w a0 len0 s0) (hS2 : IsStrs w a2 len2 s2) :
    Calls Try.prog 17 #[.slice a0 len0 cap0, .slice a1 len1 cap1, .slice a2 len2 cap2, .slice a3 len3 cap3] w fun e w' => BytesPost (len0 ≤ 1048576 ∧ len2 ≤ 1048576) e ∧ w' = w := by
  obtain ⟨_, hsz0, hS0⟩ := hS0
  obtain ⟨_, hsz2, hS2⟩ := hS2
  by_cases h0 : 1048576 < (len0 : Int)
  · go_enter Try.func17, Try.ntmps17
    go_wp2
    go_ret
    exact ⟨bytes_no _, rfl⟩
  go_enter Try.func17, Try.ntmps17
  go_wp2
  go_loop [9, 10] (fun n i => ∃ (k : Nat) (m : Int), k ≤ len0 ∧ 0 ≤ m ∧ m ≤ 1048576 ∧ i = .int .i64 k ∧ n = .int .i64 m) (fun _ i => len0 - (intOf i).toNat)
  case atStart => exact ⟨0, _, Nat.zero_le _, by omega, by omega, rfl, rfl⟩
  case round =>
    obtain ⟨k, m, hk, hm0, hm1, rfl, rfl⟩ := hrel
    by_cases hlt : k < len0
    · obtain ⟨b, off, rfl, hb, hc⟩ := hS0 (by omega)
      have hck := hc k hlt
      clear hS0 hc hS2 hsz0 hsz2
      go_wp2
      · go_ret
        exact ⟨bytes_no _, rfl⟩
      · go_ret
        exact ⟨bytes_no _, rfl⟩
      · go_round
        case rel => exact ⟨k + 1, _, by omega, by omega, by omega, by go_num, rfl⟩
        case measure => simp [intOf]; omega
    · by_cases h1 : 1048576 < (len1 : Int)
      · go_wp2
        go_ret
        exact ⟨bytes_no _, rfl⟩
      by_cases h1' : 1048576 < m + (len1 : Int)
      · go_wp2
        go_ret
        exact ⟨bytes_no _, rfl⟩
      by_cases h2 : 1048576 < (len2 : Int)
      · go_wp2
        go_ret
        exact ⟨bytes_no _, rfl⟩
      by_cases h2' : 1048576 < m + (len1 : Int) + len2
      · go_wp2
        go_ret
        exact ⟨bytes_no _, rfl⟩
      go_wp2
      go_loop [9, 11] (fun n i => ∃ (k : Nat) (m : Int), k ≤ len2 ∧ 0 ≤ m ∧ m ≤ 1048576 ∧ i = .int .i64 k ∧ n = .int .i64 m) (fun _ i => len2 - (intOf i).toNat)
      case atStart => exact ⟨0, _, Nat.zero_le _, by omega, by omega, rfl, rfl⟩
      case round =>
        obtain ⟨k2, m2, hk2, hm20, hm21, rfl, rfl⟩ := hrel
        have g0 : len0 ≤ 1048576 := by omega
        have g2 : len2 ≤ 1048576 := by omega
        clear h1 h1' h2 h2' hm0 hm1 hk hlt hS0 h0 hsz0 hsz2
        by_cases hlt2 : k2 < len2
        · obtain ⟨b, off, rfl, hb, hc⟩ := hS2 (by omega)
          have hck := hc k2 hlt2
          clear hc hS2
          go_wp2
          · go_ret
            exact ⟨bytes_no _, rfl⟩
          · go_ret
            exact ⟨bytes_no _, rfl⟩
          · go_round
            case rel => exact ⟨k2 + 1, _, by omega, by omega, by omega, by go_num, rfl⟩
            case measure => simp [intOf]; omega
        · by_cases h3 : 1048576 < (len3 : Int)
          · go_wp2
            go_ret
            exact ⟨bytes_no _, rfl⟩
          by_cases h3' : 1048576 < m2 + (len3 : Int)
          · go_wp2
            go_ret
            exact ⟨bytes_no _, rfl⟩
          go_wp2
          go_ret
          exact ⟨bytes_yes (by first | exact trivial | exact ⟨g0, g2⟩), rfl⟩

end Go.Proofs.Qxb6000435a
