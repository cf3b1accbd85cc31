/-
  Qxb6000435a: the walks of the functions that only read: the zzBytes_.. of six parameters.
-/
import Derived.Test.Qxb6000435aWalkA
namespace Go.Proofs.Qxb6000435a
open Go.RowKit

set_option maxHeartbeats 2000000 in
theorem bytes15 (a0 : Option Addr) (len0 cap0 : Nat) (s0 : List ByteArray) (a1 : Option Addr) (len1 cap1 : Nat) (a2 : Option Addr) (len2 cap2 : Nat) (s2 : List ByteArray) (a3 : Option Addr) (len3 cap3 : Nat)
    (a4 : Option Addr) (len4 cap4 : Nat) (s4 : List ByteArray) (a5 : Option Addr) (len5 cap5 : Nat) (w : World)
    (hS0 : IsStrs w a0 len0 s0) (hS2 : IsStrs w a2 len2 s2) (hS4 : IsStrs w a4 len4 s4) :
    Calls Try.prog 15 #[.slice a0 len0 cap0, .slice a1 len1 cap1, .slice a2 len2 cap2, .slice a3 len3 cap3, .slice a4 len4 cap4, .slice a5 len5 cap5] w fun e w' =>
      BytesPost (len0 ≤ 1048576 ∧ len2 ≤ 1048576 ∧ len4 ≤ 1048576) e ∧ w' = w := by
  obtain ⟨_, hsz0, hS0⟩ := hS0
  obtain ⟨_, hsz2, hS2⟩ := hS2
  obtain ⟨_, hsz4, hS4⟩ := hS4
  clear hsz0 hsz2 hsz4
  by_cases h0 : 1048576 < (len0 : Int)
  · go_enter Try.func15, Try.ntmps15
    go_wp2
    go_ret
    exact ⟨bytes_no _, rfl⟩
  go_enter Try.func15, Try.ntmps15
  go_wp2
  go_loop [13, 14] (fun n i => ∃ (k : Nat) (m : Int), k ≤ len0 ∧ 0 ≤ m ∧ m ≤ 1048576 ∧ i = .int .i64 k ∧ n = .int .i64 m) (fun _ i => len0 - (intOf i).toNat)
  case atStart => exact ⟨0, _, Nat.zero_le _, by omega, by omega, rfl, rfl⟩
  case round =>
    obtain ⟨k, m, hk, hm0, hm1, rfl, rfl⟩ := hrel
    by_cases hlt : k < len0
    · obtain ⟨b, off, rfl, hb, hc⟩ := hS0 (by omega)
      have hck := hc k hlt
      clear hS0 hc hS2 hS4
      go_wp2
      · go_ret
        exact ⟨bytes_no _, rfl⟩
      · go_ret
        exact ⟨bytes_no _, rfl⟩
      · go_round
        case rel => exact ⟨k + 1, _, by omega, by omega, by omega, by go_num, rfl⟩
        case measure => simp [intOf]; omega
    · by_cases h1 : 1048576 < (len1 : Int)
      · go_wp2
        go_ret
        exact ⟨bytes_no _, rfl⟩
      by_cases h1' : 1048576 < m + (len1 : Int)
      · go_wp2
        go_ret
        exact ⟨bytes_no _, rfl⟩
      by_cases h2 : 1048576 < (len2 : Int)
      · go_wp2
        go_ret
        exact ⟨bytes_no _, rfl⟩
      by_cases h2' : 1048576 < m + (len1 : Int) + len2
      · go_wp2
        go_ret
        exact ⟨bytes_no _, rfl⟩
      go_wp2
      go_loop [13, 15] (fun n i => ∃ (k : Nat) (m : Int), k ≤ len2 ∧ 0 ≤ m ∧ m ≤ 1048576 ∧ i = .int .i64 k ∧ n = .int .i64 m) (fun _ i => len2 - (intOf i).toNat)
      case atStart => exact ⟨0, _, Nat.zero_le _, by omega, by omega, rfl, rfl⟩
      case round =>
        obtain ⟨k2, m2, hk2, hm20, hm21, rfl, rfl⟩ := hrel
        have g0 : len0 ≤ 1048576 := by omega
        have g2 : len2 ≤ 1048576 := by omega
        clear h1 h1' h2 h2' hm0 hm1 hk hlt hS0 h0
        by_cases hlt2 : k2 < len2
        · obtain ⟨b, off, rfl, hb, hc⟩ := hS2 (by omega)
          have hck := hc k2 hlt2
          clear hc hS2 hS4
          go_wp2
          · go_ret
            exact ⟨bytes_no _, rfl⟩
          · go_ret
            exact ⟨bytes_no _, rfl⟩
          · go_round
            case rel => exact ⟨k2 + 1, _, by omega, by omega, by omega, by go_num, rfl⟩
            case measure => simp [intOf]; omega
        · by_cases h3 : 1048576 < (len3 : Int)
          · go_wp2
            go_ret
            exact ⟨bytes_no _, rfl⟩
          by_cases h3' : 1048576 < m2 + (len3 : Int)
          · go_wp2
            go_ret
            exact ⟨bytes_no _, rfl⟩
          by_cases h4 : 1048576 < (len4 : Int)
          · go_wp2
            go_ret
            exact ⟨bytes_no _, rfl⟩
          by_cases h4' : 1048576 < m2 + (len3 : Int) + len4
          · go_wp2
            go_ret
            exact ⟨bytes_no _, rfl⟩
          go_wp2
          go_loop [13, 16] (fun n i => ∃ (k : Nat) (m : Int), k ≤ len4 ∧ 0 ≤ m ∧ m ≤ 1048576 ∧ i = .int .i64 k ∧ n = .int .i64 m) (fun _ i => len4 - (intOf i).toNat)
          case atStart => exact ⟨0, _, Nat.zero_le _, by omega, by omega, rfl, rfl⟩
          case round =>
            obtain ⟨k4, m4, hk4, hm40, hm41, rfl, rfl⟩ := hrel
            have g4 : len4 ≤ 1048576 := by omega
            clear h3 h3' h4 h4' hm20 hm21 hk2 hlt2 hS2
            by_cases hlt4 : k4 < len4
            · obtain ⟨b, off, rfl, hb, hc⟩ := hS4 (by omega)
              have hck := hc k4 hlt4
              clear hc hS4
              go_wp2
              · go_ret
                exact ⟨bytes_no _, rfl⟩
              · go_ret
                exact ⟨bytes_no _, rfl⟩
              · go_round
                case rel => exact ⟨k4 + 1, _, by omega, by omega, by omega, by go_num, rfl⟩
                case measure => simp [intOf]; omega
            · by_cases h5 : 1048576 < (len5 : Int)
              · go_wp2
                go_ret
                exact ⟨bytes_no _, rfl⟩
              by_cases h5' : 1048576 < m4 + (len5 : Int)
              · go_wp2
                go_ret
                exact ⟨bytes_no _, rfl⟩
              go_wp2
              go_ret
              exact ⟨bytes_yes (by first | exact trivial | exact ⟨g0, g2, g4⟩), rfl⟩

set_option maxHeartbeats 2000000 in
theorem bytes19 (a0 : Option Addr) (len0 cap0 : Nat) (s0 : List ByteArray) (a1 : Option Addr) (len1 cap1 : Nat) (a2 : Option Addr) (len2 cap2 : Nat) (s2 : List ByteArray) (a3 : Option Addr) (len3 cap3 : Nat)
    (a4 : Option Addr) (len4 cap4 : Nat) (s4 : List ByteArray) (a5 : Option Addr) (len5 cap5 : Nat) (w : World)
    (hS0 : IsStrs w a0 len0 s0) (hS2 : IsStrs w a2 len2 s2) (hS4 : IsStrs w a4 len4 s4) :
    Calls Try.prog 19 #[.slice a0 len0 cap0, .slice a1 len1 cap1, .slice a2 len2 cap2, .slice a3 len3 cap3, .slice a4 len4 cap4, .slice a5 len5 cap5] w fun e w' =>
      BytesPost (len0 ≤ 1048576 ∧ len2 ≤ 1048576 ∧ len4 ≤ 1048576) e ∧ w' = w := by
  obtain ⟨_, hsz0, hS0⟩ := hS0
  obtain ⟨_, hsz2, hS2⟩ := hS2
  obtain ⟨_, hsz4, hS4⟩ := hS4
  clear hsz0 hsz2 hsz4
  by_cases h0 : 1048576 < (len0 : Int)
  · go_enter Try.func19, Try.ntmps19
    go_wp2
    go_ret
    exact ⟨bytes_no _, rfl⟩
  go_enter Try.func19, Try.ntmps19
  go_wp2
  go_loop [13, 14] (fun n i => ∃ (k : Nat) (m : Int), k ≤ len0 ∧ 0 ≤ m ∧ m ≤ 1048576 ∧ i = .int .i64 k ∧ n = .int .i64 m) (fun _ i => len0 - (intOf i).toNat)
  case atStart => exact ⟨0, _, Nat.zero_le _, by omega, by omega, rfl, rfl⟩
  case round =>
    obtain ⟨k, m, hk, hm0, hm1, rfl, rfl⟩ := hrel
    by_cases hlt : k < len0
    · obtain ⟨b, off, rfl, hb, hc⟩ := hS0 (by omega)
      have hck := hc k hlt
      clear hS0 hc hS2 hS4
      go_wp2
      · go_ret
        exact ⟨bytes_no _, rfl⟩
      · go_ret
        exact ⟨bytes_no _, rfl⟩
      · go_round
        case rel => exact ⟨k + 1, _, by omega, by omega, by omega, by go_num, rfl⟩
        case measure => simp [intOf]; omega
    · by_cases h1 : 1048576 < (len1 : Int)
      · go_wp2
        go_ret
        exact ⟨bytes_no _, rfl⟩
      by_cases h1' : 1048576 < m + (len1 : Int)
      · go_wp2
        go_ret
        exact ⟨bytes_no _, rfl⟩
      by_cases h2 : 1048576 < (len2 : Int)
      · go_wp2
        go_ret
        exact ⟨bytes_no _, rfl⟩
      by_cases h2' : 1048576 < m + (len1 : Int) + len2
      · go_wp2
        go_ret
        exact ⟨bytes_no _, rfl⟩
      go_wp2
      go_loop [13, 15] (fun n i => ∃ (k : Nat) (m : Int), k ≤ len2 ∧ 0 ≤ m ∧ m ≤ 1048576 ∧ i = .int .i64 k ∧ n = .int .i64 m) (fun _ i => len2 - (intOf i).toNat)
      case atStart => exact ⟨0, _, Nat.zero_le _, by omega, by omega, rfl, rfl⟩
      case round =>
        obtain ⟨k2, m2, hk2, hm20, hm21, rfl, rfl⟩ := hrel
        have g0 : len0 ≤ 1048576 := by omega
        have g2 : len2 ≤ 1048576 := by omega
        clear h1 h1' h2 h2' hm0 hm1 hk hlt hS0 h0
        by_cases hlt2 : k2 < len2
        · obtain ⟨b, off, rfl, hb, hc⟩ := hS2 (by omega)
          have hck := hc k2 hlt2
          clear hc hS2 hS4
          go_wp2
          · go_ret
            exact ⟨bytes_no _, rfl⟩
          · go_ret
            exact ⟨bytes_no _, rfl⟩
          · go_round
            case rel => exact ⟨k2 + 1, _, by omega, by omega, by omega, by go_num, rfl⟩
            case measure => simp [intOf]; omega
        · by_cases h3 : 1048576 < (len3 : Int)
          · go_wp2
            go_ret
            exact ⟨bytes_no _, rfl⟩
          by_cases h3' : 1048576 < m2 + (len3 : Int)
          · go_wp2
            go_ret
            exact ⟨bytes_no _, rfl⟩
          by_cases h4 : 1048576 < (len4 : Int)
          · go_wp2
            go_ret
            exact ⟨bytes_no _, rfl⟩
          by_cases h4' : 1048576 < m2 + (len3 : Int) + len4
          · go_wp2
            go_ret
            exact ⟨bytes_no _, rfl⟩
          go_wp2
          go_loop [13, 16] (fun n i => ∃ (k : Nat) (m : Int), k ≤ len4 ∧ 0 ≤ m ∧ m ≤ 1048576 ∧ i = .int .i64 k ∧ n = .int .i64 m) (fun _ i => len4 - (intOf i).toNat)
          case atStart => exact ⟨0, _, Nat.zero_le _, by omega, by omega, rfl, rfl⟩
          case round =>
            obtain ⟨k4, m4, hk4, hm40, hm41, rfl, rfl⟩ := hrel
            have g4 : len4 ≤ 1048576 := by omega
            clear h3 h3' h4 h4' hm20 hm21 hk2 hlt2 hS2
            by_cases hlt4 : k4 < len4
            · obtain ⟨b, off, rfl, hb, hc⟩ := hS4 (by omega)
              have hck := hc k4 hlt4
              clear hc hS4
              go_wp2
              · go_ret
                exact ⟨bytes_no _, rfl⟩
              · go_ret
                exact ⟨bytes_no _, rfl⟩
              · go_round
                case rel => exact ⟨k4 + 1, _, by omega, by omega, by omega, by go_num, rfl⟩
                case measure => simp [intOf]; omega
            · by_cases h5 : 1048576 < (len5 : Int)
              · go_wp2
                go_ret
                exact ⟨bytes_no _, rfl⟩
              by_cases h5' : 1048576 < m4 + (len5 : Int)
              · go_wp2
                go_ret
                exact ⟨bytes_no _, rfl⟩
              go_wp2
              go_ret
              exact ⟨bytes_yes (by first | exact trivial | exact ⟨g0, g2, g4⟩), rfl⟩

end Go.Proofs.Qxb6000435a
