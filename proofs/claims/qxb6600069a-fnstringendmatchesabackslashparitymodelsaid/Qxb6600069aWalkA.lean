/-
  Qxb6600069a: the walks of the functions that only read: stringEnd, stringEndModelB1, skipSpace, isSpaceByteB1, zzBytes_...
-/
import Derived.Test.Qxb6600069aRows
import Derived.Test.Qxb6600069aPlain
import Derived.WalkKit
import Derived.WalkSpells
import Derived.WalkLawsBesides
namespace Go.Proofs.Qxb6600069a
open Go.RowKit

/-- A slice of bytes that can be read: its elements are 'zs'. -/
def IsBytes (w : World) (a : Option Addr) (len : Nat) (zs : List Int) : Prop :=
  zs.length = len ∧ (∀ n ∈ zs, (Lit.int .u8 n).wf = true) ∧ (0 < len → ∃ b off, a = some ⟨b, off, none⟩ ∧ b < w.heap.size ∧ ∀ j, j < len → w.cell? ⟨b, off + j, none⟩ = some (.int .u8 (zs.getD j 0)))

theorem IsBytes.below {w w' : World} {a : Option Addr} {len B : Nat} {zs : List Int} (h : IsBytes w a len zs) (hb : Below B w w') (hB : w.heap.size ≤ B) : IsBytes w' a len zs := by
  obtain ⟨h1, h2, h3⟩ := h
  refine ⟨h1, h2, fun hl => ?_⟩
  obtain ⟨b, off, e, hlt, hc⟩ := h3 hl
  exact ⟨b, off, e, by have := hb.size; omega, fun j hj => (hb.cell (by show b < B; omega)).trans (hc j hj)⟩

theorem ret_int {k : IntKind} {a b : Int} (h : a = b) : Ending.returned (.int k a) = .returned (.int k b) := by rw [h]

/-! ### stringEnd -/
def SEInner (zs : List Int) (s0 : Nat) (i : Value) : Prop := ∃ k : Nat, k ≤ zs.length + 1 ∧ i = .int .i64 k ∧ E zs k = E zs s0

set_option maxHeartbeats 400000 in
theorem stringEnd_any (a : Option Addr) (len cap : Nat) (zs : List Int) (st : Nat) (w : World) (hB : IsBytes w a len zs) (hst : st ≤ len) (hl : len ≤ 10000000) :
    Calls Try.prog 32 #[.slice a len cap, .int .i64 st] w fun e w' => e = .returned (.int .i64 (E zs (st + 1))) ∧ w' = w := by
  obtain ⟨hlen, _, hB⟩ := hB
  go_enter Try.func32, Try.ntmps32
  go_wp2
  go_loop [5] (fun i => SEInner zs (st + 1) i) (fun i => len + 1 - (intOf i).toNat)
  case atStart => exact ⟨st + 1, by omega, by go_num, rfl⟩
  case round =>
    obtain ⟨k, hk, rfl, hE⟩ := hrel
    have HE : Hid (E zs k = E zs (st + 1)) := hE
    clear hE
    by_cases hlt : k < len
    · obtain ⟨b, off, rfl, hb, hc⟩ := hB (by omega)
      obtain ⟨c, hcc⟩ : ∃ c, c = zs.getD k 0 := ⟨_, rfl⟩
      have hcell : w.cell? ⟨b, off + k, none⟩ = some (.int .u8 c) := by rw [hcc]; exact hc k hlt
      have HC : Hid (c = zs.getD k 0) := hcc
      clear hcc hc hB
      by_cases h1 : c = 92
      · have e1 : (c == 92) = true := by simp [h1]
        have H1 : Hid (c = 92) := h1
        clear h1
        go_wp2
        go_round
        case rel => exact ⟨k + 2, by omega, by go_num, by rw [← E_esc (by omega) HC.out H1.out]; exact HE.out⟩
        case measure => simp [intOf]; omega
      · have e1 : (c == 92) = false := by simp [h1]
        have H1 : Hid (c ≠ 92) := h1
        clear h1
        by_cases h2 : c = 34
        · have e2 : (c == 34) = true := by simp [h2]
          have H2 : Hid (c = 34) := h2
          clear h2
          go_wp2
          go_ret
          exact ⟨ret_int (by rw [← HE.out, E_quote (by omega) HC.out H2.out]; omega), rfl⟩
        · have e2 : (c == 34) = false := by simp [h2]
          have H2 : Hid (c ≠ 34) := h2
          clear h2
          go_wp2
          go_round
          case rel => exact ⟨k + 1, by omega, by go_num, by rw [← E_other (by omega) HC.out H1.out H2.out]; exact HE.out⟩
          case measure => simp [intOf]; omega
    · go_wp2
      go_ret
      exact ⟨ret_int (by rw [← HE.out, E_end (by omega)]; omega), rfl⟩

set_option maxHeartbeats 400000 in
theorem zzStringEnd_any (a : Option Addr) (len cap : Nat) (zs : List Int) (st : Nat) (w : World) (hB : IsBytes w a len zs) (hst : st ≤ len) (hl : len ≤ 10000000) :
    Calls Try.prog 23 #[.slice a len cap, .int .i64 st] w fun e w' => e = .returned (.int .i64 (E zs (st + 1))) ∧ w' = w := by
  go_enter Try.func23, Try.ntmps23
  go_wp2_with fail
  refine (stringEnd_any a len cap zs st w hB hst hl).mono ?_
  rintro e w' ⟨rfl, rfl⟩
  go_wp2_with fail
  go_ret
  exact ⟨rfl, rfl⟩

/-! ### the model by parity -/
def odd (rn : Nat) : Bool := rn % 2 == 1
theorem odd_succ (rn : Nat) : odd (rn + 1) = !odd rn := by
  unfold odd
  rcases (show rn % 2 = 0 ∨ rn % 2 = 1 by omega) with h | h
  · rw [h, show (rn + 1) % 2 = 1 by omega]; rfl
  · rw [h, show (rn + 1) % 2 = 0 by omega]; rfl
theorem odd_zero : odd 0 = false := rfl

def SMInner (zs : List Int) (s0 : Nat) (r i : Value) : Prop := ∃ k rn : Nat, k ≤ zs.length + 1 ∧ rn ≤ k ∧ i = .int .i64 k ∧ r = .int .i64 rn ∧ M zs (odd rn) k = E zs s0

set_option maxHeartbeats 400000 in
theorem model_any (a : Option Addr) (len cap : Nat) (zs : List Int) (st : Nat) (w : World) (hB : IsBytes w a len zs) (hst : st ≤ len) (hl : len ≤ 10000000) :
    Calls Try.prog 25 #[.slice a len cap, .int .i64 st] w fun e w' => e = .returned (.int .i64 (E zs (st + 1))) ∧ w' = w := by
  obtain ⟨hlen, _, hB⟩ := hB
  go_enter Try.func25, Try.ntmps25
  go_wp2
  go_loop [5, 6] (fun r i => SMInner zs (st + 1) r i) (fun _ i => len + 1 - (intOf i).toNat)
  case atStart => exact ⟨st + 1, 0, by omega, by omega, by go_num, rfl, by rw [odd_zero, M_eq]⟩
  case round =>
    obtain ⟨k, rn, hk, hrk, rfl, rfl, hE⟩ := hrel
    have HE : Hid (M zs (odd rn) k = E zs (st + 1)) := hE
    clear hE
    by_cases hlt : k < len
    · obtain ⟨b, off, rfl, hb, hc⟩ := hB (by omega)
      obtain ⟨c, hcc⟩ : ∃ c, c = zs.getD k 0 := ⟨_, rfl⟩
      have hcell : w.cell? ⟨b, off + k, none⟩ = some (.int .u8 c) := by rw [hcc]; exact hc k hlt
      have HC : Hid (c = zs.getD k 0) := hcc
      clear hcc hc hB
      by_cases h2 : c = 34
      · have e2 : (c == 34) = true := by simp [h2]
        have e1 : (c == 92) = false := by simp [h2]
        have H2 : Hid (c = 34) := h2
        clear h2
        by_cases hp : rn % 2 = 0
        · have e3 : ((rn : Int) % 2 == 0) = true := by simp; omega
          have HP : Hid (odd rn = false) := by unfold odd; rw [hp]; rfl
          clear hp
          go_wp2
          go_ret
          exact ⟨ret_int (by rw [← HE.out, HP.out, M_quote (by omega) HC.out H2.out]; omega), rfl⟩
        · have e3 : ((rn : Int) % 2 == 0) = false := by simp; omega
          have HP : Hid (odd rn = true) := by unfold odd; rw [show rn % 2 = 1 by omega]; rfl
          clear hp
          go_wp2
          go_round
          case rel => exact ⟨k + 1, 0, by omega, by omega, by go_num, rfl, by rw [odd_zero, ← M_quote_odd (by omega) HC.out H2.out, ← HP.out]; exact HE.out⟩
          case measure => simp [intOf]; omega
      · have e2 : (c == 34) = false := by simp [h2]
        have H2 : Hid (c ≠ 34) := h2
        clear h2
        by_cases h1 : c = 92
        · have e1 : (c == 92) = true := by simp [h1]
          have H1 : Hid (c = 92) := h1
          clear h1
          go_wp2
          go_round
          case rel => exact ⟨k + 1, rn + 1, by omega, by omega, by go_num, by go_num, by rw [odd_succ, ← M_esc (by omega) HC.out H1.out]; exact HE.out⟩
          case measure => simp [intOf]; omega
        · have e1 : (c == 92) = false := by simp [h1]
          have H1 : Hid (c ≠ 92) := h1
          clear h1
          go_wp2
          go_round
          case rel => exact ⟨k + 1, 0, by omega, by omega, by go_num, rfl, by rw [odd_zero, ← M_other (by omega) HC.out H1.out H2.out]; exact HE.out⟩
          case measure => simp [intOf]; omega
    · go_wp2
      go_ret
      exact ⟨ret_int (by rw [← HE.out, M_end (by omega)]; omega), rfl⟩

/-! ### the bounds on lengths -/
/-- It answers a bool; if that is true, p. -/
def BytesPost (p : Prop) (e : Ending) : Prop := ∃ r : Bool, e = .returned (.bool r) ∧ (r = true → p)
theorem bytes_no (p : Prop) : BytesPost p (.returned (.bool false)) := ⟨false, rfl, fun h => by cases h⟩
theorem bytes_any (r : Bool) : BytesPost True (.returned (.bool r)) := ⟨r, rfl, fun _ => trivial⟩

set_option maxHeartbeats 400000 in
theorem bytes24 (a : Option Addr) (len cap : Nat) (n : Int) (w : World) : Calls Try.prog 24 #[.slice a len cap, .int .i64 n] w fun e w' => BytesPost True e ∧ w' = w := by
  go_enter Try.func24, Try.ntmps24
  go_wp2
  all_goals
    go_ret
    exact ⟨bytes_any _, rfl⟩
set_option maxHeartbeats 400000 in
theorem bytes27 (a : Option Addr) (len cap : Nat) (n : Int) (w : World) : Calls Try.prog 27 #[.slice a len cap, .int .i64 n] w fun e w' => BytesPost True e ∧ w' = w := by
  go_enter Try.func27, Try.ntmps27
  go_wp2
  all_goals
    go_ret
    exact ⟨bytes_any _, rfl⟩
set_option maxHeartbeats 400000 in
theorem bytes26 (a : Option Addr) (len cap : Nat) (n : Int) (a2 : Option Addr) (len2 cap2 : Nat) (w : World) : Calls Try.prog 26 #[.slice a len cap, .int .i64 n, .slice a2 len2 cap2] w fun e w' => BytesPost True e ∧ w' = w := by
  go_enter Try.func26, Try.ntmps26
  go_wp2
  all_goals
    go_ret
    exact ⟨bytes_any _, rfl⟩
set_option maxHeartbeats 400000 in
theorem bytes22 (a : Option Addr) (len cap : Nat) (a1 : Option Addr) (len1 cap1 : Nat) (a2 : Option Addr) (len2 cap2 : Nat) (x : Bool) (w : World) : Calls Try.prog 22 #[.slice a len cap, .slice a1 len1 cap1, .slice a2 len2 cap2, .bool x] w fun e w' => BytesPost True e ∧ w' = w := by
  go_enter Try.func22, Try.ntmps22
  go_wp2
  all_goals
    go_ret
    exact ⟨bytes_any _, rfl⟩

end Go.Proofs.Qxb6600069a
