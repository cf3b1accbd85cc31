/-
  Qxb6600069a: the walks of skipSpace, isSpaceByteB1.
-/
import Derived.Test.Qxb6600069aWalkB
namespace Go.Proofs.Qxb6600069a
open Go.RowKit

/-- The four white-space bytes of JSON. -/
def isSp (c : Int) : Bool := decide (c = 32 ∨ c = 9 ∨ c = 10 ∨ c = 13)
theorem isSp_yes {c : Int} (h : c = 32 ∨ c = 9 ∨ c = 10 ∨ c = 13) : isSp c = true := decide_eq_true h
theorem isSp_no {c : Int} (h1 : c ≠ 32) (h2 : c ≠ 9) (h3 : c ≠ 10) (h4 : c ≠ 13) : isSp c = false := decide_eq_false (by omega)

set_option maxHeartbeats 400000 in
theorem isSpace_any (c : Int) (w : World) : Calls Try.prog 28 #[.int .u8 c] w fun e w' => e = .returned (.bool (isSp c)) ∧ w' = w := by
  by_cases h1 : c = 32
  · have e1 : (c == 32) = true := by simp [h1]
    rw [isSp_yes (Or.inl h1)]
    clear h1
    go_enter Try.func28, Try.ntmps28
    go_wp2
    go_ret
    exact ⟨rfl, rfl⟩
  have e1 : (c == 32) = false := by simp [h1]
  by_cases h2 : c = 9
  · have e2 : (c == 9) = true := by simp [h2]
    rw [isSp_yes (Or.inr (Or.inl h2))]
    clear h1 h2
    go_enter Try.func28, Try.ntmps28
    go_wp2
    go_ret
    exact ⟨rfl, rfl⟩
  have e2 : (c == 9) = false := by simp [h2]
  by_cases h3 : c = 10
  · have e3 : (c == 10) = true := by simp [h3]
    rw [isSp_yes (Or.inr (Or.inr (Or.inl h3)))]
    clear h1 h2 h3
    go_enter Try.func28, Try.ntmps28
    go_wp2
    go_ret
    exact ⟨rfl, rfl⟩
  have e3 : (c == 10) = false := by simp [h3]
  by_cases h4 : c = 13
  · have e4 : (c == 13) = true := by simp [h4]
    rw [isSp_yes (Or.inr (Or.inr (Or.inr h4)))]
    clear h1 h2 h3 h4
    go_enter Try.func28, Try.ntmps28
    go_wp2
    go_ret
    exact ⟨rfl, rfl⟩
  have e4 : (c == 13) = false := by simp [h4]
  rw [isSp_no h1 h2 h3 h4]
  clear h1 h2 h3 h4
  go_enter Try.func28, Try.ntmps28
  go_wp2
  go_ret
  exact ⟨rfl, rfl⟩

def KInner (zs : List Int) (len st : Nat) (i : Value) : Prop := ∃ k : Nat, i = .int .i64 k ∧ st ≤ k ∧ (k ≤ len ∨ k = st) ∧ ∀ m, st ≤ m → m < k → isSp (zs.getD m 0) = true

/-- What skipSpace answers. -/
def SkipPost (zs : List Int) (len st j : Nat) : Prop :=
  (len ≤ st → j = st) ∧ (st < len → st ≤ j ∧ j ≤ len ∧ (∀ m, st ≤ m → m < j → isSp (zs.getD m 0) = true) ∧ (j = len ∨ isSp (zs.getD j 0) = false))

theorem sp_step {zs : List Int} {st k : Nat} {c : Int} (h : ∀ m, st ≤ m → m < k → isSp (zs.getD m 0) = true) (hc : c = zs.getD k 0) (hs : isSp c = true) : ∀ m, st ≤ m → m < k + 1 → isSp (zs.getD m 0) = true := by
  intro m h1 h2
  by_cases e : m = k
  · subst e
    rw [← hc]; exact hs
  · exact h m h1 (by omega)

set_option maxHeartbeats 1000000 in
theorem skipSpace_any (a : Option Addr) (len cap : Nat) (zs : List Int) (st : Nat) (w : World) (hB : IsBytes w a len zs) (hl : len ≤ 10000000) :
    Calls Try.prog 31 #[.slice a len cap, .int .i64 st] w fun e w' => (∃ j : Nat, e = .returned (.int .i64 j) ∧ Hid (SkipPost zs len st j)) ∧ w' = w := by
  obtain ⟨hlen, _, hB⟩ := hB
  go_enter Try.func31, Try.ntmps31
  go_wp2
  go_loop [1] (fun i => KInner zs len st i) (fun i => len - (intOf i).toNat)
  case atStart => exact ⟨st, rfl, Nat.le_refl _, Or.inr rfl, fun m h1 h2 => by omega⟩
  case round =>
    obtain ⟨k, rfl, hsk, hkl, hsp⟩ := hrel
    have HS : Hid (∀ m, st ≤ m → m < k → isSp (zs.getD m 0) = true) := hsp
    have HK : Hid (k ≤ len ∨ k = st) := hkl
    clear hsp hkl
    by_cases hlt : k < len
    · obtain ⟨b, off, rfl, hb, hc⟩ := hB (by omega)
      obtain ⟨c, hcc⟩ : ∃ c, c = zs.getD k 0 := ⟨_, rfl⟩
      have hcell : w.cell? ⟨b, off + k, none⟩ = some (.int .u8 c) := by rw [hcc]; exact hc k hlt
      have HC : Hid (c = zs.getD k 0) := hcc
      clear hcc hc hB
      by_cases h1 : c = 32
      · have e1 : (c == 32) = true := by simp [h1]
        have H1 : Hid (isSp c = true) := isSp_yes (Or.inl h1)
        clear h1
        go_wp2
        go_round
        case rel => exact ⟨k + 1, by go_num, by omega, Or.inl (by omega), sp_step HS.out HC.out H1.out⟩
        case measure => simp [intOf]; omega
      have e1 : (c == 32) = false := by simp [h1]
      by_cases h2 : c = 9
      · have e2 : (c == 9) = true := by simp [h2]
        have H1 : Hid (isSp c = true) := isSp_yes (Or.inr (Or.inl h2))
        clear h1 h2
        go_wp2
        go_round
        case rel => exact ⟨k + 1, by go_num, by omega, Or.inl (by omega), sp_step HS.out HC.out H1.out⟩
        case measure => simp [intOf]; omega
      have e2 : (c == 9) = false := by simp [h2]
      by_cases h3 : c = 10
      · have e3 : (c == 10) = true := by simp [h3]
        have H1 : Hid (isSp c = true) := isSp_yes (Or.inr (Or.inr (Or.inl h3)))
        clear h1 h2 h3
        go_wp2
        go_round
        case rel => exact ⟨k + 1, by go_num, by omega, Or.inl (by omega), sp_step HS.out HC.out H1.out⟩
        case measure => simp [intOf]; omega
      have e3 : (c == 10) = false := by simp [h3]
      by_cases h4 : c = 13
      · have e4 : (c == 13) = true := by simp [h4]
        have H1 : Hid (isSp c = true) := isSp_yes (Or.inr (Or.inr (Or.inr h4)))
        clear h1 h2 h3 h4
        go_wp2
        go_round
        case rel => exact ⟨k + 1, by go_num, by omega, Or.inl (by omega), sp_step HS.out HC.out H1.out⟩
        case measure => simp [intOf]; omega
      have e4 : (c == 13) = false := by simp [h4]
      have H1 : Hid (isSp c = false) := isSp_no h1 h2 h3 h4
      clear h1 h2 h3 h4
      go_wp2
      go_ret
      exact ⟨⟨k, rfl, ⟨fun h => by omega, fun h => ⟨hsk, by omega, HS.out, Or.inr (by rw [← HC.out]; exact H1.out)⟩⟩⟩, rfl⟩
    · go_wp2
      go_ret
      exact ⟨⟨k, rfl, ⟨fun h => by rcases HK.out with h1 | h1 <;> omega, fun h => ⟨hsk, by rcases HK.out with h1 | h1 <;> omega, HS.out, Or.inl (by rcases HK.out with h1 | h1 <;> omega)⟩⟩⟩, rfl⟩

set_option maxHeartbeats 400000 in
theorem zzSkipSpace_any (a : Option Addr) (len cap : Nat) (zs : List Int) (st : Nat) (w : World) (hB : IsBytes w a len zs) (hl : len ≤ 10000000) :
    Calls Try.prog 19 #[.slice a len cap, .int .i64 st] w fun e w' => (∃ j : Nat, e = .returned (.int .i64 j) ∧ Hid (SkipPost zs len st j)) ∧ w' = w := by
  go_enter Try.func19, Try.ntmps19
  go_wp2_with fail
  refine (skipSpace_any a len cap zs st w hB hl).mono ?_
  rintro e w' ⟨⟨j, rfl, hj⟩, rfl⟩
  go_wp2_with fail
  go_ret
  exact ⟨⟨j, rfl, hj⟩, rfl⟩

end Go.Proofs.Qxb6600069a
