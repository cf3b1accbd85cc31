/-
  Qxb6600069a: the walk of FnSkipSpaceStopsAtTheFirstNonSpace.
-/
import Derived.Test.Qxb6600069aWalkC
namespace Go.Proofs.Qxb6600069a
open Go.RowKit

def LInner (st j : Nat) (i : Value) : Prop := ∃ k : Nat, st ≤ k ∧ k ≤ j ∧ i = .int .i64 k

set_option maxHeartbeats 1000000 in
set_option maxRecDepth 100000 in
theorem walk10 (a0 : Option Addr) (len0 cap0 : Nat) (zs : List Int) (n : Int) (w : World) (hn : (Lit.int .i64 n).wf = true) (hB0 : IsBytes w a0 len0 zs) :
    Calls Try.prog 10 #[.slice a0 len0 cap0, .int .i64 n] w fun e w' => e = .returned (.bool true) ∧ Below w.heap.size w w' := by
  by_cases hneg : n < 0
  · go_enter Try.func10, Try.ntmps10
    go_wp2_with fail
    refine (bytes27 a0 len0 cap0 n w).mono ?_
    rintro e w' ⟨⟨r, rfl, _⟩, rfl⟩
    cases r
    all_goals
      go_wp2_with fail
      all_goals
        go_ret
        exact ⟨rfl, Below.refl _ _⟩
  obtain ⟨st, rfl⟩ : ∃ st : Nat, n = st := ⟨n.toNat, by omega⟩
  clear hneg hn
  by_cases hl : 1048576 < (len0 : Int)
  · go_enter Try.func10, Try.ntmps10
    go_wp2_with fail
    refine (bytes27 a0 len0 cap0 st w).mono ?_
    rintro e w' ⟨⟨r, rfl, _⟩, rfl⟩
    cases r
    all_goals
      go_wp2_with fail
      all_goals
        go_ret
        exact ⟨rfl, Below.refl _ _⟩
  have d1 : decide (1048576 < (len0 : Int)) = false := decide_eq_false hl
  have d2 : decide ((st : Int) < 0) = false := decide_eq_false (by omega)
  go_enter Try.func10, Try.ntmps10
  go_wp2_with fail
  refine (bytes27 a0 len0 cap0 st w).mono ?_
  rintro e w' ⟨⟨r, rfl, _⟩, rfl⟩
  cases r
  · go_wp2_with fail
    go_ret
    exact ⟨rfl, Below.refl _ _⟩
  go_wp2_with fail
  refine (clone_any a0 len0 cap0 zs w' hB0 (by omega)).mono ?_
  rintro e w1 ⟨a0', cap0', rfl, hB, _, hb1⟩
  clear hB0
  go_wp2_with fail
  refine (zzSkipSpace_any a0' len0 cap0' zs st w1 hB (by omega)).mono ?_
  rintro e w2 ⟨⟨j, rfl, hj⟩, rfl⟩
  by_cases hge : len0 ≤ st
  · obtain rfl : j = st := hj.out.1 hge
    go_wp2_with fail
    go_ret
    exact ⟨rfl, hb1⟩
  obtain ⟨hsj, hjl, hall, hend⟩ := hj.out.2 (by omega)
  obtain ⟨hlen, _, hBc⟩ := hB
  obtain ⟨b, off, rfl, hb, hc⟩ := hBc (by omega)
  have HA : Hid (∀ m, st ≤ m → m < j → isSp (zs.getD m 0) = true) := hall
  have HE : Hid (j = len0 ∨ isSp (zs.getD j 0) = false) := hend
  have HC : Hid (∀ j, j < len0 → w2.cell? ⟨b, off + j, none⟩ = some (.int .u8 (zs.getD j 0))) := hc
  clear hj hall hend hc hBc
  have d3 : decide (j < st) = false := decide_eq_false (by omega)
  have d4 : decide (len0 < j) = false := decide_eq_false (by omega)
  go_wp2_with fail
  go_loop [6] (fun i => LInner st j i) (fun i => j - (intOf i).toNat)
  case atStart => exact ⟨st, Nat.le_refl _, hsj, rfl⟩
  case round =>
    obtain ⟨k, hk1, hk2, rfl⟩ := hrel
    by_cases hlt : k < j
    · obtain ⟨c, hcc⟩ : ∃ c, c = zs.getD k 0 := ⟨_, rfl⟩
      have hcell : w2.cell? ⟨b, off + k, none⟩ = some (.int .u8 c) := by rw [hcc]; exact HC.out k (by omega)
      have hs := HA.out k hk1 hlt
      rw [← hcc] at hs
      have hcall := isSpace_any c w2
      rw [hs] at hcall
      clear hcc hs HA HE HC
      go_wp2_with fail
      refine hcall.mono ?_
      rintro e w3 ⟨rfl, rfl⟩
      clear hcall
      go_wp2
      go_round
      case rel => exact ⟨k + 1, by omega, by omega, by go_num⟩
      case measure => simp [intOf]; omega
    · obtain rfl : k = j := by omega
      by_cases hjl' : k = len0
      · have e1 : ((k : Int) == (len0 : Int)) = true := by simp; omega
        clear hjl'
        go_wp2_with fail
        go_ret
        exact ⟨rfl, hb1⟩
      · have e1 : ((k : Int) == (len0 : Int)) = false := by simp; omega
        have hs : isSp (zs.getD k 0) = false := by
          rcases HE.out with h | h
          · exact absurd h hjl'
          · exact h
        obtain ⟨c, hcc⟩ : ∃ c, c = zs.getD k 0 := ⟨_, rfl⟩
        have hcell : w2.cell? ⟨b, off + k, none⟩ = some (.int .u8 c) := by rw [hcc]; exact HC.out k (by omega)
        rw [← hcc] at hs
        have hcall := isSpace_any c w2
        rw [hs] at hcall
        clear hcc hs HA HE HC
        go_wp2_with fail
        refine hcall.mono ?_
        rintro e w3 ⟨rfl, rfl⟩
        clear hcall
        go_wp2_with fail
        go_ret
        exact ⟨rfl, hb1⟩

end Go.Proofs.Qxb6600069a
