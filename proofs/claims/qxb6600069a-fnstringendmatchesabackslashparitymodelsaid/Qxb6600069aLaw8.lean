/-
  Qxb6600069a: the walk of FnStringEndMatchesABackslashParityModel.
-/
import Derived.Test.Qxb6600069aWalkB
namespace Go.Proofs.Qxb6600069a
open Go.RowKit

theorem E_ge {zs : List Int} {k : Nat} (h : k ≤ zs.length) : k ≤ E zs k := by
  rw [E_eq h]; omega

set_option maxHeartbeats 400000 in
set_option maxRecDepth 100000 in
theorem walk8 (a0 : Option Addr) (len0 cap0 : Nat) (zs : List Int) (n : Int) (w : World) (hn : (Lit.int .i64 n).wf = true) (hB0 : IsBytes w a0 len0 zs) :
    Calls Try.prog 8 #[.slice a0 len0 cap0, .int .i64 n] w fun e w' => e = .returned (.bool true) ∧ Below w.heap.size w w' := by
  by_cases hneg : n < 0
  · go_enter Try.func8, Try.ntmps8
    go_wp2_with fail
    refine (bytes24 a0 len0 cap0 n w).mono ?_
    rintro e w' ⟨⟨r, rfl, _⟩, rfl⟩
    cases r
    all_goals
      go_wp2_with fail
      all_goals
        go_ret
        exact ⟨rfl, Below.refl _ _⟩
  obtain ⟨st, rfl⟩ : ∃ st : Nat, n = st := ⟨n.toNat, by omega⟩
  clear hneg hn
  by_cases hgt : len0 < st
  · go_enter Try.func8, Try.ntmps8
    go_wp2_with fail
    refine (bytes24 a0 len0 cap0 st w).mono ?_
    rintro e w' ⟨⟨r, rfl, _⟩, rfl⟩
    cases r
    all_goals
      go_wp2_with fail
      all_goals
        go_ret
        exact ⟨rfl, Below.refl _ _⟩
  by_cases hl : 1048576 < (len0 : Int)
  · go_enter Try.func8, Try.ntmps8
    go_wp2_with fail
    refine (bytes24 a0 len0 cap0 st w).mono ?_
    rintro e w' ⟨⟨r, rfl, _⟩, rfl⟩
    cases r
    all_goals
      go_wp2_with fail
      all_goals
        go_ret
        exact ⟨rfl, Below.refl _ _⟩
  go_enter Try.func8, Try.ntmps8
  go_wp2_with fail
  refine (bytes24 a0 len0 cap0 st w).mono ?_
  rintro e w' ⟨⟨r, rfl, _⟩, rfl⟩
  cases r
  · go_wp2_with fail
    go_ret
    exact ⟨rfl, Below.refl _ _⟩
  go_wp2_with fail
  refine (clone_any a0 len0 cap0 zs w' hB0 (by omega)).mono ?_
  rintro e w1 ⟨a0', cap0', rfl, hB, _, hb1⟩
  have hse := zzStringEnd_any a0' len0 cap0' zs st w1 hB (by omega) (by omega)
  have hmo := model_any a0' len0 cap0' zs st w1 hB (by omega) (by omega)
  have hle := E_le zs (st + 1)
  have hge : st < len0 → st + 1 ≤ E zs (st + 1) := fun h => E_ge (by rw [hB.1]; omega)
  rw [hB.1] at hle
  generalize E zs (st + 1) = r at hse hmo hle hge
  clear hB hB0
  go_wp2_with fail
  refine hse.mono ?_
  rintro e w2 ⟨rfl, rfl⟩
  clear hse
  by_cases hlt : st < len0
  · have hr := hge hlt
    clear hge
    go_wp2_with fail
    refine hmo.mono ?_
    rintro e w3 ⟨rfl, rfl⟩
    clear hmo
    go_wp2_with fail
    go_ret
    exact ⟨rfl, hb1⟩
  · clear hge
    go_wp2_with fail
    refine hmo.mono ?_
    rintro e w3 ⟨rfl, rfl⟩
    clear hmo
    go_wp2_with fail
    go_ret
    exact ⟨rfl, hb1⟩

end Go.Proofs.Qxb6600069a
