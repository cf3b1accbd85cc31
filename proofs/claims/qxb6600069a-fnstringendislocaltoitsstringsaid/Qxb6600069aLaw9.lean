/-
  Qxb6600069a: the walk of FnStringEndIsLocalToItsString.
-/
import Derived.Test.Qxb6600069aLaw8
namespace Go.Proofs.Qxb6600069a
open Go.RowKit

theorem IsBytes.take {w : World} {a : Option Addr} {len : Nat} {zs : List Int} (h : IsBytes w a len zs) {r : Nat} (hr : r ≤ len) : IsBytes w a r (zs.take r) := by
  obtain ⟨h1, h2, h3⟩ := h
  refine ⟨by rw [List.length_take]; omega, fun n hn => h2 n (List.mem_of_mem_take hn), fun h0 => ?_⟩
  obtain ⟨b, off, e, hb, hc⟩ := h3 (by omega)
  refine ⟨b, off, e, hb, fun j hj => ?_⟩
  rw [hc j (by omega)]
  simp [List.getD, hj]

theorem take_wf {zs ss : List Int} {r : Nat} (h1 : ∀ n ∈ zs, (Lit.int .u8 n).wf = true) (h2 : ∀ n ∈ ss, (Lit.int .u8 n).wf = true) : ∀ n ∈ zs.take r ++ ss, (Lit.int .u8 n).wf = true := by
  intro n hn
  rcases List.mem_append.1 hn with h | h
  · exact h1 n (List.mem_of_mem_take h)
  · exact h2 n h

set_option maxHeartbeats 400000 in
set_option maxRecDepth 100000 in
theorem walk9_out (a0 : Option Addr) (len0 cap0 : Nat) (n : Int) (a2 : Option Addr) (len2 cap2 : Nat) (w : World) (h : n < 0 ∨ (len0 : Int) ≤ n ∨ 524288 < (len0 : Int) ∨ 524288 < (len2 : Int)) :
    Calls Try.prog 9 #[.slice a0 len0 cap0, .int .i64 n, .slice a2 len2 cap2] w fun e w' => e = .returned (.bool true) ∧ Below w.heap.size w w' := by
  rcases h with h | h | h | h
  all_goals
    go_enter Try.func9, Try.ntmps9
    go_wp2_with fail
    refine (bytes26 a0 len0 cap0 n a2 len2 cap2 w).mono ?_
    rintro e w' ⟨⟨r, rfl, _⟩, rfl⟩
    cases r
    all_goals
      go_wp2_with fail
      all_goals
        go_ret
        exact ⟨rfl, Below.refl _ _⟩

set_option maxHeartbeats 1000000 in
set_option maxRecDepth 100000 in
theorem walk9 (a0 : Option Addr) (len0 cap0 : Nat) (zs : List Int) (n : Int) (a2 : Option Addr) (len2 cap2 : Nat) (ss : List Int) (w : World) (hn : (Lit.int .i64 n).wf = true) (hB0 : IsBytes w a0 len0 zs) (hB2 : IsBytes w a2 len2 ss) :
    Calls Try.prog 9 #[.slice a0 len0 cap0, .int .i64 n, .slice a2 len2 cap2] w fun e w' => e = .returned (.bool true) ∧ Below w.heap.size w w' := by
  by_cases hout : n < 0 ∨ (len0 : Int) ≤ n ∨ 524288 < (len0 : Int) ∨ 524288 < (len2 : Int)
  · exact walk9_out a0 len0 cap0 n a2 len2 cap2 w hout
  obtain ⟨st, rfl⟩ : ∃ st : Nat, n = st := ⟨n.toNat, by omega⟩
  have hst : st < len0 := by omega
  have hl0 : len0 ≤ 524288 := by omega
  have hl2 : len2 ≤ 524288 := by omega
  clear hout hn
  obtain ⟨i0, hi, hz0, hz1, hz2⟩ := info_parts info5
  go_enter Try.func9, Try.ntmps9
  go_wp2_with fail
  refine (bytes26 a0 len0 cap0 st a2 len2 cap2 w).mono ?_
  rintro e w' ⟨⟨r, rfl, _⟩, rfl⟩
  cases r
  · go_wp2_with fail
    go_ret
    exact ⟨rfl, Below.refl _ _⟩
  go_wp2_with fail
  refine (clone_any a0 len0 cap0 zs w' hB0 (by omega)).mono ?_
  rintro e w1 ⟨a0', cap0', rfl, hB, hcap, hb1⟩
  go_wp2_with fail
  refine (clone_any a2 len2 cap2 ss w1 (hB2.below hb1 (Nat.le_refl _)) (by omega)).mono ?_
  rintro e w2 ⟨a2', cap2', rfl, hBs, _, hb2⟩
  have sz1 := hb1.size
  have hW2 := hb1.trans (hb2.mono sz1)
  have hB' := hB.below hb2 (Nat.le_refl _)
  obtain ⟨b, off, rfl, _, _⟩ := hB'.2.2 (by omega)
  clear hB hB0 hB2 hb1 hb2
  have hse := zzStringEnd_any _ len0 cap0' zs st w2 hB' (by omega) (by omega)
  have hle := E_le zs (st + 1)
  have hge : st + 1 ≤ E zs (st + 1) := E_ge (by rw [hB'.1]; omega)
  rw [hB'.1] at hle
  obtain ⟨r, hr⟩ : ∃ r, r = E zs (st + 1) := ⟨_, rfl⟩
  rw [← hr] at hse hle hge
  have HT : Hid (E (zs.take r) (st + 1) = r) := E_take (by rw [hB'.1]; omega) hr
  have HJ : Hid (r < len0 → E (zs.take r ++ ss) (st + 1) = r) := fun h => E_join (by rw [hB'.1]; omega) hr (by rw [hB'.1]; exact h)
  have hBr := hB'.take hle
  have hs2 := zzStringEnd_any _ r cap0' _ st w2 hBr (by omega) (by omega)
  rw [HT.out] at hs2
  clear hr HT
  go_wp2_with fail
  refine hse.mono ?_
  rintro e w3 ⟨rfl, rfl⟩
  clear hse
  go_wp2_with fail
  refine hs2.mono ?_
  rintro e w4 ⟨rfl, rfl⟩
  clear hs2
  by_cases hlt : r < len0
  · go_wp2_with (first
      | (at_make; refine wpList_make_own _ rfl _ _ 22 rfl w4.heap.size 5 i0 (.int .u8 0) 1 Try.underlying22 hi hz0 hz1 _ _ _ (r + len2) rfl rfl (by omega) (by rw [hz2]; omega) (by unfold maxLen; omega) (Nat.le_refl _) ?_; intro w5 hrow5 hg5)
      | fail)
    have hb5 : Below w4.heap.size w4 w5 := (Below.refl _ _).grown hg5 (Nat.le_refl _) (fun j hj => by cases hj)
    refine (append_any w4.heap.size _ [] _ r cap0' (zs.take r) w4 w5 hrow5 hBr hb5 (Nat.le_refl _) hg5.size (by simp) (by omega)).mono ?_
    rintro e w6 ⟨v6, rfl, hrow6, hb6⟩
    rw [List.nil_append] at hrow6
    have hb56 := hb5.trans hb6
    have sz56 := hb56.size
    have hrl := hBr.1
    go_wp2_with fail
    refine (append_any w4.heap.size _ (zs.take r) a2' len2 cap2' ss w4 w6 hrow6 hBs hb56 (Nat.le_refl _) sz56 (by omega) (by omega)).mono ?_
    rintro e w7 ⟨v7, rfl, hrow7, hb7⟩
    obtain ⟨a7, cap7, rfl, hB7, _⟩ := bytes_of_row hrow7 (take_wf hB'.2.1 hBs.2.1)
    have hln : (zs.take r ++ ss).length = r + len2 := by rw [List.length_append, hrl, hBs.1]
    rw [hln] at hB7 ⊢
    have hs3 := zzStringEnd_any a7 (r + len2) cap7 _ st w7 hB7 (by omega) (by omega)
    rw [HJ.out hlt] at hs3
    clear hrl hln HJ hrow7 hrow6 hrow5 hB7
    go_wp2_with fail
    refine hs3.mono ?_
    rintro e w8 ⟨rfl, rfl⟩
    clear hs3
    go_wp2_with fail
    go_ret
    exact ⟨rfl, hW2.trans ((hb56.trans hb7).mono (by have := hW2.size; omega))⟩
  · go_wp2_with fail
    go_ret
    exact ⟨rfl, hW2⟩

end Go.Proofs.Qxb6600069a
