/-
  Qxb6600069a: the walk of FnStringEndSkipsAnEscapedText.
-/
import Derived.Test.Qxb6600069aWalkB
namespace Go.Proofs.Qxb6600069a
open Go.RowKit

/-- As 'bytes_of_row', the length under a name of its own. -/
theorem bytes_of_owns {w : World} {base : Nat} {v : Value} {xs : List Int} (h : Owns w base v xs) (hx : ∀ n ∈ xs, (Lit.int .u8 n).wf = true) : ∃ a n cap, v = .slice a n cap ∧ IsBytes w a n xs ∧ Hid (xs.length = n) := by
  obtain ⟨a, cap, rfl, hB, _⟩ := bytes_of_row h hx
  exact ⟨a, _, cap, rfl, hB, rfl⟩

/-- The loop's relation. -/
def XInner (w : World) (R len : Nat) (x : Bool) (p c : List Int) (v i : Value) (wr : World) : Prop :=
  ∃ k : Nat, k ≤ len ∧ i = .int .i64 k ∧ Owns wr R v (p ++ 34 :: esc x (c.take k)) ∧ Below R w wr

theorem esc_wf {x : Bool} {l : List Int} (h : ∀ n ∈ l, (Lit.int .u8 n).wf = true) : ∀ n ∈ esc x l, (Lit.int .u8 n).wf = true := by
  intro n hn
  unfold esc at hn
  obtain ⟨c, hc, hm⟩ := List.mem_flatMap.1 hn
  unfold escOne at hm
  split at hm
  · rcases List.mem_cons.1 hm with e | e
    · rw [e]; decide
    · rw [List.mem_singleton.1 e]; exact h c hc
  · rw [List.mem_singleton.1 hm]; exact h c hc

theorem esc_take {x : Bool} {c : List Int} {k : Nat} {b : Int} (hk : k < c.length) (hb : b = c.getD k 0) : esc x (c.take (k + 1)) = esc x (c.take k) ++ escOne x b := by
  rw [take_snoc hk hb, esc_snoc]

set_option maxHeartbeats 1000000 in
set_option maxRecDepth 100000 in
theorem walk7 (a0 : Option Addr) (len0 cap0 : Nat) (p : List Int) (a1 : Option Addr) (len1 cap1 : Nat) (c : List Int) (a2 : Option Addr) (len2 cap2 : Nat) (s : List Int) (x : Bool) (w : World)
    (hB0 : IsBytes w a0 len0 p) (hB1 : IsBytes w a1 len1 c) (hB2 : IsBytes w a2 len2 s) :
    Calls Try.prog 7 #[.slice a0 len0 cap0, .slice a1 len1 cap1, .slice a2 len2 cap2, .bool x] w fun e w' => e = .returned (.bool true) ∧ Below w.heap.size w w' := by
  obtain ⟨i0, hi, hz0, hz1, hz2⟩ := info_parts info5
  go_enter Try.func7, Try.ntmps7
  go_wp2_with fail
  refine (bytes22 a0 len0 cap0 a1 len1 cap1 a2 len2 cap2 x w).mono ?_
  rintro e w' ⟨⟨r, rfl, _⟩, rfl⟩
  cases r
  · go_wp2_with fail
    go_ret
    exact ⟨rfl, Below.refl _ _⟩
  by_cases h0 : 262144 < (len0 : Int)
  · go_wp2_with fail
    go_ret
    exact ⟨rfl, Below.refl _ _⟩
  by_cases h1 : 262144 < (len1 : Int)
  · go_wp2_with fail
    go_ret
    exact ⟨rfl, Below.refl _ _⟩
  by_cases h2 : 262144 < (len2 : Int)
  · go_wp2_with fail
    go_ret
    exact ⟨rfl, Below.refl _ _⟩
  go_wp2_with fail
  refine (clone_any a0 len0 cap0 p w' hB0 (by omega)).mono ?_
  rintro e w1 ⟨a0', cap0', rfl, hB0', _, hb1⟩
  go_wp2_with fail
  refine (clone_any a1 len1 cap1 c w1 (hB1.below hb1 (Nat.le_refl _)) (by omega)).mono ?_
  rintro e w2 ⟨a1', cap1', rfl, hB1', _, hb2⟩
  have sz1 := hb1.size
  have hW2 := hb1.trans (hb2.mono sz1)
  go_wp2_with fail
  refine (clone_any a2 len2 cap2 s w2 (hB2.below hW2 (Nat.le_refl _)) (by omega)).mono ?_
  rintro e w3 ⟨a2', cap2', rfl, hB2', _, hb3⟩
  have sz2 := hb2.size
  have sz3 := hb3.size
  have hW3 := hW2.trans (hb3.mono (by omega))
  have hB0w := (hB0'.below hb2 (Nat.le_refl _)).below hb3 (Nat.le_refl _)
  have hB1w := hB1'.below hb3 (Nat.le_refl _)
  clear hB0 hB1 hB2 hB0' hB1' hb1 hb2 hb3 hW2
  go_wp2_with (first
    | (at_make; refine wpList_make_own _ rfl _ _ 22 rfl w3.heap.size 5 i0 (.int .u8 0) 1 Try.underlying22 hi hz0 hz1 _ _ _ (len0 + 2 * len1 + 2 + len2) rfl rfl (by omega) (by rw [hz2]; omega) (by unfold maxLen; omega) (Nat.le_refl _) ?_; intro w4 hrow4 hg4)
    | fail)
  have hb4 : Below w3.heap.size w3 w4 := (Below.refl _ _).grown hg4 (Nat.le_refl _) (fun j hj => by cases hj)
  refine (append_any w3.heap.size _ [] a0' len0 cap0' p w3 w4 hrow4 hB0w hb4 (Nat.le_refl _) hg4.size (by simp) (by omega)).mono ?_
  rintro e w5 ⟨v5, rfl, hrow5, hb5⟩
  rw [List.nil_append] at hrow5
  have hb45 := hb4.trans hb5
  have sz45 := hb45.size
  have hpl := hB0w.1
  have hpl' : p.length ≤ 262144 := by omega
  clear hpl hrow4 hg4 hb4 hb5
  go_wp2_with (first
    | (at_builtin; refine wpList_append_own _ rfl _ _ 22 rfl w3.heap.size 5 i0 (.int .u8 0) 1 1 Try.underlying22 hi hz0 hz1 hz2 rfl (by decide) _ _ _ rfl (hrow5.alloc _) ⟨w5.heap.size, 0, none⟩ 1 1 [.int .u8 34] rfl rfl (cell_one_new _ _ _) (by simp [Value.oneCell']) (by unfold maxLen; omega) (by omega) (by simp; omega) ?_; intro v6 w6 hrow6 hg6 hnil6)
    | fail)
  have s6 := hg6.size
  simp at s6
  have hb6 : Below w3.heap.size w3 w6 := (hb45.alloc (by omega) _).grown hg6 (by simp; omega) (fun j hj => (hrow5.lt j hj).1)
  have hr6 := owns_snoc hrow6 rfl
  clear hrow6 hg6 hnil6 hrow5 hb45
  go_loopw [9, 10] (fun v i wr => XInner w3 w3.heap.size len1 x p c v i wr) (fun _ i _ => len1 - (intOf i).toNat)
  case atStart => exact ⟨0, Nat.zero_le _, rfl, by simpa [esc] using hr6, hb6⟩
  case round =>
    obtain ⟨k, hk, rfl, hrow, hnx⟩ := hrel
    clear hr6 hb6
    have hsz := hnx.size
    have hcl := hB1w.1
    have hlx := esc_len x (c.take k)
    have htl := List.length_take_le k c
    obtain ⟨xs, hxs⟩ : ∃ xs, xs = p ++ 34 :: esc x (c.take k) := ⟨_, rfl⟩
    rw [← hxs] at hrow
    have hxl : xs.length ≤ 1000000 := by rw [hxs]; simp; omega
    have HX : Hid (xs = p ++ 34 :: esc x (c.take k)) := hxs
    clear hxs hlx htl
    by_cases hlt : k < len1
    · obtain ⟨_, _, hBc⟩ := hB1w
      obtain ⟨bb, off, rfl, hb, hc⟩ := hBc (by omega)
      obtain ⟨b, hbb⟩ : ∃ b, b = c.getD k 0 := ⟨_, rfl⟩
      have hcell : wr.cell? ⟨bb, off + k, none⟩ = some (.int .u8 b) := by rw [hbb]; exact (hnx.cell (p := ⟨bb, off + k, none⟩) hb).trans (hc k hlt)
      have HB : Hid (b = c.getD k 0) := hbb
      clear hbb hc hBc hB0w hB2'
      cases x
      · by_cases h34 : b = 34
        · have e1 : (b == 34) = true := by simp [h34]
          have HE : Hid (false = true ∨ b = 34 ∨ b = 92) := Or.inr (Or.inl h34)
          clear h34
          go_wp2_with (first
            | (at_builtin; refine wpList_append_own _ rfl _ _ 22 rfl w3.heap.size 5 i0 (.int .u8 0) 1 1 Try.underlying22 hi hz0 hz1 hz2 rfl (by decide) _ _ _ rfl (hr7.alloc _) ⟨w7.heap.size, 0, none⟩ 1 1 [.int .u8 b] rfl rfl (cell_one_new _ _ _) (by simp [Value.oneCell']) (by unfold maxLen; simp; omega) (by simp; omega) (by simp; omega) ?_; intro v8 w8 hrow8 hg8 hnil8)
            | (at_builtin; refine wpList_append_own _ rfl _ _ 22 rfl w3.heap.size 5 i0 (.int .u8 0) 1 1 Try.underlying22 hi hz0 hz1 hz2 rfl (by decide) _ _ _ rfl (hrow.alloc _) ⟨wr.heap.size, 0, none⟩ 1 1 [.int .u8 92] rfl rfl (cell_one_new _ _ _) (by simp [Value.oneCell']) (by unfold maxLen; omega) (by omega) (by simp; omega) ?_; intro v7 w7 hrow7 hg7 hnil7; have hr7 := owns_snoc hrow7 rfl; have s7 := hg7.size; simp at s7; clear hrow7 hnil7)
            | go_in)
          have s8 := hg8.size
          simp at s8
          go_roundw
          case rel =>
            refine ⟨k + 1, by omega, by go_num, owns_snoc hrow8 (by rw [esc_take (by omega) HB.out, HX.out, escOne, if_pos HE.out]; simp), ?_⟩
            exact ((((hnx.alloc (by omega) _).grown hg7 (by simp; omega) (fun j hj => (hrow.lt j hj).1)).alloc (by omega) _).grown hg8 (by simp; omega) (fun j hj => (hr7.lt j hj).1))
          case measure => simp [intOf]; omega
        · have e1 : (b == 34) = false := by simp [h34]
          by_cases h92 : b = 92
          · have e2 : (b == 92) = true := by simp [h92]
            have HE : Hid (false = true ∨ b = 34 ∨ b = 92) := Or.inr (Or.inr h92)
            clear h34 h92
            go_wp2_with (first
              | (at_builtin; refine wpList_append_own _ rfl _ _ 22 rfl w3.heap.size 5 i0 (.int .u8 0) 1 1 Try.underlying22 hi hz0 hz1 hz2 rfl (by decide) _ _ _ rfl (hr7.alloc _) ⟨w7.heap.size, 0, none⟩ 1 1 [.int .u8 b] rfl rfl (cell_one_new _ _ _) (by simp [Value.oneCell']) (by unfold maxLen; simp; omega) (by simp; omega) (by simp; omega) ?_; intro v8 w8 hrow8 hg8 hnil8)
              | (at_builtin; refine wpList_append_own _ rfl _ _ 22 rfl w3.heap.size 5 i0 (.int .u8 0) 1 1 Try.underlying22 hi hz0 hz1 hz2 rfl (by decide) _ _ _ rfl (hrow.alloc _) ⟨wr.heap.size, 0, none⟩ 1 1 [.int .u8 92] rfl rfl (cell_one_new _ _ _) (by simp [Value.oneCell']) (by unfold maxLen; omega) (by omega) (by simp; omega) ?_; intro v7 w7 hrow7 hg7 hnil7; have hr7 := owns_snoc hrow7 rfl; have s7 := hg7.size; simp at s7; clear hrow7 hnil7)
              | go_in)
            have s8 := hg8.size
            simp at s8
            go_roundw
            case rel =>
              refine ⟨k + 1, by omega, by go_num, owns_snoc hrow8 (by rw [esc_take (by omega) HB.out, HX.out, escOne, if_pos HE.out]; simp), ?_⟩
              exact ((((hnx.alloc (by omega) _).grown hg7 (by simp; omega) (fun j hj => (hrow.lt j hj).1)).alloc (by omega) _).grown hg8 (by simp; omega) (fun j hj => (hr7.lt j hj).1))
            case measure => simp [intOf]; omega
          · have e2 : (b == 92) = false := by simp [h92]
            have HE : Hid (¬ (false = true ∨ b = 34 ∨ b = 92)) := by
              rintro (h | h | h)
              · cases h
              · exact h34 h
              · exact h92 h
            clear h34 h92
            go_wp2_with (first
              | (at_builtin; refine wpList_append_own _ rfl _ _ 22 rfl w3.heap.size 5 i0 (.int .u8 0) 1 1 Try.underlying22 hi hz0 hz1 hz2 rfl (by decide) _ _ _ rfl (hrow.alloc _) ⟨wr.heap.size, 0, none⟩ 1 1 [.int .u8 b] rfl rfl (cell_one_new _ _ _) (by simp [Value.oneCell']) (by unfold maxLen; omega) (by omega) (by simp; omega) ?_; intro v7 w7 hrow7 hg7 hnil7)
              | go_in)
            have s7 := hg7.size
            simp at s7
            go_roundw
            case rel =>
              refine ⟨k + 1, by omega, by go_num, owns_snoc hrow7 (by rw [esc_take (by omega) HB.out, HX.out, escOne, if_neg HE.out]; simp), ?_⟩
              exact (hnx.alloc (by omega) _).grown hg7 (by simp; omega) (fun j hj => (hrow.lt j hj).1)
            case measure => simp [intOf]; omega
      · have HE : Hid (true = true ∨ b = 34 ∨ b = 92) := Or.inl rfl
        go_wp2_with (first
          | (at_builtin; refine wpList_append_own _ rfl _ _ 22 rfl w3.heap.size 5 i0 (.int .u8 0) 1 1 Try.underlying22 hi hz0 hz1 hz2 rfl (by decide) _ _ _ rfl (hr7.alloc _) ⟨w7.heap.size, 0, none⟩ 1 1 [.int .u8 b] rfl rfl (cell_one_new _ _ _) (by simp [Value.oneCell']) (by unfold maxLen; simp; omega) (by simp; omega) (by simp; omega) ?_; intro v8 w8 hrow8 hg8 hnil8)
          | (at_builtin; refine wpList_append_own _ rfl _ _ 22 rfl w3.heap.size 5 i0 (.int .u8 0) 1 1 Try.underlying22 hi hz0 hz1 hz2 rfl (by decide) _ _ _ rfl (hrow.alloc _) ⟨wr.heap.size, 0, none⟩ 1 1 [.int .u8 92] rfl rfl (cell_one_new _ _ _) (by simp [Value.oneCell']) (by unfold maxLen; omega) (by omega) (by simp; omega) ?_; intro v7 w7 hrow7 hg7 hnil7; have hr7 := owns_snoc hrow7 rfl; have s7 := hg7.size; simp at s7; clear hrow7 hnil7)
          | go_in)
        have s8 := hg8.size
        simp at s8
        go_roundw
        case rel =>
          refine ⟨k + 1, by omega, by go_num, owns_snoc hrow8 (by rw [esc_take (by omega) HB.out, HX.out, escOne, if_pos HE.out]; simp), ?_⟩
          exact ((((hnx.alloc (by omega) _).grown hg7 (by simp; omega) (fun j hj => (hrow.lt j hj).1)).alloc (by omega) _).grown hg8 (by simp; omega) (fun j hj => (hr7.lt j hj).1))
        case measure => simp [intOf]; omega
    · obtain rfl : k = len1 := by omega
      have hxs : xs = p ++ 34 :: esc x c := by rw [HX.out, ← hcl, List.take_length]
      have hp0 := hB0w.1
      have hs0 := hB2'.1
      have hwx : ∀ n ∈ xs ++ [34], (Lit.int .u8 n).wf = true := by
        intro n hn
        rw [hxs] at hn
        simp only [List.mem_append, List.mem_cons, List.not_mem_nil, or_false] at hn
        rcases hn with (h | h | h) | h
        · exact hB0w.2.1 n h
        · rw [h]; decide
        · exact esc_wf hB1w.2.1 n h
        · rw [h]; decide
      have hwy : ∀ n ∈ xs ++ [34] ++ s, (Lit.int .u8 n).wf = true := by
        intro n hn
        rcases List.mem_append.1 hn with h | h
        · exact hwx n h
        · exact hB2'.2.1 n h
      have hEq : E (xs ++ [34] ++ s) (len0 + 1) = (xs ++ [34]).length := by
        have := E_escaped p c s x
        rw [hp0] at this
        rw [hxs, show (p ++ 34 :: esc x c) ++ [34] ++ s = p ++ 34 :: (esc x c ++ 34 :: s) by simp, this]
        simp
        omega
      have hln : len0 ≤ (xs ++ [34] ++ s).length := by rw [hxs]; simp; omega
      have hll : (xs ++ [34] ++ s).length ≤ 10000000 := by simp; omega
      have HEq : Hid (E (xs ++ [34] ++ s) (len0 + 1) = (xs ++ [34]).length) := hEq
      have HWX : Hid (∀ n ∈ xs ++ [34], (Lit.int .u8 n).wf = true) := hwx
      have HWY : Hid (∀ n ∈ xs ++ [34] ++ s, (Lit.int .u8 n).wf = true) := hwy
      have HLN : Hid (len0 ≤ (xs ++ [34] ++ s).length) := hln
      have HLL : Hid ((xs ++ [34] ++ s).length ≤ 10000000) := hll
      clear hEq hwx hwy hxs hB0w hB1w HX hln hll hcl hp0 hs0
      go_wp2_with (first
        | (at_builtin; refine wpList_append_own _ rfl _ _ 22 rfl w3.heap.size 5 i0 (.int .u8 0) 1 1 Try.underlying22 hi hz0 hz1 hz2 rfl (by decide) _ _ _ rfl (hrow.alloc _) ⟨wr.heap.size, 0, none⟩ 1 1 [.int .u8 34] rfl rfl (cell_one_new _ _ _) (by simp [Value.oneCell']) (by unfold maxLen; omega) (by omega) (by simp; omega) ?_; intro v7 w7 hrow7 hg7 hnil7; have hr7 := owns_snoc hrow7 rfl; clear hrow7 hnil7; obtain ⟨a7, n7, cap7, rfl, hB7, HN7⟩ := bytes_of_owns hr7 HWX.out)
        | fail)
      have s7 := hg7.size
      simp at s7
      have hb7 : Below w3.heap.size w3 w7 := (hnx.alloc (by omega) _).grown hg7 (by simp; omega) (fun j hj => (hrow.lt j hj).1)
      refine (append_any w3.heap.size _ (xs ++ [34]) a2' len2 cap2' s w3 w7 hr7 hB2' hb7 (Nat.le_refl _) (by omega) (by simp; omega) (by omega)).mono ?_
      rintro e w8 ⟨v8, rfl, hrow8, hb8⟩
      obtain ⟨a8, n8, cap8, rfl, hB8, HN8⟩ := bytes_of_owns hrow8 HWY.out
      have hse := zzStringEnd_any a8 n8 cap8 _ len0 w8 hB8 (by rw [← HN8.out]; exact HLN.out) (by rw [← HN8.out]; exact HLL.out)
      rw [HEq.out, HN7.out] at hse
      go_wp2_with fail
      refine hse.mono ?_
      rintro e w9 ⟨rfl, rfl⟩
      clear hse
      go_wp2_with fail
      go_ret
      exact ⟨rfl, hW3.trans ((hb7.trans hb8).mono (by omega))⟩

end Go.Proofs.Qxb6600069a
