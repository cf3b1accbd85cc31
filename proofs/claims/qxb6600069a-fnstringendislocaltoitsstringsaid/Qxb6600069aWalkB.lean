/-
  Qxb6600069a: the walks of appendBytesB1, cloneBytesB1.
-/
import Derived.Test.Qxb6600069aWalkA
namespace Go.Proofs.Qxb6600069a
open Go.RowKit

theorem info5 : (Try.prog.info? 5).map (fun i => (i.zero, i.size, i.bytes)) = some (some (.int .u8 0), 1, 1) := by kernel_rfl

/-- The slice v is the call's own, from block 'base' on, and holds the bytes xs. -/
abbrev Owns (w : World) (base : Nat) (v : Value) (xs : List Int) : Prop := w.ownsRow base 5 1 v xs.length (xs.map (Value.int .u8))

theorem bytes_of_row {w : World} {base : Nat} {v : Value} {xs : List Int} (h : Owns w base v xs) (hx : ∀ n ∈ xs, (Lit.int .u8 n).wf = true) : ∃ a cap, v = .slice a xs.length cap ∧ IsBytes w a xs.length xs ∧ xs.length ≤ cap := by
  rcases h.2 with ⟨rfl, h0⟩ | ⟨g, cap, cur, rfl, hb, hg, hle, _, _, ht⟩
  · rw [h0]
    exact ⟨none, 0, rfl, ⟨h0, hx, fun h => by omega⟩, Nat.le_refl _⟩
  · refine ⟨_, cap, rfl, ⟨rfl, hx, fun _ => ⟨g, 0, rfl, (Array.getElem?_eq_some_iff.1 hg).1, fun j hj => ?_⟩⟩, hle⟩
    rw [Nat.zero_add, cell_of_row w g j cur 5 (0, 0) hg]
    have e : (xs.map (Value.int .u8))[j]? = some (.int .u8 (xs.getD j 0)) := by
      simp [List.getD, hj]
    rw [← ht, List.getElem?_take, if_pos (by omega)] at e
    simpa using e

/-- The loop's relation in appendBytesB1. -/
def AInner (w : World) (base len : Nat) (xs zs : List Int) (v i : Value) (wr : World) : Prop :=
  ∃ k : Nat, k ≤ len ∧ i = .int .i64 k ∧ Owns wr base v (xs ++ zs.take k) ∧ Below base w wr

theorem take_snoc {zs : List Int} {k : Nat} {c : Int} (hk : k < zs.length) (hc : c = zs.getD k 0) : zs.take (k + 1) = zs.take k ++ [c] := by
  rw [List.take_succ_eq_append_getElem hk, hc, List.getD, List.getElem?_eq_getElem hk]
  rfl

theorem owns_snoc {w : World} {base : Nat} {v : Value} {xs ys : List Int} {c : Int} (h : w.ownsRow base 5 1 v (xs.length + 1) (xs.map (Value.int .u8) ++ [.int .u8 c])) (e : ys = xs ++ [c]) : Owns w base v ys := by
  subst e
  show w.ownsRow base 5 1 v (xs ++ [c]).length ((xs ++ [c]).map (Value.int .u8))
  rw [List.length_append, List.map_append]
  exact h

set_option maxHeartbeats 400000 in
set_option maxRecDepth 100000 in
theorem append_any (base : Nat) (v : Value) (xs : List Int) (a : Option Addr) (len cap : Nat) (zs : List Int) (W0 w : World) (hrow0 : Owns w base v xs) (hB : IsBytes W0 a len zs) (hW : Below W0.heap.size W0 w) (hWb : W0.heap.size ≤ base) (hbw : base ≤ w.heap.size)
    (hx : xs.length ≤ 10000000) (hl : len ≤ 10000000) :
    Calls Try.prog 16 #[v, .slice a len cap] w fun e w' => ∃ v', e = .returned v' ∧ Owns w' base v' (xs ++ zs) ∧ Below base w w' := by
  obtain ⟨i0, hi, hz0, hz1, hz2⟩ := info_parts info5
  obtain ⟨hlen, _, hB⟩ := hB
  go_enter Try.func16, Try.ntmps16
  go_wp2
  go_loopw [0, 5] (fun v i wr => AInner w base len xs zs v i wr) (fun _ i _ => len - (intOf i).toNat)
  case atStart => exact ⟨0, Nat.zero_le _, rfl, by simpa using hrow0, Below.refl _ _⟩
  case round =>
    obtain ⟨k, hk, rfl, hrow, hnx⟩ := hrel
    clear hrow0
    have hsz := hnx.size
    by_cases hlt : k < len
    · obtain ⟨b, off, rfl, hb, hc⟩ := hB (by omega)
      obtain ⟨c, hcc⟩ : ∃ c, c = zs.getD k 0 := ⟨_, rfl⟩
      have hcW : W0.cell? ⟨b, off + k, none⟩ = some (.int .u8 c) := by rw [hcc]; exact hc k hlt
      have hcell : wr.cell? ⟨b, off + k, none⟩ = some (.int .u8 c) := (hnx.cell (p := ⟨b, off + k, none⟩) (by show b < base; omega)).trans ((hW.cell (p := ⟨b, off + k, none⟩) hb).trans hcW)
      have HC : Hid (zs.take (k + 1) = zs.take k ++ [c]) := take_snoc (by omega) hcc
      have hxl : (xs ++ zs.take k).length ≤ 20000000 := by simp; omega
      clear hcc hc hB hcW hW
      go_wp2_with (first
        | (at_builtin; refine wpList_append_own _ rfl _ _ 22 rfl base 5 i0 (.int .u8 0) 1 1 Try.underlying22 hi hz0 hz1 hz2 rfl (by decide) _ _ _ rfl (hrow.alloc _) ⟨wr.heap.size, 0, none⟩ 1 1 [.int .u8 c] rfl rfl (cell_one_new _ _ _) (by simp [Value.oneCell']) (by unfold maxLen; omega) (by omega) (by simp; omega) ?_; intro v' w2 hrow' hg2 hnil2)
        | go_in)
      have s2 := hg2.size
      simp at s2
      go_roundw
      case rel =>
        refine ⟨k + 1, by omega, by go_num, owns_snoc hrow' (by rw [HC.out, List.append_assoc]), ?_⟩
        exact (hnx.alloc (by omega) _).grown hg2 (by simp; omega) (fun j hj => (hrow.lt j hj).1)
      case measure => simp [intOf]; omega
    · go_wp2
      go_ret
      obtain rfl : k = len := by omega
      exact ⟨_, rfl, by rw [← hlen, List.take_length] at hrow; exact hrow, hnx⟩

set_option maxHeartbeats 400000 in
set_option maxRecDepth 100000 in
theorem clone_any (a : Option Addr) (len cap : Nat) (zs : List Int) (w : World) (hB : IsBytes w a len zs) (hl : len ≤ 10000000) :
    Calls Try.prog 14 #[.slice a len cap] w fun e w' => ∃ a' cap', e = .returned (.slice a' len cap') ∧ IsBytes w' a' len zs ∧ len ≤ cap' ∧ Below w.heap.size w w' := by
  obtain ⟨i0, hi, hz0, hz1, hz2⟩ := info_parts info5
  have hnil := fun wx x l c l' c' => Lib.run_eql_slice_nil (P := Try.prog) wx 22 5 x l c l' c' Try.underlying22
  cases a with
  | none =>
    have h0 : len = 0 := by
      by_cases h : 0 < len
      · obtain ⟨b, off, e, _⟩ := hB.2.2 h
        cases e
      · omega
    subst h0
    go_enter Try.func14, Try.ntmps14
    go_wp2
    go_ret
    exact ⟨none, 0, rfl, hB, Nat.le_refl _, Below.refl _ _⟩
  | some ad =>
    go_enter Try.func14, Try.ntmps14
    go_wp2_with (first
      | (at_make; refine wpList_make_own _ rfl _ _ 22 rfl w.heap.size 5 i0 (.int .u8 0) 1 Try.underlying22 hi hz0 hz1 _ _ _ len rfl rfl rfl (by rw [hz2]; omega) (by unfold maxLen; omega) (Nat.le_refl _) ?_; intro w1 hrow1 hg1)
      | fail)
    have hb1 : Below w.heap.size w w1 := (Below.refl _ _).grown hg1 (Nat.le_refl _) (fun j hj => by cases hj)
    refine (append_any w.heap.size _ [] (some ad) len cap zs w w1 hrow1 hB hb1 (Nat.le_refl _) hg1.size (by simp) hl).mono ?_
    rintro e w2 ⟨v, rfl, hrow2, hb2⟩
    obtain ⟨a', cap', rfl, hB', hle⟩ := bytes_of_row hrow2 (by simpa using hB.2.1)
    go_wp2_with fail
    go_ret
    have hzl := hB.1
    simp only [List.nil_append] at hB' hle ⊢
    rw [hzl] at hB' hle ⊢
    exact ⟨a', cap', rfl, hB', hle, hb1.trans hb2⟩

end Go.Proofs.Qxb6600069a
