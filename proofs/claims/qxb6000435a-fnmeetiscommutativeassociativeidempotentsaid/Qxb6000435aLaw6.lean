/-
  Qxb6000435a: the walk of FnMeetIsCommutativeAssociativeIdempotent.
-/
import Derived.Test.Qxb6000435aWalkE
import Derived.Test.Qxb6000435aWalkB
import Derived.Test.Qxb6000435aEnv
namespace Go.Proofs.Qxb6000435a
open Go.RowKit Go.Maps

set_option maxHeartbeats 2000000 in
set_option maxRecDepth 100000 in
theorem walk6 (a0 : Option Addr) (len0 cap0 : Nat) (s0 : List ByteArray) (a1 : Option Addr) (len1 cap1 : Nat) (z1 : List Int) (a2 : Option Addr) (len2 cap2 : Nat) (s2 : List ByteArray) (a3 : Option Addr) (len3 cap3 : Nat) (z3 : List Int)
    (a4 : Option Addr) (len4 cap4 : Nat) (s4 : List ByteArray) (a5 : Option Addr) (len5 cap5 : Nat) (z5 : List Int) (w : World)
    (hS0 : IsStrs w a0 len0 s0) (hN1 : IsNums w a1 len1 z1) (hS2 : IsStrs w a2 len2 s2) (hN3 : IsNums w a3 len3 z3) (hS4 : IsStrs w a4 len4 s4) (hN5 : IsNums w a5 len5 z5) :
    Calls Try.prog 6 #[.slice a0 len0 cap0, .slice a1 len1 cap1, .slice a2 len2 cap2, .slice a3 len3 cap3, .slice a4 len4 cap4, .slice a5 len5 cap5] w fun e w' => e = .returned (.bool true) ∧ Below w.heap.size w w' := by
  have hmm := @run_makeMap Try.prog
  go_enter Try.func6, Try.ntmps6
  go_wp2_with fail
  refine (bytes19 a0 len0 cap0 s0 a1 len1 cap1 a2 len2 cap2 s2 a3 len3 cap3 a4 len4 cap4 s4 a5 len5 cap5 w hS0 hS2 hS4).mono ?_
  rintro e w' ⟨⟨r, rfl, hr⟩, rfl⟩
  cases r
  · go_wp2_with fail
    go_ret
    exact ⟨rfl, Below.refl _ _⟩
  obtain ⟨hl0, hl2, hl4⟩ := hr rfl
  clear hr
  go_wp2_with fail
  refine (pairBytes_any a0 len0 cap0 s0 a1 len1 cap1 w' hS0).mono ?_
  rintro e w'' ⟨⟨n1, rfl⟩, rfl⟩
  go_wp2_with fail
  refine (pairBytes_any a2 len2 cap2 s2 a3 len3 cap3 w'' hS2).mono ?_
  rintro e wq ⟨⟨n2, rfl⟩, rfl⟩
  go_wp2_with fail
  refine (pairBytes_any a4 len4 cap4 s4 a5 len5 cap5 wq hS4).mono ?_
  rintro e w ⟨⟨n3, rfl⟩, rfl⟩
  go_wp2_with fail
  · go_ret
    exact ⟨rfl, Below.refl _ _⟩
  refine (build_any a0 len0 cap0 s0 a1 len1 cap1 z1 w hS0 hN1 hl0).mono ?_
  rintro e w1 ⟨rfl, hb1, hg1, Da, hva, hka⟩
  go_wp2_with fail
  refine (build_any a2 len2 cap2 s2 a3 len3 cap3 z3 w1 (hS2.below hb1 (Nat.le_refl _)) (hN3.below hb1 (Nat.le_refl _)) hl2).mono ?_
  rintro e w2 ⟨rfl, hb2, hg2, Db, hvb, hkb⟩
  have sz1 := hb1.size
  have sz2 := hb2.size
  have hW2 : Below w.heap.size w w2 := hb1.trans (hb2.mono sz1)
  go_wp2_with fail
  refine (build_any a4 len4 cap4 s4 a5 len5 cap5 z5 w2 (hS4.below hW2 (Nat.le_refl _)) (hN5.below hW2 (Nat.le_refl _)) hl4).mono ?_
  rintro e w3 ⟨rfl, hb3, hg3, Dc, hvc, hkc⟩
  have sz3 := hb3.size
  have hW3 : Below w.heap.size w w3 := hW2.trans (hb3.mono (by omega))
  have hva3 : Ver w3 w.heap.size len0 Da := own_below (own_below hva hb2 hg1) hb3 (by omega)
  have hvb3 : Ver w3 w1.heap.size len2 Db := own_below hvb hb3 hg2
  have hszA := hva.size_le
  have hszB := hvb.size_le
  have hszC := hvc.size_le
  go_wp2_with fail
  refine (add_any w3.heap.size 0 (.map []) (.slice none 0 0) [] a0 len0 cap0 s0 w _ (World.ownsMap_made _ _ _ _) seen_empty (World.ownsRow_nil _ _ _ _) (by simp) hS0 (hW3.alloc (by omega) _) (by omega) (by omega) hl0 (by simp)).mono ?_
  rintro e w5 ⟨v5, ys5, D5, rfl, hown5, hseen5, hrow5, hb5, hmem5, hyl5, hys5⟩
  have sz5 := hb5.size
  simp at sz5 hyl5
  have hW5 : Below w.heap.size w w5 := (hW3.alloc (by omega) _).trans (hb5.mono (by omega))
  go_wp2_with fail
  refine (add_any w3.heap.size (0 + len0) D5 v5 ys5 a2 len2 cap2 s2 w w5 hown5 hseen5 hrow5 hys5 hS2 hW5 (by omega) (by omega) hl2 (by omega)).mono ?_
  rintro e w6 ⟨v6, ys6, D6, rfl, hown6, hseen6, hrow6, hb6, hmem6, hyl6, hys6⟩
  have sz6 := hb6.size
  have hW6 : Below w.heap.size w w6 := hW5.trans (hb6.mono (by omega))
  go_wp2_with fail
  refine (add_any w3.heap.size (0 + len0 + len2) D6 v6 ys6 a4 len4 cap4 s4 w w6 hown6 hseen6 hrow6 hys6 hS4 hW6 (by omega) (by omega) hl4 (by omega)).mono ?_
  rintro e x0 ⟨v7, ys, D7, rfl, hown7, hseen7, hrow7, hb7, hmem7, hyl7, hys7⟩
  obtain ⟨ak, capk, rfl, hK⟩ := strs_of_row hrow7 hys7
  have sz7 := hb7.size
  have hW7 : Below w3.heap.size w3 x0 := ((Below.refl _ _).alloc (Nat.le_refl _) _).trans ((hb5.trans (hb6.mono (Nat.le_refl _))).trans (hb7.mono (Nat.le_refl _)))
  have hB0 : Below w.heap.size w x0 := hW6.trans (hb7.mono (by omega))
  have hnd := hseen7.2.2
  have hylen : ys.length ≤ 4000000 := by omega
  have hcA : ∀ l, Maps.has Da l = true → l ∈ ys.map lit := fun l h => by rw [hmem7 l, hmem6 l, hmem5 l]; exact Or.inl (Or.inl (Or.inr ((hka l).1 h)))
  have hcB : ∀ l, Maps.has Db l = true → l ∈ ys.map lit := fun l h => by rw [hmem7 l, hmem6 l]; exact Or.inl (Or.inr ((hkb l).1 h))
  have hcC : ∀ l, Maps.has Dc l = true → l ∈ ys.map lit := fun l h => by rw [hmem7 l]; exact Or.inr ((hkc l).1 h)
  have E0 : Env w.heap.size w1.heap.size w2.heap.size len0 len2 len4 Da Db Dc ak ys x0 := ⟨own_below hva3 hW7 (by omega), own_below hvb3 hW7 (by omega), own_below hvc hW7 (by omega), hK⟩
  have hsza := sz1
  have HC : Hid ((∀ l, Maps.has Da l = true → l ∈ ys.map lit) ∧ (∀ l, Maps.has Db l = true → l ∈ ys.map lit) ∧ (∀ l, Maps.has Dc l = true → l ∈ ys.map lit)) := ⟨hcA, hcB, hcC⟩
  have HN : Hid ((ys.map lit).Nodup) := hnd
  have hg0 : w.heap.size ≤ x0.heap.size := by omega
  clear hcA hcB hcC hnd hva hva3 hvb hvb3 hvc hb1 hb2 hb3 hb5 hb6 hb7 hown5 hseen5 hrow5 hmem5 hyl5 hys5 hown6 hseen6 hrow6 hmem6 hyl6 hys6 hown7 hseen7 hrow7 hmem7 hyl7 hys7 hka hkb hkc hS0 hS2 hS4 hN1 hN3 hN5 hW2 hW3 hW5 hW6 hW7 hK sz1 sz2 sz3 sz5 sz6 sz7 hsza hg1 hg2 hg3
  go_wp2_with fail
  refine (meet_any w.heap.size len0 w1.heap.size len2 Da Db x0 E0.a E0.b (by omega)).mono ?_
  rintro e x1 ⟨rfl, hx1, hq1, Dab, hvab, hJab⟩
  have E1 := E0.below hx1
  have hsab := hvab.size_le
  go_wp2_with fail
  refine (meet_any w1.heap.size len2 w.heap.size len0 Db Da x1 E1.b E1.a (by omega)).mono ?_
  rintro e x2 ⟨rfl, hx2, hq2, Dba, hvba, hJba⟩
  have E2 := E1.below hx2
  have hvab2 := own_below hvab hx2 hq1
  obtain rfl : Dab = Dba := meet_comm hJab hJba (hvab.canon law9) (hvba.canon law9) hvab.u64s hvba.u64s
  go_wp2_with fail
  refine (same_any x0.heap.size _ x1.heap.size _ Dab ak ys.length capk ys x2 hvab2 hvba E2.k HN.out (meet_cov hJab HC.out.1) (by omega)).mono ?_
  rintro e x ⟨rfl, rfl⟩
  clear hvab2 hvba hvab hJba
  go_wp2_with fail
  refine (meet_any w.heap.size len0 w1.heap.size len2 Da Db x E2.a E2.b (by omega)).mono ?_
  rintro e x3 ⟨rfl, hx3, hq3, Dab', hvab, hJab'⟩
  have E3 := E2.below hx3
  have hsab' := hvab.size_le
  go_wp2_with fail
  refine (meet_any x.heap.size _ w2.heap.size len4 Dab' Dc x3 hvab E3.c (by omega)).mono ?_
  rintro e x4 ⟨rfl, hx4, hq4, Dl, hvl, hJl⟩
  have E4 := E3.below hx4
  go_wp2_with fail
  refine (meet_any w1.heap.size len2 w2.heap.size len4 Db Dc x4 E4.b E4.c (by omega)).mono ?_
  rintro e x5 ⟨rfl, hx5, hq5, Dbc, hvbc, hJbc⟩
  have E5 := E4.below hx5
  have hsbc := hvbc.size_le
  have hvl5 := own_below hvl hx5 hq4
  go_wp2_with fail
  refine (meet_any w.heap.size len0 x4.heap.size _ Da Dbc x5 E5.a hvbc (by omega)).mono ?_
  rintro e x6 ⟨rfl, hx6, hq6, Dr, hvr, hJr⟩
  have E6 := E5.below hx6
  have hvl6 := own_below hvl5 hx6 (by have := hx5.size; omega)
  obtain rfl : Dl = Dr := meet_assoc hJab' hJl hJbc hJr (hvl.canon law9) (hvr.canon law9) hvl.u64s hvr.u64s
  go_wp2_with fail
  refine (same_any x3.heap.size _ x5.heap.size _ Dl ak ys.length capk ys x6 hvl6 hvr E6.k HN.out (meet_cov hJl (meet_cov hJab' HC.out.1)) (by omega)).mono ?_
  rintro e x' ⟨rfl, rfl⟩
  clear hvl hvl5 hvl6 hvr hvbc hvab
  go_wp2_with fail
  refine (meet_any w.heap.size len0 w.heap.size len0 Da Da x' E6.a E6.a (by omega)).mono ?_
  rintro e x7 ⟨rfl, hx7, hq7, Daa, hvaa, hJaa⟩
  have E7 := E6.below hx7
  go_wp2_with fail
  refine (pos_any w.heap.size len0 Da ak ys.length capk ys x7 E7.a E7.k HC.out.1 (by omega)).mono ?_
  rintro e x8 ⟨rfl, hx8, hq8, Dp, hvp, hP⟩
  have E8 := E7.below hx8
  have hvaa8 := own_below hvaa hx8 hq7
  obtain rfl : Daa = Dp := meet_pos hJaa hP (hvaa.canon law9) (hvp.canon law9) hvaa.u64s hvp.u64s
  go_wp2_with fail
  refine (same_any x'.heap.size _ x7.heap.size _ Daa ak ys.length capk ys x8 hvaa8 hvp E8.k HN.out (meet_cov hJaa HC.out.1) (by omega)).mono ?_
  rintro e x'' ⟨rfl, rfl⟩
  go_wp2_with fail
  go_ret
  refine ⟨rfl, ?_⟩
  have g1 := hx1.size
  have g2 := hx2.size
  have g3 := hx3.size
  have g4 := hx4.size
  have g5 := hx5.size
  have g6 := hx6.size
  have g7 := hx7.size
  exact (((((((hB0.trans (hx1.mono (by omega))).trans (hx2.mono (by omega))).trans (hx3.mono (by omega))).trans (hx4.mono (by omega))).trans (hx5.mono (by omega))).trans (hx6.mono (by omega))).trans (hx7.mono (by omega))).trans (hx8.mono (by omega))

end Go.Proofs.Qxb6000435a
