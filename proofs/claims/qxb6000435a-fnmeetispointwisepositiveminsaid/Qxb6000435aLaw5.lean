/-
  Qxb6000435a: the walk of FnMeetIsPointwisePositiveMin.
-/
import Derived.Test.Qxb6000435aLaw3
namespace Go.Proofs.Qxb6000435a
open Go.RowKit Go.Maps

set_option maxHeartbeats 1000000 in
set_option maxRecDepth 100000 in
theorem walk5 (a0 : Option Addr) (len0 cap0 : Nat) (s0 : List ByteArray) (a1 : Option Addr) (len1 cap1 : Nat) (z1 : List Int) (a2 : Option Addr) (len2 cap2 : Nat) (s2 : List ByteArray) (a3 : Option Addr) (len3 cap3 : Nat) (z3 : List Int) (w : World)
    (hS0 : IsStrs w a0 len0 s0) (hN1 : IsNums w a1 len1 z1) (hS2 : IsStrs w a2 len2 s2) (hN3 : IsNums w a3 len3 z3) :
    Calls Try.prog 5 #[.slice a0 len0 cap0, .slice a1 len1 cap1, .slice a2 len2 cap2, .slice a3 len3 cap3] w fun e w' => e = .returned (.bool true) ∧ Below w.heap.size w w' := by
  have hmm := @run_makeMap Try.prog
  go_enter Try.func5, Try.ntmps5
  go_wp2_with fail
  refine (bytes17 a0 len0 cap0 s0 a1 len1 cap1 a2 len2 cap2 s2 a3 len3 cap3 w hS0 hS2).mono ?_
  rintro e w' ⟨⟨r, rfl, hr⟩, rfl⟩
  cases r
  · go_wp2_with fail
    go_ret
    exact ⟨rfl, Below.refl _ _⟩
  obtain ⟨hl0, hl2⟩ := hr rfl
  clear hr
  go_wp2_with fail
  refine (pairBytes_any a0 len0 cap0 s0 a1 len1 cap1 w' hS0).mono ?_
  rintro e w'' ⟨⟨n1, rfl⟩, rfl⟩
  go_wp2_with fail
  refine (pairBytes_any a2 len2 cap2 s2 a3 len3 cap3 w'' hS2).mono ?_
  rintro e w ⟨⟨n2, rfl⟩, rfl⟩
  go_wp2_with fail
  · go_ret
    exact ⟨rfl, Below.refl _ _⟩
  refine (build_any a0 len0 cap0 s0 a1 len1 cap1 z1 w hS0 hN1 hl0).mono ?_
  rintro e w1 ⟨rfl, hb1, hg1, Da, hva, hka⟩
  go_wp2_with fail
  refine (build_any a2 len2 cap2 s2 a3 len3 cap3 z3 w1 (hS2.below hb1 (Nat.le_refl _)) (hN3.below hb1 (Nat.le_refl _)) hl2).mono ?_
  rintro e w2 ⟨rfl, hb2, hg2, Db, hvb, hkb⟩
  have hva2 := own_below hva hb2 hg1
  have hlenA := fun ty => hva2.len Try.underlying27 ty
  have hlenB := fun ty => hvb.len Try.underlying27 ty
  go_wp2_with fail
  have hszA := hva.size_le
  have hszB := hvb.size_le
  clear hlenA hlenB
  refine (meet_any w.heap.size len0 w1.heap.size len2 Da Db w2 hva2 hvb (by omega)).mono ?_
  rintro e w3 ⟨rfl, hb3, hg3, Dj, hvj, hJ⟩
  go_wp2_with fail
  have sz1 := hb1.size
  have sz2 := hb2.size
  have sz3 := hb3.size
  have hW3 : Below w.heap.size w w3 := (hb1.trans (hb2.mono sz1)).trans (hb3.mono (by omega))
  refine (add_any w3.heap.size 0 (.map []) (.slice none 0 0) [] a0 len0 cap0 s0 w _ (World.ownsMap_made _ _ _ _) seen_empty (World.ownsRow_nil _ _ _ _) (by simp) hS0 (hW3.alloc (by omega) _) (by omega) (by omega) hl0 (by simp)).mono ?_
  rintro e w5 ⟨v5, ys5, D5, rfl, hown5, hseen5, hrow5, hb5, hmem5, hyl5, hys5⟩
  have sz5 := hb5.size
  simp at sz5
  have hW5 : Below w.heap.size w w5 := (hW3.alloc (by omega) _).trans (hb5.mono (by omega))
  go_wp2_with fail
  refine (add_any w3.heap.size (0 + len0) D5 v5 ys5 a2 len2 cap2 s2 w w5 hown5 hseen5 hrow5 hys5 hS2 hW5 (by omega) (by omega) hl2 (by simp at hyl5; omega)).mono ?_
  rintro e w6 ⟨v6, ys, D6, rfl, hown6, hseen6, hrow6, hb6, hmem6, hyl6, hys6⟩
  obtain ⟨ak, capk, rfl, hK⟩ := strs_of_row hrow6 hys6
  have sz6 := hb6.size
  have hW6 : Below w3.heap.size w3 w6 := ((Below.refl _ _).alloc (Nat.le_refl _) _).trans (hb5.trans (hb6.mono (Nat.le_refl _)))
  have hva6 : Ver w6 w.heap.size len0 Da := own_below (own_below hva2 hb3 (by omega)) hW6 (by omega)
  have hvb6 : Ver w6 w1.heap.size len2 Db := own_below (own_below hvb hb3 (by omega)) hW6 (by omega)
  have hvj6 := own_below hvj hW6 (by omega)
  have hnd := hseen6.2.2
  have hBw : Below w.heap.size w w6 := hW5.trans (hb6.mono (by omega))
  have hylen : ys.length ≤ 3000000 := by simp at hyl5; omega
  have hcov : ∀ l, Maps.has Dj l = true → l ∈ ys.map lit := by
    intro l hl
    rw [(hJ l).1] at hl
    have hpos : 0 < min (val Da l) (val Db l) := of_decide_eq_true hl
    rw [hmem6 l, hmem5 l]
    refine Or.inl (Or.inr ((hka l).1 ?_))
    cases hd : Maps.has Da l
    · rw [val_of_not_has hd] at hpos; omega
    · rfl
  have HE : Hid (cnt Dj ys ys.length = Maps.size Dj) := cnt_end (hvj6.canon law9) hnd hcov
  clear hva hva2 hvb hvj hb1 hb2 hb3 hb5 hb6 hown5 hseen5 hrow5 hmem5 hyl5 hys5 hown6 hseen6 hmem6 hyl6 hys6 hka hkb hS0 hS2 hN1 hN3 hW3 hW5
  have HJ : Hid (IsMeet Da Db Dj) := hJ
  have HC : Hid (∀ l, Maps.has Dj l = true → l ∈ ys.map lit) := hcov
  clear hcov hJ hnd
  go_wp2_with fail
  go_loop [16, 17] (fun n i => SInner Dj ys.length ys n i) (fun _ i => ys.length - (intOf i).toNat)
  case atStart => exact ⟨0, 0, Nat.zero_le _, rfl, rfl, (cnt_zero _ _).symm⟩
  case round =>
    obtain ⟨k, c, hk, rfl, rfl, hcc⟩ := hrel
    have hck := cnt_le Dj ys k
    rw [← hcc] at hck
    have HCC : Hid (c = cnt Dj ys k) := hcc
    clear hcc
    by_cases hlt : k < ys.length
    · obtain ⟨_, hsz, hKc⟩ := hK
      obtain ⟨b, off, rfl, hb, hc⟩ := hKc (by omega)
      obtain ⟨s, hs⟩ : ∃ s, s = ys.getD k ByteArray.empty := ⟨_, rfl⟩
      have hcell : w6.cell? ⟨b, off + k, none⟩ = some (.string s) := by rw [hs]; exact hc k hlt
      have hss : s.size ≤ maxLen := by rw [hs]; exact IsStrs.size_at (w := w6) (a := some ⟨b, off, none⟩) (len := ys.length) ⟨rfl, hsz, hKc⟩ k
      obtain ⟨e1, e2⟩ := HJ.out (lit s)
      have HS : Hid (s = ys.getD k ByteArray.empty) := hs
      clear hs hc hKc hsz HC HE HJ
      by_cases hab : val Db (lit s) < val Da (lit s)
      · have e3 : val Dj (lit s) = val Db (lit s) := by omega
        by_cases hpos : 0 < val Db (lit s)
        · have e4 : Maps.has Dj (lit s) = true := by rw [e1]; exact decide_eq_true (by omega)
          clear e1 e2
          go_wp2_with (first
            | (at_lookup; refine wp_look _ rfl _ _ rfl w.heap.size len0 Da rfl hva6 s rfl hss ?_)
            | (at_lookup; refine wp_look _ rfl _ _ rfl w1.heap.size len2 Db rfl hvb6 s rfl hss ?_)
            | (at_lookup; refine wp_look_ok _ rfl _ _ rfl w2.heap.size _ Dj rfl hvj6 s rfl hss ?_)
            | go_in)
          go_round
          case rel => exact ⟨k + 1, c + 1, by omega, by go_num, by go_num, by rw [cnt_yes hlt HS.out e4, ← HCC.out]⟩
          case measure => simp [intOf]; omega
        · have e4 : Maps.has Dj (lit s) = false := by rw [e1]; exact decide_eq_false (by omega)
          clear e1 e2
          go_wp2_with (first
            | (at_lookup; refine wp_look _ rfl _ _ rfl w.heap.size len0 Da rfl hva6 s rfl hss ?_)
            | (at_lookup; refine wp_look _ rfl _ _ rfl w1.heap.size len2 Db rfl hvb6 s rfl hss ?_)
            | (at_lookup; refine wp_look_ok _ rfl _ _ rfl w2.heap.size _ Dj rfl hvj6 s rfl hss ?_)
            | go_in)
          go_round
          case rel => exact ⟨k + 1, c, by omega, by go_num, rfl, by rw [cnt_no hlt HS.out e4]; exact HCC.out⟩
          case measure => simp [intOf]; omega
      · have e3 : val Dj (lit s) = val Da (lit s) := by omega
        by_cases hpos : 0 < val Da (lit s)
        · have e4 : Maps.has Dj (lit s) = true := by rw [e1]; exact decide_eq_true (by omega)
          clear e1 e2
          go_wp2_with (first
            | (at_lookup; refine wp_look _ rfl _ _ rfl w.heap.size len0 Da rfl hva6 s rfl hss ?_)
            | (at_lookup; refine wp_look _ rfl _ _ rfl w1.heap.size len2 Db rfl hvb6 s rfl hss ?_)
            | (at_lookup; refine wp_look_ok _ rfl _ _ rfl w2.heap.size _ Dj rfl hvj6 s rfl hss ?_)
            | go_in)
          go_round
          case rel => exact ⟨k + 1, c + 1, by omega, by go_num, by go_num, by rw [cnt_yes hlt HS.out e4, ← HCC.out]⟩
          case measure => simp [intOf]; omega
        · have e4 : Maps.has Dj (lit s) = false := by rw [e1]; exact decide_eq_false (by omega)
          clear e1 e2
          go_wp2_with (first
            | (at_lookup; refine wp_look _ rfl _ _ rfl w.heap.size len0 Da rfl hva6 s rfl hss ?_)
            | (at_lookup; refine wp_look _ rfl _ _ rfl w1.heap.size len2 Db rfl hvb6 s rfl hss ?_)
            | (at_lookup; refine wp_look_ok _ rfl _ _ rfl w2.heap.size _ Dj rfl hvj6 s rfl hss ?_)
            | go_in)
          go_round
          case rel => exact ⟨k + 1, c, by omega, by go_num, rfl, by rw [cnt_no hlt HS.out e4]; exact HCC.out⟩
          case measure => simp [intOf]; omega
    · have hlenJ := fun ty => hvj6.len Try.underlying27 ty
      obtain rfl : k = ys.length := by omega
      obtain rfl : c = Maps.size Dj := HCC.out.trans HE.out
      go_wp2
      clear hlenJ HJ HE HCC
      go_loopw [21] (fun i wr => DInner w6 w2.heap.size (Maps.size Da) ys.length ys i wr) (fun i _ => ys.length - (intOf i).toNat)
      case atStart => exact ⟨0, Dj, Nat.zero_le _, rfl, hvj6, fun l hl => by rw [List.drop_zero]; exact HC.out l hl, World.grownBy.refl _ _⟩
      case round =>
        obtain ⟨k, D, hk, rfl, hown, hD, hgr⟩ := hrel
        have hva7 := hva6.kept hgr (fun e => by have := Option.some.inj e; omega)
        have hvb7 := hvb6.kept hgr (fun e => by have := Option.some.inj e; omega)
        by_cases hlt : k < ys.length
        · obtain ⟨_, hsz, hKc⟩ := hK
          obtain ⟨b, off, rfl, hb, hc⟩ := hKc (by omega)
          have hbb := (hrow6.lt b (by simp [Value.ownBlock])).1
          obtain ⟨s, hs⟩ : ∃ s, s = ys.getD k ByteArray.empty := ⟨_, rfl⟩
          have hcell : wr.cell? ⟨b, off + k, none⟩ = some (.string s) := by rw [hs]; exact hgr.cell (hc k hlt) (by simp; omega)
          have hss : s.size ≤ maxLen := by rw [hs]; exact IsStrs.size_at (w := w6) (a := some ⟨b, off, none⟩) (len := ys.length) ⟨rfl, hsz, hKc⟩ k
          have HS : Hid (s = ys.getD k ByteArray.empty) := hs
          have HD : Hid (∀ l, Maps.has D l = true → l ∈ (ys.drop k).map lit) := hD
          clear hs hc hKc hsz HC hD
          go_wp2_with (first
            | (at_delete; refine wpList_delete_own _ rfl _ _ 27 9 rfl 32 law9 Try.underlying27 _ w2.heap.size _ D rfl hown _ _ rfl (key_ok hss) ?_; intro w7 hown7 hturn; go_frame)
            | go_in)
          go_roundw
          case rel => exact ⟨k + 1, _, by omega, by go_num, hown7, drop_step hlt HS.out HD.out, hgr.andThen hturn.grown (fun j hj => Or.inr hj)⟩
          case measure => simp [intOf]; omega
        · have hlenJ := fun ty => hown.len Try.underlying27 ty
          rw [drop_end (hown.canon law9) (by rw [show ys.length = k by omega]; exact hD)] at hlenJ
          have hlenA := fun ty => hva7.len Try.underlying27 ty
          have hlenB := fun ty => hvb7.len Try.underlying27 ty
          go_wp2
          go_ret
          exact ⟨rfl, hBw.grown hgr hBw.size (fun j hj => by cases hj; omega)⟩

end Go.Proofs.Qxb6000435a
