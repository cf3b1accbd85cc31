/-
  Qxb6000435a: the walk of FnJoinIsPointwiseMax.
-/
import Derived.Test.Qxb6000435aWalkE
namespace Go.Proofs.Qxb6000435a
open Go.RowKit Go.Maps

/-- The second loop's relation: behind k deletions the map holds the keys from k on. -/
def DInner (w : World) (b n len : Nat) (ys : List ByteArray) (i : Value) (wr : World) : Prop :=
  ∃ (k : Nat) (D : DataW Unit), k ≤ len ∧ i = .int .i64 k ∧ Ver wr b n D ∧ (∀ l, Maps.has D l = true → l ∈ (ys.drop k).map lit) ∧ w.grownBy wr (some b)

theorem drop_step {D : DataW Unit} {ys : List ByteArray} {k : Nat} {s : ByteArray} (hk : k < ys.length) (hs : s = ys.getD k ByteArray.empty) (h : ∀ l, Maps.has D l = true → l ∈ (ys.drop k).map lit) :
    ∀ l, Maps.has (D.del (lit s)) l = true → l ∈ (ys.drop (k + 1)).map lit := by
  intro l hl
  have e : l ≠ lit s := by
    intro e
    subst e
    rw [has_del_same] at hl
    cases hl
  rw [has_del_other e] at hl
  have := h l hl
  rw [List.drop_eq_getElem_cons hk] at this
  rw [List.getD, List.getElem?_eq_getElem hk] at hs
  simp at hs
  rw [← hs, List.map_cons] at this
  rcases List.mem_cons.1 this with h1 | h1
  · exact absurd h1 e
  · exact h1

theorem drop_end {D : DataW Unit} {ys : List ByteArray} (c : Canon D) (h : ∀ l, Maps.has D l = true → l ∈ (ys.drop ys.length).map lit) : Maps.size D = 0 := by
  refine size_zero c (fun l => ?_)
  cases hl : Maps.has D l
  · rfl
  · have := h l hl
    simp at this

theorem mem_at {ys : List ByteArray} {k : Nat} {s : ByteArray} (hk : k < ys.length) (hs : s = ys.getD k ByteArray.empty) : lit s ∈ ys.map lit := by
  rw [List.getD, List.getElem?_eq_getElem hk] at hs
  simp at hs
  exact List.mem_map.2 ⟨s, by rw [hs]; exact List.getElem_mem hk, rfl⟩

set_option maxHeartbeats 1000000 in
set_option maxRecDepth 100000 in
theorem walk3 (a0 : Option Addr) (len0 cap0 : Nat) (s0 : List ByteArray) (a1 : Option Addr) (len1 cap1 : Nat) (z1 : List Int) (a2 : Option Addr) (len2 cap2 : Nat) (s2 : List ByteArray) (a3 : Option Addr) (len3 cap3 : Nat) (z3 : List Int) (w : World)
    (hS0 : IsStrs w a0 len0 s0) (hN1 : IsNums w a1 len1 z1) (hS2 : IsStrs w a2 len2 s2) (hN3 : IsNums w a3 len3 z3) :
    Calls Try.prog 3 #[.slice a0 len0 cap0, .slice a1 len1 cap1, .slice a2 len2 cap2, .slice a3 len3 cap3] w fun e w' => e = .returned (.bool true) ∧ Below w.heap.size w w' := by
  have hmm := @run_makeMap Try.prog
  go_enter Try.func3, Try.ntmps3
  go_wp2_with fail
  refine (bytes10 a0 len0 cap0 s0 a1 len1 cap1 a2 len2 cap2 s2 a3 len3 cap3 w hS0 hS2).mono ?_
  rintro e w' ⟨⟨r, rfl, hr⟩, rfl⟩
  cases r
  · go_wp2_with fail
    go_ret
    exact ⟨rfl, Below.refl _ _⟩
  obtain ⟨hl0, hl2⟩ := hr rfl
  clear hr
  go_wp2_with fail
  refine (pairBytes_any a0 len0 cap0 s0 a1 len1 cap1 w' hS0).mono ?_
  rintro e w'' ⟨⟨n1, rfl⟩, rfl⟩
  go_wp2_with fail
  refine (pairBytes_any a2 len2 cap2 s2 a3 len3 cap3 w'' hS2).mono ?_
  rintro e w ⟨⟨n2, rfl⟩, rfl⟩
  go_wp2_with fail
  · go_ret
    exact ⟨rfl, Below.refl _ _⟩
  refine (build_any a0 len0 cap0 s0 a1 len1 cap1 z1 w hS0 hN1 hl0).mono ?_
  rintro e w1 ⟨rfl, hb1, hg1, Da, hva, hka⟩
  go_wp2_with fail
  refine (build_any a2 len2 cap2 s2 a3 len3 cap3 z3 w1 (hS2.below hb1 (Nat.le_refl _)) (hN3.below hb1 (Nat.le_refl _)) hl2).mono ?_
  rintro e w2 ⟨rfl, hb2, hg2, Db, hvb, hkb⟩
  have hva2 := own_below hva hb2 hg1
  have hlenA := fun ty => hva2.len Try.underlying27 ty
  have hlenB := fun ty => hvb.len Try.underlying27 ty
  go_wp2_with fail
  have hszA := hva.size_le
  have hszB := hvb.size_le
  clear hlenA hlenB
  refine (join_any w.heap.size len0 w1.heap.size len2 Da Db w2 hva2 hvb (by omega) (by omega)).mono ?_
  rintro e w3 ⟨rfl, hb3, hg3, Dj, hvj, hJ⟩
  go_wp2_with fail
  have sz1 := hb1.size
  have sz2 := hb2.size
  have sz3 := hb3.size
  have hW3 : Below w.heap.size w w3 := (hb1.trans (hb2.mono sz1)).trans (hb3.mono (by omega))
  refine (add_any w3.heap.size 0 (.map []) (.slice none 0 0) [] a0 len0 cap0 s0 w _ (World.ownsMap_made _ _ _ _) seen_empty (World.ownsRow_nil _ _ _ _) (by simp) hS0 (hW3.alloc (by omega) _) (by omega) (by omega) hl0 (by simp)).mono ?_
  rintro e w5 ⟨v5, ys5, D5, rfl, hown5, hseen5, hrow5, hb5, hmem5, hyl5, hys5⟩
  have sz5 := hb5.size
  simp at sz5
  have hW5 : Below w.heap.size w w5 := (hW3.alloc (by omega) _).trans (hb5.mono (by omega))
  go_wp2_with fail
  refine (add_any w3.heap.size (0 + len0) D5 v5 ys5 a2 len2 cap2 s2 w w5 hown5 hseen5 hrow5 hys5 hS2 hW5 (by omega) (by omega) hl2 (by simp at hyl5; omega)).mono ?_
  rintro e w6 ⟨v6, ys, D6, rfl, hown6, hseen6, hrow6, hb6, hmem6, hyl6, hys6⟩
  obtain ⟨ak, capk, rfl, hK⟩ := strs_of_row hrow6 hys6
  have sz6 := hb6.size
  have hW6 : Below w3.heap.size w3 w6 := ((Below.refl _ _).alloc (Nat.le_refl _) _).trans (hb5.trans (hb6.mono (Nat.le_refl _)))
  have hva6 : Ver w6 w.heap.size len0 Da := own_below (own_below hva2 hb3 (by omega)) hW6 (by omega)
  have hvb6 : Ver w6 w1.heap.size len2 Db := own_below (own_below hvb hb3 (by omega)) hW6 (by omega)
  have hvj6 := own_below hvj hW6 (by omega)
  have hnd := hseen6.2.2
  have hBw : Below w.heap.size w w6 := hW5.trans (hb6.mono (by omega))
  have hylen : ys.length ≤ 3000000 := by simp at hyl5; omega
  have hhas : ∀ l, l ∈ ys.map lit → Maps.has Dj l = true := by
    intro l hl
    rw [(hJ l).1]
    have := (hmem6 l).1 hl
    rw [hmem5 l] at this
    rcases this with (h | h) | h
    · simp at h
    · rw [(hka l).2 h]; simp
    · rw [(hkb l).2 h]; simp
  have hcov : ∀ l, Maps.has Dj l = true → l ∈ ys.map lit := by
    intro l hl
    rw [(hJ l).1] at hl
    rw [hmem6 l, hmem5 l]
    rcases Bool.or_eq_true_iff.1 hl with h | h
    · exact Or.inl (Or.inr ((hka l).1 h))
    · exact Or.inr ((hkb l).1 h)
  have hsj : Maps.size Dj = ys.length := by
    rw [size_cover (hvj6.canon law9) hnd hcov, List.filter_eq_self.2 hhas, List.length_map]
  clear hva hva2 hvb hvj hb1 hb2 hb3 hb5 hb6 hown5 hseen5 hrow5 hmem5 hyl5 hys5 hown6 hseen6 hmem6 hyl6 hys6 hka hkb hS0 hS2 hN1 hN3 hW3 hW5
  have HH : Hid (∀ l, l ∈ ys.map lit → Maps.has Dj l = true) := hhas
  have HV : Hid (∀ l, l ∈ ys.map lit → Maps.has Dj l = true ∧ val Dj l = max (val Da l) (val Db l)) := fun l hl => ⟨hhas l hl, (hJ l).2⟩
  have HC : Hid (∀ l, Maps.has Dj l = true → l ∈ ys.map lit) := hcov
  have HSJ : Hid (Maps.size Dj = ys.length) := hsj
  clear hhas hcov hJ hnd hsj
  go_wp2_with fail
  go_loop [16] (fun i => ∃ k : Nat, k ≤ ys.length ∧ i = .int .i64 k) (fun i => ys.length - (intOf i).toNat)
  case atStart => exact ⟨0, Nat.zero_le _, rfl⟩
  case round =>
    obtain ⟨k, hk, rfl⟩ := hrel
    by_cases hlt : k < ys.length
    · obtain ⟨_, hsz, hKc⟩ := hK
      obtain ⟨b, off, rfl, hb, hc⟩ := hKc (by omega)
      obtain ⟨s, hs⟩ : ∃ s, s = ys.getD k ByteArray.empty := ⟨_, rfl⟩
      have hcell : w6.cell? ⟨b, off + k, none⟩ = some (.string s) := by rw [hs]; exact hc k hlt
      have hss : s.size ≤ maxLen := by rw [hs]; exact IsStrs.size_at (w := w6) (a := some ⟨b, off, none⟩) (len := ys.length) ⟨rfl, hsz, hKc⟩ k
      obtain ⟨e1, e2⟩ := HV.out (lit s) (mem_at hlt hs)
      clear hs hc hKc hsz HH HV HC HSJ
      by_cases hab : val Da (lit s) < val Db (lit s)
      · have e3 : val Dj (lit s) = val Db (lit s) := by omega
        clear e2
        go_wp2_with (first
          | (at_lookup; refine wp_look _ rfl _ _ rfl w.heap.size len0 Da rfl hva6 s rfl hss ?_)
          | (at_lookup; refine wp_look _ rfl _ _ rfl w1.heap.size len2 Db rfl hvb6 s rfl hss ?_)
          | (at_lookup; refine wp_look_ok _ rfl _ _ rfl w2.heap.size _ Dj rfl hvj6 s rfl hss ?_)
          | go_in)
        go_round
        case rel => exact ⟨k + 1, by omega, by go_num⟩
        case measure => simp [intOf]; omega
      · have e3 : val Dj (lit s) = val Da (lit s) := by omega
        clear e2
        go_wp2_with (first
          | (at_lookup; refine wp_look _ rfl _ _ rfl w.heap.size len0 Da rfl hva6 s rfl hss ?_)
          | (at_lookup; refine wp_look _ rfl _ _ rfl w1.heap.size len2 Db rfl hvb6 s rfl hss ?_)
          | (at_lookup; refine wp_look_ok _ rfl _ _ rfl w2.heap.size _ Dj rfl hvj6 s rfl hss ?_)
          | go_in)
        go_round
        case rel => exact ⟨k + 1, by omega, by go_num⟩
        case measure => simp [intOf]; omega
    · have hlenJ := fun ty => hvj6.len Try.underlying27 ty
      rw [HSJ.out] at hlenJ
      obtain rfl : k = ys.length := by omega
      go_wp2
      clear hlenJ HH HV HSJ
      go_loopw [20] (fun i wr => DInner w6 w2.heap.size (Maps.size Da + Maps.size Db) ys.length ys i wr) (fun i _ => ys.length - (intOf i).toNat)
      case atStart => exact ⟨0, Dj, Nat.zero_le _, rfl, hvj6, fun l hl => by rw [List.drop_zero]; exact HC.out l hl, World.grownBy.refl _ _⟩
      case round =>
        obtain ⟨k, D, hk, rfl, hown, hD, hgr⟩ := hrel
        have hva7 := hva6.kept hgr (fun e => by have := Option.some.inj e; omega)
        have hvb7 := hvb6.kept hgr (fun e => by have := Option.some.inj e; omega)
        by_cases hlt : k < ys.length
        · obtain ⟨_, hsz, hKc⟩ := hK
          obtain ⟨b, off, rfl, hb, hc⟩ := hKc (by omega)
          have hbb := (hrow6.lt b (by simp [Value.ownBlock])).1
          obtain ⟨s, hs⟩ : ∃ s, s = ys.getD k ByteArray.empty := ⟨_, rfl⟩
          have hcell : wr.cell? ⟨b, off + k, none⟩ = some (.string s) := by rw [hs]; exact hgr.cell (hc k hlt) (by simp; omega)
          have hss : s.size ≤ maxLen := by rw [hs]; exact IsStrs.size_at (w := w6) (a := some ⟨b, off, none⟩) (len := ys.length) ⟨rfl, hsz, hKc⟩ k
          have HS : Hid (s = ys.getD k ByteArray.empty) := hs
          have HD : Hid (∀ l, Maps.has D l = true → l ∈ (ys.drop k).map lit) := hD
          clear hs hc hKc hsz HC hD
          go_wp2_with (first
            | (at_delete; refine wpList_delete_own _ rfl _ _ 27 9 rfl 32 law9 Try.underlying27 _ w2.heap.size _ D rfl hown _ _ rfl (key_ok hss) ?_; intro w7 hown7 hturn; go_frame)
            | go_in)
          go_roundw
          case rel => exact ⟨k + 1, _, by omega, by go_num, hown7, drop_step hlt HS.out HD.out, hgr.andThen hturn.grown (fun j hj => Or.inr hj)⟩
          case measure => simp [intOf]; omega
        · have hlenJ := fun ty => hown.len Try.underlying27 ty
          rw [drop_end (hown.canon law9) (by rw [show ys.length = k by omega]; exact hD)] at hlenJ
          have hlenA := fun ty => hva7.len Try.underlying27 ty
          have hlenB := fun ty => hvb7.len Try.underlying27 ty
          go_wp2
          go_ret
          exact ⟨rfl, hBw.grown hgr hBw.size (fun j hj => by cases hj; omega)⟩

end Go.Proofs.Qxb6000435a
