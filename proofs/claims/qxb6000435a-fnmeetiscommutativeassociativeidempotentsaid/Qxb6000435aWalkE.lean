/-
  Qxb6000435a: the walks of sameVersionOn, positivePart.
-/
import Derived.Test.Qxb6000435aWalkD
namespace Go.Proofs.Qxb6000435a
open Go.RowKit Go.Maps

/-- A slice of the call's own, read. -/
theorem strs_of_row {w : World} {base : Nat} {v : Value} {xs : List ByteArray} (h : w.ownsRow base 9 1 v xs.length (xs.map Value.string)) (hx : ∀ s ∈ xs, s.size ≤ maxLen) : ∃ a cap, v = .slice a xs.length cap ∧ IsStrs w a xs.length xs := by
  rcases h.2 with ⟨rfl, h0⟩ | ⟨g, cap, cur, rfl, hb, hg, _, _, _, ht⟩
  · rw [h0]
    exact ⟨none, 0, rfl, h0, hx, fun h => by omega⟩
  · refine ⟨_, cap, rfl, rfl, hx, fun _ => ⟨g, 0, rfl, (Array.getElem?_eq_some_iff.1 hg).1, fun j hj => ?_⟩⟩
    rw [Nat.zero_add, cell_of_row w g j cur 9 (0, 0) hg]
    have e : (xs.map Value.string)[j]? = some (.string (xs.getD j ByteArray.empty)) := by
      simp [List.getD, hj]
    rw [← ht, List.getElem?_take, if_pos (by omega)] at e
    simpa using e

/-- How many of the first k strings are keys of D. -/
def cnt (D : DataW Unit) (xs : List ByteArray) (k : Nat) : Nat := ((xs.take k).filter (fun s => Maps.has D (lit s))).length

theorem cnt_zero (D : DataW Unit) (xs : List ByteArray) : cnt D xs 0 = 0 := by simp [cnt]
theorem cnt_le (D : DataW Unit) (xs : List ByteArray) (k : Nat) : cnt D xs k ≤ k := by
  unfold cnt
  have h1 := List.length_filter_le (fun s => Maps.has D (lit s)) (xs.take k)
  have h2 := List.length_take_le k xs
  omega
theorem cnt_yes {D : DataW Unit} {xs : List ByteArray} {k : Nat} {s : ByteArray} (hk : k < xs.length) (hs : s = xs.getD k ByteArray.empty) (h : Maps.has D (lit s) = true) : cnt D xs (k + 1) = cnt D xs k + 1 := by
  unfold cnt
  rw [List.take_succ_eq_append_getElem hk, List.filter_append]
  rw [List.getD, List.getElem?_eq_getElem hk] at hs
  simp at hs
  subst hs
  simp [h]
theorem cnt_no {D : DataW Unit} {xs : List ByteArray} {k : Nat} {s : ByteArray} (hk : k < xs.length) (hs : s = xs.getD k ByteArray.empty) (h : Maps.has D (lit s) = false) : cnt D xs (k + 1) = cnt D xs k := by
  unfold cnt
  rw [List.take_succ_eq_append_getElem hk, List.filter_append]
  rw [List.getD, List.getElem?_eq_getElem hk] at hs
  simp at hs
  subst hs
  simp [h]
theorem cnt_end {D : DataW Unit} {xs : List ByteArray} (c : Canon D) (hn : (xs.map lit).Nodup) (hc : ∀ l, Maps.has D l = true → l ∈ xs.map lit) : cnt D xs xs.length = Maps.size D := by
  rw [size_cover c hn hc, cnt, List.take_length, List.filter_map, List.length_map]
  rfl

def SInner (D : DataW Unit) (len : Nat) (xs : List ByteArray) (n i : Value) : Prop :=
  ∃ (k c : Nat), k ≤ len ∧ i = .int .i64 k ∧ n = .int .i64 c ∧ c = cnt D xs k

set_option maxHeartbeats 400000 in
set_option maxRecDepth 100000 in
theorem same_any (b1 n1 b2 n2 : Nat) (D : DataW Unit) (a : Option Addr) (len cap : Nat) (xs : List ByteArray) (w : World) (h1 : Ver w b1 n1 D) (h2 : Ver w b2 n2 D) (hS : IsStrs w a len xs)
    (hn : (xs.map lit).Nodup) (hc : ∀ l, Maps.has D l = true → l ∈ xs.map lit) (hl : len ≤ 10000000) :
    Calls Try.prog 16 #[.map (some b1), .map (some b2), .slice a len cap] w fun e w' => e = .returned (.bool true) ∧ w' = w := by
  obtain ⟨hsl, hsz, hS⟩ := hS
  have hend := cnt_end (h1.canon law9) hn hc
  rw [hsl] at hend
  have HE : Hid (cnt D xs len = Maps.size D) := hend
  have hlen1 := fun ty => h1.len Try.underlying27 ty
  have hlen2 := fun ty => h2.len Try.underlying27 ty
  clear hend hn hc
  go_enter Try.func16, Try.ntmps16
  go_wp2
  go_loop [7, 8] (fun n i => SInner D len xs n i) (fun _ i => len - (intOf i).toNat)
  case atStart => exact ⟨0, 0, Nat.zero_le _, rfl, rfl, (cnt_zero _ _).symm⟩
  case round =>
    obtain ⟨k, c, hk, rfl, rfl, hcc⟩ := hrel
    have hck := cnt_le D xs k
    rw [← hcc] at hck
    have HC : Hid (c = cnt D xs k) := hcc
    clear hcc
    by_cases hlt : k < len
    · obtain ⟨b, off, rfl, hb, hc⟩ := hS (by omega)
      obtain ⟨s, hs⟩ : ∃ s, s = xs.getD k ByteArray.empty := ⟨_, rfl⟩
      have hcell : w.cell? ⟨b, off + k, none⟩ = some (.string s) := by rw [hs]; exact hc k hlt
      have hss : s.size ≤ maxLen := by rw [hs]; exact IsStrs.size_at (w := w) (a := some ⟨b, off, none⟩) (len := len) ⟨hsl, hsz, hS⟩ k
      have HS : Hid (s = xs.getD k ByteArray.empty) := hs
      clear hs hc hS hsz hlen1 hlen2
      cases hh : Maps.has D (lit s)
      · go_wp2_with (first
          | (at_lookup; refine wp_look_ok _ rfl _ _ rfl b1 n1 D rfl h1 s rfl hss ?_)
          | (at_lookup; refine wp_look_ok _ rfl _ _ rfl b2 n2 D rfl h2 s rfl hss ?_)
          | go_in)
        go_round
        case rel => exact ⟨k + 1, c, by omega, by go_num, rfl, by rw [cnt_no (by omega) HS.out hh]; exact HC.out⟩
        case measure => simp [intOf]; omega
      · go_wp2_with (first
          | (at_lookup; refine wp_look_ok _ rfl _ _ rfl b1 n1 D rfl h1 s rfl hss ?_)
          | (at_lookup; refine wp_look_ok _ rfl _ _ rfl b2 n2 D rfl h2 s rfl hss ?_)
          | go_in)
        go_round
        case rel => exact ⟨k + 1, c + 1, by omega, by go_num, by go_num, by rw [cnt_yes (by omega) HS.out hh, ← HC.out]⟩
        case measure => simp [intOf]; omega
    · obtain rfl : k = len := by omega
      obtain rfl : c = Maps.size D := HC.out.trans HE.out
      go_wp2
      go_ret
      exact ⟨rfl, rfl⟩

def PosAt (D : DataW Unit) (xs : List ByteArray) (k : Nat) (Dp : DataW Unit) : Prop :=
  ∀ l, (Maps.has Dp l = true ↔ l ∈ (xs.take k).map lit ∧ 0 < val D l) ∧ (Maps.has Dp l = true → val Dp l = val D l)
def IsPos (D Dp : DataW Unit) : Prop := ∀ l, Maps.has Dp l = decide (0 < val D l) ∧ val Dp l = val D l

theorem posAt_zero (D : DataW Unit) (xs : List ByteArray) : PosAt D xs 0 (.map []) := fun l => by simp [has_empty]
theorem posAt_put {D Dp : DataW Unit} {xs : List ByteArray} {k : Nat} {s : ByteArray} (hk : k < xs.length) (hs : s = xs.getD k ByteArray.empty) (hm : IsMap Dp) (h : PosAt D xs k Dp) (hp : 0 < val D (lit s)) : PosAt D xs (k + 1) (Dp.put (lit s) (.lit (.int .u64 (val D (lit s))))) := by
  intro l
  rw [take_snoc_lit hk, ← hs]
  by_cases e : l = lit s
  · subst e
    rw [has_put_same hm (lit_key s), val_put_same hm (lit_key s)]
    simp [hp]
  · rw [has_put_other e, val_put_other e]
    simpa [e] using h l
theorem posAt_skip {D Dp : DataW Unit} {xs : List ByteArray} {k : Nat} {s : ByteArray} (hk : k < xs.length) (hs : s = xs.getD k ByteArray.empty) (h : PosAt D xs k Dp) (hp : ¬ 0 < val D (lit s)) : PosAt D xs (k + 1) Dp := by
  intro l
  rw [take_snoc_lit hk, ← hs]
  refine ⟨(h l).1.trans ?_, (h l).2⟩
  constructor
  · rintro ⟨h1, h2⟩
    exact ⟨List.mem_append.2 (Or.inl h1), h2⟩
  · rintro ⟨h1, h2⟩
    rcases List.mem_append.1 h1 with h3 | h3
    · exact ⟨h3, h2⟩
    · rw [List.mem_singleton.1 h3] at h2
      exact absurd h2 hp
theorem posAt_end {D Dp : DataW Unit} {xs : List ByteArray} (u : U64s D) (hc : ∀ l, Maps.has D l = true → l ∈ xs.map lit) (h : PosAt D xs xs.length Dp) : IsPos D Dp := by
  intro l
  have h0 := u.nonneg l
  obtain ⟨h1, h2⟩ := h l
  rw [List.take_length] at h1
  by_cases hp : 0 < val D l
  · have hh : Maps.has D l = true := by
      cases hd : Maps.has D l
      · rw [val_of_not_has hd] at hp; omega
      · rfl
    have := h1.2 ⟨hc l hh, hp⟩
    exact ⟨by rw [this]; simp [hp], h2 this⟩
  · have : Maps.has Dp l = false := by
      cases hd : Maps.has Dp l
      · rfl
      · exact absurd (h1.1 hd).2 hp
    exact ⟨by rw [this]; simp; omega, by rw [val_of_not_has this]; omega⟩

def PInner (w : World) (b n len : Nat) (D : DataW Unit) (xs : List ByteArray) (i : Value) (wr : World) : Prop :=
  ∃ (k : Nat) (Dp : DataW Unit), k ≤ len ∧ i = .int .i64 k ∧ Ver wr w.heap.size k Dp ∧ PosAt D xs k Dp ∧ Below w.heap.size w wr ∧ w.heap.size < wr.heap.size ∧ Ver wr b n D

set_option maxHeartbeats 400000 in
set_option maxRecDepth 100000 in
theorem pos_any (b n : Nat) (D : DataW Unit) (a : Option Addr) (len cap : Nat) (xs : List ByteArray) (w : World) (h1 : Ver w b n D) (hS : IsStrs w a len xs) (hc : ∀ l, Maps.has D l = true → l ∈ xs.map lit) (hl : len ≤ 10000000) :
    Calls Try.prog 20 #[.map (some b), .slice a len cap] w fun e w' => e = .returned (.map (some w.heap.size)) ∧ Below w.heap.size w w' ∧ w.heap.size < w'.heap.size ∧ ∃ Dp, Ver w' w.heap.size len Dp ∧ IsPos D Dp := by
  have hmm := @run_makeMap Try.prog
  obtain ⟨hsl, hsz, hS⟩ := hS
  have hbl := h1.lt
  have hu := h1.u64s
  have HC : Hid (∀ l, Maps.has D l = true → l ∈ xs.map lit) := hc
  clear hc
  go_enter Try.func20, Try.ntmps20
  go_wp2
  go_loopw [6] (fun i wr => PInner w b n len D xs i wr) (fun i _ => len - (intOf i).toNat)
  case atStart => exact ⟨0, .map [], Nat.zero_le _, rfl, World.ownsMap_made _ _ _ _, posAt_zero _ _, (Below.refl _ _).alloc (Nat.le_refl _) _, by simp, h1.alloc _⟩
  case round =>
    obtain ⟨k, Dp, hk, rfl, hown, hP, hnx, hgt, h1'⟩ := hrel
    clear h1
    by_cases hlt : k < len
    · obtain ⟨b0, off, rfl, hb, hc⟩ := hS (by omega)
      obtain ⟨s, hs⟩ : ∃ s, s = xs.getD k ByteArray.empty := ⟨_, rfl⟩
      have hcell : wr.cell? ⟨b0, off + k, none⟩ = some (.string s) := by rw [hs]; exact (hnx.cell (by exact hb)).trans (hc k hlt)
      have hss : s.size ≤ maxLen := by rw [hs]; exact IsStrs.size_at (w := w) (a := some ⟨b0, off, none⟩) (len := len) ⟨hsl, hsz, hS⟩ k
      have HS : Hid (s = xs.getD k ByteArray.empty) := hs
      have hwv := hu.wf (lit s)
      clear hs hc hS hsz
      by_cases hp : 0 < val D (lit s)
      · have hh : Maps.has D (lit s) = true := by
          cases hd : Maps.has D (lit s)
          · rw [val_of_not_has hd] at hp; omega
          · rfl
        go_wp2_with (first
          | (at_lookup; refine wp_look_ok _ rfl _ _ rfl b n D rfl h1' s rfl hss ?_)
          | (at_mapUpdate; refine wp_store _ rfl _ _ _ rfl w.heap.size k Dp rfl hown (by unfold maxLen; omega) s (val D (lit s)) rfl hss rfl hwv ?_; intro w1 hown1 hg1; go_frame)
          | go_in)
        go_roundw
        case rel => exact ⟨k + 1, _, by omega, by go_num, hown1, posAt_put (by omega) HS.out hown.isMap hP hp, hnx.grown hg1 hnx.size (fun j hj => by cases hj; exact Nat.le_refl _), Nat.lt_of_lt_of_le hgt hg1.size, h1'.kept hg1 (fun e => by have := Option.some.inj e; omega)⟩
        case measure => simp [intOf]; omega
      · cases hh : Maps.has D (lit s)
        all_goals
          go_wp2_with (first
            | (at_lookup; refine wp_look_ok _ rfl _ _ rfl b n D rfl h1' s rfl hss ?_)
            | go_in)
          go_roundw
          case rel => exact ⟨k + 1, Dp, by omega, by go_num, hown.mono (by omega), posAt_skip (by omega) HS.out hP hp, hnx, hgt, h1'⟩
          case measure => simp [intOf]; omega
    · go_wp2
      go_ret
      obtain rfl : k = len := by omega
      exact ⟨rfl, hnx, hgt, Dp, hown, posAt_end hu HC.out (by rw [hsl]; exact hP)⟩

end Go.Proofs.Qxb6000435a
