/-
  Qxb6000435a: the walks of buildVersion, Join, Meet.
-/
import Derived.Test.Qxb6000435aMaps
namespace Go.Proofs.Qxb6000435a
open Go.RowKit Go.Maps

theorem take_snoc_lit {ss : List ByteArray} {k : Nat} (h : k < ss.length) : (ss.take (k + 1)).map lit = (ss.take k).map lit ++ [lit (ss.getD k ByteArray.empty)] := by
  rw [List.take_succ_eq_append_getElem h, List.getD, List.getElem?_eq_getElem h, List.map_append]
  rfl

theorem wf_at {zs : List Int} (h : ∀ n ∈ zs, (Lit.int .u64 n).wf = true) (k : Nat) : (Lit.int .u64 (zs.getD k 0)).wf = true := by
  by_cases hk : k < zs.length
  · rw [List.getD, List.getElem?_eq_getElem hk]
    exact h _ (List.getElem_mem hk)
  · rw [List.getD, List.getElem?_eq_none (by omega)]
    decide

theorem build_step {D : DataW Unit} {ss : List ByteArray} {k : Nat} {s : ByteArray} {d : DataW Unit} (hk : k < ss.length) (hs : s = ss.getD k ByteArray.empty) (hm : IsMap D) (h : ∀ l, Maps.has D l = true ↔ l ∈ (ss.take k).map lit) :
    ∀ l, Maps.has (D.put (lit s) d) l = true ↔ l ∈ (ss.take (k + 1)).map lit := by
  intro l
  rw [take_snoc_lit hk, ← hs]
  by_cases e : l = lit s
  · subst e
    simp [has_put_same hm (lit_key s)]
  · rw [has_put_other e, h l]
    simp [e]

set_option maxHeartbeats 400000 in
set_option maxRecDepth 100000 in
theorem build_any (a : Option Addr) (len cap : Nat) (ss : List ByteArray) (a1 : Option Addr) (len1 cap1 : Nat) (zs : List Int) (w : World) (hS : IsStrs w a len ss) (hN : IsNums w a1 len1 zs) (hlen : len ≤ 1048576) :
    Calls Try.prog 12 #[.slice a len cap, .slice a1 len1 cap1] w fun e w' => e = .returned (.map (some w.heap.size)) ∧ Below w.heap.size w w' ∧ w.heap.size < w'.heap.size ∧ ∃ D, Ver w' w.heap.size len D ∧ ∀ l, Maps.has D l = true ↔ l ∈ ss.map lit := by
  have hmm := @run_makeMap Try.prog
  obtain ⟨hl, hsz, hS⟩ := hS
  obtain ⟨hwz, hl1, hN⟩ := hN
  have hwz' := wf_at hwz
  clear hwz
  go_enter Try.func12, Try.ntmps12
  go_wp2
  go_loopw [6] (fun i wr => ∃ (k : Nat) (D : DataW Unit), k ≤ len ∧ i = .int .i64 k ∧ Ver wr w.heap.size k D ∧ (∀ l, Maps.has D l = true ↔ l ∈ (ss.take k).map lit) ∧ Below w.heap.size w wr ∧ w.heap.size < wr.heap.size)
    (fun i _ => len - (intOf i).toNat)
  case atStart => exact ⟨0, .map [], Nat.zero_le _, rfl, World.ownsMap_made _ _ _ _, fun l => by simp [has_empty], (Below.refl _ _).alloc (Nat.le_refl _) _, by simp⟩
  case round =>
    obtain ⟨k, D, hk, rfl, hown, hD, hnx, hgt⟩ := hrel
    by_cases hlt : k < len
    · obtain ⟨b, off, rfl, hb, hc⟩ := hS (by omega)
      obtain ⟨s, hs⟩ : ∃ s, s = ss.getD k ByteArray.empty := ⟨_, rfl⟩
      have hck : wr.cell? ⟨b, off + k, none⟩ = some (.string s) := by rw [hs]; exact (hnx.cell (by exact hb)).trans (hc k hlt)
      have hss : s.size ≤ maxLen := by rw [hs]; exact IsStrs.size_at (w := w) (a := some ⟨b, off, none⟩) (len := len) ⟨hl, hsz, hS⟩ k
      have HS : Hid (s = ss.getD k ByteArray.empty) := hs
      have HD : Hid (∀ l, Maps.has D l = true ↔ l ∈ (ss.take k).map lit) := hD
      clear hs hc hS hsz hD
      by_cases hlt1 : k < len1
      · obtain ⟨b1, off1, rfl, hb1, hc1⟩ := hN (by omega)
        obtain ⟨z, hz⟩ : ∃ z, z = zs.getD k 0 := ⟨_, rfl⟩
        have hck1 : wr.cell? ⟨b1, off1 + k, none⟩ = some (.int .u64 z) := by rw [hz]; exact (hnx.cell (by exact hb1)).trans (hc1 k hlt1)
        have hwz : (Lit.int .u64 z).wf = true := by rw [hz]; exact hwz' k
        clear hz hN hc1 hwz'
        go_wp2_with (first
          | (at_mapUpdate; refine wp_store _ rfl _ _ _ rfl w.heap.size k D rfl hown (by unfold maxLen; omega) s z rfl hss rfl hwz ?_; intro w1 hown1 hg1; go_frame)
          | go_in)
        go_roundw
        case rel => exact ⟨k + 1, _, by omega, by go_num, hown1, build_step (by omega) HS.out hown.isMap HD.out, hnx.grown hg1 hnx.size (fun j hj => by cases hj; exact Nat.le_refl _), Nat.lt_of_lt_of_le hgt hg1.size⟩
        case measure => simp [intOf]; omega
      · go_wp2_with (first
          | (at_mapUpdate; refine wp_store _ rfl _ _ _ rfl w.heap.size k D rfl hown (by unfold maxLen; omega) s 0 rfl hss rfl (by decide) ?_; intro w1 hown1 hg1; go_frame)
          | go_in)
        go_roundw
        case rel => exact ⟨k + 1, _, by omega, by go_num, hown1, build_step (by omega) HS.out hown.isMap HD.out, hnx.grown hg1 hnx.size (fun j hj => by cases hj; exact Nat.le_refl _), Nat.lt_of_lt_of_le hgt hg1.size⟩
        case measure => simp [intOf]; omega
    · go_wp2
      go_ret
      obtain rfl : k = len := by omega
      exact ⟨rfl, hnx, hgt, D, hown, by rw [← hl, List.take_length] at hD; exact hD⟩

theorem own_below {P : Program} {k : TypeId} {R : Value → Option (DataW Unit × List MemPlace)} {w w' : World} {b n B : Nat} {D : DataW Unit} (h : w.ownsMap P k R b n D) (hb : Below B w w') (hB : b < B) : w'.ownsMap P k R b n D := by
  obtain ⟨es, clock, hh, r⟩ := h
  exact ⟨es, clock, (hb.block b hB).trans hh, r⟩

theorem Ver.kept1 {w w' : World} {b n r : Nat} {D : DataW Unit} (h : Ver w b n D) (hg : w.grownBy w' (some r)) (hne : b < r) : Ver w' b n D :=
  World.ownsMap.kept h hg (fun e => by have := Option.some.inj e; omega)

theorem U64s.wf {D : DataW Unit} (h : U64s D) (k : Lit) : (Lit.int .u64 (val D k)).wf = true := by
  cases hk : Maps.has D k
  · rw [val_of_not_has hk]; decide
  · obtain ⟨c, hc, hw⟩ := h.at hk
    rw [val_of (hc _)]; exact hw

theorem wf_max {a b : Int} (ha : (Lit.int .u64 a).wf = true) (hb : (Lit.int .u64 b).wf = true) : (Lit.int .u64 (max a b)).wf = true := by
  rcases Int.le_total a b with h | h
  · rw [Int.max_eq_right h]; exact hb
  · rw [Int.max_eq_left h]; exact ha
theorem wf_min {a b : Int} (ha : (Lit.int .u64 a).wf = true) (hb : (Lit.int .u64 b).wf = true) : (Lit.int .u64 (min a b)).wf = true := by
  rcases Int.le_total a b with h | h
  · rw [Int.min_eq_left h]; exact ha
  · rw [Int.min_eq_right h]; exact hb

/-- What the join holds behind k of its two operands. -/
def JoinAt (D1 D2 : DataW Unit) (k : Nat) (D : DataW Unit) : Prop :=
  ∀ l, Maps.has D l = ((decide (1 ≤ k) && Maps.has D1 l) || (decide (2 ≤ k) && Maps.has D2 l)) ∧ val D l = max (if 1 ≤ k then val D1 l else 0) (if 2 ≤ k then val D2 l else 0)
def roomAt (s1 s2 k : Nat) : Nat := (if 1 ≤ k then s1 else 0) + (if 2 ≤ k then s2 else 0)

theorem joinAt_zero (D1 D2 : DataW Unit) : JoinAt D1 D2 0 (.map []) := fun l => by simp [has_empty, val_empty]
theorem joinAt_one {D1 D2 D Dj : DataW Unit} (u1 : U64s D1) (h : JoinAt D1 D2 0 D) (hj : ∀ l, Maps.has Dj l = (Maps.has D l || Maps.has D1 l) ∧ val Dj l = max (val D l) (val D1 l)) : JoinAt D1 D2 1 Dj := by
  intro l
  have := u1.nonneg l
  obtain ⟨e1, e2⟩ := h l
  simp at e1 e2
  rw [(hj l).1, (hj l).2, e1, e2]
  simp
  omega
theorem joinAt_two {D1 D2 D Dj : DataW Unit} (u1 : U64s D1) (h : JoinAt D1 D2 1 D) (hj : ∀ l, Maps.has Dj l = (Maps.has D l || Maps.has D2 l) ∧ val Dj l = max (val D l) (val D2 l)) : JoinAt D1 D2 2 Dj := by
  intro l
  have := u1.nonneg l
  obtain ⟨e1, e2⟩ := h l
  simp at e1 e2
  rw [(hj l).1, (hj l).2, e1, e2]
  simp
  omega
theorem joinAt_end {D1 D2 D : DataW Unit} (h : JoinAt D1 D2 2 D) : IsJoin D1 D2 D := fun l => by simpa using h l

theorem joinUW_step' {D0 Dw Dj : DataW Unit} {left : Lit → Bool} {kl : Lit} {c m : Int} (u0 : U64s D0) (h : JoinUW D0 Dw Dj left) (hm : IsMap Dj) (hk : WideAt.IsKeyLit kl) (hl : left kl = true)
    (hat : ∀ zd, Dw.atKey kl zd = .lit (.int .u64 c)) (e : m = max (val Dj kl) c) : JoinUW D0 Dw (Dj.put kl (.lit (.int .u64 m))) (fun z => left z && !z.sameKey kl) := by
  rw [e]; exact joinUW_step u0 h hm hk hl hat

theorem max_ite (a b : Int) : (if a < b then b else a) = max a b := by split <;> omega
theorem min_ite (a b : Int) : (if b < a then b else a) = min a b := by split <;> omega

theorem two_cells (w : World) (o : Obj) (x y : Value) (t : TypeId) :
    ((w.alloc o).alloc (.cells #[x, y] t)).cell? ⟨w.heap.size + 1, 0, none⟩ = some x ∧ ((w.alloc o).alloc (.cells #[x, y] t)).cell? ⟨w.heap.size + 1, 1, none⟩ = some y := by
  have e : (w.alloc o).heap.size = w.heap.size + 1 := by simp
  have h := heap_alloc_new (w.alloc o) (.cells #[x, y] t)
  rw [e] at h
  rw [cell_of_row _ _ 0 _ _ _ h, cell_of_row _ _ 1 _ _ _ h]
  exact ⟨rfl, rfl⟩

/-- The inner loop's relation: 'for node, seq := range w' under way (the map in block bk reads as Dk; the iterator lies in block r). -/
def JInner (w : World) (b1 b2 bk r nk room : Nat) (D Dk : DataW Unit) (wq : World) : Prop :=
  ∃ (left : Lit → Bool) (cnt n : Nat) (Dj : DataW Unit), wq.ranges Try.prog 9 (plainElem Try.prog 32) bk r nk Dk left cnt ∧ n + cnt ≤ room ∧
    Ver wq w.heap.size n Dj ∧ JoinUW D Dk Dj left ∧ Below w.heap.size w wq ∧ r < wq.heap.size ∧
    wq.cell? ⟨w.heap.size + 1, 0, none⟩ = some (.map (some b1)) ∧ wq.cell? ⟨w.heap.size + 1, 1, none⟩ = some (.map (some b2))

set_option maxHeartbeats 1000000 in
set_option maxRecDepth 100000 in
theorem join_any (b1 n1 b2 n2 : Nat) (D1 D2 : DataW Unit) (w : World) (h1 : Ver w b1 n1 D1) (h2 : Ver w b2 n2 D2) (hb1 : Maps.size D1 ≤ 10000000) (hb2 : Maps.size D2 ≤ 10000000) :
    Calls Try.prog 13 #[.map (some b1), .map (some b2)] w fun e w' => e = .returned (.map (some w.heap.size)) ∧ Below w.heap.size w w' ∧ w.heap.size < w'.heap.size ∧ ∃ D, Ver w' w.heap.size (Maps.size D1 + Maps.size D2) D ∧ IsJoin D1 D2 D := by
  have hmm := @run_makeMap Try.prog
  have hl1 := h1.lt
  have hl2 := h2.lt
  go_enter Try.func13, Try.ntmps13
  go_wp2
  go_loopw [15] (fun i wr => ∃ (k : Nat) (D : DataW Unit), k ≤ 2 ∧ i = .int .i64 k ∧ Ver wr w.heap.size (roomAt (Maps.size D1) (Maps.size D2) k) D ∧ JoinAt D1 D2 k D ∧ Below w.heap.size w wr ∧ w.heap.size + 1 < wr.heap.size ∧
      wr.cell? ⟨w.heap.size + 1, 0, none⟩ = some (.map (some b1)) ∧ wr.cell? ⟨w.heap.size + 1, 1, none⟩ = some (.map (some b2)))
    (fun i _ => 2 - (intOf i).toNat)
  case atStart =>
    exact ⟨0, .map [], by omega, rfl, (World.ownsMap_made _ _ _ _).alloc _, joinAt_zero _ _, ((Below.refl _ _).alloc (Nat.le_refl _) _).alloc (by simp) _, by simp, (two_cells _ _ _ _ _).1, (two_cells _ _ _ _ _).2⟩
  case round =>
    obtain ⟨k, D, hk, rfl, hown, hJ, hnx, hgt, hc0, hc1⟩ := hrel
    by_cases hlt : k < 2
    · obtain ⟨bk, nk, Dk, hck, hownk, hbk, hlk, hroom, hnext⟩ : ∃ bk nk Dk, wr.cell? ⟨w.heap.size + 1, k, none⟩ = some (.map (some bk)) ∧ Ver wr bk nk Dk ∧ roomAt (Maps.size D1) (Maps.size D2) (k + 1) ≤ 20000000 ∧ bk < w.heap.size ∧
          roomAt (Maps.size D1) (Maps.size D2) k + Maps.size Dk ≤ roomAt (Maps.size D1) (Maps.size D2) (k + 1) ∧ ∀ Dj, (∀ l, Maps.has Dj l = (Maps.has D l || Maps.has Dk l) ∧ val Dj l = max (val D l) (val Dk l)) → JoinAt D1 D2 (k + 1) Dj := by
        rcases (show k = 0 ∨ k = 1 by omega) with rfl | rfl
        · exact ⟨b1, n1, D1, hc0, own_below h1 hnx hl1, by simp [roomAt]; omega, hl1, by simp [roomAt], fun Dj hj => joinAt_one h1.u64s hJ hj⟩
        · exact ⟨b2, n2, D2, hc1, own_below h2 hnx hl2, by simp [roomAt]; omega, hl2, by simp [roomAt], fun Dj hj => joinAt_two h1.u64s hJ hj⟩
      clear hJ h1 h2 hb1 hb2
      have HN : Hid (∀ Dj, (∀ l, Maps.has Dj l = (Maps.has D l || Maps.has Dk l) ∧ val Dj l = max (val D l) (val Dk l)) → JoinAt D1 D2 (k + 1) Dj) := hnext
      clear hnext
      have huD := hown.u64s
      go_wp2_with (first
        | (at_range; refine wpList_range_own _ rfl _ 27 rfl 9 32 law9 Try.underlying27 _ bk nk Dk rfl hownk ?_; intro w0 hrg0 hg0 hs0)
        | go_in)
      go_frame
      clear hownk
      have hsw := hnx.size
      generalize hrr : wr.heap.size = r at hrg0 hs0 hgt hsw ⊢
      go_loopw [8] (fun _ wq => JInner w b1 b2 bk r nk (roomAt (Maps.size D1) (Maps.size D2) (k + 1)) D Dk wq)
        (fun _ wq => wq.rangeLeft bk r)
      case atStart =>
        exact ⟨_, _, _, D, hrg0, hroom, hown.kept hg0 (by simp), joinUW_start huD, hnx.grown hg0 (by rw [hrr]; omega) (fun j hj => by cases hj), by omega, hg0.cell hc0 (by simp), hg0.cell hc1 (by simp)⟩
      case round =>
        obtain ⟨left, cnt, n, Dj, hrg, hcn, hown', hJ, hnx', hgt', hc0', hc1'⟩ := hrel
        clear hown hck hc0 hc1 hg0 hrg0 hs0 hnx hrr
        go_wp2_with (first
          | (at_next; refine wp_next _ rfl _ rfl bk r nk _ _ _ rfl hrg ?_ ?_)
          | go_in)
        · intro hc00 hl0
          subst hc00
          have hfin := HN.out Dj (joinUW_end hJ hl0)
          clear HN hJ hl0
          go_wp2
          go_roundw
          case rel => exact ⟨k + 1, Dj, by omega, by go_num, hown'.mono (by omega), hfin, hnx', by omega, hc0', hc1'⟩
          case measure => simp [intOf]; omega
        · intro s c w1 cnt1 hs hwc hlx hat hrg1 hlt1 hg1 hs1 hen
          have hown1 := Ver.kept1 hown' hg1 (by omega)
          have hwv := (hown1.u64s).wf (lit s)
          clear hs1
          go_wp2_with (first
            | (at_lookup; refine wp_look _ rfl _ _ rfl w.heap.size n Dj rfl hown1 s rfl hs ?_)
            | (at_mapUpdate; refine wp_store _ rfl _ _ _ rfl w.heap.size n Dj rfl hown1 (by unfold maxLen; omega) s _ rfl hs rfl (by split <;> assumption) ?_; intro w2 hown2 hg2; go_frame)
            | go_in)
          all_goals
            have hrg2 := hrg1.kept hg2 (fun e => by have := Option.some.inj e; omega) (fun e => by have := Option.some.inj e; omega)
            go_roundw
            case rel =>
              exact ⟨_, cnt1, n + 1, _, hrg2, by omega, hown2, joinUW_step' huD hJ hown'.isMap (lit_key s) hlx hat (max_ite _ _),
                (hnx'.grown hg1 hnx'.size (fun j hj => by cases hj; omega)).grown hg2 (by have := hnx'.size; have := hg1.size; omega) (fun j hj => by cases hj; exact Nat.le_refl _), by have := hg1.size; have := hg2.size; omega,
                hg2.cell (hg1.cell hc0' (by simp; omega)) (by simp), hg2.cell (hg1.cell hc1' (by simp; omega)) (by simp)⟩
            case measure => rw [hrg2.left_eq, hrg.left_eq]; exact hlt1
    · go_wp2
      go_ret
      obtain rfl : k = 2 := by omega
      exact ⟨rfl, hnx, by omega, D, by simpa [roomAt] using hown, joinAt_end hJ⟩

end Go.Proofs.Qxb6000435a
