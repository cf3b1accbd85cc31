/-
  Qxb6000435a: the walks of Meet, addDistinct, sameVersionOn, positivePart.
-/
import Derived.Test.Qxb6000435aWalkC
namespace Go.Proofs.Qxb6000435a
open Go.RowKit Go.Maps

/-- The loop's relation in Meet. -/
def MInner (w : World) (b1 n1 b2 n2 : Nat) (D1 D2 : DataW Unit) (wq : World) : Prop :=
  ∃ (left : Lit → Bool) (cnt n : Nat) (Dm : DataW Unit), wq.ranges Try.prog 9 (plainElem Try.prog 32) b1 (w.heap.size + 1) n1 D1 left cnt ∧ n + cnt ≤ Maps.size D1 ∧
    Ver wq w.heap.size n Dm ∧ MeetUW D1 D2 Dm left ∧ Below w.heap.size w wq ∧ w.heap.size + 1 < wq.heap.size ∧ Ver wq b2 n2 D2

theorem meet_put' {D1 D2 Dm : DataW Unit} {left : Lit → Bool} {kl : Lit} {c m : Int} (h : MeetUW D1 D2 Dm left) (hm : IsMap Dm) (hk : WideAt.IsKeyLit kl)
    (hat : ∀ zd, D1.atKey kl zd = .lit (.int .u64 c)) (e : m = min c (val D2 kl)) (hpos : 0 < m) : MeetUW D1 D2 (Dm.put kl (.lit (.int .u64 m))) (fun z => left z && !z.sameKey kl) := by
  rw [e]; exact meetUW_put h hm hk hat rfl (by omega)

set_option maxHeartbeats 1000000 in
set_option maxRecDepth 100000 in
theorem meet_any (b1 n1 b2 n2 : Nat) (D1 D2 : DataW Unit) (w : World) (h1 : Ver w b1 n1 D1) (h2 : Ver w b2 n2 D2) (hb1 : Maps.size D1 ≤ 10000000) :
    Calls Try.prog 18 #[.map (some b1), .map (some b2)] w fun e w' => e = .returned (.map (some w.heap.size)) ∧ Below w.heap.size w w' ∧ w.heap.size < w'.heap.size ∧ ∃ D, Ver w' w.heap.size (Maps.size D1) D ∧ IsMeet D1 D2 D := by
  have hmm := @run_makeMap Try.prog
  have hl1 := h1.lt
  have hl2 := h2.lt
  have hu2 := h2.u64s
  have e1 : (w.alloc (.map #[] 0)).heap.size = w.heap.size + 1 := by simp
  go_enter Try.func18, Try.ntmps18
  go_wp2_with (first
    | (at_range; refine wpList_range_own _ rfl _ 27 rfl 9 32 law9 Try.underlying27 _ b1 n1 D1 rfl (h1.alloc _) ?_; intro w0 hrg0 hg0 hs0)
    | go_in)
  go_frame
  rw [e1] at hrg0 hs0 ⊢
  go_loopw [6] (fun _ wq => MInner w b1 n1 b2 n2 D1 D2 wq) (fun _ wq => wq.rangeLeft b1 (w.heap.size + 1))
  case atStart =>
    exact ⟨_, _, 0, .map [], hrg0, by omega, (World.ownsMap_made _ _ _ _).kept hg0 (by simp), meetUW_start hu2, ((Below.refl _ _).alloc (Nat.le_refl _) _).grown hg0 (by simp) (fun j hj => by cases hj), by omega, (h2.alloc _).kept hg0 (by simp)⟩
  case round =>
    obtain ⟨left, cnt, n, Dm, hrg, hcn, hown, hM, hnx, hgt, hv2⟩ := hrel
    clear h1 h2 hrg0 hg0 hs0
    go_wp2_with (first
      | (at_next; refine wp_next _ rfl _ rfl b1 (w.heap.size + 1) n1 _ _ _ rfl hrg ?_ ?_)
      | go_in)
    · intro hc0 hl0
      subst hc0
      go_wp2
      go_ret
      exact ⟨rfl, hnx, by omega, Dm, hown.mono (by omega), meetUW_end hM hl0⟩
    · intro s c w1 cnt1 hs hwc hlx hat hrg1 hlt1 hg1 hs1 hen
      have hown1 := Ver.kept1 hown hg1 (by omega)
      have hv21 := Ver.kept1 hv2 hg1 (by omega)
      have hwv := hu2.wf (lit s)
      have hn0 := hu2.nonneg (lit s)
      have hc0 := wf_u64 hwc
      clear hs1
      go_wp2_with (first
        | (at_lookup; refine wp_look _ rfl _ _ rfl b2 n2 D2 rfl hv21 s rfl hs ?_)
        | (at_mapUpdate; refine wp_store _ rfl _ _ _ rfl w.heap.size n Dm rfl hown1 (by unfold maxLen; omega) s _ rfl hs rfl (by first | assumption | (split <;> assumption)) ?_; intro w2 hown2 hg2; go_frame)
        | go_in)
      · have hrg2 := hrg1.kept hg2 (fun e => by have := Option.some.inj e; omega) (fun e => by have := Option.some.inj e; omega)
        go_roundw
        case rel =>
          exact ⟨_, cnt1, n + 1, _, hrg2, by omega, hown2, meet_put' hM hown.isMap (lit_key s) hat (min_ite _ _) (by assumption),
            (hnx.grown hg1 hnx.size (fun j hj => by cases hj; omega)).grown hg2 (by have := hnx.size; have := hg1.size; omega) (fun j hj => by cases hj; exact Nat.le_refl _), by have := hg1.size; have := hg2.size; omega,
            hv21.kept hg2 (fun e => by have := Option.some.inj e; omega)⟩
        case measure => rw [hrg2.left_eq, hrg.left_eq]; exact hlt1
      · go_roundw
        case rel =>
          exact ⟨_, cnt1, n, Dm, hrg1, by omega, hown1, meetUW_skip hM (lit_key s) hlx hat rfl hc0 hn0 (by have := min_ite c (val D2 (lit s)); omega),
            hnx.grown hg1 hnx.size (fun j hj => by cases hj; omega), by have := hg1.size; omega, hv21⟩
        case measure => rw [hrg1.left_eq, hrg.left_eq]; exact hlt1

/-- A slice of the call's own does not lie in a block below its base. -/
theorem own_ne {w : World} {base : Nat} {e : TypeId} {size : Nat} {v : Value} {n : Nat} {xs : List Value} (h : w.ownsRow base e size v n xs) {b : Nat} (hb : b < base) : v.ownBlock ≠ some b := fun e => by
  have := (h.lt b e).1; omega

/-- The loop's relation in addDistinct. -/
def AInner (w : World) (bs n len : Nat) (xs ss : List ByteArray) (v i : Value) (wr : World) : Prop :=
  ∃ (k : Nat) (D : DataW Unit) (ys : List ByteArray), k ≤ len ∧ i = .int .i64 k ∧ VerB wr bs (n + k) D ∧ Seen D ys ∧ wr.ownsRow (bs + 1) 9 1 v ys.length (ys.map Value.string) ∧ Below bs w wr ∧
    (∀ l, l ∈ ys.map lit ↔ l ∈ xs.map lit ∨ l ∈ (ss.take k).map lit) ∧ ys.length ≤ xs.length + k ∧ (∀ s ∈ ys, s.size ≤ maxLen)

theorem add_new {xs ys ss : List ByteArray} {k : Nat} {s : ByteArray} (hk : k < ss.length) (hs : s = ss.getD k ByteArray.empty) (h : ∀ l, l ∈ ys.map lit ↔ l ∈ xs.map lit ∨ l ∈ (ss.take k).map lit) :
    ∀ l, l ∈ (ys ++ [s]).map lit ↔ l ∈ xs.map lit ∨ l ∈ (ss.take (k + 1)).map lit := by
  intro l
  rw [take_snoc_lit hk, ← hs, List.map_append, List.mem_append, List.mem_append, h l]
  simp [or_assoc]
theorem add_old {xs ys ss : List ByteArray} {k : Nat} {s : ByteArray} (hk : k < ss.length) (hs : s = ss.getD k ByteArray.empty) (h : ∀ l, l ∈ ys.map lit ↔ l ∈ xs.map lit ∨ l ∈ (ss.take k).map lit) (hm : lit s ∈ ys.map lit) :
    ∀ l, l ∈ ys.map lit ↔ l ∈ xs.map lit ∨ l ∈ (ss.take (k + 1)).map lit := by
  intro l
  rw [take_snoc_lit hk, ← hs, List.mem_append, ← or_assoc, ← h l]
  constructor
  · exact Or.inl
  · rintro (h1 | h1)
    · exact h1
    · rw [List.mem_singleton.1 h1]; exact hm

set_option maxHeartbeats 1000000 in
set_option maxRecDepth 100000 in
theorem add_any (bs n : Nat) (D0 : DataW Unit) (v : Value) (xs : List ByteArray) (a : Option Addr) (len cap : Nat) (ss : List ByteArray) (W0 w : World) (hown0 : VerB w bs n D0) (hseen0 : Seen D0 xs)
    (hrow0 : w.ownsRow (bs + 1) 9 1 v xs.length (xs.map Value.string)) (hxs : ∀ s ∈ xs, s.size ≤ maxLen) (hS : IsStrs W0 a len ss) (hW : Below W0.heap.size W0 w) (hWb : W0.heap.size ≤ bs) (hn : n ≤ 10000000) (hl : len ≤ 1048576) (hx : xs.length ≤ 10000000) :
    Calls Try.prog 14 #[.map (some bs), v, .slice a len cap] w fun e w' => ∃ v' ys D, e = .returned v' ∧ VerB w' bs (n + len) D ∧ Seen D ys ∧ w'.ownsRow (bs + 1) 9 1 v' ys.length (ys.map Value.string) ∧ Below bs w w' ∧
      (∀ l, l ∈ ys.map lit ↔ l ∈ xs.map lit ∨ l ∈ ss.map lit) ∧ ys.length ≤ xs.length + len ∧ (∀ s ∈ ys, s.size ≤ maxLen) := by
  obtain ⟨i0, hi, hz0, hz1, hz2⟩ := info_parts info9
  obtain ⟨hsl, hsz, hS⟩ := hS
  have hbl := hown0.lt
  go_enter Try.func14, Try.ntmps14
  go_wp2
  go_loopw [1, 7] (fun v i wr => AInner w bs n len xs ss v i wr) (fun _ i _ => len - (intOf i).toNat)
  case atStart => exact ⟨0, D0, xs, Nat.zero_le _, rfl, hown0, hseen0, hrow0, Below.refl _ _, fun l => by simp, Nat.le_refl _, hxs⟩
  case round =>
    obtain ⟨k, D, ys, hk, rfl, hown, hseen, hrow, hnx, hmem, hyl, hys⟩ := hrel
    clear hown0 hseen0 hrow0 hxs
    have hbr := hown.lt
    by_cases hlt : k < len
    · obtain ⟨b, off, rfl, hb, hc⟩ := hS (by omega)
      obtain ⟨s, hs⟩ : ∃ s, s = ss.getD k ByteArray.empty := ⟨_, rfl⟩
      have hcW : W0.cell? ⟨b, off + k, none⟩ = some (.string s) := by rw [hs]; exact hc k hlt
      have hck : wr.cell? ⟨b, off + k, none⟩ = some (.string s) := (hnx.cell (p := ⟨b, off + k, none⟩) (by show b < bs; omega)).trans ((hW.cell (p := ⟨b, off + k, none⟩) hb).trans hcW)
      have hss : s.size ≤ maxLen := by rw [hs]; exact IsStrs.size_at (w := W0) (a := some ⟨b, off, none⟩) (len := len) ⟨hsl, hsz, hS⟩ k
      have HS : Hid (s = ss.getD k ByteArray.empty) := hs
      have HM : Hid (∀ l, l ∈ ys.map lit ↔ l ∈ xs.map lit ∨ l ∈ (ss.take k).map lit) := hmem
      have HY : Hid (∀ s ∈ ys, s.size ≤ maxLen) := hys
      clear hs hc hS hsz hmem hys hcW hW
      cases hh : Maps.has D (lit s)
      · go_wp2_with (first
          | (at_lookup; refine wp_look_bool _ rfl _ _ rfl bs (n + k) D rfl hown hseen.2.1 s rfl hss ?_)
          | (at_mapUpdate; refine wp_store_bool _ rfl _ _ _ rfl bs (n + k) D rfl hown (by unfold maxLen; omega) s rfl hss rfl ?_; intro w1 hown1 hg1; have hck1 := hg1.cell hck (by simp; omega))
          | (at_builtin; refine wpList_append_own _ rfl _ _ 22 rfl (bs + 1) 9 i0 (.string ⟨#[]⟩) 1 16 Try.underlying22 hi hz0 hz1 hz2 rfl (by decide) _ _ _ rfl ((hrow.kept hg1 (Or.inr (own_ne hrow (Nat.lt_succ_self _)))).alloc _) ⟨w1.heap.size, 0, none⟩ 1 1 [.string s] rfl rfl (cell_one_new _ _ _) (by simp [Value.oneCell']) (by unfold maxLen; omega) (by omega) (by have := hg1.size; simp; omega) ?_; intro v' w2 hrow' hg2 hnil2)
          | go_in)
        have s1 := hg1.size
        have s2 := hg2.size
        simp at s2
        have hr1 := hrow.kept hg1 (Or.inr (own_ne hrow (Nat.lt_succ_self _)))
        go_roundw
        case rel =>
          refine ⟨k + 1, _, ys ++ [s], by omega, by go_num, (hown1.alloc _).kept hg2 (own_ne hr1 (Nat.lt_succ_self _)).symm, seen_put hseen hown.isMap hh, by simpa using hrow', ?_, add_new (by omega) HS.out HM.out, by simp; omega, ?_⟩
          · exact ((hnx.grown hg1 (by omega) (fun j hj => by cases hj; exact Nat.le_refl _)).alloc (by omega) _).grown hg2 (by simp; omega) (fun j hj => by have := (hr1.lt j hj).1; omega)
          · intro t ht
            rcases List.mem_append.1 ht with h | h
            · exact HY.out t h
            · rw [List.mem_singleton.1 h]; exact hss
        case measure => simp [intOf]; omega
      · go_wp2_with (first
          | (at_lookup; refine wp_look_bool _ rfl _ _ rfl bs (n + k) D rfl hown hseen.2.1 s rfl hss ?_)
          | go_in)
        go_roundw
        case rel =>
          exact ⟨k + 1, D, ys, by omega, by go_num, hown.mono (by omega), hseen, hrow, hnx, add_old (by omega) HS.out HM.out ((hseen.1 (lit s)).1 hh), by omega, HY.out⟩
        case measure => simp [intOf]; omega
    · go_wp2
      go_ret
      obtain rfl : k = len := by omega
      exact ⟨_, ys, D, rfl, hown, hseen, hrow, hnx, by rw [← hsl, List.take_length] at hmem; exact hmem, hyl, hys⟩

end Go.Proofs.Qxb6000435a
