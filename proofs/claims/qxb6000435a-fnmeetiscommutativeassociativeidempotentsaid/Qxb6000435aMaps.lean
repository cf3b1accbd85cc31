/-
  Qxb6000435a: maps from strings to uint64 and to bool, over this program: laws at the operations.
-/
import Derived.Test.Qxb6000435aWalkA
import Derived.Maps.RangeWalk
import Derived.Maps.Ext
import Derived.Maps.AppendAt
namespace Go.Proofs.Qxb6000435a
open Go.RowKit Go.Maps

theorem law9 : Keyed Try.prog 9 := string_keyed Try.underlying9
theorem zero32 (w : World) : (zeroValue 32).run Try.prog w = .ok (.int .u64 0) w := by kernel_rfl
theorem zero4 (w : World) : (zeroValue 4).run Try.prog w = .ok (.bool false) w := by kernel_rfl
theorem info9 : (Try.prog.info? 9).map (fun i => (i.zero, i.size, i.bytes)) = some (some (.string ⟨#[]⟩), 1, 16) := by kernel_rfl

/-- Block b is a Version of at most n entries that reads as D. -/
abbrev Ver (w : World) (b n : Nat) (D : DataW Unit) : Prop := w.ownsMap Try.prog 9 (plainElem Try.prog 32) b n D
/-- Block b is a map[string]bool of at most n entries that reads as D. -/
abbrev VerB (w : World) (b n : Nat) (D : DataW Unit) : Prop := w.ownsMap Try.prog 9 (plainElem Try.prog 4) b n D

theorem key_ok {s : ByteArray} (h : s.size ≤ maxLen) : keyOf Try.prog 9 (.string s) = some (lit s) := WideMaps.keyOf_string_mk Try.underlying9 h

theorem Ver.u64s {w : World} {b n : Nat} {D : DataW Unit} (h : Ver w b n D) : U64s D := by
  obtain ⟨es, clock, hb, F, hs, rfl⟩ := h
  refine ⟨_, rfl, fun p hp => ?_⟩
  obtain ⟨x, hx, rfl⟩ := List.mem_map.1 (mem_sorted.1 hp)
  obtain ⟨y, hy⟩ := F.reads x hx
  rw [WideElems.rg_of hy]
  obtain ⟨z, hz, hzd⟩ := WideElems.rd_val hy
  obtain ⟨c, _, hc, hw⟩ := plainElem_int_inv Try.underlying32 hz
  exact ⟨c, by rw [hzd, hc], hw⟩

/-- The bound as sharp as can be. -/
theorem tight {w : World} {P : Program} {k : TypeId} {R : Value → Option (DataW Unit × List MemPlace)} {b n : Nat} {D : DataW Unit} (h : w.ownsMap P k R b n D) : w.ownsMap P k R b (Maps.size D) D := by
  obtain ⟨es, clock, hb, F, hs, rfl⟩ := h
  exact ⟨es, clock, hb, F, by simp [Maps.size, length_sorted], rfl⟩

theorem keyOf_str_inv {key : Value} {kl : Lit} (h : keyOf Try.prog 9 key = some kl) : ∃ s : ByteArray, key = .string s ∧ kl = lit s ∧ s.size ≤ maxLen := by
  cases key <;> simp [keyOf, Try.underlying9, mapKey] at h
  obtain ⟨hw, rfl⟩ := h
  exact ⟨_, rfl, rfl, hw⟩

section
variable (w : World) {ops : Array Oper} {rest : List Oper} {o : Oper} {a : Act} {Q : Exit → Act → World → Prop}

/-- 'm[k]' in a Version. -/
theorem wp_look (hg : o.guard = none) (m x : Operand) (hop : o.op = Op.lookup 27 m x false) (b n : Nat) (D : DataW Unit) (hm : a.eval m = .map (some b)) (hown : Ver w b n D) (s : ByteArray) (hx : a.eval x = .string s) (hs : s.size ≤ maxLen)
    (hK : wpList Try.prog ops Q rest (a.put o.dst (.int .u64 (val D (lit s)))) w) : wpList Try.prog ops Q (o :: rest) a w := by
  refine wpList_lookup_own_int w hg m x 27 hop 9 32 .u64 law9 Try.underlying27 Try.underlying32 (zero32 _) b n D hm hown _ _ hx (key_ok hs) ?_
  intro c hat _
  rw [← val_of hat]
  exact hK

/-- 'v, ok := m[k]' in a Version. -/
theorem wp_look_ok (hg : o.guard = none) (m x : Operand) (hop : o.op = Op.lookup 27 m x true) (b n : Nat) (D : DataW Unit) (hm : a.eval m = .map (some b)) (hown : Ver w b n D) (s : ByteArray) (hx : a.eval x = .string s) (hs : s.size ≤ maxLen)
    (hK : wpList Try.prog ops Q rest (a.put o.dst (.tuple #[.int .u64 (val D (lit s)), .bool (Maps.has D (lit s))])) w) : wpList Try.prog ops Q (o :: rest) a w := by
  refine wpList_lookup_own_ok_int w hg m x 27 hop 9 32 .u64 law9 Try.underlying27 Try.underlying32 (zero32 _) b n D hm hown _ _ hx (key_ok hs) ?_
  intro c hat _
  rw [← val_of hat]
  exact hK

/-- 'seen[k]'. -/
theorem wp_look_bool (hg : o.guard = none) (m x : Operand) (hop : o.op = Op.lookup 30 m x false) (b n : Nat) (D : DataW Unit) (hm : a.eval m = .map (some b)) (hown : VerB w b n D) (hD : ∀ l, D.atKey l (.lit (.bool false)) = .lit (.bool (Maps.has D l))) (s : ByteArray) (hx : a.eval x = .string s) (hs : s.size ≤ maxLen)
    (hK : wpList Try.prog ops Q rest (a.put o.dst (.bool (Maps.has D (lit s)))) w) : wpList Try.prog ops Q (o :: rest) a w := by
  refine wpList_plain hg fun K' hK' => ?_
  obtain ⟨v, ps, hrun, hv⟩ := hown.lookup law9 Try.underlying30 (zero4 _) (plainElem_bool Try.underlying4 false) (key_ok hs)
  rw [hD] at hv
  have e : v = .bool (Maps.has D (lit s)) := by
    unfold plainElem at hv
    rw [Try.underlying4] at hv
    cases v <;> simp at hv
    rw [hv.1]
  subst e
  unfold Oper.wp
  simp [execOp, hop, hm, hx, hrun, Result.andThen]
  exact hK' _ _ hK

/-- 'm[k] = v' in a Version. -/
theorem wp_store (hg : o.guard = none) (m x v : Operand) (hop : o.op = Op.mapUpdate 27 m x v) (b n : Nat) (D : DataW Unit) (hm : a.eval m = .map (some b)) (hown : Ver w b n D) (hn : n < maxLen) (s : ByteArray) (c : Int) (hx : a.eval x = .string s) (hs : s.size ≤ maxLen)
    (hv : a.eval v = .int .u64 c) (hc : (Lit.int .u64 c).wf = true)
    (hK : ∀ w', Ver w' b (n + 1) (D.put (lit s) (.lit (.int .u64 c))) → w.grownBy w' (some b) → wpList Try.prog ops Q rest (a.put o.dst undef) w') : wpList Try.prog ops Q (o :: rest) a w :=
  wpList_mapUpdate_own w hg m x v 27 hop 9 32 law9 Try.underlying27 (plainElem Try.prog 32) b n D hm hown hn _ _ (lit s) hx hv (key_ok hs) _ [] (plainElem_int Try.underlying32 hc) hK

/-- 'seen[k] = true'. -/
theorem wp_store_bool (hg : o.guard = none) (m x v : Operand) (hop : o.op = Op.mapUpdate 30 m x v) (b n : Nat) (D : DataW Unit) (hm : a.eval m = .map (some b)) (hown : VerB w b n D) (hn : n < maxLen) (s : ByteArray) (hx : a.eval x = .string s) (hs : s.size ≤ maxLen)
    (hv : a.eval v = .bool true)
    (hK : ∀ w', VerB w' b (n + 1) (D.put (lit s) (.lit (.bool true))) → w.grownBy w' (some b) → wpList Try.prog ops Q rest (a.put o.dst undef) w') : wpList Try.prog ops Q (o :: rest) a w :=
  wpList_mapUpdate_own w hg m x v 30 hop 9 4 law9 Try.underlying30 (plainElem Try.prog 4) b n D hm hown hn _ _ (lit s) hx hv (key_ok hs) _ [] (plainElem_bool Try.underlying4 true) hK

/-- The step of 'for node, seq := range v'. -/
theorem wp_next (hg : o.guard = none) (it : Operand) (hop : o.op = Op.next it false) (b r n : Nat) (D : DataW Unit) (left : Lit → Bool) (cnt : Nat) (hit : a.eval it = .pointer (some ⟨r, 0, none⟩)) (h : w.ranges Try.prog 9 (plainElem Try.prog 32) b r n D left cnt)
    (hDone : cnt = 0 → (∀ kl, left kl = false) → wpList Try.prog ops Q rest (a.put o.dst (.tuple #[.bool false])) w)
    (hMore : ∀ (s : ByteArray) (c : Int) (w' : World) (cnt' : Nat), s.size ≤ maxLen → (Lit.int .u64 c).wf = true → left (lit s) = true → (∀ zd, D.atKey (lit s) zd = .lit (.int .u64 c)) → w'.ranges Try.prog 9 (plainElem Try.prog 32) b r n D (fun z => left z && !z.sameKey (lit s)) cnt' → cnt' < cnt →
      w.grownBy w' (some r) → w'.heap.size = w.heap.size → (Instr.entry (.pointer (some ⟨r, 0, none⟩))).run Try.prog w' = .ok (.tuple #[.string s, .int .u64 c]) w' → wpList Try.prog ops Q rest (a.put o.dst (.tuple #[.bool true, .string s, .int .u64 c])) w') :
    wpList Try.prog ops Q (o :: rest) a w :=
  wpList_next_ranges w hg it hop 9 law9 (plainElem Try.prog 32) Value.string (Value.int .u64) (fun key kl hkey => by obtain ⟨x, rfl, _⟩ := keyOf_str_inv hkey; exact ⟨x, rfl⟩) (fun v y hv => by obtain ⟨c, rfl, _⟩ := plainElem_int_inv Try.underlying32 hv; exact ⟨c, rfl⟩)
    b r n D left cnt hit h hDone (fun x c kl y w' cnt' hkey hlk hv hat hrg hlt hgr hsz hen => by
      obtain ⟨x', ex, rfl, hwx⟩ := keyOf_str_inv hkey
      cases ex
      obtain ⟨c', ec, rfl, hwc⟩ := plainElem_int_inv Try.underlying32 hv
      cases ec
      exact hMore x c w' cnt' hwx hwc hlk hat hrg hlt hgr hsz hen)

end

/-- A slice of uint64 that can be read. -/
def IsNums (w : World) (a : Option Addr) (len : Nat) (zs : List Int) : Prop :=
  (∀ n ∈ zs, (Lit.int .u64 n).wf = true) ∧ zs.length = len ∧ (0 < len → ∃ b off, a = some ⟨b, off, none⟩ ∧ b < w.heap.size ∧ ∀ j, j < len → w.cell? ⟨b, off + j, none⟩ = some (.int .u64 (zs.getD j 0)))

theorem IsNums.below {w w' : World} {a : Option Addr} {len B : Nat} {zs : List Int} (h : IsNums w a len zs) (hb : Below B w w') (hB : w.heap.size ≤ B) : IsNums w' a len zs := by
  obtain ⟨h1, h2, h3⟩ := h
  refine ⟨h1, h2, fun hl => ?_⟩
  obtain ⟨b, off, e, hlt, hc⟩ := h3 hl
  exact ⟨b, off, e, by have := hb.size; omega, fun j hj => (hb.cell (by show b < B; omega)).trans (hc j hj)⟩

end Go.Proofs.Qxb6000435a
