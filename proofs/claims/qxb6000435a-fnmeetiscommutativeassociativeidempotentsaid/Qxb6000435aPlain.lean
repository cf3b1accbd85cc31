/-
  Qxb6000435a: plain facts on maps as read, with no word of the program.
-/
import Derived.Maps.Ext
namespace Go.Proofs.Qxb6000435a
open Go.Maps Go.WideShapes

/-- The number at a key: 0 where the key is not there. -/
def val (D : DataW Unit) (k : Lit) : Int :=
  match D.atKey k (.lit (.int .u64 0)) with
  | .lit (.int _ c) => c
  | _ => 0

/-- Every element is a uint64. -/
def U64s (D : DataW Unit) : Prop := ∃ es, D = .map es ∧ ∀ p ∈ es, ∃ c : Int, p.2 = .lit (.int .u64 c) ∧ (Lit.int .u64 c).wf = true

theorem val_of {D : DataW Unit} {k : Lit} {c : Int} (h : D.atKey k (.lit (.int .u64 0)) = .lit (.int .u64 c)) : val D k = c := by
  simp [val, h]

theorem val_of_not_has {D : DataW Unit} {k : Lit} (h : Maps.has D k = false) : val D k = 0 := by
  simp [val, atKey_of_not_has h]

theorem U64s.at {D : DataW Unit} (h : U64s D) {k : Lit} (hk : Maps.has D k = true) : ∃ c : Int, (∀ z, D.atKey k z = .lit (.int .u64 c)) ∧ (Lit.int .u64 c).wf = true := by
  obtain ⟨es, rfl, hes⟩ := h
  have hs : (es.find? (fun p => p.1.sameKey k)).isSome = true := by
    obtain ⟨p, hp, hpk⟩ := List.any_eq_true.1 hk
    exact List.find?_isSome.2 ⟨p, hp, hpk⟩
  obtain ⟨x, hx⟩ := Option.isSome_iff_exists.1 hs
  obtain ⟨c, hc, hw⟩ := hes x (List.mem_of_find?_eq_some hx)
  exact ⟨c, fun z => by simp [DataW.atKey, hx, hc], hw⟩

theorem wf_u64 {c : Int} (h : (Lit.int .u64 c).wf = true) : 0 ≤ c := by
  have h2 : IntKind.min .u64 = 0 := by decide
  simp [Lit.wf, h2] at h
  exact h.1

theorem U64s.nonneg {D : DataW Unit} (h : U64s D) (k : Lit) : 0 ≤ val D k := by
  cases hk : Maps.has D k
  · rw [val_of_not_has hk]; exact Int.le_refl _
  · obtain ⟨c, hc, hw⟩ := h.at hk
    rw [val_of (hc _)]; exact wf_u64 hw

theorem val_put_same {D : DataW Unit} {k : Lit} (hD : IsMap D) (hk : WideAt.IsKeyLit k) (c : Int) : val (D.put k (.lit (.int .u64 c))) k = c :=
  val_of (atKey_put_same hD hk _ _)

theorem val_put_other {D : DataW Unit} {k k' : Lit} (hne : k' ≠ k) (d : DataW Unit) : val (D.put k d) k' = val D k' := by
  simp [val, atKey_put_other hne]

/-- Two maps of numbers that have the same keys and the same number at each are one. -/
theorem ext_val {D₁ D₂ : DataW Unit} (c₁ : Canon D₁) (c₂ : Canon D₂) (u₁ : U64s D₁) (u₂ : U64s D₂) (hh : ∀ k, Maps.has D₁ k = Maps.has D₂ k) (hv : ∀ k, val D₁ k = val D₂ k) : D₁ = D₂ := by
  refine Maps.ext c₁ c₂ hh (fun k z h => ?_)
  obtain ⟨c, hc, _⟩ := u₁.at h
  obtain ⟨d, hd, _⟩ := u₂.at (by rw [← hh]; exact h)
  have e := hv k
  rw [val_of (hc _), val_of (hd _)] at e
  rw [hc, hd, e]

/-! ### Join under way -/
def JoinUW (D0 Dw Dj : DataW Unit) (left : Lit → Bool) : Prop :=
  ∀ k, Maps.has Dj k = (Maps.has D0 k || (Maps.has Dw k && !left k)) ∧ val Dj k = max (val D0 k) (if left k then 0 else val Dw k)

theorem joinUW_start {D0 Dw : DataW Unit} (u0 : U64s D0) : JoinUW D0 Dw D0 (Maps.has Dw) := by
  intro k
  have := u0.nonneg k
  cases hk : Maps.has Dw k
  · rw [val_of_not_has hk]; simp; omega
  · simp; omega

theorem joinUW_step {D0 Dw Dj : DataW Unit} {left : Lit → Bool} {kl : Lit} {c : Int} (u0 : U64s D0) (h : JoinUW D0 Dw Dj left) (hm : IsMap Dj) (hk : WideAt.IsKeyLit kl) (hl : left kl = true)
    (hat : ∀ zd, Dw.atKey kl zd = .lit (.int .u64 c)) : JoinUW D0 Dw (Dj.put kl (.lit (.int .u64 (max (val Dj kl) c)))) (fun z => left z && !z.sameKey kl) := by
  intro k
  by_cases e : k = kl
  · subst e
    have h0 := u0.nonneg k
    obtain ⟨_, h2⟩ := h k
    rw [has_put_same hm hk, val_put_same hm hk, has_true_of_atKey hat, val_of (hat _), h2]
    simp [WideAt.sameKey_self hk, hl]
    omega
  · rw [has_put_other e, val_put_other e]
    have := h k
    simpa [sameKey_ne e] using this

theorem joinUW_end {D0 Dw Dj : DataW Unit} {left : Lit → Bool} (h : JoinUW D0 Dw Dj left) (hl : ∀ k, left k = false) :
    ∀ k, Maps.has Dj k = (Maps.has D0 k || Maps.has Dw k) ∧ val Dj k = max (val D0 k) (val Dw k) := by
  intro k
  have := h k
  simpa [hl] using this

/-- What a join holds. -/
def IsJoin (D1 D2 Dj : DataW Unit) : Prop := ∀ k, Maps.has Dj k = (Maps.has D1 k || Maps.has D2 k) ∧ val Dj k = max (val D1 k) (val D2 k)

/-! ### Meet under way -/
def MeetUW (D1 D2 Dm : DataW Unit) (left : Lit → Bool) : Prop :=
  ∀ k, Maps.has Dm k = (!left k && decide (0 < min (val D1 k) (val D2 k))) ∧ val Dm k = (if left k then 0 else min (val D1 k) (val D2 k))

theorem has_empty (k : Lit) : Maps.has (.map [] : DataW Unit) k = false := rfl
theorem val_empty (k : Lit) : val (.map [] : DataW Unit) k = 0 := rfl
theorem u64s_empty : U64s (.map []) := ⟨[], rfl, by simp⟩

theorem meetUW_start {D1 D2 : DataW Unit} (u2 : U64s D2) : MeetUW D1 D2 (.map []) (Maps.has D1) := by
  intro k
  have := u2.nonneg k
  rw [has_empty, val_empty]
  cases hk : Maps.has D1 k
  · rw [val_of_not_has hk]; simp; omega
  · simp

theorem meetUW_put {D1 D2 Dm : DataW Unit} {left : Lit → Bool} {kl : Lit} {c d : Int} (h : MeetUW D1 D2 Dm left) (hm : IsMap Dm) (hk : WideAt.IsKeyLit kl)
    (hat : ∀ zd, D1.atKey kl zd = .lit (.int .u64 c)) (hd : val D2 kl = d) (hpos : 0 < min c d) : MeetUW D1 D2 (Dm.put kl (.lit (.int .u64 (min c d)))) (fun z => left z && !z.sameKey kl) := by
  intro k
  by_cases e : k = kl
  · subst e
    rw [has_put_same hm hk, val_put_same hm hk, val_of (hat _), hd]
    simp [WideAt.sameKey_self hk]
    omega
  · rw [has_put_other e, val_put_other e]
    have := h k
    simpa [sameKey_ne e] using this

theorem meetUW_skip {D1 D2 Dm : DataW Unit} {left : Lit → Bool} {kl : Lit} {c d : Int} (h : MeetUW D1 D2 Dm left) (hk : WideAt.IsKeyLit kl) (hl : left kl = true)
    (hat : ∀ zd, D1.atKey kl zd = .lit (.int .u64 c)) (hd : val D2 kl = d) (hc0 : 0 ≤ c) (hd0 : 0 ≤ d) (hpos : ¬ 0 < min c d) : MeetUW D1 D2 Dm (fun z => left z && !z.sameKey kl) := by
  intro k
  by_cases e : k = kl
  · subst e
    have h1 := h k
    rw [hl] at h1
    rw [h1.1, h1.2, val_of (hat _), hd]
    simp [WideAt.sameKey_self hk]
    omega
  · have := h k
    simpa [sameKey_ne e] using this

def IsMeet (D1 D2 Dm : DataW Unit) : Prop := ∀ k, Maps.has Dm k = decide (0 < min (val D1 k) (val D2 k)) ∧ val Dm k = min (val D1 k) (val D2 k)

theorem meetUW_end {D1 D2 Dm : DataW Unit} {left : Lit → Bool} (h : MeetUW D1 D2 Dm left) (hl : ∀ k, left k = false) : IsMeet D1 D2 Dm := by
  intro k
  have := h k
  simpa [hl] using this

/-! ### keys as a list -/
def lit (s : ByteArray) : Lit := .string s.data.toList
theorem lit_inj {a b : ByteArray} (h : lit a = lit b) : a = b := by
  unfold lit at h
  have h1 : a.data.toList = b.data.toList := by injection h
  cases a; cases b
  simp at h1
  rw [h1]
theorem lit_key (s : ByteArray) : WideAt.IsKeyLit (lit s) := trivial

/-- How many entries a map has, told by a list of distinct keys that holds all of its keys. -/
theorem size_cover {D : DataW Unit} (c : Canon D) {L : List Lit} (hn : L.Nodup) (hc : ∀ k, Maps.has D k = true → k ∈ L) : Maps.size D = (L.filter (fun k => Maps.has D k)).length := by
  obtain ⟨es, rfl, hs, hk⟩ := c
  have h1 : (es.map Prod.fst).Nodup := by
    rw [List.nodup_iff_pairwise_ne, List.pairwise_map]
    exact apart_of_rising hs
  have h2 : (L.filter (fun k => Maps.has (DataW.map es) k)).Nodup := hn.filter _
  have h3 : (es.map Prod.fst).Perm (L.filter (fun k => Maps.has (DataW.map es) k)) := by
    rw [List.perm_ext_iff_of_nodup h1 h2]
    intro k
    constructor
    · intro hm
      obtain ⟨p, hp, rfl⟩ := List.mem_map.1 hm
      have hh : Maps.has (DataW.map es) p.1 = true := List.any_eq_true.2 ⟨p, hp, WideAt.sameKey_self (hk p hp)⟩
      exact List.mem_filter.2 ⟨hc _ hh, hh⟩
    · intro hm
      obtain ⟨p, hp, hpk⟩ := List.any_eq_true.1 (List.mem_filter.1 hm).2
      exact List.mem_map.2 ⟨p, hp, WideAt.sameKey_eq hpk⟩
  have := h3.length_eq
  simpa [Maps.size] using this

theorem size_zero {D : DataW Unit} (c : Canon D) (h : ∀ k, Maps.has D k = false) : Maps.size D = 0 := by
  rw [size_cover c (L := []) List.nodup_nil (fun k hk => by rw [h] at hk; cases hk)]
  rfl

/-! ### the set of what was seen -/
def Seen (D : DataW Unit) (xs : List ByteArray) : Prop := (∀ l, Maps.has D l = true ↔ l ∈ xs.map lit) ∧ (∀ l, D.atKey l (.lit (.bool false)) = .lit (.bool (Maps.has D l))) ∧ (xs.map lit).Nodup

theorem seen_empty : Seen (.map []) [] := ⟨fun l => by simp [has_empty], fun l => rfl, List.nodup_nil⟩

theorem seen_put {D : DataW Unit} {xs : List ByteArray} {s : ByteArray} (h : Seen D xs) (hm : IsMap D) (hs : Maps.has D (lit s) = false) : Seen (D.put (lit s) (.lit (.bool true))) (xs ++ [s]) := by
  obtain ⟨h1, h2, h3⟩ := h
  refine ⟨fun l => ?_, fun l => ?_, ?_⟩
  · by_cases e : l = lit s
    · subst e
      simp [has_put_same hm (lit_key s)]
    · rw [has_put_other e, h1 l]
      simp [e]
  · by_cases e : l = lit s
    · subst e
      rw [has_put_same hm (lit_key s), atKey_put_same hm (lit_key s)]
    · rw [has_put_other e, atKey_put_other e, h2]
  · rw [List.map_append, List.nodup_append]
    refine ⟨h3, by simp, fun a ha b hb => ?_⟩
    simp at hb
    subst hb
    intro e
    subst e
    have := (h1 (lit s)).2 ha
    rw [hs] at this
    cases this

end Go.Proofs.Qxb6000435a
