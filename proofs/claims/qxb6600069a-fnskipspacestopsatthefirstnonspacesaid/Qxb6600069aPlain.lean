/-
  Qxb6600069a: the end of a quoted string in a list of bytes; escapes; the parity of backslashes. No word of the program.
-/
import Derived.WalkKit
namespace Go.Proofs.Qxb6600069a

/-- How many bytes there are up to and with the first quote that is not escaped; all of them where there is none. -/
def seL : List Int → Nat
  | [] => 0
  | [_] => 1
  | c :: d :: r => if c = 92 then 2 + seL r else if c = 34 then 1 else 1 + seL (d :: r)

theorem seL_esc (d : Int) (r : List Int) : seL (92 :: d :: r) = 2 + seL r := by simp [seL]
theorem seL_quote (r : List Int) : seL (34 :: r) = 1 := by cases r <;> simp [seL]
theorem seL_other {c : Int} (h1 : c ≠ 92) (h2 : c ≠ 34) (r : List Int) : seL (c :: r) = 1 + seL r := by
  cases r <;> simp [seL, h1, h2]

theorem seL_le (n : Nat) : ∀ l : List Int, l.length ≤ n → seL l ≤ l.length := by
  induction n with
  | zero => intro l h; cases l with | nil => simp [seL] | cons c r => simp at h
  | succ n ih =>
    intro l h
    match l, h with
    | [], _ => simp [seL]
    | [_], _ => simp [seL]
    | c :: d :: r, h =>
      by_cases h1 : c = 92
      · subst h1
        have := ih r (by simp at h ⊢; omega)
        rw [seL_esc]; simp; omega
      · by_cases h2 : c = 34
        · subst h2
          rw [seL_quote]; simp
        · have := ih (d :: r) (by simp at h ⊢; omega)
          rw [seL_other h1 h2]; simp at this ⊢; omega

/-- Just past the string's end, looked for from index k on. -/
def E (zs : List Int) (k : Nat) : Nat := min zs.length (k + seL (zs.drop k))

theorem E_le (zs : List Int) (k : Nat) : E zs k ≤ zs.length := Nat.min_le_left _ _
theorem E_end {zs : List Int} {k : Nat} (h : zs.length ≤ k) : E zs k = zs.length := by unfold E; omega
theorem E_eq {zs : List Int} {k : Nat} (h : k ≤ zs.length) : E zs k = k + seL (zs.drop k) := by
  have := seL_le _ (zs.drop k) (Nat.le_refl _)
  unfold E
  rw [List.length_drop] at this
  omega

theorem drop_at {zs : List Int} {k : Nat} {c : Int} (hk : k < zs.length) (hc : c = zs.getD k 0) : zs.drop k = c :: zs.drop (k + 1) := by
  rw [List.drop_eq_getElem_cons hk, hc, List.getD, List.getElem?_eq_getElem hk]
  rfl

theorem E_quote {zs : List Int} {k : Nat} {c : Int} (hk : k < zs.length) (hc : c = zs.getD k 0) (h : c = 34) : E zs k = k + 1 := by
  rw [E_eq (by omega), drop_at hk hc, h, seL_quote]
theorem E_other {zs : List Int} {k : Nat} {c : Int} (hk : k < zs.length) (hc : c = zs.getD k 0) (h1 : c ≠ 92) (h2 : c ≠ 34) : E zs k = E zs (k + 1) := by
  rw [E_eq (by omega), E_eq (by omega), drop_at hk hc, seL_other h1 h2]
  omega
theorem E_esc {zs : List Int} {k : Nat} {c : Int} (hk : k < zs.length) (hc : c = zs.getD k 0) (h : c = 92) : E zs k = E zs (k + 2) := by
  rw [E_eq (by omega), drop_at hk hc, h]
  by_cases h1 : k + 1 < zs.length
  · rw [drop_at h1 rfl, seL_esc, E_eq (show k + 2 ≤ zs.length by omega)]
    show k + (2 + seL (zs.drop (k + 2))) = _
    omega
  · rw [E_end (by omega), List.drop_of_length_le (by omega)]
    simp [seL]
    omega

/-! ### the model by parity -/
def mL : Bool → List Int → Nat
  | _, [] => 0
  | odd, c :: r => if c = 34 ∧ odd = false then 1 else if c = 92 then 1 + mL (!odd) r else 1 + mL false r

theorem mL_true (c : Int) (r : List Int) : mL true (c :: r) = 1 + mL false r := by simp [mL]
theorem mL_quote (r : List Int) : mL false (34 :: r) = 1 := by simp [mL]
theorem mL_esc (r : List Int) : mL false (92 :: r) = 1 + mL true r := by simp [mL]
theorem mL_other {c : Int} (h1 : c ≠ 92) (h2 : c ≠ 34) (r : List Int) : mL false (c :: r) = 1 + mL false r := by simp [mL, h1, h2]

theorem mL_eq (n : Nat) : ∀ l : List Int, l.length ≤ n → mL false l = seL l := by
  induction n with
  | zero => intro l h; cases l with | nil => simp [seL, mL] | cons c r => simp at h
  | succ n ih =>
    intro l h
    match l, h with
    | [], _ => simp [seL, mL]
    | [c], _ => simp [seL, mL]
    | c :: d :: r, h =>
      by_cases h1 : c = 92
      · subst h1
        rw [seL_esc, mL_esc, mL_true, ih r (by simp at h ⊢; omega)]
        omega
      · by_cases h2 : c = 34
        · subst h2
          rw [seL_quote, mL_quote]
        · rw [seL_other h1 h2, mL_other h1 h2, ih (d :: r) (by simp at h ⊢; omega)]

/-- The model's answer, looked for from index k on, behind a run of rn backslashes. -/
def M (zs : List Int) (odd : Bool) (k : Nat) : Nat := min zs.length (k + mL odd (zs.drop k))
theorem M_eq (zs : List Int) (k : Nat) : M zs false k = E zs k := by
  unfold M E
  rw [mL_eq _ _ (Nat.le_refl _)]
theorem M_end {zs : List Int} {odd : Bool} {k : Nat} (h : zs.length ≤ k) : M zs odd k = zs.length := by unfold M; omega
theorem mL_le : ∀ (l : List Int) (odd : Bool), mL odd l ≤ l.length
  | [], _ => by simp [mL]
  | c :: r, odd => by
    have h1 := mL_le r (!odd)
    have h2 := mL_le r false
    simp only [mL, List.length_cons]
    split
    · omega
    · split <;> omega
theorem M_in {zs : List Int} {odd : Bool} {k : Nat} (h : k ≤ zs.length) : M zs odd k = k + mL odd (zs.drop k) := by
  have := mL_le (zs.drop k) odd
  unfold M
  rw [List.length_drop] at this
  omega
theorem M_quote {zs : List Int} {k : Nat} {c : Int} (hk : k < zs.length) (hc : c = zs.getD k 0) (h : c = 34) : M zs false k = k + 1 := by
  rw [M_in (by omega), drop_at hk hc, h, mL_quote]
theorem M_quote_odd {zs : List Int} {k : Nat} {c : Int} (hk : k < zs.length) (hc : c = zs.getD k 0) (h : c = 34) : M zs true k = M zs false (k + 1) := by
  rw [M_in (by omega), M_in (by omega), drop_at hk hc, h, mL_true]
  omega
theorem M_esc {zs : List Int} {k : Nat} {c : Int} {odd : Bool} (hk : k < zs.length) (hc : c = zs.getD k 0) (h : c = 92) : M zs odd k = M zs (!odd) (k + 1) := by
  rw [M_in (by omega), M_in (by omega), drop_at hk hc, h]
  cases odd
  · rw [mL_esc]; simp; omega
  · rw [mL_true]; simp; omega
theorem M_other {zs : List Int} {k : Nat} {c : Int} {odd : Bool} (hk : k < zs.length) (hc : c = zs.getD k 0) (h1 : c ≠ 92) (h2 : c ≠ 34) : M zs odd k = M zs false (k + 1) := by
  rw [M_in (by omega), M_in (by omega), drop_at hk hc]
  cases odd
  · rw [mL_other h1 h2]; omega
  · rw [mL_true]; omega

/-! ### the string's end hangs on its own bytes alone -/
theorem seL_take (n : Nat) : ∀ l : List Int, l.length ≤ n → seL (l.take (seL l)) = seL l := by
  induction n with
  | zero => intro l h; cases l with | nil => simp [seL] | cons c r => simp at h
  | succ n ih =>
    intro l h
    match l, h with
    | [], _ => simp [seL]
    | [_], _ => simp [seL]
    | c :: d :: r, h =>
      by_cases h1 : c = 92
      · subst h1
        have := ih r (by simp at h ⊢; omega)
        rw [seL_esc, Nat.add_comm 2, List.take_succ_cons, List.take_succ_cons, seL_esc, this, Nat.add_comm]
      · by_cases h2 : c = 34
        · subst h2
          rw [seL_quote]; simp [seL]
        · have := ih (d :: r) (by simp at h ⊢; omega)
          rw [seL_other h1 h2, Nat.add_comm 1, List.take_succ_cons, seL_other h1 h2, this, Nat.add_comm]

theorem seL_closed (n : Nat) (s : List Int) : ∀ l : List Int, l.length ≤ n → seL l < l.length → seL (l.take (seL l) ++ s) = seL l := by
  induction n with
  | zero => intro l h; cases l with | nil => simp [seL] | cons c r => simp at h
  | succ n ih =>
    intro l h hl
    match l, h, hl with
    | [], _, hl => simp at hl
    | [_], _, hl => simp [seL] at hl
    | c :: d :: r, h, hl =>
      by_cases h1 : c = 92
      · subst h1
        have := ih r (by simp at h ⊢; omega) (by rw [seL_esc] at hl; simp at hl; omega)
        rw [seL_esc, Nat.add_comm 2, List.take_succ_cons, List.take_succ_cons, List.cons_append, List.cons_append, seL_esc, this, Nat.add_comm]
      · by_cases h2 : c = 34
        · subst h2
          rw [seL_quote, List.take_succ_cons, List.cons_append, seL_quote]
        · have := ih (d :: r) (by simp at h ⊢; omega) (by rw [seL_other h1 h2] at hl; simp at hl ⊢; omega)
          rw [seL_other h1 h2, Nat.add_comm 1, List.take_succ_cons, List.cons_append, seL_other h1 h2, this, Nat.add_comm]

theorem E_take {zs : List Int} {k r : Nat} (hk : k ≤ zs.length) (hr : r = E zs k) : E (zs.take r) k = r := by
  have e := E_eq hk
  have hle := E_le zs k
  rw [← hr] at e hle
  have hd : (zs.take r).drop k = (zs.drop k).take (seL (zs.drop k)) := by
    rw [List.drop_take]
    congr 1
    omega
  rw [E_eq (by rw [List.length_take]; omega), hd, seL_take _ _ (Nat.le_refl _)]
  exact e.symm

theorem E_join {zs ss : List Int} {k r : Nat} (hk : k ≤ zs.length) (hr : r = E zs k) (hlt : r < zs.length) : E (zs.take r ++ ss) k = r := by
  have e := E_eq hk
  rw [← hr] at e
  have hkr : k ≤ r := by omega
  have hlen : (zs.take r).length = r := by rw [List.length_take]; omega
  have hd : (zs.take r ++ ss).drop k = (zs.drop k).take (seL (zs.drop k)) ++ ss := by
    rw [List.drop_append_of_le_length (by omega), List.drop_take]
    congr 2
    omega
  rw [E_eq (by rw [List.length_append]; omega), hd, seL_closed _ _ _ (Nat.le_refl _) (by rw [List.length_drop]; omega)]
  exact e.symm

/-! ### escaping -/
def escOne (all : Bool) (c : Int) : List Int := if all = true ∨ c = 34 ∨ c = 92 then [92, c] else [c]
def esc (all : Bool) (l : List Int) : List Int := l.flatMap (escOne all)

theorem esc_len (all : Bool) : ∀ l : List Int, (esc all l).length ≤ 2 * l.length
  | [] => by simp [esc]
  | c :: r => by
    have := esc_len all r
    unfold esc at this ⊢
    rw [List.flatMap_cons, List.length_append, List.length_cons]
    have : (escOne all c).length ≤ 2 := by unfold escOne; split <;> simp
    omega

theorem esc_end (all : Bool) (s : List Int) : ∀ l : List Int, seL (esc all l ++ 34 :: s) = (esc all l).length + 1
  | [] => by simp [esc, seL_quote]
  | c :: r => by
    have ih := esc_end all s r
    unfold esc at ih ⊢
    rw [List.flatMap_cons, List.append_assoc, List.length_append]
    by_cases h : all = true ∨ c = 34 ∨ c = 92
    · have e : escOne all c = [92, c] := by unfold escOne; rw [if_pos h]
      rw [e]
      rw [List.cons_append, List.cons_append, List.nil_append, seL_esc, ih]
      simp
      omega
    · have e : escOne all c = [c] := by unfold escOne; rw [if_neg h]
      rw [e]
      rw [List.cons_append, List.nil_append, seL_other (fun h1 => h (Or.inr (Or.inr h1))) (fun h1 => h (Or.inr (Or.inl h1))), ih]
      simp
      omega

theorem esc_snoc (all : Bool) (l : List Int) (c : Int) : esc all (l ++ [c]) = esc all l ++ escOne all c := by
  simp [esc, List.flatMap_append]

theorem E_escaped (p c s : List Int) (all : Bool) : E (p ++ 34 :: (esc all c ++ 34 :: s)) (p.length + 1) = p.length + (esc all c).length + 2 := by
  have hd : (p ++ 34 :: (esc all c ++ 34 :: s)).drop (p.length + 1) = esc all c ++ 34 :: s := by
    rw [List.drop_append, List.drop_of_length_le (by omega)]
    simp
  rw [E_eq (by simp), hd, esc_end]
  omega

end Go.Proofs.Qxb6600069a
