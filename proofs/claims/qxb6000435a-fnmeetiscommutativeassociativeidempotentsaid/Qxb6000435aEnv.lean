/-
  Qxb6000435a: three versions and a list of keys, carried from world to world; the algebra of joins and meets.
-/
import Derived.Test.Qxb6000435aWalkE
namespace Go.Proofs.Qxb6000435a
open Go.RowKit Go.Maps

structure Env (bA bB bC nA nB nC : Nat) (Da Db Dc : DataW Unit) (ak : Option Addr) (ys : List ByteArray) (x : World) : Prop where
  a : Ver x bA nA Da
  b : Ver x bB nB Db
  c : Ver x bC nC Dc
  k : IsStrs x ak ys.length ys

theorem Env.below {bA bB bC nA nB nC : Nat} {Da Db Dc : DataW Unit} {ak : Option Addr} {ys : List ByteArray} {x x' : World} (h : Env bA bB bC nA nB nC Da Db Dc ak ys x) (hb : Below x.heap.size x x') : Env bA bB bC nA nB nC Da Db Dc ak ys x' :=
  ⟨own_below h.a hb h.a.lt, own_below h.b hb h.b.lt, own_below h.c hb h.c.lt, h.k.below hb (Nat.le_refl _)⟩

theorem join_comm {Da Db D D' : DataW Unit} (h : IsJoin Da Db D) (h' : IsJoin Db Da D') (c : Canon D) (c' : Canon D') (u : U64s D) (u' : U64s D') : D = D' :=
  ext_val c c' u u' (fun k => by rw [(h k).1, (h' k).1, Bool.or_comm]) (fun k => by rw [(h k).2, (h' k).2]; omega)
theorem join_assoc {Da Db Dc Dab Dbc D D' : DataW Unit} (h1 : IsJoin Da Db Dab) (h : IsJoin Dab Dc D) (h2 : IsJoin Db Dc Dbc) (h' : IsJoin Da Dbc D') (c : Canon D) (c' : Canon D') (u : U64s D) (u' : U64s D') : D = D' :=
  ext_val c c' u u' (fun k => by rw [(h k).1, (h' k).1, (h1 k).1, (h2 k).1, Bool.or_assoc]) (fun k => by rw [(h k).2, (h' k).2, (h1 k).2, (h2 k).2]; omega)
theorem join_idem {Da D : DataW Unit} (h : IsJoin Da Da D) (c : Canon D) (c' : Canon Da) (u : U64s D) (u' : U64s Da) : D = Da :=
  ext_val c c' u u' (fun k => by rw [(h k).1, Bool.or_self]) (fun k => by rw [(h k).2]; omega)
theorem join_cov {Da Db D : DataW Unit} {L : List Lit} (h : IsJoin Da Db D) (ha : ∀ l, Maps.has Da l = true → l ∈ L) (hb : ∀ l, Maps.has Db l = true → l ∈ L) : ∀ l, Maps.has D l = true → l ∈ L := by
  intro l hl
  rw [(h l).1] at hl
  rcases Bool.or_eq_true_iff.1 hl with h1 | h1
  · exact ha l h1
  · exact hb l h1

theorem meet_comm {Da Db D D' : DataW Unit} (h : IsMeet Da Db D) (h' : IsMeet Db Da D') (c : Canon D) (c' : Canon D') (u : U64s D) (u' : U64s D') : D = D' :=
  ext_val c c' u u' (fun k => by rw [(h k).1, (h' k).1, Int.min_comm]) (fun k => by rw [(h k).2, (h' k).2]; omega)
theorem meet_assoc {Da Db Dc Dab Dbc D D' : DataW Unit} (h1 : IsMeet Da Db Dab) (h : IsMeet Dab Dc D) (h2 : IsMeet Db Dc Dbc) (h' : IsMeet Da Dbc D') (c : Canon D) (c' : Canon D') (u : U64s D) (u' : U64s D') : D = D' :=
  ext_val c c' u u' (fun k => by rw [(h k).1, (h' k).1, (h1 k).2, (h2 k).2, Int.min_assoc]) (fun k => by rw [(h k).2, (h' k).2, (h1 k).2, (h2 k).2]; omega)
theorem meet_pos {Da D D' : DataW Unit} (h : IsMeet Da Da D) (h' : IsPos Da D') (c : Canon D) (c' : Canon D') (u : U64s D) (u' : U64s D') : D = D' :=
  ext_val c c' u u' (fun k => by rw [(h k).1, (h' k).1, Int.min_self]) (fun k => by rw [(h k).2, (h' k).2]; omega)
theorem meet_cov {Da Db D : DataW Unit} {L : List Lit} (h : IsMeet Da Db D) (ha : ∀ l, Maps.has Da l = true → l ∈ L) : ∀ l, Maps.has D l = true → l ∈ L := by
  intro l hl
  rw [(h l).1] at hl
  have hpos : 0 < min (val Da l) (val Db l) := of_decide_eq_true hl
  refine ha l ?_
  cases hd : Maps.has Da l
  · rw [val_of_not_has hd] at hpos; omega
  · rfl

end Go.Proofs.Qxb6000435a
