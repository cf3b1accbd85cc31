/-
  Qxb6600069a: what a slice of bytes that came in gives the walk.
-/
import Derived.Test.Qxb6600069aWalkA
import Derived.ProofKit
namespace Go.Proofs.Qxb6600069a
open Go.RowKit

theorem getD_take {α : Type} (l : List α) (n j : Nat) (d : α) (h : j < n) : (l.take n).getD j d = l.getD j d := by
  simp [List.getD, h]

theorem isBytes_of {w : World} {a : Option Addr} {len cap : Nat} {zs : List Int}
    (h : (a = none ∧ len = 0 ∧ cap = 0 ∧ zs = []) ∨ ∃ x, a = some x ∧ len ≤ cap ∧ cap ≤ maxLen ∧ zs.length = cap ∧ (∀ i, i < zs.length → w.cell? (x.add i) = some (.int .u8 (zs.getD i 0))) ∧ ∀ n ∈ zs, (Lit.int .u8 n).wf = true) :
    IsBytes w a len (zs.take len) := by
  rcases h with ⟨rfl, rfl, rfl, rfl⟩ | ⟨x, rfl, hl, hm, hz, hcell, hws⟩
  · exact ⟨rfl, by simp, fun h => by omega⟩
  · refine ⟨by simp; omega, fun s hs => hws s (List.mem_of_mem_take hs), fun h0 => ?_⟩
    obtain ⟨b, off, spot⟩ := x
    have hspot : spot = none := by simpa [Addr.add] using World.cell?_spot (hcell 0 (by omega))
    subst hspot
    have hat : ∀ j, j < len → w.cell? ⟨b, off + j, none⟩ = some (.int .u8 (zs.getD j 0)) := fun j hj => by
      rw [← Go.WideShapes.add_plain]; exact hcell j (by omega)
    exact ⟨b, off, rfl, World.block_lt_of_cell? w ⟨b, off + 0, none⟩ (hat 0 h0), fun j hj => by rw [getD_take _ _ _ _ hj]; exact hat j hj⟩

end Go.Proofs.Qxb6600069a
