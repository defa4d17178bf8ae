/-
  FROM THE SHELL's 'IsRow' TO 'Sl'.
-/
import Derived.Test.Qxb6604085aModsBase
import Derived.OpenShut
namespace Go.Proofs.Qxb6604085aMods.B
open Go.ChangeShapes Go.WideShapes Go.ChangeAt Go.RowKit

/-- WHAT THE WALK IS TOLD OF A SLICE OF INTEGERS THAT CAME IN (as the shell has it). -/
def IsRow (k : IntKind) (w : World) (a : Option Addr) (len cap : Nat) (zs : List Int) : Prop :=
  (a = none ∧ len = 0 ∧ cap = 0 ∧ zs = []) ∨
  ∃ x, a = some x ∧ len ≤ cap ∧ cap ≤ maxLen ∧ zs.length = cap ∧ (∀ i, i < zs.length → w.cell? (x.add i) = some (.int k (zs.getD i 0))) ∧ ∀ n ∈ zs, (Lit.int k n).wf = true

theorem wf_nonneg {n : Int} (h : (Lit.int .u8 n).wf = true) : 0 ≤ n := by
  have := bounds_u8 h
  omega

theorem sl_of_row {w : World} {a : Option Addr} {len cap : Nat} {zs : List Int} (h : IsRow .u8 w a len cap zs) :
    Sl w a len (zs.take len) ∧ (a = none → len = 0 ∧ cap = 0) ∧ len ≤ maxLen ∧ ∀ z ∈ zs.take len, 0 ≤ z := by
  rcases h with ⟨rfl, rfl, rfl, rfl⟩ | ⟨x, rfl, hl, hm, hz, hc, hw⟩
  · exact ⟨⟨rfl, fun h => by omega⟩, fun _ => ⟨rfl, rfl⟩, by unfold maxLen; omega, fun z hz => by simp at hz⟩
  · refine ⟨⟨by simp; omega, fun h0 => ?_⟩, fun h => (by cases h), by omega, fun z hz' => wf_nonneg (hw z (List.mem_of_mem_take hz'))⟩
    obtain ⟨b, off, spot⟩ := x
    have hspot : spot = none := by simpa [Addr.add] using World.cell?_spot (hc 0 (by omega))
    subst hspot
    have hcell : ∀ i, i < len → w.cell? ⟨b, off + i, none⟩ = some (.int .u8 ((zs.take len).getD i 0)) := fun i hi => by
      have h1 := hc i (by omega)
      rw [Addr.add_lit] at h1
      rw [h1]
      simp only [List.getD]
      rw [List.getElem?_take_of_lt hi]
    refine ⟨b, off, rfl, ?_, hcell⟩
    exact World.block_lt_of_cell? w _ (hcell 0 h0)

end Go.Proofs.Qxb6604085aMods.B
