/-
  A []string and a []bool that came in, opened for the walks.
-/
import Derived.Test.Qxb6001663aStrs
import Derived.SliceStrings
import Derived.Deep.Grids
import Derived.ChangeOld
namespace Go.Proofs.Qxb6001663a
open Go.ChangeShapes Go.WideShapes Go.ChangeAt Go.RowKit
set_option linter.unusedVariables false

theorem CellsAt.of_add {w : World} {x : Addr} {n : Nat} {f : Nat → Value} (h : ∀ i, i < n → w.cell? (x.add i) = some (f i)) : CellsAt w (some x) n f := by
  by_cases hn : n = 0
  · exact .inl hn
  obtain ⟨b, o, spot⟩ := x
  have hspot : spot = none := by simpa [Addr.add] using World.cell?_spot (h 0 (by omega))
  subst hspot
  have hc : ∀ j, j < n → w.cell? ⟨b, o + j, none⟩ = some (f j) := fun j hj => by rw [← add_plain]; exact h j hj
  refine .inr ⟨b, o, rfl, ?_, hc⟩
  apply Classical.byContradiction
  intro hb
  have h0 := hc 0 (by omega)
  have : w.heap[b]? = none := by simp; omega
  simp [World.cell?, this] at h0

theorem open_strs {H : Type} {enc : TypeId × Value → H} {W : World} {a : Option Addr} {len cap : Nat} {d : DataW H} {p : List MemPlace}
    (h : DataW.Trod enc Try.prog W 0 (fun _ => true) true 28 (.slice a len cap) d p) :
    ∃ f : Nat → ByteArray, (a = none → len = 0) ∧ CellsAt W a len (strV f) ∧ ∀ j, j < len → (f j).size ≤ maxLen := by
  obtain ⟨fuel, hf⟩ := h
  rcases open_strings Try.underlying28 Try.underlying9 (by kernel_rfl) hf with ⟨hcs, _⟩ | ⟨x, l, c, ss, hcs, _, hl, hm, hz, _, hcell, hws⟩
  · simp [Value.cells] at hcs
    obtain ⟨rfl, rfl, rfl⟩ := hcs
    exact ⟨fun _ => ByteArray.empty, fun _ => rfl, .inl rfl, fun j hj => by omega⟩
  · simp [Value.cells] at hcs
    obtain ⟨rfl, rfl, rfl⟩ := hcs
    simp only [if_true] at hz
    refine ⟨fun i => ss.getD i ByteArray.empty, fun h => by (cases h), CellsAt.of_add fun i hi => hcell i (by omega), fun j hj => ?_⟩
    have hj' : j < ss.length := by omega
    have : ss.getD j ByteArray.empty = ss[j] := by simp [List.getD, hj']
    show (ss.getD j ByteArray.empty).size ≤ maxLen
    rw [this]
    exact hws _ (List.getElem_mem _)

theorem open_bls {H : Type} {enc : TypeId × Value → H} {W : World} {a : Option Addr} {len cap : Nat} {d : DataW H} {p : List MemPlace}
    (h : DataW.Trod enc Try.prog W 0 (fun _ => true) true 77 (.slice a len cap) d p) :
    ∃ f : Nat → Bool, (a = none → len = 0) ∧ CellsAt W a len (boolV f) := by
  obtain ⟨fuel, hf⟩ := h
  rcases Deep.open_bools Try.underlying77 Try.underlying4 (by kernel_rfl) hf with ⟨hcs, _⟩ | ⟨x, l, c, B, hcs, _, hl, hm, _, hcell⟩
  · simp [Value.cells] at hcs
    obtain ⟨rfl, rfl, rfl⟩ := hcs
    exact ⟨fun _ => false, fun _ => rfl, .inl rfl⟩
  · simp [Value.cells] at hcs
    obtain ⟨rfl, rfl, rfl⟩ := hcs
    exact ⟨B, fun h => by (cases h), CellsAt.of_add fun i hi => hcell i (by omega)⟩
end Go.Proofs.Qxb6001663a
