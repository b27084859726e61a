/-
  A []string THAT CAME IN, opened into what the walks ask of it.
-/
import Derived.Test.Qxb6000578aStrWalks
import Derived.OpenShut
import Derived.ShutString
import Derived.ChangeOld
import Derived.SliceStrings
namespace Go.Proofs.Qxb6000578a.St
open Go.ChangeShapes Go.WideShapes Go.ChangeAt Go.RowKit

theorem cells9 : Try.prog.cellsOf 9 = 1 := by kernel_rfl

theorem view {H : Type} {enc : TypeId × Value → H} {W : World} {a : Option Addr} {len cap : Nat} {d : DataW H} {ps : List MemPlace}
    (h : DataW.Trod enc Try.prog W 0 (fun _ => true) true 29 (.slice a len cap) d ps) :
    ∃ s : Nat → ByteArray, Sees W a len s W.heap.size ∧ (a = none → len = 0 ∧ cap = 0) ∧ len ≤ maxLen ∧ ∀ j, j < len → (s j).size ≤ maxLen := by
  obtain ⟨fuel, hf⟩ := h
  rcases open_strings Try.underlying29 Try.underlying9 cells9 hf with ⟨hcs, _⟩ | ⟨x, l, c, ss, hcs, _, hl, hm, hz, _, hcell, hws⟩
  · simp [Value.cells] at hcs
    obtain ⟨rfl, rfl, rfl⟩ := hcs
    exact ⟨fun _ => ByteArray.empty, fun h => by omega, fun _ => ⟨rfl, rfl⟩, by omega, fun j hj => by omega⟩
  · simp [Value.cells] at hcs
    obtain ⟨rfl, rfl, rfl⟩ := hcs
    simp only [if_true] at hz
    refine ⟨fun j => ss.getD j ByteArray.empty, ?_, fun h => (by simp at h), by omega, ?_⟩
    · intro hn
      obtain ⟨b, off, spot⟩ := x
      have h1 := hcell 0 (by omega)
      have hspot : spot = none := by simpa [Addr.add] using World.cell?_spot h1
      subst hspot
      have hb : b < W.heap.size := by have := World.block_lt_of_cell? W _ h1; simpa [Addr.add] using this
      exact ⟨b, off, rfl, hb, fun j hj => by
        have h2 := hcell j (by omega)
        rw [← add_plain]
        exact h2⟩
    · intro j hj
      have hj' : j < ss.length := by omega
      have : ss.getD j ByteArray.empty ∈ ss := by
        rw [List.getD_eq_getElem?_getD, List.getElem?_eq_getElem hj']
        exact List.getElem_mem hj'
      exact hws _ this

end Go.Proofs.Qxb6000578a.St
