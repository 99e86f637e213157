import Derived.Test.Qxb6600637aTok
import Derived.Deep.Slices
import Derived.OpenShut
import Derived.ShutString
import Derived.ChangeOld
import Derived.Below
namespace Go.Proofs.Qxb6600637a
open Go.ChangeShapes Go.WideShapes Go.ChangeAt Go.RowKit Go.Deep

/-- a slice that came in, whose elements take one cell each, as the walks ask for it -/
theorem sl_of {H α : Type} [Inhabited α] {enc : TypeId × Value → H} {W : World} {t e : TypeId} {ao : Option Addr} {len cap : Nat} {d : DataW H} {ps : List MemPlace} (F : α → Value)
    (ht : Try.prog.underlying t = some (.slice e)) (hc : Try.prog.cellsOf e = 1) (h : DataW.Trod enc Try.prog W 0 (fun _ => true) true t (.slice ao len cap) d ps)
    (mk : ∀ n v y, DataW.trod enc Try.prog W 0 (fun _ => true) true n e [v] = some y → ∃ x : α, v = F x) :
    (∃ f : Nat → α, Sl W.heap.size W ao len (fun i => F (f i))) ∧ (ao = none → len = 0 ∧ cap = 0) ∧ len ≤ 9223372036854775807 := by
  obtain ⟨fuel, hf⟩ := h
  rcases open_slice1 ht hc hf with ⟨hcs, _⟩ | ⟨a, l, c, m, n, V, D, Pl, hcs, _, hl, hm, hmm, _, hx⟩
  · simp [Value.cells] at hcs
    obtain ⟨rfl, rfl, rfl⟩ := hcs
    exact ⟨⟨fun _ => default, fun i hi => absurd hi (by omega)⟩, fun _ => ⟨rfl, rfl⟩, by omega⟩
  · simp [Value.cells] at hcs
    obtain ⟨rfl, rfl, rfl⟩ := hcs
    refine ⟨?_, (fun e => by cases e), (by unfold maxLen at hm; omega)⟩
    have hlm : len ≤ m := by rw [hmm]; split <;> omega
    have each : ∀ i, ∃ x : α, i < len → V i = F x := by
      intro i
      by_cases hi : i < len
      · obtain ⟨x, hx'⟩ := mk n (V i) _ (hx i (by omega)).2
        exact ⟨x, fun _ => hx'⟩
      · exact ⟨default, fun h => absurd h hi⟩
    refine ⟨fun i => Classical.choose (each i), fun i hi => ?_⟩
    have hV := Classical.choose_spec (each i) hi
    have hcell := (hx i (by omega)).1
    have hc0 := (hx 0 (by omega)).1
    obtain ⟨b, off, spot⟩ := a
    have hspot : spot = none := by simpa [Addr.add] using World.cell?_spot hc0
    subst hspot
    rw [Go.WideShapes.add_plain] at hcell
    refine ⟨b, off, rfl, World.block_lt_of_cell? _ _ hcell, ?_⟩
    rw [hcell, hV]

end Go.Proofs.Qxb6600637a
