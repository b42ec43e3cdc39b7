import Derived.Test.Qxb6603516aMem
import Derived.SliceStrings
namespace Go.Proofs.Qxb6603516a
open Go.ChangeShapes Go.WideShapes Go.ChangeAt Go.RowKit

theorem own : ownKnob Try.prog.godebug = none := by kernel_rfl
theorem laidOut : laidOutB Try.prog = true := by kernel_rfl
theorem cells9 : Try.prog.cellsOf 9 = 1 := by kernel_rfl

/-- What a slice of strings that came in is told as. -/
theorem SS_of_strings {W : World} {x : Addr} {len cap : Nat} {ss : List ByteArray} (hl : len ≤ cap) (hz : ss.length = cap) (hcell : ∀ i, i < ss.length → W.cell? (x.add i) = some (.string (ss.getD i ByteArray.empty))) (hws : ∀ s ∈ ss, s.size ≤ maxLen) :
    SS W W.heap.size (some x) len ((ss.take len).map (fun s => s.data.toList)) := by
  refine ⟨by simp; omega, fun y hy => ?_, fun h => by simp at h, fun h0 => ?_⟩
  · obtain ⟨s, hs, rfl⟩ := List.mem_map.1 hy
    simpa using hws s (List.mem_of_mem_take hs)
  · obtain ⟨b, off, spot⟩ := x
    have hspot : spot = none := by simpa [Addr.add] using World.cell?_spot (hcell 0 (by omega))
    subst hspot
    refine ⟨b, off, rfl, by simpa [Addr.add] using World.block_lt_of_cell? W _ (hcell 0 (by omega)), fun i hi => ?_⟩
    rw [← add_plain, hcell i (by omega)]
    have h1 : i < ss.length := by omega
    simp [List.getD, hi, h1]

theorem SS_open {H : Type} {enc : TypeId × Value → H} {W : World} {a : Option Addr} {len cap : Nat} {d : DataW H} {p : List MemPlace} (h : DataW.Trod enc Try.prog W 0 (fun _ => true) true 22 (.slice a len cap) d p) :
    ∃ xs, SS W W.heap.size a len xs ∧ (a = none → cap = 0) := by
  obtain ⟨fuel, hf⟩ := h
  rcases open_strings Try.underlying22 Try.underlying9 cells9 hf with ⟨hcs, _⟩ | ⟨x, l, c, ss, hcs, _, hl, hm, hz, _, hcell, hws⟩
  · simp [Value.cells] at hcs
    obtain ⟨rfl, rfl, rfl⟩ := hcs
    exact ⟨[], ⟨rfl, fun x hx => by simp at hx, fun _ => rfl, fun h => absurd h (Nat.lt_irrefl _)⟩, fun _ => rfl⟩
  · simp [Value.cells] at hcs
    obtain ⟨rfl, rfl, rfl⟩ := hcs
    exact ⟨_, SS_of_strings hl (by simpa using hz) hcell hws, fun h => by simp at h⟩
end Go.Proofs.Qxb6603516a
