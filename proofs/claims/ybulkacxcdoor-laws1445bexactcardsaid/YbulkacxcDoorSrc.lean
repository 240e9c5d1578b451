import Derived.Test.YbulkacxcDoorBuild
import Derived.ChangeOld
import Derived.Carry
namespace Go.Proofs.YbulkacxcDoor
open Go.ChangeShapes Go.WideShapes Go.ChangeAt Go.WideMaps Go.WideElems Go.RowKit

/-- A slice of bytes that came in, opened: what the walks are told of it. -/
theorem srcOf {H : Type} {enc : TypeId × Value → H} {W : World} {base : Nat} {a0 : Option Addr} {len cap fuel : Nat} {x : DataW H × List MemPlace} {held : Bool}
    (hf : DataW.trod enc Ybad.prog W base (fun _ => true) held fuel 22 (Value.slice a0 len cap).cells.toList = some x) :
    ∃ zs : List Int, len = zs.length ∧ Src W a0 zs ∧ (a0 = none → cap = 0) := by
  rcases open_ints Ybad.underlying22 Ybad.underlying5 (by kernel_rfl) hf with ⟨hcs, _⟩ | ⟨a, l, c, zs, hcs, _, hl, hm, hz, _, hcell, hwz⟩
  · simp [Value.cells] at hcs
    obtain ⟨rfl, rfl, rfl⟩ := hcs
    exact ⟨[], rfl, ⟨fun _ => rfl, fun i hi => absurd hi (Nat.not_lt_zero _), fun z hz => by cases hz⟩, fun _ => rfl⟩
  · simp [Value.cells] at hcs
    obtain ⟨rfl, rfl, rfl⟩ := hcs
    have hz' : zs.length = cap := by simpa using hz
    refine ⟨zs.take len, by rw [List.length_take]; omega, ⟨(fun h => by cases h), fun i hi => ?_, fun z hz => ?_⟩, (fun h => by cases h)⟩
    · rw [List.length_take] at hi
      obtain ⟨b, off, spot⟩ := a
      have h0 := hcell i (by omega)
      have hspot : spot = none := by
        have h := World.cell?_spot (hcell 0 (by omega))
        simpa [Addr.add] using h
      subst hspot
      refine ⟨b, off, rfl, ?_⟩
      rw [add_plain] at h0
      rw [h0, List.getD_eq_getElem?_getD, List.getD_eq_getElem?_getD, List.getElem?_take, if_pos (by omega)]
    · exact bounds_u8 (hwz z (List.mem_of_mem_take hz))

end Go.Proofs.YbulkacxcDoor
