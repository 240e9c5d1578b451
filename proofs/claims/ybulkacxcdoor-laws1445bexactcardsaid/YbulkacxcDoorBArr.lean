import Derived.Test.YbulkacxcDoorBPseudo
import Derived.Test.YbulkacxcDoorSrc
import Derived.Lib.SmallJoins
namespace Go.Proofs.YbulkacxcDoor
open Go.ChangeShapes Go.WideShapes Go.ChangeAt Go.WideMaps Go.WideElems Go.RowKit

theorem array16 {α : Type} {cs : Array α} (h : cs.size = 16) : ∃ c0 c1 c2 c3 c4 c5 c6 c7 c8 c9 c10 c11 c12 c13 c14 c15, cs = #[c0, c1, c2, c3, c4, c5, c6, c7, c8, c9, c10, c11, c12, c13, c14, c15] := by
  obtain ⟨l⟩ := cs
  match l, h with
  | [c0, c1, c2, c3, c4, c5, c6, c7, c8, c9, c10, c11, c12, c13, c14, c15], _ => exact ⟨c0, c1, c2, c3, c4, c5, c6, c7, c8, c9, c10, c11, c12, c13, c14, c15, rfl⟩

theorem cells5 : Ybad.prog.cellsOf 5 = 1 := by kernel_rfl
theorem cells23 : Ybad.prog.cellsOf 23 = 4 := by kernel_rfl
theorem cells24 : Ybad.prog.cellsOf 24 = 16 := by kernel_rfl

theorem byte_cell {H : Type} {enc : TypeId × Value → H} {W : World} {base : Nat} {sp : Nat → Bool} {held : Bool} {m : Nat} {c : Value} {y : DataW H × List MemPlace} (h : DataW.trod enc Ybad.prog W base sp held m 5 [c] = some y) :
    ∃ z : Int, c = .int .u8 z ∧ 0 ≤ z ∧ z ≤ 255 := by
  obtain ⟨z, e, _, wz⟩ := DataW.trod_int Ybad.underlying5 h
  simp only [List.cons.injEq, and_true] at e
  exact ⟨z, e, bounds_u8 wz⟩

theorem isB4_of {H : Type} {enc : TypeId × Value → H} {W : World} {base b : Nat} {sp : Nat → Bool} {held : Bool} {r : Reach} {v : Value} {d : DataW H} {p : List MemPlace} (hok : Value.okWide Ybad.prog W r b 23 v) (h : DataW.Trod enc Ybad.prog W base sp held 23 v d p) :
    ∃ X l, v = .agg X ∧ IsB4 X l := by
  simp only [Value.okWide, Ybad.underlying23] at hok
  obtain ⟨cs, rfl, hsz, _⟩ := hok
  obtain ⟨c0, c1, c2, c3, rfl⟩ := Joins.array4 (hsz.trans cells23)
  obtain ⟨fuel, hf⟩ := h
  obtain ⟨xs, m, _, _, _, hl, hel⟩ := DataW.trod_array Ybad.underlying23 hf
  have g : ∀ i c, i < 4 → (#[c0, c1, c2, c3] : Array Value).toList[i]? = some c → ∃ z : Int, c = .int .u8 z ∧ 0 ≤ z ∧ z ≤ 255 := fun i c hi hc => by
    have he := hel i hi
    rw [List.getElem?_eq_getElem (by omega)] at he
    rw [cells5, Nat.mul_one] at he
    have e1 : List.take 1 (List.drop i (Value.agg #[c0, c1, c2, c3]).cells.toList) = [c] := by
      match i, hi, hc with
      | 0, _, hc => simpa [Value.cells] using hc
      | 1, _, hc => simpa [Value.cells] using hc
      | 2, _, hc => simpa [Value.cells] using hc
      | 3, _, hc => simpa [Value.cells] using hc
    rw [e1] at he
    exact byte_cell he
  obtain ⟨z0, rfl, k0⟩ := g 0 _ (by omega) rfl
  obtain ⟨z1, rfl, k1⟩ := g 1 _ (by omega) rfl
  obtain ⟨z2, rfl, k2⟩ := g 2 _ (by omega) rfl
  obtain ⟨z3, rfl, k3⟩ := g 3 _ (by omega) rfl
  exact ⟨_, _, rfl, z0, z1, z2, z3, k0, k1, k2, k3, rfl, rfl⟩

theorem isB16_of {H : Type} {enc : TypeId × Value → H} {W : World} {base b : Nat} {sp : Nat → Bool} {held : Bool} {r : Reach} {v : Value} {d : DataW H} {p : List MemPlace} (hok : Value.okWide Ybad.prog W r b 24 v) (h : DataW.Trod enc Ybad.prog W base sp held 24 v d p) :
    ∃ X l, v = .agg X ∧ IsB16 X l := by
  simp only [Value.okWide, Ybad.underlying24] at hok
  obtain ⟨cs, rfl, hsz, _⟩ := hok
  obtain ⟨c0, c1, c2, c3, c4, c5, c6, c7, c8, c9, c10, c11, c12, c13, c14, c15, rfl⟩ := array16 (hsz.trans cells24)
  obtain ⟨fuel, hf⟩ := h
  obtain ⟨xs, m, _, _, _, hl, hel⟩ := DataW.trod_array Ybad.underlying24 hf
  have g : ∀ i c, i < 16 → (#[c0, c1, c2, c3, c4, c5, c6, c7, c8, c9, c10, c11, c12, c13, c14, c15] : Array Value).toList[i]? = some c → ∃ z : Int, c = .int .u8 z ∧ 0 ≤ z ∧ z ≤ 255 := fun i c hi hc => by
    have he := hel i hi
    rw [List.getElem?_eq_getElem (by omega)] at he
    rw [cells5, Nat.mul_one] at he
    have e1 : List.take 1 (List.drop i (Value.agg #[c0, c1, c2, c3, c4, c5, c6, c7, c8, c9, c10, c11, c12, c13, c14, c15]).cells.toList) = [c] := by
      match i, hi, hc with
      | 0, _, hc => simpa [Value.cells] using hc
      | 1, _, hc => simpa [Value.cells] using hc
      | 2, _, hc => simpa [Value.cells] using hc
      | 3, _, hc => simpa [Value.cells] using hc
      | 4, _, hc => simpa [Value.cells] using hc
      | 5, _, hc => simpa [Value.cells] using hc
      | 6, _, hc => simpa [Value.cells] using hc
      | 7, _, hc => simpa [Value.cells] using hc
      | 8, _, hc => simpa [Value.cells] using hc
      | 9, _, hc => simpa [Value.cells] using hc
      | 10, _, hc => simpa [Value.cells] using hc
      | 11, _, hc => simpa [Value.cells] using hc
      | 12, _, hc => simpa [Value.cells] using hc
      | 13, _, hc => simpa [Value.cells] using hc
      | 14, _, hc => simpa [Value.cells] using hc
      | 15, _, hc => simpa [Value.cells] using hc
    rw [e1] at he
    exact byte_cell he
  obtain ⟨z0, rfl, k0⟩ := g 0 _ (by omega) rfl
  obtain ⟨z1, rfl, k1⟩ := g 1 _ (by omega) rfl
  obtain ⟨z2, rfl, k2⟩ := g 2 _ (by omega) rfl
  obtain ⟨z3, rfl, k3⟩ := g 3 _ (by omega) rfl
  obtain ⟨z4, rfl, k4⟩ := g 4 _ (by omega) rfl
  obtain ⟨z5, rfl, k5⟩ := g 5 _ (by omega) rfl
  obtain ⟨z6, rfl, k6⟩ := g 6 _ (by omega) rfl
  obtain ⟨z7, rfl, k7⟩ := g 7 _ (by omega) rfl
  obtain ⟨z8, rfl, k8⟩ := g 8 _ (by omega) rfl
  obtain ⟨z9, rfl, k9⟩ := g 9 _ (by omega) rfl
  obtain ⟨z10, rfl, k10⟩ := g 10 _ (by omega) rfl
  obtain ⟨z11, rfl, k11⟩ := g 11 _ (by omega) rfl
  obtain ⟨z12, rfl, k12⟩ := g 12 _ (by omega) rfl
  obtain ⟨z13, rfl, k13⟩ := g 13 _ (by omega) rfl
  obtain ⟨z14, rfl, k14⟩ := g 14 _ (by omega) rfl
  obtain ⟨z15, rfl, k15⟩ := g 15 _ (by omega) rfl
  exact ⟨_, _, rfl, z0, z1, z2, z3, z4, z5, z6, z7, z8, z9, z10, z11, z12, z13, z14, z15, k0, k1, k2, k3, k4, k5, k6, k7, k8, k9, k10, k11, k12, k13, k14, k15, rfl, rfl⟩
end Go.Proofs.YbulkacxcDoor
