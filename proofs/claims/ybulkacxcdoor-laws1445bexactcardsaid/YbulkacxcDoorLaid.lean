import Derived.Test.YbulkacxcDoorRows
import Derived.ProofKit
import Derived.LaidMore
import Derived.LaidLaws
import Derived.OpenShut
import Derived.Stop.Joined
namespace Go.Proofs.YbulkacxcDoor
open Go.ChangeShapes Go.WideShapes Go.ChangeAt Go.RowKit

theorem own : ownKnob Ybad.prog.godebug = none := by kernel_rfl
theorem laidOut : laidOutB Ybad.prog = true := by kernel_rfl

/-- The list that all four rows bear: z4, z6noz, z0. -/
abbrev laid3 : List (String × DataW Unit) := Rows.lawS1445CAgreesRow.laid
abbrev nameAt (i : Nat) : String := (laid3.map (·.1)).getD i ""
theorem g_z4 : Ybad.prog.globalNamed (nameAt 0) = some 2 := by kernel_rfl
theorem g_z6 : Ybad.prog.globalNamed (nameAt 1) = some 3 := by kernel_rfl
theorem g_z0 : Ybad.prog.globalNamed (nameAt 2) = some 1 := by kernel_rfl
theorem t_z0 : (Ybad.prog.globals[1]?).map (·.type) = some 35 := by kernel_rfl
theorem t_z4 : (Ybad.prog.globals[2]?).map (·.type) = some 35 := by kernel_rfl
theorem t_z6 : (Ybad.prog.globals[3]?).map (·.type) = some 35 := by kernel_rfl
theorem cells35 : Ybad.prog.cellsOf 35 = 1 := by kernel_rfl
theorem cells33 : Ybad.prog.cellsOf 33 = 1 := by kernel_rfl
theorem cells82 : Ybad.prog.cellsOf 82 = 2 := by kernel_rfl

theorem handle_some {W : World} {sp : Nat → Bool} {held : Bool} {fuel : Nat} {cs : List Value} {d : DataW Unit} {p : List MemPlace}
    (h : DataW.trod (fun _ => ()) Ybad.prog W 0 sp held fuel 35 cs = some (.agg [.ptr d], p)) :
    ∃ a q, cs = [.pointer (some a)] ∧ p = MemPlace.row a 2 ++ q := by
  obtain ⟨y0, n, hx, hl, h0⟩ := trod_struct1 Ybad.underlying35 h
  rw [cells35] at hl
  simp only [Prod.mk.injEq, DataW.agg.injEq, List.cons.injEq, and_true] at hx
  obtain ⟨hx1, hx2⟩ := hx
  have e : y0 = (.ptr d, p) := by rw [hx1, hx2]
  subst e
  match cs, hl with
  | [c], _ =>
    rw [show (List.take (Ybad.prog.cellsOf 33) (List.drop 0 [c])) = [c] by rw [cells33]; rfl] at h0
    obtain ⟨f2, a, cs', q, h1, h2, h3, h4⟩ := ptr_of_trod Ybad.underlying33 h0
    rw [cells82] at h4
    exact ⟨a, q, h1, h4⟩

theorem handle_none {W : World} {sp : Nat → Bool} {held : Bool} {fuel : Nat} {cs : List Value} {p : List MemPlace}
    (h : DataW.trod (fun _ => ()) Ybad.prog W 0 sp held fuel 35 cs = some (.agg [.nil], p)) : cs = [.pointer none] := by
  obtain ⟨y0, n, hx, hl, h0⟩ := trod_struct1 Ybad.underlying35 h
  rw [cells35] at hl
  simp only [Prod.mk.injEq, DataW.agg.injEq, List.cons.injEq, and_true] at hx
  obtain ⟨hx1, hx2⟩ := hx
  have e : y0 = (.nil, p) := by rw [hx1, hx2]
  subst e
  match cs, hl with
  | [c], _ =>
    rw [show (List.take (Ybad.prog.cellsOf 33) (List.drop 0 [c])) = [c] by rw [cells33]; rfl] at h0
    rcases DataW.trod_pointer Ybad.underlying33 h0 with ⟨h1, _⟩ | ⟨a, cs', y, m, _, _, h2, _⟩
    · exact h1
    · simp at h2

/-- WHAT THE CONDITION GIVES THE WALKS: the three variables' cells; that z4 and z6noz are two pointers into plain blocks. -/
structure Zs (W : World) (a4 a6 : Addr) : Prop where
  z0 : W.cell? ⟨1, 0, none⟩ = some (.pointer none)
  z4 : W.cell? ⟨2, 0, none⟩ = some (.pointer (some a4))
  z6 : W.cell? ⟨3, 0, none⟩ = some (.pointer (some a6))
  ne : a6 ≠ a4
  b4 : ∃ c t, W.heap[a4.block]? = some (.cells c t (0, 0))
  b6 : ∃ c t, W.heap[a6.block]? = some (.cells c t (0, 0))
  big : 3 < W.heap.size

theorem of_laid {W : World} (h : laidMetH Ybad.prog laid3 W) : ∃ a4 a6, Zs W a4 a6 := by
  rw [MakeChecks.laidMetH_plain _ _ _ (by kernel_rfl)] at h
  obtain ⟨ps, ⟨g0, t0, cs0, f0, p0, q0, hg0, ht0, hv0, hd0, ⟨g1, t1, cs1, f1, p1, q1, hg1, ht1, hv1, hd1, ⟨g2, t2, cs2, f2, p2, q2, hg2, ht2, hv2, hd2, _, e2⟩, e1⟩, e0⟩, hnd, hrows⟩ := h
  obtain rfl := Option.some.inj (g_z4.symm.trans hg0)
  obtain rfl := Option.some.inj (g_z6.symm.trans hg1)
  obtain rfl := Option.some.inj (g_z0.symm.trans hg2)
  obtain rfl := Option.some.inj (t_z4.symm.trans ht0)
  obtain rfl := Option.some.inj (t_z6.symm.trans ht1)
  obtain rfl := Option.some.inj (t_z0.symm.trans ht2)
  obtain ⟨l0⟩ := cs0
  obtain ⟨l1⟩ := cs1
  obtain ⟨l2⟩ := cs2
  obtain ⟨a4, r4, h4, hp4⟩ := handle_some hd0
  obtain ⟨a6, r6, h6, hp6⟩ := handle_some hd1
  have h0 := handle_none hd2
  simp only at h4 h6 h0
  subst h4 h6 h0 hp4 hp6
  have c4 := World.var?_cell hg0 hv0 0
  have c6 := World.var?_cell hg1 hv1 0
  have c0 := World.var?_cell hg2 hv2 0
  have k4 : W.cell? ⟨2, 0, none⟩ = some (.pointer (some a4)) := by simpa using c4
  have k6 : W.cell? ⟨3, 0, none⟩ = some (.pointer (some a6)) := by simpa using c6
  have k0 : W.cell? ⟨1, 0, none⟩ = some (.pointer none) := by simpa using c0
  subst e1 e0
  refine ⟨a4, a6, k0, k4, k6, ?_, (hrows a4.block a4.off (by simp [MemPlace.row, List.range_succ])).1, (hrows a6.block a6.off (by simp [MemPlace.row, List.range_succ])).1, World.block_lt_of_cell? _ _ k6⟩
  rintro rfl
  simp [MemPlace.row, List.range_succ] at hnd

theorem Zs.below {W W' : World} {a4 a6 : Addr} {B : Nat} (h : Zs W a4 a6) (hb : Below B W W') (hB : W.heap.size ≤ B) : Zs W' a4 a6 := by
  have hs := h.big
  have l4 : a4.block < B := by obtain ⟨c, t, hc⟩ := h.b4; exact Nat.lt_of_lt_of_le (Array.getElem?_eq_some_iff.1 hc).1 hB
  have l6 : a6.block < B := by obtain ⟨c, t, hc⟩ := h.b6; exact Nat.lt_of_lt_of_le (Array.getElem?_eq_some_iff.1 hc).1 hB
  refine ⟨?_, ?_, ?_, h.ne, ?_, ?_, Nat.lt_of_lt_of_le hs hb.size⟩
  · rw [hb.cell (p := ⟨1, 0, none⟩) (by show 1 < B; omega)]; exact h.z0
  · rw [hb.cell (p := ⟨2, 0, none⟩) (by show 2 < B; omega)]; exact h.z4
  · rw [hb.cell (p := ⟨3, 0, none⟩) (by show 3 < B; omega)]; exact h.z6
  · rw [hb.block _ l4]; exact h.b4
  · rw [hb.block _ l6]; exact h.b6

/-- A start that meets the condition (for the rows' witnesses): the settled world, two blocks more, z4 and z6noz pointing there. -/
theorem start_met (os : Os) (args : Array Value) : laidMetH Ybad.prog laid3
    (World.forCall ({ World.holding Ybad.prog os ⟨#[.cells #[.bool false, .string ByteArray.empty] 82, .cells #[.bool true, .string ByteArray.empty] 82], #[], []⟩ with
      heap := ((World.holding Ybad.prog os ⟨#[.cells #[.bool false, .string ByteArray.empty] 82, .cells #[.bool true, .string ByteArray.empty] 82], #[], []⟩).heap.modify 2 fun
        | .cells _ t frozen => .cells #[.pointer (some ⟨9, 0, none⟩)] t frozen
        | o => o).modify 3 fun
        | .cells _ t frozen => .cells #[.pointer (some ⟨10, 0, none⟩)] t frozen
        | o => o } : World) (fun _ _ => 0) ⟨#[], args, []⟩).memory :=
  laidMetH_of_parts3 (fuel := 8) (laidMet_of_run' 8 (by kernel_rfl) (by kernel_rfl)) (by kernel_rfl) (by kernel_rfl)
end Go.Proofs.YbulkacxcDoor
