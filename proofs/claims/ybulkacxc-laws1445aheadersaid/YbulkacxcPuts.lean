import Derived.Test.YbulkacxcProg
import Derived.WalkKit
import Derived.ProofKit
import Derived.RegionTactic
import Derived.Deep.RegionWith
import Derived.WalkSpells
import Derived.Stop.LaidErr
namespace Go.Proofs.Ybulkacxc.lawS1445AHeader
open Go.RowKit

set_option maxRecDepth 100000 in
theorem put32 (g o n c : Nat) (v : Int) (hv0 : 0 ≤ v) (hv1 : v < 4294967296) (w : World) (hn : 4 ≤ n)
    (e0 : (w.cell? ⟨g, o, none⟩).isSome = true) (e1 : (w.cell? ⟨g, o + 1, none⟩).isSome = true) (e2 : (w.cell? ⟨g, o + 2, none⟩).isSome = true) (e3 : (w.cell? ⟨g, o + 3, none⟩).isSome = true)
    (f0 : w.frozen? ⟨g, o, none⟩ = false) (f1 : w.frozen? ⟨g, o + 1, none⟩ = false) (f2 : w.frozen? ⟨g, o + 2, none⟩ = false) (f3 : w.frozen? ⟨g, o + 3, none⟩ = false) :
    Calls Yba.prog 8 #[.agg #[], .slice (some ⟨g, o, none⟩) n c, .int .u32 v] w fun e w' => e = .returned (.tuple #[]) ∧
      w' = (((((w.alloc (.cells #[] 42)).setCell ⟨g, o, none⟩ (.int .u8 (v % 256))).setCell ⟨g, o + 1, none⟩ (.int .u8 (v / 256 % 256))).setCell ⟨g, o + 2, none⟩ (.int .u8 (v / 65536 % 256))).setCell ⟨g, o + 3, none⟩ (.int .u8 (v / 16777216))) := by
  obtain ⟨x0, c0⟩ := Option.isSome_iff_exists.1 e0
  obtain ⟨x1, c1⟩ := Option.isSome_iff_exists.1 e1
  obtain ⟨x2, c2⟩ := Option.isSome_iff_exists.1 e2
  obtain ⟨x3, c3⟩ := Option.isSome_iff_exists.1 e3
  clear e0 e1 e2 e3
  have d0 := cell?_alloc_old (.cells #[] 42) c0
  have fa0 := (frozen?_alloc_cells w #[] 42 ⟨g, o, none⟩).trans f0
  have d1 := cell?_alloc_old (.cells #[] 42) c1
  have fa1 := (frozen?_alloc_cells w #[] 42 ⟨g, o + 1, none⟩).trans f1
  have d2 := cell?_alloc_old (.cells #[] 42) c2
  have fa2 := (frozen?_alloc_cells w #[] 42 ⟨g, o + 2, none⟩).trans f2
  have d3 := cell?_alloc_old (.cells #[] 42) c3
  have fa3 := (frozen?_alloc_cells w #[] 42 ⟨g, o + 3, none⟩).trans f3
  go_enter Yba.func8, Yba.ntmps8
  go_wp2
  go_end0
  exact ⟨rfl, rfl⟩

set_option maxRecDepth 100000 in
theorem put16 (g o n c : Nat) (v : Int) (hv0 : 0 ≤ v) (hv1 : v < 65536) (w : World) (hn : 2 ≤ n)
    (e0 : (w.cell? ⟨g, o, none⟩).isSome = true) (e1 : (w.cell? ⟨g, o + 1, none⟩).isSome = true)
    (f0 : w.frozen? ⟨g, o, none⟩ = false) (f1 : w.frozen? ⟨g, o + 1, none⟩ = false) :
    Calls Yba.prog 9 #[.agg #[], .slice (some ⟨g, o, none⟩) n c, .int .u16 v] w fun e w' => e = .returned (.tuple #[]) ∧
      w' = (((w.alloc (.cells #[] 42)).setCell ⟨g, o, none⟩ (.int .u8 (v % 256))).setCell ⟨g, o + 1, none⟩ (.int .u8 (v / 256))) := by
  obtain ⟨x0, c0⟩ := Option.isSome_iff_exists.1 e0
  obtain ⟨x1, c1⟩ := Option.isSome_iff_exists.1 e1
  clear e0 e1
  have d0 := cell?_alloc_old (.cells #[] 42) c0
  have fa0 := (frozen?_alloc_cells w #[] 42 ⟨g, o, none⟩).trans f0
  have d1 := cell?_alloc_old (.cells #[] 42) c1
  have fa1 := (frozen?_alloc_cells w #[] 42 ⟨g, o + 1, none⟩).trans f1
  go_enter Yba.func9, Yba.ntmps9
  go_wp2
  go_end0
  exact ⟨rfl, rfl⟩
end Go.Proofs.Ybulkacxc.lawS1445AHeader
