import Derived.Test.YbulkacxcDoorBLeaf
namespace Go.Proofs.YbulkacxcDoor
open Go.RowKit

set_option maxHeartbeats 800000 in
set_option maxRecDepth 100000 in
theorem put16be (g o n c : Nat) (v : Int) (hv0 : 0 ≤ v) (hv1 : v < 65536) (w : World) (hn : 2 ≤ n)
    (e0 : (w.cell? ⟨g, o, none⟩).isSome = true) (e1 : (w.cell? ⟨g, o + 1, none⟩).isSome = true)
    (f0 : w.frozen? ⟨g, o, none⟩ = false) (f1 : w.frozen? ⟨g, o + 1, none⟩ = false) :
    Calls Ybad.prog 16 #[.agg #[], .slice (some ⟨g, o, none⟩) n c, .int .u16 v] w fun e w' => e = .returned (.tuple #[]) ∧
      w' = ((w.alloc (.cells #[] 51)).setCell ⟨g, o, none⟩ (.int .u8 (v / 256))).setCell ⟨g, o + 1, none⟩ (.int .u8 (v % 256)) := by
  obtain ⟨x0, c0⟩ := Option.isSome_iff_exists.1 e0
  obtain ⟨x1, c1⟩ := Option.isSome_iff_exists.1 e1
  clear e0 e1
  have i0 : (0 : Int) < (n : Int) := by omega
  have i1 : (1 : Int) < (n : Int) := by omega
  have d0 := cold1 c0 (.cells #[] 51)
  have fa0 := (frozen?_alloc_cells w #[] 51 ⟨g, o, none⟩).trans f0
  have d1 := cold1 c1 (.cells #[] 51)
  have fa1 := (frozen?_alloc_cells w #[] 51 ⟨g, o + 1, none⟩).trans f1
  have hn0 : 0 < n := by omega
  go_enter Ybad.func16, Ybad.ntmps16
  go_wp2
  go_end0
  exact ⟨rfl, rfl⟩

set_option maxHeartbeats 800000 in
set_option maxRecDepth 100000 in
theorem put32be (g o n c : Nat) (v : Int) (hv0 : 0 ≤ v) (hv1 : v < 4294967296) (w : World) (hn : 4 ≤ n)
    (e0 : (w.cell? ⟨g, o, none⟩).isSome = true) (e1 : (w.cell? ⟨g, o + 1, none⟩).isSome = true) (e2 : (w.cell? ⟨g, o + 2, none⟩).isSome = true) (e3 : (w.cell? ⟨g, o + 3, none⟩).isSome = true)
    (f0 : w.frozen? ⟨g, o, none⟩ = false) (f1 : w.frozen? ⟨g, o + 1, none⟩ = false) (f2 : w.frozen? ⟨g, o + 2, none⟩ = false) (f3 : w.frozen? ⟨g, o + 3, none⟩ = false) :
    Calls Ybad.prog 24 #[.slice (some ⟨g, o, none⟩) n c, .int .u32 v] w fun e w' => e = .returned (.tuple #[]) ∧
      w' = ((((w).setCell ⟨g, o, none⟩ (.int .u8 (v / 16777216))).setCell ⟨g, o + 1, none⟩ (.int .u8 (v / 65536 % 256))).setCell ⟨g, o + 2, none⟩ (.int .u8 (v / 256 % 256))).setCell ⟨g, o + 3, none⟩ (.int .u8 (v % 256)) := by
  obtain ⟨x0, c0⟩ := Option.isSome_iff_exists.1 e0
  obtain ⟨x1, c1⟩ := Option.isSome_iff_exists.1 e1
  obtain ⟨x2, c2⟩ := Option.isSome_iff_exists.1 e2
  obtain ⟨x3, c3⟩ := Option.isSome_iff_exists.1 e3
  clear e0 e1 e2 e3
  have i0 : (0 : Int) < (n : Int) := by omega
  have i1 : (1 : Int) < (n : Int) := by omega
  have i2 : (2 : Int) < (n : Int) := by omega
  have i3 : (3 : Int) < (n : Int) := by omega
  have hn0 : 0 < n := by omega
  go_enter Ybad.func24, Ybad.ntmps24
  go_wp2
  go_end0
  exact ⟨rfl, rfl⟩

set_option maxHeartbeats 800000 in
set_option maxRecDepth 100000 in
theorem put64be (g o n c : Nat) (v : Int) (hv0 : 0 ≤ v) (hv1 : v < 18446744073709551616) (w : World) (hn : 8 ≤ n)
    (e0 : (w.cell? ⟨g, o, none⟩).isSome = true) (e1 : (w.cell? ⟨g, o + 1, none⟩).isSome = true) (e2 : (w.cell? ⟨g, o + 2, none⟩).isSome = true) (e3 : (w.cell? ⟨g, o + 3, none⟩).isSome = true) (e4 : (w.cell? ⟨g, o + 4, none⟩).isSome = true) (e5 : (w.cell? ⟨g, o + 5, none⟩).isSome = true) (e6 : (w.cell? ⟨g, o + 6, none⟩).isSome = true) (e7 : (w.cell? ⟨g, o + 7, none⟩).isSome = true)
    (f0 : w.frozen? ⟨g, o, none⟩ = false) (f1 : w.frozen? ⟨g, o + 1, none⟩ = false) (f2 : w.frozen? ⟨g, o + 2, none⟩ = false) (f3 : w.frozen? ⟨g, o + 3, none⟩ = false) (f4 : w.frozen? ⟨g, o + 4, none⟩ = false) (f5 : w.frozen? ⟨g, o + 5, none⟩ = false) (f6 : w.frozen? ⟨g, o + 6, none⟩ = false) (f7 : w.frozen? ⟨g, o + 7, none⟩ = false) :
    Calls Ybad.prog 25 #[.slice (some ⟨g, o, none⟩) n c, .int .u64 v] w fun e w' => e = .returned (.tuple #[]) ∧
      w' = ((((((((w).setCell ⟨g, o, none⟩ (.int .u8 (v / 72057594037927936))).setCell ⟨g, o + 1, none⟩ (.int .u8 (v / 281474976710656 % 256))).setCell ⟨g, o + 2, none⟩ (.int .u8 (v / 1099511627776 % 256))).setCell ⟨g, o + 3, none⟩ (.int .u8 (v / 4294967296 % 256))).setCell ⟨g, o + 4, none⟩ (.int .u8 (v / 16777216 % 256))).setCell ⟨g, o + 5, none⟩ (.int .u8 (v / 65536 % 256))).setCell ⟨g, o + 6, none⟩ (.int .u8 (v / 256 % 256))).setCell ⟨g, o + 7, none⟩ (.int .u8 (v % 256)) := by
  obtain ⟨x0, c0⟩ := Option.isSome_iff_exists.1 e0
  obtain ⟨x1, c1⟩ := Option.isSome_iff_exists.1 e1
  obtain ⟨x2, c2⟩ := Option.isSome_iff_exists.1 e2
  obtain ⟨x3, c3⟩ := Option.isSome_iff_exists.1 e3
  obtain ⟨x4, c4⟩ := Option.isSome_iff_exists.1 e4
  obtain ⟨x5, c5⟩ := Option.isSome_iff_exists.1 e5
  obtain ⟨x6, c6⟩ := Option.isSome_iff_exists.1 e6
  obtain ⟨x7, c7⟩ := Option.isSome_iff_exists.1 e7
  clear e0 e1 e2 e3 e4 e5 e6 e7
  have i0 : (0 : Int) < (n : Int) := by omega
  have i1 : (1 : Int) < (n : Int) := by omega
  have i2 : (2 : Int) < (n : Int) := by omega
  have i3 : (3 : Int) < (n : Int) := by omega
  have i4 : (4 : Int) < (n : Int) := by omega
  have i5 : (5 : Int) < (n : Int) := by omega
  have i6 : (6 : Int) < (n : Int) := by omega
  have i7 : (7 : Int) < (n : Int) := by omega
  have hn0 : 0 < n := by omega
  go_enter Ybad.func25, Ybad.ntmps25
  go_wp2
  go_end0
  exact ⟨rfl, rfl⟩

theorem be64_num (b0 b1 b2 b3 b4 b5 b6 b7 : Int) (k0 : 0 ≤ b0 ∧ b0 ≤ 255) (k1 : 0 ≤ b1 ∧ b1 ≤ 255) (k2 : 0 ≤ b2 ∧ b2 ≤ 255) (k3 : 0 ≤ b3 ∧ b3 ≤ 255) (k4 : 0 ≤ b4 ∧ b4 ≤ 255) (k5 : 0 ≤ b5 ∧ b5 ≤ 255) (k6 : 0 ≤ b6 ∧ b6 ≤ 255) (k7 : 0 ≤ b7 ∧ b7 ≤ 255) :
    (bits BinOp.or IntKind.u64 (bits BinOp.or IntKind.u64 (bits BinOp.or IntKind.u64 (bits BinOp.or IntKind.u64 (bits BinOp.or IntKind.u64 (bits BinOp.or IntKind.u64 (bits BinOp.or IntKind.u64 b7 (b6 * 256)) (b5 * 65536)) (b4 * 16777216)) (b3 * 4294967296)) (b2 * 1099511627776)) (b1 * 281474976710656)) (b0 * 72057594037927936)) = b0 * 72057594037927936 + b1 * 281474976710656 + b2 * 1099511627776 + b3 * 4294967296 + b4 * 16777216 + b5 * 65536 + b6 * 256 + b7 := by
  rw [u64_or8 b7 (b6 * 256) (by omega) (by omega) (by omega) (by omega) (by omega), u64_or16 _ (b5 * 65536) (by omega) (by omega) (by omega) (by omega) (by omega),
    u64_or24 _ (b4 * 16777216) (by omega) (by omega) (by omega) (by omega) (by omega), u64_or32 _ (b3 * 4294967296) (by omega) (by omega) (by omega) (by omega) (by omega),
    u64_or40 _ (b2 * 1099511627776) (by omega) (by omega) (by omega) (by omega) (by omega), u64_or48 _ (b1 * 281474976710656) (by omega) (by omega) (by omega) (by omega) (by omega),
    u64_or56 _ (b0 * 72057594037927936) (by omega) (by omega) (by omega) (by omega) (by omega)]
  omega

set_option maxHeartbeats 1600000 in
set_option maxRecDepth 100000 in
theorem uint64_any (g o n c : Nat) (b0 b1 b2 b3 b4 b5 b6 b7 : Int) (k0 : 0 ≤ b0 ∧ b0 ≤ 255) (k1 : 0 ≤ b1 ∧ b1 ≤ 255) (k2 : 0 ≤ b2 ∧ b2 ≤ 255) (k3 : 0 ≤ b3 ∧ b3 ≤ 255) (k4 : 0 ≤ b4 ∧ b4 ≤ 255) (k5 : 0 ≤ b5 ∧ b5 ≤ 255) (k6 : 0 ≤ b6 ∧ b6 ≤ 255) (k7 : 0 ≤ b7 ∧ b7 ≤ 255) (hn : 8 ≤ n) (w : World)
    (h0 : w.cell? ⟨g, o, none⟩ = some (.int .u8 b0)) (h1 : w.cell? ⟨g, o + 1, none⟩ = some (.int .u8 b1)) (h2 : w.cell? ⟨g, o + 2, none⟩ = some (.int .u8 b2)) (h3 : w.cell? ⟨g, o + 3, none⟩ = some (.int .u8 b3)) (h4 : w.cell? ⟨g, o + 4, none⟩ = some (.int .u8 b4)) (h5 : w.cell? ⟨g, o + 5, none⟩ = some (.int .u8 b5)) (h6 : w.cell? ⟨g, o + 6, none⟩ = some (.int .u8 b6)) (h7 : w.cell? ⟨g, o + 7, none⟩ = some (.int .u8 b7)) :
    Calls Ybad.prog 26 #[.slice (some ⟨g, o, none⟩) n c] w fun e w' => e = .returned (.int .u64 (b0 * 72057594037927936 + b1 * 281474976710656 + b2 * 1099511627776 + b3 * 4294967296 + b4 * 16777216 + b5 * 65536 + b6 * 256 + b7)) ∧ ∃ m, w' = w.drewN m := by
  have hn0 : 0 < n := by omega
  have i1 : (1 : Int) < (n : Int) := by omega
  have i2 : (2 : Int) < (n : Int) := by omega
  have i3 : (3 : Int) < (n : Int) := by omega
  have i4 : (4 : Int) < (n : Int) := by omega
  have i5 : (5 : Int) < (n : Int) := by omega
  have i6 : (6 : Int) < (n : Int) := by omega
  have i7 : (7 : Int) < (n : Int) := by omega
  go_enter Ybad.func26, Ybad.ntmps26
  go_wp2
  go_quiet (fail)
  go_wp2
  go_ret
  refine ⟨?_, _, rfl⟩
  exact congrArg (fun x => Ending.returned (Value.int IntKind.u64 x)) (be64_num b0 b1 b2 b3 b4 b5 b6 b7 k0 k1 k2 k3 k4 k5 k6 k7)
end Go.Proofs.YbulkacxcDoor
