import Derived.Test.YbulkacxcDoorLaid
import Derived.WalkKit
import Derived.LaidEqlPtr
import Derived.Laws.StructEq
namespace Go.Proofs.YbulkacxcDoor
open Go.RowKit

theorem info82 : (Ybad.prog.info? 82).map (·.size) = some 2 := by kernel_rfl

theorem eq33_same (d : Nat) (a : Addr) (w : World) : (Op.equalIn (d + 1) 33 (.pointer (some a)) (.pointer (some a))).run Ybad.prog w = .ok true w := by
  obtain ⟨j, hj, _⟩ := Option.map_eq_some_iff.1 info82
  simp [Op.equalIn, run_underlying Ybad.underlying33, sizeOf, typeInfo, hj, run_sameAddr_same]

theorem eq33_nil (d : Nat) (a : Addr) (w : World) : (Op.equalIn (d + 1) 33 (.pointer (some a)) (.pointer none)).run Ybad.prog w = .ok false w := by
  simp [Op.equalIn, run_underlying Ybad.underlying33]

theorem eq33_other (d : Nat) {a b : Addr} (w : World) (hne : a ≠ b) (ha : ∃ c t, w.heap[a.block]? = some (.cells c t (0, 0))) (hb : ∃ c t, w.heap[b.block]? = some (.cells c t (0, 0))) :
    (Op.equalIn (d + 1) 33 (.pointer (some a)) (.pointer (some b))).run Ybad.prog w = .ok false w := by
  obtain ⟨ca, ta, ha⟩ := ha
  obtain ⟨cb, tb, hb⟩ := hb
  obtain ⟨j, hj, hs⟩ := Option.map_eq_some_iff.1 info82
  simp [Op.equalIn, run_underlying Ybad.underlying33, sizeOf, typeInfo, hj, hs, run_sameAddr_other w hne ha hb]

theorem eql35_same (a : Addr) (w : World) : (binOp .eql 35 (.agg #[.pointer (some a)]) (.agg #[.pointer (some a)])).run Ybad.prog w = .ok (.bool true) w := by
  have h := eq33_same 9998 a w
  go_simp
theorem eql35_nil (a : Addr) (w : World) : (binOp .eql 35 (.agg #[.pointer (some a)]) (.agg #[.pointer none])).run Ybad.prog w = .ok (.bool false) w := by
  have h := eq33_nil 9998 a w
  go_simp
theorem neq35_nil (a : Addr) (w : World) : (binOp .neq 35 (.agg #[.pointer (some a)]) (.agg #[.pointer none])).run Ybad.prog w = .ok (.bool true) w := by
  have h := eq33_nil 9998 a w
  go_simp
theorem neq35_same (a : Addr) (w : World) : (binOp .neq 35 (.agg #[.pointer (some a)]) (.agg #[.pointer (some a)])).run Ybad.prog w = .ok (.bool false) w := by
  have h := eq33_same 9998 a w
  go_simp
theorem neq46 (a : Addr) (w : World) (lo lo' n n' : Int) : (binOp .neq 46 (.agg #[.int .u64 0, .int .u64 lo, .pointer (some a), .int .u8 n]) (.agg #[.int .u64 0, .int .u64 lo', .pointer (some a), .int .u8 n'])).run Ybad.prog w = .ok (.bool (!(lo == lo' && n == n'))) w := by
  have h := eq33_same 9996 a w
  go_simp
  by_cases h1 : lo = lo' <;> by_cases h2 : n = n' <;> simp [h1, h2]
end Go.Proofs.YbulkacxcDoor
