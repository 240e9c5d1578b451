import Derived.Test.YbulkacxcNewW
import Derived.LaidEql
import Derived.Deep.QuietTactic
import Derived.BigQuiet
import Derived.LoopTactic
namespace Go.Proofs.Ybulkacxc.lawS1445AHeader
open Go.RowKit

theorem neq_iface_same (a : Addr) (w : World) : (binOp .neq 34 (.iface 23 (.pointer (some a))) (.iface 23 (.pointer (some a)))).run Yba.prog w = .ok (.bool false) w := by
  have hi0 : (Yba.prog.info? 23).isSome = true := by kernel_rfl
  have hj0 : (Yba.prog.info? 29).isSome = true := by kernel_rfl
  obtain ⟨i, hi⟩ := Option.isSome_iff_exists.1 hi0
  obtain ⟨j, hj⟩ := Option.isSome_iff_exists.1 hj0
  have hc : (Yba.prog.info? 23).map (·.comparable) = some true := by kernel_rfl
  have hc' : i.comparable = true := by rw [hi] at hc; simpa using hc
  simp only [binOp]
  simp [Op.equal, Op.maxDepth, run_equalIn_iface_ptr_same w 9998 a Yba.underlying34 Yba.underlying23 hi hc' hj]

theorem neq_slice_nil (a : Option Addr) (n c : Nat) (w : World) : (binOp .neq 24 (.slice a n c) (.slice none 0 0)).run Yba.prog w = .ok (.bool (!a.isNone)) w :=
  run_neq_slice_nil_any w 24 5 a n c 0 0 Yba.underlying24

/-- The header's 24 bytes, as cells. -/
def hdr (v : Int) : Array Value := #[Value.int .u8 212, Value.int .u8 195, Value.int .u8 178, Value.int .u8 161, Value.int .u8 2, Value.int .u8 0, Value.int .u8 4, Value.int .u8 0, Value.int .u8 0, Value.int .u8 0, Value.int .u8 0, Value.int .u8 0, Value.int .u8 0, Value.int .u8 0, Value.int .u8 0, Value.int .u8 0, Value.int .u8 0, Value.int .u8 0, Value.int .u8 4, Value.int .u8 0, Value.int .u8 (v % 256), Value.int .u8 (v / 256 % 256), Value.int .u8 (v / 65536 % 256), Value.int .u8 (v / 16777216)]

theorem hdr_at (v : Int) (k : Nat) (h : k < 24) : ∃ z, (hdr v)[k]? = some (.int .u8 z) := by
  match k, h with
  | 0, _ | 1, _ | 2, _ | 3, _ | 4, _ | 5, _ | 6, _ | 7, _ | 8, _ | 9, _ | 10, _ | 11, _ | 12, _ | 13, _ | 14, _ | 15, _ | 16, _ | 17, _ | 18, _ | 19, _ | 20, _ | 21, _ | 22, _ | 23, _ => exact ⟨_, rfl⟩
  | k + 24, h => omega

/-- In the world behind 'expected' the two rows hold the same bytes. -/
theorem both (v : Int) (gb S : Nat) (x : Value) (w w1 : World) (h : ∀ j u, (hdr v).toList[j]? = some u → w1.cell? ⟨gb, j, none⟩ = some u) (hs : w1.cell? ⟨S, 0, none⟩ = some x) (hb : Below S w w1) (hS : S ≤ w1.heap.size) :
    (∀ k, k < 24 → ∃ z, (w1.alloc (.cells (hdr v) 5)).cell? ⟨gb, k, none⟩ = some (.int .u8 z) ∧ (w1.alloc (.cells (hdr v) 5)).cell? ⟨w1.heap.size, k, none⟩ = some (.int .u8 z)) ∧
      (w1.alloc (.cells (hdr v) 5)).cell? ⟨S, 0, none⟩ = some x ∧ Below S w (w1.alloc (.cells (hdr v) 5)) := by
  refine ⟨fun k hk => ?_, ?_, hb.alloc hS _⟩
  · obtain ⟨z, hz⟩ := hdr_at v k hk
    have hc := h k _ (by rw [← hz]; simp)
    refine ⟨z, ?_, ?_⟩
    · rw [calt (World.block_lt_of_cell? _ _ hc)]; exact hc
    · rw [World.cell?_alloc_new]; exact hz
  · rw [calt (World.block_lt_of_cell? _ _ hs)]; exact hs

set_option maxHeartbeats 800000 in
set_option maxRecDepth 100000 in
theorem law_walk (v : Int) (hv0 : 0 ≤ v) (hv1 : v < 4294967296) (w : World) :
    Calls Yba.prog 3 #[.int .u32 v] w fun e w' => e = .returned (.bool true) ∧ Below w.heap.size w w' := by
  have hq1 := neq_iface_same
  have hq2 := neq_slice_nil
  go_enter Yba.func3, Yba.ntmps3
  go_wp2_with fail
  refine (newW_any w.heap.size v hv0 hv1 _ (by simp) (by go_simp) (by go_simp) (by go_simp) (by go_simp) (by go_simp) (by go_simp) (by go_simp)).mono ?_
  rintro e w1 ⟨W, gl, cl, gb, cb, rfl, h1, h2, h3, h4, h5, h6, h7, h8, h9⟩
  go_wp2_with fail
  refine (expected_any v hv0 hv1 _).mono ?_
  rintro e w2 ⟨rfl, rfl⟩
  go_wp2
  obtain ⟨hZ, hS0, hB⟩ := both v gb w.heap.size _ w w1 h7 h3 (((Below.refl _ w).alloc (Nat.le_refl _) _).trans h8) (Nat.le_of_lt h9)
  unfold hdr at hZ hS0 hB
  generalize hn : w1.heap.size = ne at hZ hS0 hB ⊢
  generalize w1.alloc _ = W2 at hZ hS0 hB ⊢
  have HZ : Hid (∀ k, k < 24 → ∃ z, W2.cell? ⟨gb, k, none⟩ = some (.int .u8 z) ∧ W2.cell? ⟨ne, k, none⟩ = some (.int .u8 z)) := hZ
  clear hZ hn h1 h2 h3 h4 h5 h6 h7 h8 h9 hq1 hq2
  go_loopw [7] (fun i wr => ∃ k : Nat, k ≤ 24 ∧ i = .int .i64 k ∧ Hid (∀ a, wr.cell? a = W2.cell? a) ∧ Below w.heap.size w wr) (fun i _ => 24 - (intOf i).toNat)
  case atStart => exact ⟨0, Nat.zero_le _, rfl, fun _ => rfl, hB⟩
  case round =>
    obtain ⟨k, hk, rfl, hcw, hbw⟩ := hrel
    by_cases hlt : k < 24
    · obtain ⟨z, z1, z2⟩ := HZ.out k hlt
      have c1 := (hcw.out ⟨gb, k, none⟩).trans z1
      have c2 := (hcw.out ⟨ne, k, none⟩).trans z2
      have c3 := (hcw.out ⟨w.heap.size, 0, none⟩).trans hS0
      clear z1 z2 hS0 HZ
      have hki : (k : Int) < 24 := by omega
      go_wp2
      go_quiet (fail)
      go_wp2
      go_roundw
      case rel => exact ⟨k + 1, by omega, by go_num, hcw.out, ⟨hbw.os, hbw.tape, hbw.output, hbw.size, hbw.block⟩⟩
      case measure => simp [intOf]; omega
    · go_wp2
      go_ret
      exact ⟨rfl, hbw⟩
end Go.Proofs.Ybulkacxc.lawS1445AHeader
