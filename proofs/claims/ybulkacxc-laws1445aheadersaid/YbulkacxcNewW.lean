import Derived.Test.YbulkacxcWrite
namespace Go.Proofs.Ybulkacxc.lawS1445AHeader
open Go.RowKit

theorem nil_ahead (a : Addr) (w : World) : (nilAhead 182 23 (.pointer (some a)) "Write").run Yba.prog w = .ok (some false) w := by kernel_rfl
theorem method_write (a : Addr) (w : World) : (method 182 23 (.pointer (some a)) "Write").run Yba.prog w = .ok (25, .pointer (some a)) w := by kernel_rfl

theorem drewc (w : World) (a : Addr) : w.drew.cell? a = w.cell? a := rfl
theorem drewf (w : World) (a : Addr) : w.drew.frozen? a = w.frozen? a := rfl

/-- The one Write of the header's 24 bytes, in the world in which NewWriter comes to it. -/
theorem step7 (S : Nat) (C : Array Value) (hC : C.size = 24) (hC1 : ∀ u ∈ C.toList, u.oneCell' = true) (w : World) (hSw : S < w.heap.size)
    (k0 : w.cell? ⟨S, 0, none⟩ = some (.slice none 0 0)) (k1 : w.cell? ⟨S, 1, none⟩ = some (.slice none 0 0)) (k2 : w.cell? ⟨S, 2, none⟩ = some (.int .i64 0))
    (k3 : w.cell? ⟨S, 3, none⟩ = some (.bool false))
    (f0 : w.frozen? ⟨S, 0, none⟩ = false) (f1 : w.frozen? ⟨S, 1, none⟩ = false) (f2 : w.frozen? ⟨S, 2, none⟩ = false) :
    Calls Yba.prog 25 #[.pointer (some ⟨S, 0, none⟩), .slice (some ⟨w.heap.size, 0, none⟩) 24 24]
      ((((((w.alloc (.cells C 40)).alloc (.cells #[] 42)).alloc (.cells #[] 42)).alloc (.cells #[] 42)).alloc (.cells #[] 42)).alloc (.cells #[] 42)).drew.drew.drew.drew.drew.drew fun e w' => e = .returned (.tuple #[.int .i64 24, .nilIface]) ∧
      ∃ gl cl gb cb, w'.cell? ⟨S, 0, none⟩ = some (.slice (some ⟨gb, 0, none⟩) 24 cb) ∧ w'.cell? ⟨S, 1, none⟩ = some (.slice (some ⟨gl, 0, none⟩) 1 cl) ∧
        w'.cell? ⟨S, 2, none⟩ = some (.int .i64 1) ∧ w'.cell? ⟨gl, 0, none⟩ = some (.int .i64 24) ∧ (∀ j u, C.toList[j]? = some u → w'.cell? ⟨gb, j, none⟩ = some u) ∧ Below S w w' ∧ S < w'.heap.size := by
  have hb : Below (S + 1) w ((((((w.alloc (.cells C 40)).alloc (.cells #[] 42)).alloc (.cells #[] 42)).alloc (.cells #[] 42)).alloc (.cells #[] 42)).alloc (.cells #[] 42)).drew.drew.drew.drew.drew.drew :=
    ((((((((((((Below.refl _ w).alloc (by omega) _).alloc (by simp; omega) _).alloc (by simp; omega) _).alloc (by simp; omega) _).alloc (by simp; omega) _).alloc (by simp; omega) _).drew).drew).drew).drew).drew).drew
  have hblk : ((((((w.alloc (.cells C 40)).alloc (.cells #[] 42)).alloc (.cells #[] 42)).alloc (.cells #[] 42)).alloc (.cells #[] 42)).alloc (.cells #[] 42)).drew.drew.drew.drew.drew.drew.heap[w.heap.size]? = some (.cells C 40 (0, 0)) := by
    show ((((((w.alloc (.cells C 40)).alloc (.cells #[] 42)).alloc (.cells #[] 42)).alloc (.cells #[] 42)).alloc (.cells #[] 42)).alloc (.cells #[] 42)).heap[w.heap.size]? = _
    rw [Below.heap_alloc _ _ _ (by simp; omega), Below.heap_alloc _ _ _ (by simp; omega), Below.heap_alloc _ _ _ (by simp; omega), Below.heap_alloc _ _ _ (by simp; omega), Below.heap_alloc _ _ _ (by simp)]
    exact heap_alloc_new w _
  generalize ((((((w.alloc (.cells C 40)).alloc (.cells #[] 42)).alloc (.cells #[] 42)).alloc (.cells #[] 42)).alloc (.cells #[] 42)).alloc (.cells #[] 42)).drew.drew.drew.drew.drew.drew = W at hb hblk ⊢
  have hc : ∀ o, W.cell? ⟨S, o, none⟩ = w.cell? ⟨S, o, none⟩ := fun o => hb.cell (p := ⟨S, o, none⟩) (Nat.lt_succ_self _)
  have hf : ∀ o, W.frozen? ⟨S, o, none⟩ = w.frozen? ⟨S, o, none⟩ := fun o => hb.frozen (p := ⟨S, o, none⟩) (Nat.lt_succ_self _)
  refine (write_any S w.heap.size C.toList (by simpa using hC) hC1 W (by omega) (Nat.lt_of_lt_of_le hSw hb.size) ((hc 0).trans k0) ((hc 1).trans k1) ((hc 2).trans k2) ((hc 3).trans k3) ((hf 0).trans f0) ((hf 1).trans f1) ((hf 2).trans f2)
    (fun j u hu => by rw [cell_of_row W _ j C 40 (0, 0) hblk]; simpa using hu)).mono ?_
  rintro e w' ⟨rfl, gl, cl, gb, cb, h1, h2, h3, h4, h5, h6, h7⟩
  exact ⟨rfl, gl, cl, gb, cb, h1, h2, h3, h4, h5, (hb.mono (Nat.le_succ _)).trans h6, h7⟩

set_option maxHeartbeats 800000 in
set_option maxRecDepth 100000 in
theorem newW_any (S : Nat) (v : Int) (hv0 : 0 ≤ v) (hv1 : v < 4294967296) (w : World) (hSw : S < w.heap.size)
    (k0 : w.cell? ⟨S, 0, none⟩ = some (.slice none 0 0)) (k1 : w.cell? ⟨S, 1, none⟩ = some (.slice none 0 0)) (k2 : w.cell? ⟨S, 2, none⟩ = some (.int .i64 0))
    (k3 : w.cell? ⟨S, 3, none⟩ = some (.bool false))
    (f0 : w.frozen? ⟨S, 0, none⟩ = false) (f1 : w.frozen? ⟨S, 1, none⟩ = false) (f2 : w.frozen? ⟨S, 2, none⟩ = false) :
    Calls Yba.prog 5 #[.iface 23 (.pointer (some ⟨S, 0, none⟩)), .int .u32 v] w fun e w' => ∃ W gl cl gb cb, e = .returned (.tuple #[.pointer (some ⟨W, 0, none⟩), .nilIface]) ∧
      w'.cell? ⟨W, 0, none⟩ = some (.iface 23 (.pointer (some ⟨S, 0, none⟩))) ∧ w'.cell? ⟨W, 1, none⟩ = some (.slice none 0 0) ∧ 
      w'.cell? ⟨S, 0, none⟩ = some (.slice (some ⟨gb, 0, none⟩) 24 cb) ∧ w'.cell? ⟨S, 1, none⟩ = some (.slice (some ⟨gl, 0, none⟩) 1 cl) ∧
        w'.cell? ⟨S, 2, none⟩ = some (.int .i64 1) ∧ w'.cell? ⟨gl, 0, none⟩ = some (.int .i64 24) ∧
        (∀ j u, [Value.int .u8 212, Value.int .u8 195, Value.int .u8 178, Value.int .u8 161, Value.int .u8 2, Value.int .u8 0, Value.int .u8 4, Value.int .u8 0, Value.int .u8 0, Value.int .u8 0, Value.int .u8 0, Value.int .u8 0, Value.int .u8 0, Value.int .u8 0, Value.int .u8 0, Value.int .u8 0, Value.int .u8 0, Value.int .u8 0, Value.int .u8 4, Value.int .u8 0, Value.int .u8 (v % 256), Value.int .u8 (v / 256 % 256), Value.int .u8 (v / 65536 % 256), Value.int .u8 (v / 16777216)][j]? = some u → w'.cell? ⟨gb, j, none⟩ = some u) ∧
        Below S w w' ∧ S < w'.heap.size := by
  have hn1 := nil_ahead
  have hn2 := method_write
  go_enter Yba.func5, Yba.ntmps5
  go_wp2
  go_region_with (go_at_call 8; refine (put32 _ _ _ _ _ (by omega) (by omega) _ (by omega) (by go_simp) (by go_simp) (by go_simp) (by go_simp) (by go_simp) (by go_simp) (by go_simp) (by go_simp)).mono ?_; rintro e w1 ⟨rfl, rfl⟩)
  go_wp2
  go_region_with (go_at_call 9; refine (put16 _ _ _ _ _ (by omega) (by omega) _ (by omega) (by go_simp) (by go_simp) (by go_simp) (by go_simp)).mono ?_; rintro e w1 ⟨rfl, rfl⟩)
  go_wp2
  go_region_with (go_at_call 9; refine (put16 _ _ _ _ _ (by omega) (by omega) _ (by omega) (by go_simp) (by go_simp) (by go_simp) (by go_simp)).mono ?_; rintro e w1 ⟨rfl, rfl⟩)
  go_wp2
  go_region_with (go_at_call 8; refine (put32 _ _ _ _ _ (by omega) (by omega) _ (by omega) (by go_simp) (by go_simp) (by go_simp) (by go_simp) (by go_simp) (by go_simp) (by go_simp) (by go_simp)).mono ?_; rintro e w1 ⟨rfl, rfl⟩)
  go_wp2
  go_region_with (go_at_call 8; refine (put32 _ _ _ _ _ (by omega) (by omega) _ (by omega) (by go_simp) (by go_simp) (by go_simp) (by go_simp) (by go_simp) (by go_simp) (by go_simp) (by go_simp)).mono ?_; rintro e w1 ⟨rfl, rfl⟩)
  go_wp2
  go_region_with (go_at_call 25; refine (step7 S _ rfl (by simp [Value.oneCell']) w hSw k0 k1 k2 k3 f0 f1 f2).mono ?_; rintro e w1 ⟨rfl, gl, cl, gb, cb, h1, h2, h3, h4, h5, h6, h7⟩)
  clear hn1 hn2 k0 k1 k2 k3 f0 f1 f2
  go_wp2
  go_ret2
  refine ⟨w1.heap.size, gl, cl, gb, cb, rfl, ?_, ?_, ?_, ?_, ?_, ?_, ?_, ?_, ?_⟩
  · go_simp
  · go_simp
  · rw [calt h7]; exact h1
  · rw [calt h7]; exact h2
  · rw [calt h7]; exact h3
  · rw [calt (World.block_lt_of_cell? _ _ h4)]; exact h4
  · intro j u hu
    have hc := h5 j u hu
    rw [calt (World.block_lt_of_cell? _ _ hc)]; exact hc
  · exact h6.alloc (Nat.le_of_lt h7) _
  · simp; omega

set_option maxRecDepth 100000 in
theorem expected_any (v : Int) (hv0 : 0 ≤ v) (hv1 : v < 4294967296) (w : World) :
    Calls Yba.prog 6 #[.int .u32 v] w fun e w' => e = .returned (.slice (some ⟨w.heap.size, 0, none⟩) 24 24) ∧
      w' = w.alloc (.cells #[Value.int .u8 212, Value.int .u8 195, Value.int .u8 178, Value.int .u8 161, Value.int .u8 2, Value.int .u8 0, Value.int .u8 4, Value.int .u8 0, Value.int .u8 0, Value.int .u8 0, Value.int .u8 0, Value.int .u8 0, Value.int .u8 0, Value.int .u8 0, Value.int .u8 0, Value.int .u8 0, Value.int .u8 0, Value.int .u8 0, Value.int .u8 4, Value.int .u8 0, Value.int .u8 (v % 256), Value.int .u8 (v / 256 % 256), Value.int .u8 (v / 65536 % 256), Value.int .u8 (v / 16777216)] 5) := by
  go_enter Yba.func6, Yba.ntmps6
  go_wp2
  go_ret
  exact ⟨rfl, rfl⟩
end Go.Proofs.Ybulkacxc.lawS1445AHeader
