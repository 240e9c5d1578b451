import Derived.Test.YbulkacxcDoorBAddr
namespace Go.Proofs.YbulkacxcDoor
open Go.RowKit

/-- A row of literal bytes, seen as a source. -/
theorem src_lit {w : World} {g : Nat} {t : TypeId} {zs : List Int} {C : Array Value} (h : w.heap[g]? = some (.cells C t (0, 0))) (hC : C = (zs.map (Value.int .u8)).toArray) (hb : ∀ z ∈ zs, 0 ≤ z ∧ z ≤ 255) : Src w (some ⟨g, 0, none⟩) zs :=
  ⟨(fun h => by cases h), fun i hi => ⟨g, 0, rfl, by
    rw [cell_of_row w g (0 + i) C t (0, 0) h, hC]
    simp [List.getD_eq_getElem?_getD, List.getElem?_eq_getElem hi]⟩, hb⟩

theorem second_new (w : World) (o : Obj) (C : Array Value) (t : TypeId) : ((w.alloc o).alloc (.cells C t)).heap[w.heap.size + 1]? = some (.cells C t (0, 0)) := by
  have h := heap_alloc_new (w.alloc o) (.cells C t)
  rw [World.size_alloc] at h
  exact h

theorem eql35_other {a b : Addr} (w : World) (hne : a ≠ b) (ha : ∃ c t, w.heap[a.block]? = some (.cells c t (0, 0))) (hb : ∃ c t, w.heap[b.block]? = some (.cells c t (0, 0))) :
    (binOp .eql 35 (.agg #[.pointer (some a)]) (.agg #[.pointer (some b)])).run Ybad.prog w = .ok (.bool false) w := by
  have h := eq33_other 9998 w hne ha hb
  clear ha hb
  go_simp

set_option maxHeartbeats 1600000 in
set_option maxRecDepth 100000 in
theorem asSlice4 (b0 b1 b2 b3 : Int) (k0 : 0 ≤ b0 ∧ b0 ≤ 255) (k1 : 0 ≤ b1 ∧ b1 ≤ 255) (k2 : 0 ≤ b2 ∧ b2 ≤ 255) (k3 : 0 ≤ b3 ∧ b3 ≤ 255) (a4 : Addr) (w : World) (hz0 : w.cell? ⟨1, 0, none⟩ = some (.pointer none)) (hz4 : w.cell? ⟨2, 0, none⟩ = some (.pointer (some a4))) :
    Calls Ybad.prog 18 #[.agg #[.int .u64 0, .int .u64 (281470681743360 + b0 * 16777216 + b1 * 65536 + b2 * 256 + b3), .pointer (some a4)]] w fun e w' =>
      ∃ g, e = .returned (.slice (some ⟨g, 0, none⟩) 4 4) ∧ w.heap.size ≤ g ∧ Src w' (some ⟨g, 0, none⟩) [b0, b1, b2, b3] ∧ Below w.heap.size w w' := by
  have q0 := cold1 hz0
  have q4 := cold1 hz4
  have e0 := eql35_nil a4
  have e1 := eql35_same a4
  obtain ⟨LO, hLO⟩ : ∃ LO, LO = 281470681743360 + b0 * 16777216 + b1 * 65536 + b2 * 256 + b3 := ⟨_, rfl⟩
  rw [← hLO]
  have n0 : Hid (LO % 4294967296 / 16777216 = b0) := by show _ = _; omega
  have n1 : Hid (LO % 4294967296 / 65536 % 256 = b1) := by show _ = _; omega
  have n2 : Hid (LO % 4294967296 / 256 % 256 = b2) := by show _ = _; omega
  have n3 : Hid (LO % 256 = b3) := by show _ = _; omega
  have hL0 : 0 ≤ LO := by omega
  have hL1 : LO < 18446744073709551616 := by omega
  clear hLO
  go_enter Ybad.func18, Ybad.ntmps18
  go_wp2
  go_region_with (go_at_call 24; refine (put32be (w.heap.size + 1) 0 4 4 (LO % 4294967296) (by omega) (by omega) _ (by omega) (by go_simp) (by go_simp) (by go_simp) (by go_simp) (by go_simp) (by go_simp) (by go_simp) (by go_simp)).mono ?_; rintro e w1 ⟨rfl, rfl⟩)
  go_wp2
  go_ret
  refine ⟨w.heap.size + 1, rfl, by omega, ?_, ?_⟩
  · refine src_lit (t := 23) (C := #[.int .u8 (LO % 4294967296 / 16777216), .int .u8 (LO % 4294967296 / 65536 % 256), .int .u8 (LO % 4294967296 / 256 % 256), .int .u8 (LO % 256)]) ?_ (by rw [n0.out, n1.out, n2.out, n3.out]; rfl) (by simp [k0, k1, k2, k3])
    exact second_new w _ _ _
  · repeat (first | exact Below.refl _ _ | refine Below.drew ?_ | refine below_drewN ?_ _ | refine Below.setCell ?_ (by simp) _ | refine Below.alloc ?_ (by simp) _)

set_option maxHeartbeats 1600000 in
set_option maxRecDepth 100000 in
theorem asSlice16 (b0 b1 b2 b3 b4 b5 b6 b7 b8 b9 b10 b11 b12 b13 b14 b15 : Int) (k0 : 0 ≤ b0 ∧ b0 ≤ 255) (k1 : 0 ≤ b1 ∧ b1 ≤ 255) (k2 : 0 ≤ b2 ∧ b2 ≤ 255) (k3 : 0 ≤ b3 ∧ b3 ≤ 255) (k4 : 0 ≤ b4 ∧ b4 ≤ 255) (k5 : 0 ≤ b5 ∧ b5 ≤ 255) (k6 : 0 ≤ b6 ∧ b6 ≤ 255) (k7 : 0 ≤ b7 ∧ b7 ≤ 255) (k8 : 0 ≤ b8 ∧ b8 ≤ 255) (k9 : 0 ≤ b9 ∧ b9 ≤ 255) (k10 : 0 ≤ b10 ∧ b10 ≤ 255) (k11 : 0 ≤ b11 ∧ b11 ≤ 255) (k12 : 0 ≤ b12 ∧ b12 ≤ 255) (k13 : 0 ≤ b13 ∧ b13 ≤ 255) (k14 : 0 ≤ b14 ∧ b14 ≤ 255) (k15 : 0 ≤ b15 ∧ b15 ≤ 255) (a4 a6 : Addr) (w : World) (hz : Zs w a4 a6) :
    Calls Ybad.prog 18 #[.agg #[.int .u64 (b0 * 72057594037927936 + b1 * 281474976710656 + b2 * 1099511627776 + b3 * 4294967296 + b4 * 16777216 + b5 * 65536 + b6 * 256 + b7), .int .u64 (b8 * 72057594037927936 + b9 * 281474976710656 + b10 * 1099511627776 + b11 * 4294967296 + b12 * 16777216 + b13 * 65536 + b14 * 256 + b15), .pointer (some a6)]] w fun e w' =>
      ∃ g, e = .returned (.slice (some ⟨g, 0, none⟩) 16 16) ∧ w.heap.size ≤ g ∧ Src w' (some ⟨g, 0, none⟩) [b0, b1, b2, b3, b4, b5, b6, b7, b8, b9, b10, b11, b12, b13, b14, b15] ∧ Below w.heap.size w w' := by
  have q0 := cold1 hz.z0
  have q4 := cold1 hz.z4
  have e0 := eql35_nil a6
  have e1 := fun o => eq33_other 9998 (w.alloc o) hz.ne
    (by obtain ⟨c, t, h⟩ := hz.b6; exact ⟨c, t, by rw [Below.heap_alloc _ _ _ (Array.getElem?_eq_some_iff.1 h).1]; exact h⟩)
    (by obtain ⟨c, t, h⟩ := hz.b4; exact ⟨c, t, by rw [Below.heap_alloc _ _ _ (Array.getElem?_eq_some_iff.1 h).1]; exact h⟩)
  obtain ⟨HI, hHI⟩ : ∃ HI, HI = b0 * 72057594037927936 + b1 * 281474976710656 + b2 * 1099511627776 + b3 * 4294967296 + b4 * 16777216 + b5 * 65536 + b6 * 256 + b7 := ⟨_, rfl⟩
  obtain ⟨LO, hLO⟩ : ∃ LO, LO = b8 * 72057594037927936 + b9 * 281474976710656 + b10 * 1099511627776 + b11 * 4294967296 + b12 * 16777216 + b13 * 65536 + b14 * 256 + b15 := ⟨_, rfl⟩
  rw [← hLO, ← hHI]
  have n0 : Hid (HI / 72057594037927936 = b0) := by show _ = _; omega
  have n1 : Hid (HI / 281474976710656 % 256 = b1) := by show _ = _; omega
  have n2 : Hid (HI / 1099511627776 % 256 = b2) := by show _ = _; omega
  have n3 : Hid (HI / 4294967296 % 256 = b3) := by show _ = _; omega
  have n4 : Hid (HI / 16777216 % 256 = b4) := by show _ = _; omega
  have n5 : Hid (HI / 65536 % 256 = b5) := by show _ = _; omega
  have n6 : Hid (HI / 256 % 256 = b6) := by show _ = _; omega
  have n7 : Hid (HI % 256 = b7) := by show _ = _; omega
  have n8 : Hid (LO / 72057594037927936 = b8) := by show _ = _; omega
  have n9 : Hid (LO / 281474976710656 % 256 = b9) := by show _ = _; omega
  have n10 : Hid (LO / 1099511627776 % 256 = b10) := by show _ = _; omega
  have n11 : Hid (LO / 4294967296 % 256 = b11) := by show _ = _; omega
  have n12 : Hid (LO / 16777216 % 256 = b12) := by show _ = _; omega
  have n13 : Hid (LO / 65536 % 256 = b13) := by show _ = _; omega
  have n14 : Hid (LO / 256 % 256 = b14) := by show _ = _; omega
  have n15 : Hid (LO % 256 = b15) := by show _ = _; omega
  have hH0 : 0 ≤ HI := by omega
  have hH1 : HI < 18446744073709551616 := by omega
  have hL0 : 0 ≤ LO := by omega
  have hL1 : LO < 18446744073709551616 := by omega
  clear hLO hHI hz
  go_enter Ybad.func18, Ybad.ntmps18
  go_wp2
  go_region_with (go_at_call 25; refine (put64be (w.heap.size + 1) 0 8 16 HI (by omega) (by omega) _ (by omega) (by go_simp) (by go_simp) (by go_simp) (by go_simp) (by go_simp) (by go_simp) (by go_simp) (by go_simp) (by go_simp) (by go_simp) (by go_simp) (by go_simp) (by go_simp) (by go_simp) (by go_simp) (by go_simp)).mono ?_; rintro e w1 ⟨rfl, rfl⟩)
  go_wp2
  go_region_with (go_at_call 25; refine (put64be (w.heap.size + 1) 8 8 8 LO (by omega) (by omega) _ (by omega) (by go_simp) (by go_simp) (by go_simp) (by go_simp) (by go_simp) (by go_simp) (by go_simp) (by go_simp) (by go_simp) (by go_simp) (by go_simp) (by go_simp) (by go_simp) (by go_simp) (by go_simp) (by go_simp)).mono ?_; rintro e w1 ⟨rfl, rfl⟩)
  go_wp2
  go_ret
  refine ⟨w.heap.size + 1, rfl, by omega, ?_, ?_⟩
  · refine src_lit (t := 24) (C := #[.int .u8 (HI / 72057594037927936), .int .u8 (HI / 281474976710656 % 256), .int .u8 (HI / 1099511627776 % 256), .int .u8 (HI / 4294967296 % 256), .int .u8 (HI / 16777216 % 256), .int .u8 (HI / 65536 % 256), .int .u8 (HI / 256 % 256), .int .u8 (HI % 256), .int .u8 (LO / 72057594037927936), .int .u8 (LO / 281474976710656 % 256), .int .u8 (LO / 1099511627776 % 256), .int .u8 (LO / 4294967296 % 256), .int .u8 (LO / 16777216 % 256), .int .u8 (LO / 65536 % 256), .int .u8 (LO / 256 % 256), .int .u8 (LO % 256)]) ?_ (by rw [n0.out, n1.out, n2.out, n3.out, n4.out, n5.out, n6.out, n7.out, n8.out, n9.out, n10.out, n11.out, n12.out, n13.out, n14.out, n15.out]; rfl) (by simp [k0, k1, k2, k3, k4, k5, k6, k7, k8, k9, k10, k11, k12, k13, k14, k15])
    exact second_new w _ _ _
  · repeat (first | exact Below.refl _ _ | refine Below.drew ?_ | refine below_drewN ?_ _ | refine Below.setCell ?_ (by simp) _ | refine Below.alloc ?_ (by simp) _)

theorem asSlice_any {a4 a6 : Addr} {v : Value} {zs : List Int} (hv : IsAddr a4 a6 v zs) (w : World) (hz : Zs w a4 a6) :
    Calls Ybad.prog 18 #[v] w fun e w' => ∃ g, e = .returned (.slice (some ⟨g, 0, none⟩) zs.length zs.length) ∧ w.heap.size ≤ g ∧ Src w' (some ⟨g, 0, none⟩) zs ∧ zs.length ≤ 16 ∧ Below w.heap.size w w' := by
  rcases hv with ⟨b0, b1, b2, b3, k0, k1, k2, k3, rfl, rfl⟩ | ⟨b0, b1, b2, b3, b4, b5, b6, b7, b8, b9, b10, b11, b12, b13, b14, b15, k0, k1, k2, k3, k4, k5, k6, k7, k8, k9, k10, k11, k12, k13, k14, k15, rfl, rfl⟩
  · refine (asSlice4 b0 b1 b2 b3 k0 k1 k2 k3 a4 w hz.z0 hz.z4).mono ?_
    rintro e w' ⟨g, rfl, h1, h2, h3⟩
    exact ⟨g, rfl, h1, h2, by simp, h3⟩
  · refine (asSlice16 b0 b1 b2 b3 b4 b5 b6 b7 b8 b9 b10 b11 b12 b13 b14 b15 k0 k1 k2 k3 k4 k5 k6 k7 k8 k9 k10 k11 k12 k13 k14 k15 a4 a6 w hz).mono ?_
    rintro e w' ⟨g, rfl, h1, h2, h3⟩
    exact ⟨g, rfl, h1, h2, by simp, h3⟩
end Go.Proofs.YbulkacxcDoor
