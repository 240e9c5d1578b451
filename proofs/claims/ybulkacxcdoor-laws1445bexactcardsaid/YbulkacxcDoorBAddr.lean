import Derived.Test.YbulkacxcDoorBBytes
namespace Go.Proofs.YbulkacxcDoor
open Go.RowKit

set_option maxHeartbeats 1600000 in
set_option maxRecDepth 100000 in
theorem addr16 (b0 b1 b2 b3 b4 b5 b6 b7 b8 b9 b10 b11 b12 b13 b14 b15 : Int) (k0 : 0 ≤ b0 ∧ b0 ≤ 255) (k1 : 0 ≤ b1 ∧ b1 ≤ 255) (k2 : 0 ≤ b2 ∧ b2 ≤ 255) (k3 : 0 ≤ b3 ∧ b3 ≤ 255) (k4 : 0 ≤ b4 ∧ b4 ≤ 255) (k5 : 0 ≤ b5 ∧ b5 ≤ 255) (k6 : 0 ≤ b6 ∧ b6 ≤ 255) (k7 : 0 ≤ b7 ∧ b7 ≤ 255) (k8 : 0 ≤ b8 ∧ b8 ≤ 255) (k9 : 0 ≤ b9 ∧ b9 ≤ 255) (k10 : 0 ≤ b10 ∧ b10 ≤ 255) (k11 : 0 ≤ b11 ∧ b11 ≤ 255) (k12 : 0 ≤ b12 ∧ b12 ≤ 255) (k13 : 0 ≤ b13 ∧ b13 ≤ 255) (k14 : 0 ≤ b14 ∧ b14 ≤ 255) (k15 : 0 ≤ b15 ∧ b15 ≤ 255) (a6 : Addr) (w : World) (hz6 : w.cell? ⟨3, 0, none⟩ = some (.pointer (some a6))) :
    Calls Ybad.prog 20 #[.agg #[.int .u8 b0, .int .u8 b1, .int .u8 b2, .int .u8 b3, .int .u8 b4, .int .u8 b5, .int .u8 b6, .int .u8 b7, .int .u8 b8, .int .u8 b9, .int .u8 b10, .int .u8 b11, .int .u8 b12, .int .u8 b13, .int .u8 b14, .int .u8 b15]] w fun e w' =>
      e = .returned (.agg #[.int .u64 (b0 * 72057594037927936 + b1 * 281474976710656 + b2 * 1099511627776 + b3 * 4294967296 + b4 * 16777216 + b5 * 65536 + b6 * 256 + b7), .int .u64 (b8 * 72057594037927936 + b9 * 281474976710656 + b10 * 1099511627776 + b11 * 4294967296 + b12 * 16777216 + b13 * 65536 + b14 * 256 + b15), .pointer (some a6)]) ∧ Below w.heap.size w w' := by
  have hz := cold2 hz6
  go_enter Ybad.func20, Ybad.ntmps20
  go_wp2
  go_region_with (first | (go_at_call_of 26 (Value.slice (some (⟨w.heap.size, 0, none⟩ : Addr)) 8 16); refine (uint64_any w.heap.size 0 8 16 b0 b1 b2 b3 b4 b5 b6 b7 k0 k1 k2 k3 k4 k5 k6 k7 (by omega) _ (by go_simp) (by go_simp) (by go_simp) (by go_simp) (by go_simp) (by go_simp) (by go_simp) (by go_simp)).mono ?_; rintro e w1 ⟨rfl, m1, rfl⟩) | (go_at_call_of 26 (Value.slice (some (⟨w.heap.size, 8, none⟩ : Addr)) 8 8); refine (uint64_any w.heap.size 8 8 8 b8 b9 b10 b11 b12 b13 b14 b15 k8 k9 k10 k11 k12 k13 k14 k15 (by omega) _ (by go_simp) (by go_simp) (by go_simp) (by go_simp) (by go_simp) (by go_simp) (by go_simp) (by go_simp)).mono ?_; rintro e w1 ⟨rfl, m1, rfl⟩))
  all_goals go_wp2
  all_goals exact bodyPost_ret (v := .agg #[.int .u64 (b0 * 72057594037927936 + b1 * 281474976710656 + b2 * 1099511627776 + b3 * 4294967296 + b4 * 16777216 + b5 * 65536 + b6 * 256 + b7), .int .u64 (b8 * 72057594037927936 + b9 * 281474976710656 + b10 * 1099511627776 + b11 * 4294967296 + b12 * 16777216 + b13 * 65536 + b14 * 256 + b15), .pointer (some a6)]) (by simp [results, Ybad.results20, go_sem]) rfl ⟨rfl, by repeat (first | exact Below.refl _ _ | refine Below.drew ?_ | refine below_drewN ?_ _ | refine Below.setCell ?_ (by simp) _ | refine Below.alloc ?_ (by simp) _)⟩

/-- The value of a netip.Addr whose bytes are zs. -/
def IsAddr (a4 a6 : Addr) (v : Value) (zs : List Int) : Prop :=
  (∃ b0 b1 b2 b3 : Int, (0 ≤ b0 ∧ b0 ≤ 255) ∧ (0 ≤ b1 ∧ b1 ≤ 255) ∧ (0 ≤ b2 ∧ b2 ≤ 255) ∧ (0 ≤ b3 ∧ b3 ≤ 255) ∧ zs = [b0, b1, b2, b3] ∧
    v = .agg #[.int .u64 0, .int .u64 (281470681743360 + b0 * 16777216 + b1 * 65536 + b2 * 256 + b3), .pointer (some a4)]) ∨
  (∃ b0 b1 b2 b3 b4 b5 b6 b7 b8 b9 b10 b11 b12 b13 b14 b15 : Int, (0 ≤ b0 ∧ b0 ≤ 255) ∧ (0 ≤ b1 ∧ b1 ≤ 255) ∧ (0 ≤ b2 ∧ b2 ≤ 255) ∧ (0 ≤ b3 ∧ b3 ≤ 255) ∧ (0 ≤ b4 ∧ b4 ≤ 255) ∧ (0 ≤ b5 ∧ b5 ≤ 255) ∧ (0 ≤ b6 ∧ b6 ≤ 255) ∧ (0 ≤ b7 ∧ b7 ≤ 255) ∧ (0 ≤ b8 ∧ b8 ≤ 255) ∧ (0 ≤ b9 ∧ b9 ≤ 255) ∧ (0 ≤ b10 ∧ b10 ≤ 255) ∧ (0 ≤ b11 ∧ b11 ≤ 255) ∧ (0 ≤ b12 ∧ b12 ≤ 255) ∧ (0 ≤ b13 ∧ b13 ≤ 255) ∧ (0 ≤ b14 ∧ b14 ≤ 255) ∧ (0 ≤ b15 ∧ b15 ≤ 255) ∧ zs = [b0, b1, b2, b3, b4, b5, b6, b7, b8, b9, b10, b11, b12, b13, b14, b15] ∧
    v = .agg #[.int .u64 (b0 * 72057594037927936 + b1 * 281474976710656 + b2 * 1099511627776 + b3 * 4294967296 + b4 * 16777216 + b5 * 65536 + b6 * 256 + b7), .int .u64 (b8 * 72057594037927936 + b9 * 281474976710656 + b10 * 1099511627776 + b11 * 4294967296 + b12 * 16777216 + b13 * 65536 + b14 * 256 + b15), .pointer (some a6)])

set_option maxHeartbeats 1600000 in
set_option maxRecDepth 100000 in
theorem baddr_any (v6 : Bool) (c0 c1 c2 c3 : Int) (l0 : 0 ≤ c0 ∧ c0 ≤ 255) (l1 : 0 ≤ c1 ∧ c1 ≤ 255) (l2 : 0 ≤ c2 ∧ c2 ≤ 255) (l3 : 0 ≤ c3 ∧ c3 ≤ 255) (b0 b1 b2 b3 b4 b5 b6 b7 b8 b9 b10 b11 b12 b13 b14 b15 : Int) (k0 : 0 ≤ b0 ∧ b0 ≤ 255) (k1 : 0 ≤ b1 ∧ b1 ≤ 255) (k2 : 0 ≤ b2 ∧ b2 ≤ 255) (k3 : 0 ≤ b3 ∧ b3 ≤ 255) (k4 : 0 ≤ b4 ∧ b4 ≤ 255) (k5 : 0 ≤ b5 ∧ b5 ≤ 255) (k6 : 0 ≤ b6 ∧ b6 ≤ 255) (k7 : 0 ≤ b7 ∧ b7 ≤ 255) (k8 : 0 ≤ b8 ∧ b8 ≤ 255) (k9 : 0 ≤ b9 ∧ b9 ≤ 255) (k10 : 0 ≤ b10 ∧ b10 ≤ 255) (k11 : 0 ≤ b11 ∧ b11 ≤ 255) (k12 : 0 ≤ b12 ∧ b12 ≤ 255) (k13 : 0 ≤ b13 ∧ b13 ≤ 255) (k14 : 0 ≤ b14 ∧ b14 ≤ 255) (k15 : 0 ≤ b15 ∧ b15 ≤ 255) (a4 a6 : Addr) (w : World) (hz4 : w.cell? ⟨2, 0, none⟩ = some (.pointer (some a4))) (hz6 : w.cell? ⟨3, 0, none⟩ = some (.pointer (some a6))) :
    Calls Ybad.prog 11 #[.bool v6, .agg #[.int .u8 c0, .int .u8 c1, .int .u8 c2, .int .u8 c3], .agg #[.int .u8 b0, .int .u8 b1, .int .u8 b2, .int .u8 b3, .int .u8 b4, .int .u8 b5, .int .u8 b6, .int .u8 b7, .int .u8 b8, .int .u8 b9, .int .u8 b10, .int .u8 b11, .int .u8 b12, .int .u8 b13, .int .u8 b14, .int .u8 b15]] w fun e w' =>
      ∃ v, e = .returned v ∧ IsAddr a4 a6 v (if v6 then [b0, b1, b2, b3, b4, b5, b6, b7, b8, b9, b10, b11, b12, b13, b14, b15] else [c0, c1, c2, c3]) ∧ Below w.heap.size w w' := by
  have q4 := fun o1 o2 o3 => cold1 (cold2 hz4 o1 o2) o3
  have q6 := fun o1 o2 o3 => cold1 (cold2 hz6 o1 o2) o3
  cases v6 with
  | true =>
    go_enter Ybad.func11, Ybad.ntmps11
    go_wp2_with fail
    refine (addr16 b0 b1 b2 b3 b4 b5 b6 b7 b8 b9 b10 b11 b12 b13 b14 b15 k0 k1 k2 k3 k4 k5 k6 k7 k8 k9 k10 k11 k12 k13 k14 k15 a6 _ (q6 _ _ _)).mono ?_
    rintro e w1 ⟨rfl, hb⟩
    obtain ⟨hc, hf⟩ := bcell hb
    have hs := hb.size
    simp only [World.size_alloc] at hs
    have b1w : Below w.heap.size w w1 := ((((Below.refl _ w).alloc (Nat.le_refl _) _).alloc (by simp) _).alloc (by simp; omega) _).trans (hb.mono (by simp; omega))
    generalize hH : b0 * 72057594037927936 + b1 * 281474976710656 + b2 * 1099511627776 + b3 * 4294967296 + b4 * 16777216 + b5 * 65536 + b6 * 256 + b7 = HI
    generalize hL : b8 * 72057594037927936 + b9 * 281474976710656 + b10 * 1099511627776 + b11 * 4294967296 + b12 * 16777216 + b13 * 65536 + b14 * 256 + b15 = LO
    have KH := Hid.out (p := _ = HI) hH
    have KL := Hid.out (p := _ = LO) hL
    have PH : Hid (IsAddr a4 a6 (.agg #[.int .u64 HI, .int .u64 LO, .pointer (some a6)]) [b0, b1, b2, b3, b4, b5, b6, b7, b8, b9, b10, b11, b12, b13, b14, b15]) := Or.inr ⟨b0, b1, b2, b3, b4, b5, b6, b7, b8, b9, b10, b11, b12, b13, b14, b15, k0, k1, k2, k3, k4, k5, k6, k7, k8, k9, k10, k11, k12, k13, k14, k15, rfl, by rw [KH, KL]⟩
    clear hH hL KH KL k0 k1 k2 k3 k4 k5 k6 k7 k8 k9 k10 k11 k12 k13 k14 k15 l0 l1 l2 l3
    go_wp2
    exact bodyPost_ret (v := .agg #[.int .u64 HI, .int .u64 LO, .pointer (some a6)]) (by simp [results, Ybad.results11, go_sem, hc]) rfl ⟨_, rfl, PH.out, by repeat (first | exact b1w | refine Below.setCell ?_ (by simp; omega) _)⟩
  | false =>
    go_enter Ybad.func11, Ybad.ntmps11
    go_wp2_with fail
    refine (addr4 c0 c1 c2 c3 l0 l1 l2 l3 a4 _ (q4 _ _ _)).mono ?_
    rintro e w1 ⟨rfl, hb⟩
    obtain ⟨hc, hf⟩ := bcell hb
    have hs := hb.size
    simp only [World.size_alloc] at hs
    have b1w : Below w.heap.size w w1 := ((((Below.refl _ w).alloc (Nat.le_refl _) _).alloc (by simp) _).alloc (by simp; omega) _).trans (hb.mono (by simp; omega))
    generalize hL : 281470681743360 + c0 * 16777216 + c1 * 65536 + c2 * 256 + c3 = LO
    have PH : Hid (IsAddr a4 a6 (.agg #[.int .u64 0, .int .u64 LO, .pointer (some a4)]) [c0, c1, c2, c3]) := Or.inl ⟨c0, c1, c2, c3, l0, l1, l2, l3, rfl, by rw [hL]⟩
    clear hL k0 k1 k2 k3 k4 k5 k6 k7 k8 k9 k10 k11 k12 k13 k14 k15 l0 l1 l2 l3
    go_wp2
    exact bodyPost_ret (v := .agg #[.int .u64 0, .int .u64 LO, .pointer (some a4)]) (by simp [results, Ybad.results11, go_sem, hc]) rfl ⟨_, rfl, PH.out, by repeat (first | exact b1w | refine Below.setCell ?_ (by simp; omega) _)⟩
end Go.Proofs.YbulkacxcDoor
