import Derived.Test.YbulkacxcDoorLaid
import Derived.Test.YbulkacxcDoorEq
import Derived.WalkKit
import Derived.RegionTactic
import Derived.Deep.RegionWith
import Derived.WalkSpells
import Derived.Outline
import Derived.Deep.QuietTactic
import Derived.BigQuiet
import Derived.Lib.EndianBits
namespace Go.Proofs.YbulkacxcDoor
open Go.RowKit

theorem cold1 {w : World} {a : Addr} {v : Value} (h : w.cell? a = some v) (o : Obj) : (w.alloc o).cell? a = some v :=
  (World.cell?_of_block (Below.heap_alloc w o a.block (World.block_lt_of_cell? _ _ h))).trans h
theorem cold2 {w : World} {a : Addr} {v : Value} (h : w.cell? a = some v) (o o2 : Obj) : ((w.alloc o).alloc o2).cell? a = some v := cold1 (cold1 h o) o2

theorem or_hi (i : Nat) (x y : Int) (hx₀ : 0 ≤ x) (hx : x % 2 ^ i = 0) (hx₁ : x < 2 ^ 64) (hy₀ : 0 ≤ y) (hy : y < 2 ^ i) (hy₁ : y < 2 ^ 64) : bits .or .u64 x y = x + y :=
  bits_join .u64 64 (by decide) wraps_u64 i x y hx₀ hx hx₁ hy₀ hy hy₁

theorem lo4 (b0 b1 b2 b3 : Int) (h0 : 0 ≤ b0 ∧ b0 ≤ 255) (h1 : 0 ≤ b1 ∧ b1 ≤ 255) (h2 : 0 ≤ b2 ∧ b2 ≤ 255) (h3 : 0 ≤ b3 ∧ b3 ≤ 255) :
    bits BinOp.or IntKind.u64 (bits BinOp.or IntKind.u64 (bits BinOp.or IntKind.u64 (bits BinOp.or IntKind.u64 281470681743360 (b0 * 16777216)) (b1 * 65536)) (b2 * 256)) b3 = 281470681743360 + b0 * 16777216 + b1 * 65536 + b2 * 256 + b3 := by
  rw [or_hi 32 281470681743360 (b0 * 16777216) (by omega) (by omega) (by omega) (by omega) (by omega) (by omega),
    or_hi 24 _ (b1 * 65536) (by omega) (by omega) (by omega) (by omega) (by omega) (by omega),
    or_hi 16 _ (b2 * 256) (by omega) (by omega) (by omega) (by omega) (by omega) (by omega),
    or_hi 8 _ b3 (by omega) (by omega) (by omega) (by omega) (by omega) (by omega)]

set_option maxHeartbeats 400000 in
set_option maxRecDepth 100000 in
theorem addr4 (b0 b1 b2 b3 : Int) (h0 : 0 ≤ b0 ∧ b0 ≤ 255) (h1 : 0 ≤ b1 ∧ b1 ≤ 255) (h2 : 0 ≤ b2 ∧ b2 ≤ 255) (h3 : 0 ≤ b3 ∧ b3 ≤ 255) (a4 : Addr) (w : World) (hz4 : w.cell? ⟨2, 0, none⟩ = some (.pointer (some a4))) :
    Calls Ybad.prog 21 #[.agg #[.int .u8 b0, .int .u8 b1, .int .u8 b2, .int .u8 b3]] w fun e w' =>
      e = .returned (.agg #[.int .u64 0, .int .u64 (281470681743360 + b0 * 16777216 + b1 * 65536 + b2 * 256 + b3), .pointer (some a4)]) ∧ Below w.heap.size w w' := by
  have hz := cold2 hz4
  go_enter Ybad.func21, Ybad.ntmps21
  go_wp2
  rw [lo4 b0 b1 b2 b3 h0 h1 h2 h3]
  exact bodyPost_ret (v := .agg #[.int .u64 0, .int .u64 (281470681743360 + b0 * 16777216 + b1 * 65536 + b2 * 256 + b3), .pointer (some a4)]) (by simp [results, Ybad.results21, go_sem]) rfl
    ⟨rfl, ((Below.refl _ w).alloc (Nat.le_refl _) _).alloc (by simp) _⟩

set_option maxRecDepth 100000 in
theorem isZero4 (lo : Int) (a4 : Addr) (w : World) (hz0 : w.cell? ⟨1, 0, none⟩ = some (.pointer none)) :
    Calls Ybad.prog 27 #[.agg #[.int .u64 0, .int .u64 lo, .pointer (some a4)]] w fun e w' => e = .returned (.bool false) ∧ Below w.heap.size w w' := by
  have hz := cold1 hz0
  have q := eql35_nil a4
  go_enter Ybad.func27, Ybad.ntmps27
  go_wp2
  go_ret
  exact ⟨rfl, (Below.refl _ w).alloc (Nat.le_refl _) _⟩

set_option maxRecDepth 100000 in
theorem bitLen4 (lo : Int) (a4 : Addr) (w : World) (hz0 : w.cell? ⟨1, 0, none⟩ = some (.pointer none)) (hz4 : w.cell? ⟨2, 0, none⟩ = some (.pointer (some a4))) :
    Calls Ybad.prog 28 #[.agg #[.int .u64 0, .int .u64 lo, .pointer (some a4)]] w fun e w' => e = .returned (.int .i64 32) ∧ Below w.heap.size w w' := by
  have hz := cold1 hz0
  have hy := cold1 hz4
  have q := eql35_nil a4
  have q2 := eql35_same a4
  go_enter Ybad.func28, Ybad.ntmps28
  go_wp2
  go_ret
  exact ⟨rfl, (Below.refl _ w).alloc (Nat.le_refl _) _⟩

set_option maxRecDepth 100000 in
theorem is6_4 (lo : Int) (a4 : Addr) (w : World) (hz0 : w.cell? ⟨1, 0, none⟩ = some (.pointer none)) (hz4 : w.cell? ⟨2, 0, none⟩ = some (.pointer (some a4))) :
    Calls Ybad.prog 30 #[.agg #[.int .u64 0, .int .u64 lo, .pointer (some a4)]] w fun e w' => e = .returned (.bool false) ∧ Below w.heap.size w w' := by
  have hz := cold1 hz0
  have hy := cold1 hz4
  have q := neq35_nil a4
  have q2 := neq35_same a4
  go_enter Ybad.func30, Ybad.ntmps30
  go_wp2
  go_ret
  exact ⟨rfl, (Below.refl _ w).alloc (Nat.le_refl _) _⟩

theorem bcell {W w1 : World} (hb : Below W.heap.size W w1) : (∀ b o, b < W.heap.size → w1.cell? ⟨b, o, none⟩ = W.cell? ⟨b, o, none⟩) ∧ (∀ b o, b < W.heap.size → w1.frozen? ⟨b, o, none⟩ = W.frozen? ⟨b, o, none⟩) :=
  ⟨fun b o h => hb.cell (p := ⟨b, o, none⟩) h, fun b o h => hb.frozen (p := ⟨b, o, none⟩) h⟩

set_option maxHeartbeats 800000 in
set_option maxRecDepth 100000 in
theorem withoutZone4 (lo : Int) (a4 : Addr) (w : World) (hz0 : w.cell? ⟨1, 0, none⟩ = some (.pointer none)) (hz4 : w.cell? ⟨2, 0, none⟩ = some (.pointer (some a4))) :
    Calls Ybad.prog 29 #[.agg #[.int .u64 0, .int .u64 lo, .pointer (some a4)]] w fun e w' => e = .returned (.agg #[.int .u64 0, .int .u64 lo, .pointer (some a4)]) ∧ Below w.heap.size w w' := by
  have hz := cold2 hz0
  have hy := cold2 hz4
  go_enter Ybad.func29, Ybad.ntmps29
  go_wp2_with (go_at_call 30; refine (is6_4 lo a4 _ (hz _ _) (hy _ _)).mono ?_; rintro e w1 ⟨rfl, hb⟩; obtain ⟨hc, hf⟩ := bcell hb; have hs := hb.size; simp only [World.size_alloc] at hs)
  exact bodyPost_ret (v := .agg #[.int .u64 0, .int .u64 lo, .pointer (some a4)]) (by simp [results, Ybad.results29, go_sem, hc]) rfl
    ⟨rfl, ((((((Below.refl _ w).alloc (Nat.le_refl _) _).alloc (by simp) _).trans (hb.mono (by simp; omega))).setCell (by simp) _).setCell (by simp) _).setCell (by simp) _⟩

set_option maxHeartbeats 800000 in
set_option maxRecDepth 100000 in
theorem prefixFrom (lo n : Int) (hn0 : 0 ≤ n) (hn : n ≤ 32) (a4 : Addr) (w : World) (hz0 : w.cell? ⟨1, 0, none⟩ = some (.pointer none)) (hz4 : w.cell? ⟨2, 0, none⟩ = some (.pointer (some a4))) :
    Calls Ybad.prog 22 #[.agg #[.int .u64 0, .int .u64 lo, .pointer (some a4)], .int .i64 n] w fun e w' =>
      e = .returned (.agg #[.int .u64 0, .int .u64 lo, .pointer (some a4), .int .u8 (n + 1)]) ∧ Below w.heap.size w w' := by
  have hz := cold2 hz0
  have hy := cold2 hz4
  go_enter Ybad.func22, Ybad.ntmps22
  go_wp2_with fail
  refine (isZero4 lo a4 _ (hz _ _)).mono ?_
  rintro e w1 ⟨rfl, hb⟩
  obtain ⟨hc, hf⟩ := bcell hb
  have hs := hb.size
  simp only [World.size_alloc] at hs
  have z0 : w1.cell? ⟨1, 0, none⟩ = some (.pointer none) := cell_later hb (hz _ _)
  have z4 : w1.cell? ⟨2, 0, none⟩ = some (.pointer (some a4)) := cell_later hb (hy _ _)
  go_wp2_with fail
  refine (bitLen4 lo a4 _ z0 z4).mono ?_
  rintro e w2 ⟨rfl, hb2⟩
  have hB : Below (w.heap.size + 2) w1 w2 := hb2.mono hs
  have z0' : w2.cell? ⟨1, 0, none⟩ = some (.pointer none) := cell_later hb2 z0
  have z4' : w2.cell? ⟨2, 0, none⟩ = some (.pointer (some a4)) := cell_later hb2 z4
  have hc2 : ∀ b o, b < w.heap.size + 2 → w2.cell? ⟨b, o, none⟩ = w1.cell? ⟨b, o, none⟩ := fun b o h => hB.cell (p := ⟨b, o, none⟩) h
  have hf2 : ∀ b o, b < w.heap.size + 2 → w2.frozen? ⟨b, o, none⟩ = w1.frozen? ⟨b, o, none⟩ := fun b o h => hB.frozen (p := ⟨b, o, none⟩) h
  go_wp2_with fail
  refine (withoutZone4 lo a4 _ z0' z4').mono ?_
  rintro e w3 ⟨rfl, hb3⟩
  have hs2 := hb2.size
  have hB3 : Below (w.heap.size + 2) w2 w3 := hb3.mono (by omega)
  have hc3 : ∀ b o, b < w.heap.size + 2 → w3.cell? ⟨b, o, none⟩ = w2.cell? ⟨b, o, none⟩ := fun b o h => hB3.cell (p := ⟨b, o, none⟩) h
  have hf3 : ∀ b o, b < w.heap.size + 2 → w3.frozen? ⟨b, o, none⟩ = w2.frozen? ⟨b, o, none⟩ := fun b o h => hB3.frozen (p := ⟨b, o, none⟩) h
  go_wp2
  have b1 : Below w.heap.size w w3 := ((((Below.refl _ w).alloc (Nat.le_refl _) _).alloc (by simp) _).trans (hb.mono (by simp; omega))).trans ((hB.mono (by omega)).trans (hB3.mono (by omega)))
  exact bodyPost_ret (v := .agg #[.int .u64 0, .int .u64 lo, .pointer (some a4), .int .u8 (n + 1)]) (by simp [results, Ybad.results22, go_sem, hc, hc2, hc3]) rfl
    ⟨rfl, (((b1.setCell (by simp) _).setCell (by simp) _).setCell (by simp) _).setCell (by simp) _⟩

set_option maxHeartbeats 800000 in
set_option maxRecDepth 100000 in
theorem pfx_any (x : Int) (hx0 : 0 ≤ x) (hx1 : x ≤ 255) (a4 : Addr) (w : World) (hz0 : w.cell? ⟨1, 0, none⟩ = some (.pointer none)) (hz4 : w.cell? ⟨2, 0, none⟩ = some (.pointer (some a4))) :
    Calls Ybad.prog 14 #[.int .u8 x] w fun e w' =>
      e = .returned (.agg #[.int .u64 0, .int .u64 (281470681743360 + x * 16777216), .pointer (some a4), .int .u8 (x % 33 + 1)]) ∧ Below w.heap.size w w' := by
  have hz := cold1 hz0
  have hy := cold1 hz4
  go_enter Ybad.func14, Ybad.ntmps14
  go_wp2_with fail
  refine (addr4 x 0 0 0 ⟨hx0, hx1⟩ ⟨by omega, by omega⟩ ⟨by omega, by omega⟩ ⟨by omega, by omega⟩ a4 _ (hy _)).mono ?_
  rintro e w1 ⟨rfl, hb⟩
  rw [show 281470681743360 + x * 16777216 + 0 * 65536 + 0 * 256 + 0 = 281470681743360 + x * 16777216 from by omega]
  obtain ⟨hc, hf⟩ := bcell hb
  have hs := hb.size
  simp only [World.size_alloc] at hs
  have z0 : w1.cell? ⟨1, 0, none⟩ = some (.pointer none) := cell_later hb (hz _)
  have z4 : w1.cell? ⟨2, 0, none⟩ = some (.pointer (some a4)) := cell_later hb (hy _)
  go_wp2_with fail
  refine (prefixFrom (281470681743360 + x * 16777216) (x % 33) (by omega) (by omega) a4 _ z0 z4).mono ?_
  rintro e w2 ⟨rfl, hb2⟩
  have hB : Below (w.heap.size + 1) w1 w2 := hb2.mono hs
  have hc2 : ∀ b o, b < w.heap.size + 1 → w2.cell? ⟨b, o, none⟩ = w1.cell? ⟨b, o, none⟩ := fun b o h => hB.cell (p := ⟨b, o, none⟩) h
  have hf2 : ∀ b o, b < w.heap.size + 1 → w2.frozen? ⟨b, o, none⟩ = w1.frozen? ⟨b, o, none⟩ := fun b o h => hB.frozen (p := ⟨b, o, none⟩) h
  go_wp2
  have b1 : Below w.heap.size w w2 := (((Below.refl _ w).alloc (Nat.le_refl _) _).trans (hb.mono (by simp))).trans (hB.mono (by omega))
  exact bodyPost_ret (v := .agg #[.int .u64 0, .int .u64 (281470681743360 + x * 16777216), .pointer (some a4), .int .u8 (x % 33 + 1)]) (by simp [results, Ybad.results14, go_sem, hc, hc2]) rfl
    ⟨rfl, (((b1.setCell (by simp) _).setCell (by simp) _).setCell (by simp) _).setCell (by simp) _⟩
end Go.Proofs.YbulkacxcDoor
