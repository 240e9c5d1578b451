import Derived.Test.YbulkacxcDoorBOwn
namespace Go.Proofs.YbulkacxcDoor
open Go.RowKit

/-- An array of four, of sixteen bytes, and its numbers. -/
def IsB4 (X : Array Value) (l : List Int) : Prop := ∃ c0 c1 c2 c3 : Int, (0 ≤ c0 ∧ c0 ≤ 255) ∧ (0 ≤ c1 ∧ c1 ≤ 255) ∧ (0 ≤ c2 ∧ c2 ≤ 255) ∧ (0 ≤ c3 ∧ c3 ≤ 255) ∧ X = #[.int .u8 c0, .int .u8 c1, .int .u8 c2, .int .u8 c3] ∧ l = [c0, c1, c2, c3]
def IsB16 (X : Array Value) (l : List Int) : Prop := ∃ b0 b1 b2 b3 b4 b5 b6 b7 b8 b9 b10 b11 b12 b13 b14 b15 : Int, (0 ≤ b0 ∧ b0 ≤ 255) ∧ (0 ≤ b1 ∧ b1 ≤ 255) ∧ (0 ≤ b2 ∧ b2 ≤ 255) ∧ (0 ≤ b3 ∧ b3 ≤ 255) ∧ (0 ≤ b4 ∧ b4 ≤ 255) ∧ (0 ≤ b5 ∧ b5 ≤ 255) ∧ (0 ≤ b6 ∧ b6 ≤ 255) ∧ (0 ≤ b7 ∧ b7 ≤ 255) ∧ (0 ≤ b8 ∧ b8 ≤ 255) ∧ (0 ≤ b9 ∧ b9 ≤ 255) ∧ (0 ≤ b10 ∧ b10 ≤ 255) ∧ (0 ≤ b11 ∧ b11 ≤ 255) ∧ (0 ≤ b12 ∧ b12 ≤ 255) ∧ (0 ≤ b13 ∧ b13 ≤ 255) ∧ (0 ≤ b14 ∧ b14 ≤ 255) ∧ (0 ≤ b15 ∧ b15 ≤ 255) ∧ X = #[.int .u8 b0, .int .u8 b1, .int .u8 b2, .int .u8 b3, .int .u8 b4, .int .u8 b5, .int .u8 b6, .int .u8 b7, .int .u8 b8, .int .u8 b9, .int .u8 b10, .int .u8 b11, .int .u8 b12, .int .u8 b13, .int .u8 b14, .int .u8 b15] ∧ l = [b0, b1, b2, b3, b4, b5, b6, b7, b8, b9, b10, b11, b12, b13, b14, b15]

theorem IsB4.len {X : Array Value} {l : List Int} (h : IsB4 X l) : l.length = 4 := by obtain ⟨c0, c1, c2, c3, _, _, _, _, _, rfl⟩ := h; rfl
theorem IsB16.len {X : Array Value} {l : List Int} (h : IsB16 X l) : l.length = 16 := by obtain ⟨b0, b1, b2, b3, b4, b5, b6, b7, b8, b9, b10, b11, b12, b13, b14, b15, _, _, _, _, _, _, _, _, _, _, _, _, _, _, _, _, _, rfl⟩ := h; rfl

theorem baddrP (v6 : Bool) {X4 X16 : Array Value} {l4 l16 : List Int} (h4 : IsB4 X4 l4) (h16 : IsB16 X16 l16) (a4 a6 : Addr) (w : World) (hz : Zs w a4 a6) :
    Calls Ybad.prog 11 #[.bool v6, .agg X4, .agg X16] w fun e w' => ∃ v, e = .returned v ∧ IsAddr a4 a6 v (if v6 then l16 else l4) ∧ Below w.heap.size w w' := by
  obtain ⟨c0, c1, c2, c3, l0, l1, l2, l3, rfl, rfl⟩ := h4
  obtain ⟨b0, b1, b2, b3, b4, b5, b6, b7, b8, b9, b10, b11, b12, b13, b14, b15, k0, k1, k2, k3, k4, k5, k6, k7, k8, k9, k10, k11, k12, k13, k14, k15, rfl, rfl⟩ := h16
  exact baddr_any v6 c0 c1 c2 c3 l0 l1 l2 l3 b0 b1 b2 b3 b4 b5 b6 b7 b8 b9 b10 b11 b12 b13 b14 b15 k0 k1 k2 k3 k4 k5 k6 k7 k8 k9 k10 k11 k12 k13 k14 k15 a4 a6 w hz.z4 hz.z6

theorem bytesP (v6 : Bool) {X4 X16 : Array Value} {l4 l16 : List Int} (h4 : IsB4 X4 l4) (h16 : IsB16 X16 l16) (w : World) :
    Calls Ybad.prog 15 #[.bool v6, .agg X4, .agg X16] w fun e w' => ∃ g, e = .returned (.slice (some ⟨g, 0, none⟩) (if v6 then l16 else l4).length (if v6 then l16 else l4).length) ∧ Src w' (some ⟨g, 0, none⟩) (if v6 then l16 else l4) ∧ Below w.heap.size w w' := by
  obtain ⟨c0, c1, c2, c3, l0, l1, l2, l3, rfl, rfl⟩ := h4
  obtain ⟨b0, b1, b2, b3, b4, b5, b6, b7, b8, b9, b10, b11, b12, b13, b14, b15, k0, k1, k2, k3, k4, k5, k6, k7, k8, k9, k10, k11, k12, k13, k14, k15, rfl, rfl⟩ := h16
  exact bytes_any v6 c0 c1 c2 c3 l0 l1 l2 l3 b0 b1 b2 b3 b4 b5 b6 b7 b8 b9 b10 b11 b12 b13 b14 b15 k0 k1 k2 k3 k4 k5 k6 k7 k8 k9 k10 k11 k12 k13 k14 k15 w

theorem IsB4.lit {X : Array Value} {l : List Int} (h : IsB4 X l) : ∃ c0 c1 c2 c3 : Int, X = #[.int .u8 c0, .int .u8 c1, .int .u8 c2, .int .u8 c3] := by
  obtain ⟨c0, c1, c2, c3, _, _, _, _, h, _⟩ := h; exact ⟨c0, c1, c2, c3, h⟩
theorem IsB16.lit {X : Array Value} {l : List Int} (h : IsB16 X l) : ∃ b0 b1 b2 b3 b4 b5 b6 b7 b8 b9 b10 b11 b12 b13 b14 b15 : Int, X = #[.int .u8 b0, .int .u8 b1, .int .u8 b2, .int .u8 b3, .int .u8 b4, .int .u8 b5, .int .u8 b6, .int .u8 b7, .int .u8 b8, .int .u8 b9, .int .u8 b10, .int .u8 b11, .int .u8 b12, .int .u8 b13, .int .u8 b14, .int .u8 b15] := by
  obtain ⟨b0, b1, b2, b3, b4, b5, b6, b7, b8, b9, b10, b11, b12, b13, b14, b15, _, _, _, _, _, _, _, _, _, _, _, _, _, _, _, _, h, _⟩ := h; exact ⟨b0, b1, b2, b3, b4, b5, b6, b7, b8, b9, b10, b11, b12, b13, b14, b15, h⟩

set_option maxHeartbeats 1600000 in
set_option maxRecDepth 100000 in
theorem pseudo_any (v6 : Bool) {X4 Y4 X16 Y16 : Array Value} {s4 d4 s16 d16 : List Int} (h1 : IsB4 X4 s4) (h2 : IsB4 Y4 d4) (h3 : IsB16 X16 s16) (h4 : IsB16 Y16 d16) (n : Int) (hn0 : 0 ≤ n) (hn : n ≤ 4096) (w : World) :
    Calls Ybad.prog 7 #[.bool v6, .agg X4, .agg Y4, .agg X16, .agg Y16, .int .i64 n] w fun e w' =>
      e = .returned (.int .u64 (wsTo (if v6 then s16 else s4) (if v6 then s16 else s4).length + wsTo (if v6 then d16 else d4) (if v6 then d16 else d4).length + 17 + n)) ∧ Below w.heap.size w w' := by
  have HS : Hid ((if v6 then s16 else s4).length ≤ 16) := by have e1 := h1.len; have e2 := h3.len; show _ ≤ _; cases v6 <;> simp [e1, e2]
  have HD : Hid ((if v6 then d16 else d4).length ≤ 16) := by have e1 := h2.len; have e2 := h4.len; show _ ≤ _; cases v6 <;> simp [e1, e2]
  have B1 := fun w => bytesP v6 h1 h3 w
  have B2 := fun w => bytesP v6 h2 h4 w
  obtain ⟨p0, p1, p2, p3, rfl⟩ := h1.lit
  obtain ⟨q0, q1, q2, q3, rfl⟩ := h2.lit
  obtain ⟨r0, r1, r2, r3, r4, r5, r6, r7, r8, r9, r10, r11, r12, r13, r14, r15, rfl⟩ := h3.lit
  obtain ⟨t0, t1, t2, t3, t4, t5, t6, t7, t8, t9, t10, t11, t12, t13, t14, t15, rfl⟩ := h4.lit
  generalize (if v6 then s16 else s4) = S at *
  generalize (if v6 then d16 else d4) = D at *
  have C1 : Hid (∀ w, _) := B1
  have C2 : Hid (∀ w, _) := B2
  clear B1 B2 h1 h2 h3 h4
  go_enter Ybad.func7, Ybad.ntmps7
  go_wp2_with fail
  refine (C1.out _).mono ?_
  rintro e w1 ⟨g1, rfl, hs1, b1⟩
  go_wp2_with fail
  have l1 := HS.out
  refine (bsum_any _ S _ 0 (by omega) (by omega) (by omega) _ hs1).mono ?_
  rintro e w2 ⟨rfl, rfl⟩
  have z1 := wsTo_bd S hs1.byte S.length
  generalize hVS : wsTo S S.length = VS at z1 ⊢
  have KS : Hid (wsTo S S.length = VS) := hVS
  clear hVS
  rw [Int.zero_add]
  obtain ⟨hc, hf⟩ := bcell b1
  go_wp2_with fail
  refine (C2.out _).mono ?_
  rintro e w3 ⟨g2, rfl, hs2, b2⟩
  go_wp2_with fail
  have l2 := HD.out
  refine (bsum_any _ D _ VS (by omega) (by omega) (by omega) _ hs2).mono ?_
  rintro e w4 ⟨rfl, rfl⟩
  have z2 := wsTo_bd D hs2.byte D.length
  generalize hVD : wsTo D D.length = VD at z2 ⊢
  have KD : Hid (wsTo D D.length = VD) := hVD
  clear hVD
  clear C1 C2 hc hf
  go_wp2
  go_ret
  have hsz := b1.size
  simp only [World.size_alloc] at hsz
  have bb : Below w.heap.size w w2 := (((((Below.refl _ w).alloc (Nat.le_refl _) _).alloc (by simp) _).alloc (by simp; omega) _).alloc (by simp; omega) _).trans (b1.mono (by simp; omega))
  rw [KS.out, KD.out]
  exact ⟨rfl, bb.trans (b2.mono (by omega))⟩
end Go.Proofs.YbulkacxcDoor
