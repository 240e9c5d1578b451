import Derived.Test.YbulkacxcDoorBVer
namespace Go.Proofs.YbulkacxcDoor
open Go.ChangeShapes Go.WideShapes Go.ChangeAt Go.WideMaps Go.WideElems Go.RowKit

theorem IsB4.byte {X : Array Value} {l : List Int} (h : IsB4 X l) : ∀ z ∈ l, 0 ≤ z ∧ z ≤ 255 := by
  obtain ⟨c0, c1, c2, c3, k0, k1, k2, k3, _, rfl⟩ := h; simp [k0, k1, k2, k3]
theorem IsB16.byte {X : Array Value} {l : List Int} (h : IsB16 X l) : ∀ z ∈ l, 0 ≤ z ∧ z ≤ 255 := by
  obtain ⟨b0, b1, b2, b3, b4, b5, b6, b7, b8, b9, b10, b11, b12, b13, b14, b15, k0, k1, k2, k3, k4, k5, k6, k7, k8, k9, k10, k11, k12, k13, k14, k15, _, rfl⟩ := h; simp [k0, k1, k2, k3, k4, k5, k6, k7, k8, k9, k10, k11, k12, k13, k14, k15]

/-- Bytes 6 and 7 of a row are put to zero. -/
theorem zero67 {W : World} {G : Nat} {zs : List Int} (hs : Src W (some ⟨G, 0, none⟩) zs) (hl : 8 ≤ zs.length) :
    Src ((W.setCell ⟨G, 6, none⟩ (.int .u8 0)).setCell ⟨G, 7, none⟩ (.int .u8 0)) (some ⟨G, 0, none⟩) ((zs.set 6 0).set 7 0) := by
  have c6 := row_at hs 6 _ (by omega) rfl
  have c7 := row_at hs 7 _ (by omega) rfl
  have st : ∀ (w : World) (p o : Nat) (x : Value), (w.cell? ⟨G, p, none⟩).isSome = true → (w.setCell ⟨G, p, none⟩ x).cell? ⟨G, o, none⟩ = if o = p then some x else w.cell? ⟨G, o, none⟩ := by
    intro w p o x h
    by_cases e : o = p
    · subst e; rw [if_pos rfl]; exact World.cell?_setCell_same' w _ x h
    · rw [if_neg e]; exact World.cell?_setCell_other _ _ _ _ (fun h => e (Addr.mk.inj h).2.1.symm)
  refine ⟨(fun h => by cases h), fun i hi => ⟨G, 0, rfl, ?_⟩, byte_set hs.byte⟩
  rw [Nat.zero_add]
  simp only [List.length_set] at hi
  rw [st _ _ _ _ (by rw [st _ _ _ _ (by rw [c6]; rfl), if_neg (by omega), c7]; rfl), st _ _ _ _ (by rw [c6]; rfl)]
  simp only [List.getD_eq_getElem?_getD]
  by_cases e7 : i = 7
  · rw [if_pos e7, e7, List.getElem?_set_self (by simp; omega)]; rfl
  · rw [if_neg e7, List.getElem?_set_ne (by omega)]
    by_cases e6 : i = 6
    · rw [if_pos e6, e6, List.getElem?_set_self (by omega)]; rfl
    · rw [if_neg e6, List.getElem?_set_ne (by omega), row_at hs i _ hi rfl, List.getD_eq_getElem?_getD]

/-- What the rest of LawS1445BExact reads of d and of data. -/
theorem exact_rest {w3 : World} {G b off : Nat} {zs : List Int} {C : Int} (s3 : Src w3 (some ⟨G, 0, none⟩) ((zs.set 6 (C / 256)).set 7 (C % 256))) (hs : Src w3 (some ⟨b, off, none⟩) zs) (hl : 8 ≤ zs.length) :
    w3.cell? ⟨G, 6, none⟩ = some (.int .u8 (C / 256)) ∧ w3.cell? ⟨G, 7, none⟩ = some (.int .u8 (C % 256)) ∧ (∀ k, k < zs.length → k ≠ 6 → k ≠ 7 → w3.cell? ⟨G, k, none⟩ = some (.int .u8 (zs.getD k 0))) ∧
      ∀ k, k < zs.length → w3.cell? ⟨b, off + k, none⟩ = some (.int .u8 (zs.getD k 0)) := by
  have hl' : ((zs.set 6 (C / 256)).set 7 (C % 256)).length = zs.length := by simp
  refine ⟨row_at s3 6 _ (by rw [hl']; omega) (set67_6 zs _ _ hl), row_at s3 7 _ (by rw [hl']; omega) (set67_7 zs _ _ hl), fun k hk h6 h7 => row_at s3 k _ (by rw [hl']; exact hk) ?_, fun k hk => ?_⟩
  · simp only [List.getD_eq_getElem?_getD]
    rw [List.getElem?_set_ne (by omega), List.getElem?_set_ne (by omega)]
  · obtain ⟨b', off', e, h⟩ := hs.cell k hk
    simp only [Option.some.injEq, Addr.mk.injEq, and_true] at e
    obtain ⟨rfl, rfl⟩ := e
    exact h

set_option linter.unusedSimpArgs false in
set_option maxHeartbeats 8000000 in
set_option maxRecDepth 100000 in
theorem exact_walk (a : Option Addr) (zs : List Int) (c : Nat) (v6 : Bool) {X4 Y4 X16 Y16 : Array Value} {s4 d4 s16 d16 : List Int} (h1 : IsB4 X4 s4) (h2 : IsB4 Y4 d4) (h3 : IsB16 X16 s16) (h4 : IsB16 Y16 d16) (a4 a6 : Addr) (w : World)
    (hs : Src w a zs) (hz : Zs w a4 a6) :
    Calls Ybad.prog 3 #[.slice a zs.length c, .bool v6, .agg X4, .agg Y4, .agg X16, .agg Y16] w fun e w' => e = .returned (.bool true) ∧ Below w.heap.size w w' := by
  have A1 := fun W hW => baddrP v6 h1 h3 a4 a6 W hW
  have A2 := fun W hW => baddrP v6 h2 h4 a4 a6 W hW
  have A3 := fun n h0 hn W => pseudo_any v6 h1 h2 h3 h4 n h0 hn W
  obtain ⟨p0, p1, p2, p3, rfl⟩ := h1.lit
  obtain ⟨q0, q1, q2, q3, rfl⟩ := h2.lit
  obtain ⟨r0, r1, r2, r3, r4, r5, r6, r7, r8, r9, r10, r11, r12, r13, r14, r15, rfl⟩ := h3.lit
  obtain ⟨t0, t1, t2, t3, t4, t5, t6, t7, t8, t9, t10, t11, t12, t13, t14, t15, rfl⟩ := h4.lit
  have HbS : Hid (∀ z ∈ (if v6 then s16 else s4), 0 ≤ z ∧ z ≤ 255) := by cases v6; exact h1.byte; exact h3.byte
  have HbD : Hid (∀ z ∈ (if v6 then d16 else d4), 0 ≤ z ∧ z ≤ 255) := by cases v6; exact h2.byte; exact h4.byte
  have HlS : Hid ((if v6 then s16 else s4).length ≤ 16) := by have e1 := h1.len; have e2 := h3.len; show _ ≤ _; cases v6 <;> simp [e1, e2]
  have HlD : Hid ((if v6 then d16 else d4).length ≤ 16) := by have e1 := h2.len; have e2 := h4.len; show _ ≤ _; cases v6 <;> simp [e1, e2]
  generalize (if v6 then s16 else s4) = S at *
  generalize (if v6 then d16 else d4) = D at *
  have C1 : Hid (∀ W (_ : Zs W a4 a6), _) := A1
  have C2 : Hid (∀ W (_ : Zs W a4 a6), _) := A2
  have C3 : Hid (∀ (n : Int) (_ : 0 ≤ n) (_ : n ≤ 4096) W, _) := A3
  clear A1 A2 A3 h1 h2 h3 h4
  obtain ⟨k0, k1, k2, k3, kb, ksz⟩ := four w #[.int .u8 p0, .int .u8 p1, .int .u8 p2, .int .u8 p3] #[.int .u8 q0, .int .u8 q1, .int .u8 q2, .int .u8 q3] #[.int .u8 r0, .int .u8 r1, .int .u8 r2, .int .u8 r3, .int .u8 r4, .int .u8 r5, .int .u8 r6, .int .u8 r7, .int .u8 r8, .int .u8 r9, .int .u8 r10, .int .u8 r11, .int .u8 r12, .int .u8 r13, .int .u8 r14, .int .u8 r15] #[.int .u8 t0, .int .u8 t1, .int .u8 t2, .int .u8 t3, .int .u8 t4, .int .u8 t5, .int .u8 t6, .int .u8 t7, .int .u8 t8, .int .u8 t9, .int .u8 t10, .int .u8 t11, .int .u8 t12, .int .u8 t13, .int .u8 t14, .int .u8 t15] 23 23 24 24
  by_cases h8 : zs.length < 8
  · go_enter Ybad.func3, Ybad.ntmps3
    go_wp2
    go_ret
    exact ⟨rfl, kb⟩
  by_cases h4k : 4096 < zs.length
  · go_enter Ybad.func3, Ybad.ntmps3
    go_wp2
    go_ret
    exact ⟨rfl, kb⟩
  have hd1 : decide ((zs.length : Int) < 8) = false := by simp; omega
  have hd2 : decide ((4096 : Int) < (zs.length : Int)) = false := by simp; omega
  obtain ⟨i5, i5h, i5z, i5s, i5b⟩ := info_parts info5b
  obtain ⟨b, off, rfl, _⟩ := hs.cell 0 (by omega)
  have KB : Hid _ := kb
  have K0 : Hid _ := k0
  have K1 : Hid _ := k1
  have K2 : Hid _ := k2
  have K3 : Hid _ := k3
  have KZ : Hid _ := ksz
  clear kb k0 k1 k2 k3 ksz
  go_enter Ybad.func3, Ybad.ntmps3
  go_wp2_with (at_make; refine wpList_make_full _ rfl (.tmp 27) (.tmp 27) 22 rfl (w.heap.size + 1 + 1 + 1 + 1) 5 i5 _ 1 Ybad.underlying22 i5h i5z i5s _ _ _ _ zs.length rfl rfl rfl rfl ?c1 ?c2 ?c3 ?_)
  case c1 => rw [i5b]; omega
  case c2 => unfold maxLen; omega
  case c3 => exact Nat.le_of_eq KZ.out.symm
  intro W1 hown hgrow
  obtain ⟨cur, hg, hcs⟩ := own_block hown
  have bW1 : Below w.heap.size w W1 := KB.out.grown hgrow (by rw [KZ.out]; omega) (by simp)
  have m0 : ∀ i, W1.cell? ⟨w.heap.size, i, none⟩ = #[Value.int .u8 p0, Value.int .u8 p1, Value.int .u8 p2, Value.int .u8 p3][i]? := fun i => (cblk i (hgrow.block _ (by rw [KZ.out]; omega) (by simp))).trans (K0.out i)
  have m1 : ∀ i, W1.cell? ⟨w.heap.size + 1, i, none⟩ = #[Value.int .u8 q0, Value.int .u8 q1, Value.int .u8 q2, Value.int .u8 q3][i]? := fun i => (cblk i (hgrow.block _ (by rw [KZ.out]; omega) (by simp))).trans (K1.out i)
  have m2 : ∀ i, W1.cell? ⟨w.heap.size + 1 + 1, i, none⟩ = #[Value.int .u8 r0, Value.int .u8 r1, Value.int .u8 r2, Value.int .u8 r3, Value.int .u8 r4, Value.int .u8 r5, Value.int .u8 r6, Value.int .u8 r7, Value.int .u8 r8, Value.int .u8 r9, Value.int .u8 r10, Value.int .u8 r11, Value.int .u8 r12, Value.int .u8 r13, Value.int .u8 r14, Value.int .u8 r15][i]? := fun i => (cblk i (hgrow.block _ (by rw [KZ.out]; omega) (by simp))).trans (K2.out i)
  have m3 : ∀ i, W1.cell? ⟨w.heap.size + 1 + 1 + 1, i, none⟩ = #[Value.int .u8 t0, Value.int .u8 t1, Value.int .u8 t2, Value.int .u8 t3, Value.int .u8 t4, Value.int .u8 t5, Value.int .u8 t6, Value.int .u8 t7, Value.int .u8 t8, Value.int .u8 t9, Value.int .u8 t10, Value.int .u8 t11, Value.int .u8 t12, Value.int .u8 t13, Value.int .u8 t14, Value.int .u8 t15][i]? := fun i => (cblk i (hgrow.block _ (by rw [KZ.out]; omega) (by simp))).trans (K3.out i)
  have hcp := copy_run (c := c) hg hcs (hs.later bW1)
  obtain ⟨f1, f2, f3, f4⟩ := row_facts (zs := zs) hg hs.byte
  have n0 : ∀ i, (W1.setRow (w.heap.size + 1 + 1 + 1 + 1) (zs.map (Value.int .u8)).toArray).cell? ⟨w.heap.size, i, none⟩ = #[Value.int .u8 p0, Value.int .u8 p1, Value.int .u8 p2, Value.int .u8 p3][i]? := fun i => (cblk i (f3 _ (by omega))).trans (m0 i)
  have n1 : ∀ i, (W1.setRow (w.heap.size + 1 + 1 + 1 + 1) (zs.map (Value.int .u8)).toArray).cell? ⟨w.heap.size + 1, i, none⟩ = #[Value.int .u8 q0, Value.int .u8 q1, Value.int .u8 q2, Value.int .u8 q3][i]? := fun i => (cblk i (f3 _ (by omega))).trans (m1 i)
  have n2 : ∀ i, (W1.setRow (w.heap.size + 1 + 1 + 1 + 1) (zs.map (Value.int .u8)).toArray).cell? ⟨w.heap.size + 1 + 1, i, none⟩ = #[Value.int .u8 r0, Value.int .u8 r1, Value.int .u8 r2, Value.int .u8 r3, Value.int .u8 r4, Value.int .u8 r5, Value.int .u8 r6, Value.int .u8 r7, Value.int .u8 r8, Value.int .u8 r9, Value.int .u8 r10, Value.int .u8 r11, Value.int .u8 r12, Value.int .u8 r13, Value.int .u8 r14, Value.int .u8 r15][i]? := fun i => (cblk i (f3 _ (by omega))).trans (m2 i)
  have n3 : ∀ i, (W1.setRow (w.heap.size + 1 + 1 + 1 + 1) (zs.map (Value.int .u8)).toArray).cell? ⟨w.heap.size + 1 + 1 + 1, i, none⟩ = #[Value.int .u8 t0, Value.int .u8 t1, Value.int .u8 t2, Value.int .u8 t3, Value.int .u8 t4, Value.int .u8 t5, Value.int .u8 t6, Value.int .u8 t7, Value.int .u8 t8, Value.int .u8 t9, Value.int .u8 t10, Value.int .u8 t11, Value.int .u8 t12, Value.int .u8 t13, Value.int .u8 t14, Value.int .u8 t15][i]? := fun i => (cblk i (f3 _ (by omega))).trans (m3 i)
  have bW2 : Below w.heap.size w (W1.setRow (w.heap.size + 1 + 1 + 1 + 1) (zs.map (Value.int .u8)).toArray) := setRow_below bW1 (by omega) _
  have zW2 := hz.below bW2 (Nat.le_refl _)
  obtain ⟨nm, hnm⟩ : ∃ nm, nm = W1.setRow (w.heap.size + 1 + 1 + 1 + 1) (zs.map (Value.int .u8)).toArray := ⟨_, rfl⟩
  rw [← hnm] at hcp f1 f2 f3 f4 n0 n1 n2 n3 bW2 zW2
  have hsz1 := hgrow.size
  rw [KZ.out] at hsz1
  have hGlt : w.heap.size + 1 + 1 + 1 + 1 < W1.heap.size := (Array.getElem?_eq_some_iff.1 hg).1
  clear hnm m0 m1 m2 m3 hgrow hown hg hcs K0 K1 K2 K3 KB f3 bW1
  have hsz2 : w.heap.size + 1 + 1 + 1 + 1 < nm.heap.size := by rw [f4]; exact hGlt
  have hG4 : a4.block ≠ w.heap.size + 1 + 1 + 1 + 1 := by obtain ⟨c, t, h⟩ := hz.b4; have := (Array.getElem?_eq_some_iff.1 h).1; omega
  have hG6 : a6.block ≠ w.heap.size + 1 + 1 + 1 + 1 := by obtain ⟨c, t, h⟩ := hz.b6; have := (Array.getElem?_eq_some_iff.1 h).1; omega
  have hw3 := hz.big
  have rest : Rest w zs a4 a6 nm := ⟨zW2, f1, f2, bW2, hsz2⟩
  have BX : Hid (Boxes w #[Value.int .u8 p0, Value.int .u8 p1, Value.int .u8 p2, Value.int .u8 p3] #[Value.int .u8 q0, Value.int .u8 q1, Value.int .u8 q2, Value.int .u8 q3] #[Value.int .u8 r0, Value.int .u8 r1, Value.int .u8 r2, Value.int .u8 r3, Value.int .u8 r4, Value.int .u8 r5, Value.int .u8 r6, Value.int .u8 r7, Value.int .u8 r8, Value.int .u8 r9, Value.int .u8 r10, Value.int .u8 r11, Value.int .u8 r12, Value.int .u8 r13, Value.int .u8 r14, Value.int .u8 r15] #[Value.int .u8 t0, Value.int .u8 t1, Value.int .u8 t2, Value.int .u8 t3, Value.int .u8 t4, Value.int .u8 t5, Value.int .u8 t6, Value.int .u8 t7, Value.int .u8 t8, Value.int .u8 t9, Value.int .u8 t10, Value.int .u8 t11, Value.int .u8 t12, Value.int .u8 t13, Value.int .u8 t14, Value.int .u8 t15] nm) := ⟨n0, n1, n2, n3⟩
  have hi24 : (Ybad.prog.info? 24).map (·.size) = some [Value.int .u8 r0, Value.int .u8 r1, Value.int .u8 r2, Value.int .u8 r3, Value.int .u8 r4, Value.int .u8 r5, Value.int .u8 r6, Value.int .u8 r7, Value.int .u8 r8, Value.int .u8 r9, Value.int .u8 r10, Value.int .u8 r11, Value.int .u8 r12, Value.int .u8 r13, Value.int .u8 r14, Value.int .u8 r15].length := by kernel_rfl
  have hj24 : (Ybad.prog.info? 24).map (·.size) = some [Value.int .u8 t0, Value.int .u8 t1, Value.int .u8 t2, Value.int .u8 t3, Value.int .u8 t4, Value.int .u8 t5, Value.int .u8 t6, Value.int .u8 t7, Value.int .u8 t8, Value.int .u8 t9, Value.int .u8 t10, Value.int .u8 t11, Value.int .u8 t12, Value.int .u8 t13, Value.int .u8 t14, Value.int .u8 t15].length := by kernel_rfl
  have hu24 := Ybad.underlying24
  clear f1 f2 bW2 zW2 f4 hGlt hsz1 n0 n1 n2 n3
  go_wp2_with (at_make; refine wpList_make_full _ rfl (.tmp 33) (.tmp 33) 22 rfl nm.heap.size 5 i5 _ 1 Ybad.underlying22 i5h i5z i5s _ _ _ _ zs.length rfl rfl rfl rfl ?c4 ?c5 (Nat.le_refl _) ?_)
  case c4 => rw [i5b]; omega
  case c5 => unfold maxLen; omega
  intro W2 hown2 hgrow2
  obtain ⟨cur2, hg2, hcs2⟩ := own_block hown2
  have bE1 : Below nm.heap.size nm W2 := (Below.refl _ nm).grown hgrow2 (Nat.le_refl _) (by simp)
  have bel1 : Below w.heap.size w W2 := rest.bel.trans (bE1.mono rest.bel.size)
  have hcp2 := copy_run (c := c) hg2 hcs2 (hs.later bel1)
  obtain ⟨g1, g2, g3, g4⟩ := row_facts (zs := zs) hg2 hs.byte
  have bE2 : Below nm.heap.size nm (W2.setRow nm.heap.size (zs.map (Value.int .u8)).toArray) := setRow_below bE1 (Nat.le_refl _) _
  obtain ⟨nm2, hnm2⟩ : ∃ nm2, nm2 = W2.setRow nm.heap.size (zs.map (Value.int .u8)).toArray := ⟨_, rfl⟩
  rw [← hnm2] at hcp2 g1 g2 g3 g4 bE2
  have v6' : nm2.cell? ⟨nm.heap.size, 6, none⟩ = some (.int .u8 (zs.getD 6 0)) := row_at g1 6 _ (by omega) rfl
  have v7' : nm2.cell? ⟨nm.heap.size, 7, none⟩ = some (.int .u8 (zs.getD 7 0)) := row_at g1 7 _ (by omega) rfl
  have u6' := g2 6
  have u7' := g2 7
  have SE := zero67 g1 (by omega)
  have bE3 : Below nm.heap.size nm ((nm2.setCell ⟨nm.heap.size, 6, none⟩ (.int .u8 0)).setCell ⟨nm.heap.size, 7, none⟩ (.int .u8 0)) := (bE2.setCell (Nat.le_refl _) _).setCell (Nat.le_refl _) _
  have rest3 := rest.later bE3
  have BX3 : Hid (Boxes w #[Value.int .u8 p0, Value.int .u8 p1, Value.int .u8 p2, Value.int .u8 p3] #[Value.int .u8 q0, Value.int .u8 q1, Value.int .u8 q2, Value.int .u8 q3] #[Value.int .u8 r0, Value.int .u8 r1, Value.int .u8 r2, Value.int .u8 r3, Value.int .u8 r4, Value.int .u8 r5, Value.int .u8 r6, Value.int .u8 r7, Value.int .u8 r8, Value.int .u8 r9, Value.int .u8 r10, Value.int .u8 r11, Value.int .u8 r12, Value.int .u8 r13, Value.int .u8 r14, Value.int .u8 r15] #[Value.int .u8 t0, Value.int .u8 t1, Value.int .u8 t2, Value.int .u8 t3, Value.int .u8 t4, Value.int .u8 t5, Value.int .u8 t6, Value.int .u8 t7, Value.int .u8 t8, Value.int .u8 t9, Value.int .u8 t10, Value.int .u8 t11, Value.int .u8 t12, Value.int .u8 t13, Value.int .u8 t14, Value.int .u8 t15] ((nm2.setCell ⟨nm.heap.size, 6, none⟩ (.int .u8 0)).setCell ⟨nm.heap.size, 7, none⟩ (.int .u8 0))) := BX.out.grown (G := w.heap.size + 1 + 1 + 1 + 1) (grown_below bE3) (by omega) (by have := rest.sz; omega)
  obtain ⟨k0, k1, k2, k3⟩ := BX3.out
  have h6l : (6 : Int) < (zs.length : Int) := by omega
  have h7l : (7 : Int) < (zs.length : Int) := by omega
  have SE' : Hid _ := SE
  have hl0 : ((zs.set 6 0).set 7 0).length = zs.length := by simp
  clear hnm2 g1 g2 g3 g4 bE1 bE2 hown2 hgrow2 hg2 hcs2 BX rest hcp SE bel1
  go_wp2_with fail
  refine (C3.out (zs.length : Int) (by omega) (by omega) _).mono ?_
  rintro e w4 ⟨rfl, b4⟩
  have SE4 := SE'.out.later b4
  have rest4 := rest3.later b4
  have BX4 : Hid (Boxes w #[Value.int .u8 p0, Value.int .u8 p1, Value.int .u8 p2, Value.int .u8 p3] #[Value.int .u8 q0, Value.int .u8 q1, Value.int .u8 q2, Value.int .u8 q3] #[Value.int .u8 r0, Value.int .u8 r1, Value.int .u8 r2, Value.int .u8 r3, Value.int .u8 r4, Value.int .u8 r5, Value.int .u8 r6, Value.int .u8 r7, Value.int .u8 r8, Value.int .u8 r9, Value.int .u8 r10, Value.int .u8 r11, Value.int .u8 r12, Value.int .u8 r13, Value.int .u8 r14, Value.int .u8 r15] #[Value.int .u8 t0, Value.int .u8 t1, Value.int .u8 t2, Value.int .u8 t3, Value.int .u8 t4, Value.int .u8 t5, Value.int .u8 t6, Value.int .u8 t7, Value.int .u8 t8, Value.int .u8 t9, Value.int .u8 t10, Value.int .u8 t11, Value.int .u8 t12, Value.int .u8 t13, Value.int .u8 t14, Value.int .u8 t15] w4) := BX3.out.grown (G := w.heap.size + 1 + 1 + 1 + 1) (grown_below b4) (by omega) (by have := rest3.sz; omega)
  clear k0 k1 k2 k3 SE' BX3 rest3 b4 bE3 v6' v7' u6' u7'
  have z1 := wsTo_bd S HbS.out S.length
  have z2 := wsTo_bd D HbD.out D.length
  have z3 := wsTo_bd ((zs.set 6 0).set 7 0) (byte_set hs.byte) zs.length
  have lS := HlS.out
  have lD := HlD.out
  obtain ⟨T0, hT0⟩ : ∃ T0, T0 = wsTo S S.length + wsTo D D.length + 17 + (zs.length : Int) := ⟨_, rfl⟩
  obtain ⟨V, hV⟩ : ∃ V, V = wsTo ((zs.set 6 0).set 7 0) zs.length := ⟨_, rfl⟩
  have HT : Hid (wsTo S S.length + wsTo D D.length + 17 + (zs.length : Int) + wsTo ((zs.set 6 0).set 7 0) zs.length = T0 + V) := by show _ = _; rw [hT0, hV]
  have hT1 : 0 < T0 := by omega
  have hT2 : T0 ≤ 1000000000000 := by omega
  have hV1 : 0 ≤ V := by omega
  have hV2 : V ≤ 1000000000000 := by omega
  have KV : Hid (wsTo ((zs.set 6 0).set 7 0) zs.length = V) := hV.symm
  rw [← hT0]
  clear z1 z2 z3 lS lD HlS HlD HbS HbD hT0 hV
  go_wp2_with fail
  refine (bsumL _ _ _ _ hl0 T0 (by omega) (by omega) (by omega) _ SE4).mono ?_
  rintro e w4' ⟨rfl, rfl⟩
  rw [KV.out]
  go_wp2_with fail
  refine (fold_any (T0 + V) (by omega) (by omega) _).mono ?_
  rintro e w4'' ⟨rfl, rfl⟩
  have zf := fold16_le (T0 + V)
  have zp := fold16_pos (T0 + V) (by omega)
  have HSd : Hid (sent (T0 + V) = if 65535 - fold16 (T0 + V) = 0 then 65535 else 65535 - fold16 (T0 + V)) := rfl
  generalize fold16 (T0 + V) = F at zf zp HSd ⊢
  have hx := xor16 F (by omega) (by omega)
  have hx' : bits BinOp.xor IntKind.u16 (if IntKind.u16.signed = true then -1 else IntKind.u16.max) F = 65535 - F := hx
  clear SE4 KV
  by_cases hc0 : 65535 - F = 0
  · have hq : (65535 - F == 0) = true := by simp [hc0]
    have HSg : Hid (sent (T0 + V) = 65535) := by show _ = _; rw [HSd.out, if_pos hc0]
    clear hc0 HSd
    go_wp2
    refine wp_region_held_drew (S := (fun w' => (∀ i, w'.cell? ⟨w.heap.size, i, none⟩ = #[Value.int .u8 p0, Value.int .u8 p1, Value.int .u8 p2, Value.int .u8 p3][i]?) ∧ (∀ i, w'.cell? ⟨w.heap.size + 1, i, none⟩ = #[Value.int .u8 q0, Value.int .u8 q1, Value.int .u8 q2, Value.int .u8 q3][i]?) ∧ (∀ i, w'.cell? ⟨w.heap.size + 1 + 1, i, none⟩ = #[Value.int .u8 r0, Value.int .u8 r1, Value.int .u8 r2, Value.int .u8 r3, Value.int .u8 r4, Value.int .u8 r5, Value.int .u8 r6, Value.int .u8 r7, Value.int .u8 r8, Value.int .u8 r9, Value.int .u8 r10, Value.int .u8 r11, Value.int .u8 r12, Value.int .u8 r13, Value.int .u8 r14, Value.int .u8 r15][i]?) ∧ (∀ i, w'.cell? ⟨w.heap.size + 1 + 1 + 1, i, none⟩ = #[Value.int .u8 t0, Value.int .u8 t1, Value.int .u8 t2, Value.int .u8 t3, Value.int .u8 t4, Value.int .u8 t5, Value.int .u8 t6, Value.int .u8 t7, Value.int .u8 t8, Value.int .u8 t9, Value.int .u8 t10, Value.int .u8 t11, Value.int .u8 t12, Value.int .u8 t13, Value.int .u8 t14, Value.int .u8 t15][i]?))) (by kernel_rfl) ?_ (fun hHeld => ?_)
    · exact BX4.out
    refine take_dst (i := 0) (v := .slice (some ⟨w.heap.size + 1 + 1 + 1 + 1, 0, none⟩) zs.length zs.length) 59 rfl rfl (by kernel_rfl) (by kernel_rfl) (by kernel_rfl) (fun _ _ _ h => h) (Or.inl ⟨by rfl, ?_⟩) hHeld ?_
    · intro W' hSw; obtain ⟨y0, y1, -, -⟩ := hSw; go_simp
    simp only [Act.put, List.setIfInBounds_toArray, List.set_cons_zero, List.set_cons_succ]
    refine take_dst (i := 1) (v := .bool v6) 60 rfl rfl (by kernel_rfl) (by kernel_rfl) (by kernel_rfl) (fun _ _ _ h => h) (Or.inl ⟨by rfl, ?_⟩) hHeld ?_
    · intro W' hSw; obtain ⟨y0, y1, -, -⟩ := hSw; go_simp
    simp only [Act.put, List.setIfInBounds_toArray, List.set_cons_zero, List.set_cons_succ]
    refine take_dst (i := 2) (v := .agg #[Value.int .u8 p0, Value.int .u8 p1, Value.int .u8 p2, Value.int .u8 p3]) 61 rfl rfl (by kernel_rfl) (by kernel_rfl) (by kernel_rfl) (fun _ _ _ h => h) (Or.inl ⟨by rfl, ?_⟩) hHeld ?_
    · intro W' hSw; obtain ⟨y0, y1, -, -⟩ := hSw; go_simp
    simp only [Act.put, List.setIfInBounds_toArray, List.set_cons_zero, List.set_cons_succ]
    refine take_dst (i := 3) (v := .agg (List.toArray [Value.int .u8 r0, Value.int .u8 r1, Value.int .u8 r2, Value.int .u8 r3, Value.int .u8 r4, Value.int .u8 r5, Value.int .u8 r6, Value.int .u8 r7, Value.int .u8 r8, Value.int .u8 r9, Value.int .u8 r10, Value.int .u8 r11, Value.int .u8 r12, Value.int .u8 r13, Value.int .u8 r14, Value.int .u8 r15])) 62 rfl rfl (by kernel_rfl) (by kernel_rfl) (by kernel_rfl) (fun _ _ _ h => h) (yieldsIf_load_mid (by rfl) _ _ rfl (w.heap.size + 1 + 1) 0 rfl [Value.int .u8 r0, Value.int .u8 r1, Value.int .u8 r2, Value.int .u8 r3, Value.int .u8 r4, Value.int .u8 r5, Value.int .u8 r6, Value.int .u8 r7, Value.int .u8 r8, Value.int .u8 r9, Value.int .u8 r10, Value.int .u8 r11, Value.int .u8 r12, Value.int .u8 r13, Value.int .u8 r14, Value.int .u8 r15] _ ?_ hu24 rfl hi24) hHeld ?_
    · intro W' hSw; exact range_of [Value.int .u8 r0, Value.int .u8 r1, Value.int .u8 r2, Value.int .u8 r3, Value.int .u8 r4, Value.int .u8 r5, Value.int .u8 r6, Value.int .u8 r7, Value.int .u8 r8, Value.int .u8 r9, Value.int .u8 r10, Value.int .u8 r11, Value.int .u8 r12, Value.int .u8 r13, Value.int .u8 r14, Value.int .u8 r15] hSw.2.2.1
    simp only [Act.put, List.setIfInBounds_toArray, List.set_cons_zero, List.set_cons_succ]
    refine take_dst (i := 5) (v := .bool v6) 64 rfl rfl (by kernel_rfl) (by kernel_rfl) (by kernel_rfl) (fun _ _ _ h => h) (Or.inl ⟨by rfl, ?_⟩) hHeld ?_
    · intro W' hSw; obtain ⟨y0, y1, -, -⟩ := hSw; go_simp
    simp only [Act.put, List.setIfInBounds_toArray, List.set_cons_zero, List.set_cons_succ]
    refine take_dst (i := 6) (v := .agg #[Value.int .u8 q0, Value.int .u8 q1, Value.int .u8 q2, Value.int .u8 q3]) 65 rfl rfl (by kernel_rfl) (by kernel_rfl) (by kernel_rfl) (fun _ _ _ h => h) (Or.inl ⟨by rfl, ?_⟩) hHeld ?_
    · intro W' hSw; obtain ⟨y0, y1, -, -⟩ := hSw; go_simp
    simp only [Act.put, List.setIfInBounds_toArray, List.set_cons_zero, List.set_cons_succ]
    refine take_dst (i := 7) (v := .agg (List.toArray [Value.int .u8 t0, Value.int .u8 t1, Value.int .u8 t2, Value.int .u8 t3, Value.int .u8 t4, Value.int .u8 t5, Value.int .u8 t6, Value.int .u8 t7, Value.int .u8 t8, Value.int .u8 t9, Value.int .u8 t10, Value.int .u8 t11, Value.int .u8 t12, Value.int .u8 t13, Value.int .u8 t14, Value.int .u8 t15])) 66 rfl rfl (by kernel_rfl) (by kernel_rfl) (by kernel_rfl) (fun _ _ _ h => h) (yieldsIf_load_mid (by rfl) _ _ rfl (w.heap.size + 1 + 1 + 1) 0 rfl [Value.int .u8 t0, Value.int .u8 t1, Value.int .u8 t2, Value.int .u8 t3, Value.int .u8 t4, Value.int .u8 t5, Value.int .u8 t6, Value.int .u8 t7, Value.int .u8 t8, Value.int .u8 t9, Value.int .u8 t10, Value.int .u8 t11, Value.int .u8 t12, Value.int .u8 t13, Value.int .u8 t14, Value.int .u8 t15] _ ?_ hu24 rfl hj24) hHeld ?_
    · intro W' hSw; exact range_of [Value.int .u8 t0, Value.int .u8 t1, Value.int .u8 t2, Value.int .u8 t3, Value.int .u8 t4, Value.int .u8 t5, Value.int .u8 t6, Value.int .u8 t7, Value.int .u8 t8, Value.int .u8 t9, Value.int .u8 t10, Value.int .u8 t11, Value.int .u8 t12, Value.int .u8 t13, Value.int .u8 t14, Value.int .u8 t15] hSw.2.2.2
    simp only [Act.put, List.setIfInBounds_toArray, List.set_cons_zero, List.set_cons_succ]
    have rest0 : Rest w zs a4 a6 w4''.drew := rest4.drew
    have HB0 : Hid (Boxes w #[Value.int .u8 p0, Value.int .u8 p1, Value.int .u8 p2, Value.int .u8 p3] #[Value.int .u8 q0, Value.int .u8 q1, Value.int .u8 q2, Value.int .u8 q3] #[Value.int .u8 r0, Value.int .u8 r1, Value.int .u8 r2, Value.int .u8 r3, Value.int .u8 r4, Value.int .u8 r5, Value.int .u8 r6, Value.int .u8 r7, Value.int .u8 r8, Value.int .u8 r9, Value.int .u8 r10, Value.int .u8 r11, Value.int .u8 r12, Value.int .u8 r13, Value.int .u8 r14, Value.int .u8 r15] #[Value.int .u8 t0, Value.int .u8 t1, Value.int .u8 t2, Value.int .u8 t3, Value.int .u8 t4, Value.int .u8 t5, Value.int .u8 t6, Value.int .u8 t7, Value.int .u8 t8, Value.int .u8 t9, Value.int .u8 t10, Value.int .u8 t11, Value.int .u8 t12, Value.int .u8 t13, Value.int .u8 t14, Value.int .u8 t15] w4''.drew) := hHeld
    refine wpAnyH_ready (rs := [4]) (by kernel_rfl) (by simp) ?_
    refine AllReadyH.cons rfl (fun K hK => ?_) AllReadyH.nil
    go_simp
    refine (C1.out _ rest0.z).mono ?_
    rintro e w1 ⟨x1, rfl, ax1, b1⟩
    have rest1 := rest0.later b1
    have HB1 : Hid (Boxes w #[Value.int .u8 p0, Value.int .u8 p1, Value.int .u8 p2, Value.int .u8 p3] #[Value.int .u8 q0, Value.int .u8 q1, Value.int .u8 q2, Value.int .u8 q3] #[Value.int .u8 r0, Value.int .u8 r1, Value.int .u8 r2, Value.int .u8 r3, Value.int .u8 r4, Value.int .u8 r5, Value.int .u8 r6, Value.int .u8 r7, Value.int .u8 r8, Value.int .u8 r9, Value.int .u8 r10, Value.int .u8 r11, Value.int .u8 r12, Value.int .u8 r13, Value.int .u8 r14, Value.int .u8 r15] #[Value.int .u8 t0, Value.int .u8 t1, Value.int .u8 t2, Value.int .u8 t3, Value.int .u8 t4, Value.int .u8 t5, Value.int .u8 t6, Value.int .u8 t7, Value.int .u8 t8, Value.int .u8 t9, Value.int .u8 t10, Value.int .u8 t11, Value.int .u8 t12, Value.int .u8 t13, Value.int .u8 t14, Value.int .u8 t15] w1) := HB0.out.grown (G := w.heap.size + 1 + 1 + 1 + 1) (grown_below b1) (by omega) (by have := rest0.sz; omega)
    refine hK.out _ _ HB1.out (fun hHeld1 => ?_)
    clear hK K hHeld HB0 rest0
    refine wpAnyH_ready (rs := [8]) (by kernel_rfl) (by simp) ?_
    refine AllReadyH.cons rfl (fun K hK => ?_) AllReadyH.nil
    go_simp
    refine (C2.out _ rest1.z).mono ?_
    rintro e w2 ⟨x2, rfl, ax2, b2⟩
    have rest2 := rest1.later b2
    have HB2 : Hid (Boxes w #[Value.int .u8 p0, Value.int .u8 p1, Value.int .u8 p2, Value.int .u8 p3] #[Value.int .u8 q0, Value.int .u8 q1, Value.int .u8 q2, Value.int .u8 q3] #[Value.int .u8 r0, Value.int .u8 r1, Value.int .u8 r2, Value.int .u8 r3, Value.int .u8 r4, Value.int .u8 r5, Value.int .u8 r6, Value.int .u8 r7, Value.int .u8 r8, Value.int .u8 r9, Value.int .u8 r10, Value.int .u8 r11, Value.int .u8 r12, Value.int .u8 r13, Value.int .u8 r14, Value.int .u8 r15] #[Value.int .u8 t0, Value.int .u8 t1, Value.int .u8 t2, Value.int .u8 t3, Value.int .u8 t4, Value.int .u8 t5, Value.int .u8 t6, Value.int .u8 t7, Value.int .u8 t8, Value.int .u8 t9, Value.int .u8 t10, Value.int .u8 t11, Value.int .u8 t12, Value.int .u8 t13, Value.int .u8 t14, Value.int .u8 t15] w2) := HB1.out.grown (G := w.heap.size + 1 + 1 + 1 + 1) (grown_below b2) (by omega) (by have := rest1.sz; omega)
    refine hK.out _ _ HB2.out (fun hHeld2 => ?_)
    clear hK K hHeld1 HB1 rest1
    refine wpAnyH_ready (rs := [9]) (by kernel_rfl) (by simp) ?_
    refine AllReadyH.cons rfl (fun K hK => ?_) AllReadyH.nil
    go_simp
    refine (setUDP (w.heap.size + 1 + 1 + 1 + 1) zs S D x1 x2 a4 a6 (by omega) (by omega) _ rest2.src rest2.fz rest2.z (by omega) hG4 hG6 ax1 ax2).mono ?_
    rintro e w3 ⟨rfl, s3, g3, fz3⟩
    have HB3 : Hid (Boxes w #[Value.int .u8 p0, Value.int .u8 p1, Value.int .u8 p2, Value.int .u8 p3] #[Value.int .u8 q0, Value.int .u8 q1, Value.int .u8 q2, Value.int .u8 q3] #[Value.int .u8 r0, Value.int .u8 r1, Value.int .u8 r2, Value.int .u8 r3, Value.int .u8 r4, Value.int .u8 r5, Value.int .u8 r6, Value.int .u8 r7, Value.int .u8 r8, Value.int .u8 r9, Value.int .u8 r10, Value.int .u8 r11, Value.int .u8 r12, Value.int .u8 r13, Value.int .u8 r14, Value.int .u8 r15] #[Value.int .u8 t0, Value.int .u8 t1, Value.int .u8 t2, Value.int .u8 t3, Value.int .u8 t4, Value.int .u8 t5, Value.int .u8 t6, Value.int .u8 t7, Value.int .u8 t8, Value.int .u8 t9, Value.int .u8 t10, Value.int .u8 t11, Value.int .u8 t12, Value.int .u8 t13, Value.int .u8 t14, Value.int .u8 t15] w3) := HB2.out.grown g3 (by omega) (by have := rest2.sz; omega)
    refine hK.out _ _ HB3.out (fun hHeld3 => ?_)
    clear hK K hHeld2 HB2
    refine wpAnyH_done (by kernel_rfl) ?_ _
    rw [HT.out, HSg.out] at s3
    have bel3 : Below w.heap.size w w3 := rest2.bel.grown g3 rest2.bel.size (fun k e => by simp at e; omega)
    have R0 := exact_rest s3 (hs.later bel3) (by omega)
    clear ax1 ax2 b1 b2 rest2 g3 hHeld3 HB3 C1 C2 C3 fz3 s3 hi24 hj24 hu24 rest4 BX4 hs hz
    obtain ⟨c6, c7, cd, cs'⟩ := R0
    have CD : Hid (∀ k, k < zs.length → k ≠ 6 → k ≠ 7 → w3.cell? ⟨w.heap.size + 1 + 1 + 1 + 1, k, none⟩ = some (.int .u8 (zs.getD k 0))) := cd
    have CS : Hid (∀ k, k < zs.length → w3.cell? ⟨b, off + k, none⟩ = some (.int .u8 (zs.getD k 0))) := cs'
    clear cd cs'
    have h6l : (6 : Int) < (zs.length : Int) := by omega
    have h7l : (7 : Int) < (zs.length : Int) := by omega
    have e256 : (65535 : Int) % 65536 = (65535 : Int) := by omega
    go_wp2
    clear c6 c7 e256 h6l h7l hx hx' hq HT HSg
    go_loopw [17] (fun i wr => ∃ k : Nat, k ≤ zs.length ∧ i = .int .i64 k ∧ ∃ m, wr = w3.drewN m) (fun i _ => zs.length - (intOf i).toNat)
    case atStart => exact ⟨0, Nat.zero_le _, rfl, 0, rfl⟩
    case round =>
      obtain ⟨k, hk, rfl, m, rfl⟩ := hrel
      by_cases hlt : k < zs.length
      · have hki : (k : Int) < (zs.length : Int) := by omega
        by_cases h6 : k = 6
        · have q6 : ((k : Int) != 6) = false := by rw [h6]; rfl
          clear h6 CD CS
          go_wp2
          go_quiet (fail)
          go_wp2
          go_roundw
          case rel => exact ⟨k + 1, by omega, by go_num, _, rfl⟩
          case measure => simp [intOf]; omega
        · have q6 : ((k : Int) != 6) = true := bne_iff_ne.2 (by omega)
          by_cases h7 : k = 7
          · have q7 : ((k : Int) != 7) = false := by rw [h7]; rfl
            clear h7 h6 CD CS
            go_wp2
            go_quiet (fail)
            go_wp2
            go_roundw
            case rel => exact ⟨k + 1, by omega, by go_num, _, rfl⟩
            case measure => simp [intOf]; omega
          · have q7 : ((k : Int) != 7) = true := bne_iff_ne.2 (by omega)
            have cd := CD.out k hlt h6 h7
            have cs' := CS.out k hlt
            generalize zs.getD k 0 = X at cd cs'
            clear h7 h6 CD CS
            go_wp2
            go_quiet (fail)
            go_wp2
            go_roundw
            case rel => exact ⟨k + 1, by omega, by go_num, _, rfl⟩
            case measure => simp [intOf]; omega
      · go_wp2
        go_ret
        exact ⟨rfl, below_drewN bel3 m⟩
  · have hq : (65535 - F == 0) = false := beq_eq_false_iff_ne.2 hc0
    have HSg : Hid (sent (T0 + V) = 65535 - F) := by show _ = _; rw [HSd.out, if_neg hc0]
    clear hc0 HSd
    go_wp2
    refine wp_region_held_drew (S := (fun w' => (∀ i, w'.cell? ⟨w.heap.size, i, none⟩ = #[Value.int .u8 p0, Value.int .u8 p1, Value.int .u8 p2, Value.int .u8 p3][i]?) ∧ (∀ i, w'.cell? ⟨w.heap.size + 1, i, none⟩ = #[Value.int .u8 q0, Value.int .u8 q1, Value.int .u8 q2, Value.int .u8 q3][i]?) ∧ (∀ i, w'.cell? ⟨w.heap.size + 1 + 1, i, none⟩ = #[Value.int .u8 r0, Value.int .u8 r1, Value.int .u8 r2, Value.int .u8 r3, Value.int .u8 r4, Value.int .u8 r5, Value.int .u8 r6, Value.int .u8 r7, Value.int .u8 r8, Value.int .u8 r9, Value.int .u8 r10, Value.int .u8 r11, Value.int .u8 r12, Value.int .u8 r13, Value.int .u8 r14, Value.int .u8 r15][i]?) ∧ (∀ i, w'.cell? ⟨w.heap.size + 1 + 1 + 1, i, none⟩ = #[Value.int .u8 t0, Value.int .u8 t1, Value.int .u8 t2, Value.int .u8 t3, Value.int .u8 t4, Value.int .u8 t5, Value.int .u8 t6, Value.int .u8 t7, Value.int .u8 t8, Value.int .u8 t9, Value.int .u8 t10, Value.int .u8 t11, Value.int .u8 t12, Value.int .u8 t13, Value.int .u8 t14, Value.int .u8 t15][i]?))) (by kernel_rfl) ?_ (fun hHeld => ?_)
    · exact BX4.out
    refine take_dst (i := 0) (v := .slice (some ⟨w.heap.size + 1 + 1 + 1 + 1, 0, none⟩) zs.length zs.length) 59 rfl rfl (by kernel_rfl) (by kernel_rfl) (by kernel_rfl) (fun _ _ _ h => h) (Or.inl ⟨by rfl, ?_⟩) hHeld ?_
    · intro W' hSw; obtain ⟨y0, y1, -, -⟩ := hSw; go_simp
    simp only [Act.put, List.setIfInBounds_toArray, List.set_cons_zero, List.set_cons_succ]
    refine take_dst (i := 1) (v := .bool v6) 60 rfl rfl (by kernel_rfl) (by kernel_rfl) (by kernel_rfl) (fun _ _ _ h => h) (Or.inl ⟨by rfl, ?_⟩) hHeld ?_
    · intro W' hSw; obtain ⟨y0, y1, -, -⟩ := hSw; go_simp
    simp only [Act.put, List.setIfInBounds_toArray, List.set_cons_zero, List.set_cons_succ]
    refine take_dst (i := 2) (v := .agg #[Value.int .u8 p0, Value.int .u8 p1, Value.int .u8 p2, Value.int .u8 p3]) 61 rfl rfl (by kernel_rfl) (by kernel_rfl) (by kernel_rfl) (fun _ _ _ h => h) (Or.inl ⟨by rfl, ?_⟩) hHeld ?_
    · intro W' hSw; obtain ⟨y0, y1, -, -⟩ := hSw; go_simp
    simp only [Act.put, List.setIfInBounds_toArray, List.set_cons_zero, List.set_cons_succ]
    refine take_dst (i := 3) (v := .agg (List.toArray [Value.int .u8 r0, Value.int .u8 r1, Value.int .u8 r2, Value.int .u8 r3, Value.int .u8 r4, Value.int .u8 r5, Value.int .u8 r6, Value.int .u8 r7, Value.int .u8 r8, Value.int .u8 r9, Value.int .u8 r10, Value.int .u8 r11, Value.int .u8 r12, Value.int .u8 r13, Value.int .u8 r14, Value.int .u8 r15])) 62 rfl rfl (by kernel_rfl) (by kernel_rfl) (by kernel_rfl) (fun _ _ _ h => h) (yieldsIf_load_mid (by rfl) _ _ rfl (w.heap.size + 1 + 1) 0 rfl [Value.int .u8 r0, Value.int .u8 r1, Value.int .u8 r2, Value.int .u8 r3, Value.int .u8 r4, Value.int .u8 r5, Value.int .u8 r6, Value.int .u8 r7, Value.int .u8 r8, Value.int .u8 r9, Value.int .u8 r10, Value.int .u8 r11, Value.int .u8 r12, Value.int .u8 r13, Value.int .u8 r14, Value.int .u8 r15] _ ?_ hu24 rfl hi24) hHeld ?_
    · intro W' hSw; exact range_of [Value.int .u8 r0, Value.int .u8 r1, Value.int .u8 r2, Value.int .u8 r3, Value.int .u8 r4, Value.int .u8 r5, Value.int .u8 r6, Value.int .u8 r7, Value.int .u8 r8, Value.int .u8 r9, Value.int .u8 r10, Value.int .u8 r11, Value.int .u8 r12, Value.int .u8 r13, Value.int .u8 r14, Value.int .u8 r15] hSw.2.2.1
    simp only [Act.put, List.setIfInBounds_toArray, List.set_cons_zero, List.set_cons_succ]
    refine take_dst (i := 5) (v := .bool v6) 64 rfl rfl (by kernel_rfl) (by kernel_rfl) (by kernel_rfl) (fun _ _ _ h => h) (Or.inl ⟨by rfl, ?_⟩) hHeld ?_
    · intro W' hSw; obtain ⟨y0, y1, -, -⟩ := hSw; go_simp
    simp only [Act.put, List.setIfInBounds_toArray, List.set_cons_zero, List.set_cons_succ]
    refine take_dst (i := 6) (v := .agg #[Value.int .u8 q0, Value.int .u8 q1, Value.int .u8 q2, Value.int .u8 q3]) 65 rfl rfl (by kernel_rfl) (by kernel_rfl) (by kernel_rfl) (fun _ _ _ h => h) (Or.inl ⟨by rfl, ?_⟩) hHeld ?_
    · intro W' hSw; obtain ⟨y0, y1, -, -⟩ := hSw; go_simp
    simp only [Act.put, List.setIfInBounds_toArray, List.set_cons_zero, List.set_cons_succ]
    refine take_dst (i := 7) (v := .agg (List.toArray [Value.int .u8 t0, Value.int .u8 t1, Value.int .u8 t2, Value.int .u8 t3, Value.int .u8 t4, Value.int .u8 t5, Value.int .u8 t6, Value.int .u8 t7, Value.int .u8 t8, Value.int .u8 t9, Value.int .u8 t10, Value.int .u8 t11, Value.int .u8 t12, Value.int .u8 t13, Value.int .u8 t14, Value.int .u8 t15])) 66 rfl rfl (by kernel_rfl) (by kernel_rfl) (by kernel_rfl) (fun _ _ _ h => h) (yieldsIf_load_mid (by rfl) _ _ rfl (w.heap.size + 1 + 1 + 1) 0 rfl [Value.int .u8 t0, Value.int .u8 t1, Value.int .u8 t2, Value.int .u8 t3, Value.int .u8 t4, Value.int .u8 t5, Value.int .u8 t6, Value.int .u8 t7, Value.int .u8 t8, Value.int .u8 t9, Value.int .u8 t10, Value.int .u8 t11, Value.int .u8 t12, Value.int .u8 t13, Value.int .u8 t14, Value.int .u8 t15] _ ?_ hu24 rfl hj24) hHeld ?_
    · intro W' hSw; exact range_of [Value.int .u8 t0, Value.int .u8 t1, Value.int .u8 t2, Value.int .u8 t3, Value.int .u8 t4, Value.int .u8 t5, Value.int .u8 t6, Value.int .u8 t7, Value.int .u8 t8, Value.int .u8 t9, Value.int .u8 t10, Value.int .u8 t11, Value.int .u8 t12, Value.int .u8 t13, Value.int .u8 t14, Value.int .u8 t15] hSw.2.2.2
    simp only [Act.put, List.setIfInBounds_toArray, List.set_cons_zero, List.set_cons_succ]
    have rest0 : Rest w zs a4 a6 w4''.drew := rest4.drew
    have HB0 : Hid (Boxes w #[Value.int .u8 p0, Value.int .u8 p1, Value.int .u8 p2, Value.int .u8 p3] #[Value.int .u8 q0, Value.int .u8 q1, Value.int .u8 q2, Value.int .u8 q3] #[Value.int .u8 r0, Value.int .u8 r1, Value.int .u8 r2, Value.int .u8 r3, Value.int .u8 r4, Value.int .u8 r5, Value.int .u8 r6, Value.int .u8 r7, Value.int .u8 r8, Value.int .u8 r9, Value.int .u8 r10, Value.int .u8 r11, Value.int .u8 r12, Value.int .u8 r13, Value.int .u8 r14, Value.int .u8 r15] #[Value.int .u8 t0, Value.int .u8 t1, Value.int .u8 t2, Value.int .u8 t3, Value.int .u8 t4, Value.int .u8 t5, Value.int .u8 t6, Value.int .u8 t7, Value.int .u8 t8, Value.int .u8 t9, Value.int .u8 t10, Value.int .u8 t11, Value.int .u8 t12, Value.int .u8 t13, Value.int .u8 t14, Value.int .u8 t15] w4''.drew) := hHeld
    refine wpAnyH_ready (rs := [4]) (by kernel_rfl) (by simp) ?_
    refine AllReadyH.cons rfl (fun K hK => ?_) AllReadyH.nil
    go_simp
    refine (C1.out _ rest0.z).mono ?_
    rintro e w1 ⟨x1, rfl, ax1, b1⟩
    have rest1 := rest0.later b1
    have HB1 : Hid (Boxes w #[Value.int .u8 p0, Value.int .u8 p1, Value.int .u8 p2, Value.int .u8 p3] #[Value.int .u8 q0, Value.int .u8 q1, Value.int .u8 q2, Value.int .u8 q3] #[Value.int .u8 r0, Value.int .u8 r1, Value.int .u8 r2, Value.int .u8 r3, Value.int .u8 r4, Value.int .u8 r5, Value.int .u8 r6, Value.int .u8 r7, Value.int .u8 r8, Value.int .u8 r9, Value.int .u8 r10, Value.int .u8 r11, Value.int .u8 r12, Value.int .u8 r13, Value.int .u8 r14, Value.int .u8 r15] #[Value.int .u8 t0, Value.int .u8 t1, Value.int .u8 t2, Value.int .u8 t3, Value.int .u8 t4, Value.int .u8 t5, Value.int .u8 t6, Value.int .u8 t7, Value.int .u8 t8, Value.int .u8 t9, Value.int .u8 t10, Value.int .u8 t11, Value.int .u8 t12, Value.int .u8 t13, Value.int .u8 t14, Value.int .u8 t15] w1) := HB0.out.grown (G := w.heap.size + 1 + 1 + 1 + 1) (grown_below b1) (by omega) (by have := rest0.sz; omega)
    refine hK.out _ _ HB1.out (fun hHeld1 => ?_)
    clear hK K hHeld HB0 rest0
    refine wpAnyH_ready (rs := [8]) (by kernel_rfl) (by simp) ?_
    refine AllReadyH.cons rfl (fun K hK => ?_) AllReadyH.nil
    go_simp
    refine (C2.out _ rest1.z).mono ?_
    rintro e w2 ⟨x2, rfl, ax2, b2⟩
    have rest2 := rest1.later b2
    have HB2 : Hid (Boxes w #[Value.int .u8 p0, Value.int .u8 p1, Value.int .u8 p2, Value.int .u8 p3] #[Value.int .u8 q0, Value.int .u8 q1, Value.int .u8 q2, Value.int .u8 q3] #[Value.int .u8 r0, Value.int .u8 r1, Value.int .u8 r2, Value.int .u8 r3, Value.int .u8 r4, Value.int .u8 r5, Value.int .u8 r6, Value.int .u8 r7, Value.int .u8 r8, Value.int .u8 r9, Value.int .u8 r10, Value.int .u8 r11, Value.int .u8 r12, Value.int .u8 r13, Value.int .u8 r14, Value.int .u8 r15] #[Value.int .u8 t0, Value.int .u8 t1, Value.int .u8 t2, Value.int .u8 t3, Value.int .u8 t4, Value.int .u8 t5, Value.int .u8 t6, Value.int .u8 t7, Value.int .u8 t8, Value.int .u8 t9, Value.int .u8 t10, Value.int .u8 t11, Value.int .u8 t12, Value.int .u8 t13, Value.int .u8 t14, Value.int .u8 t15] w2) := HB1.out.grown (G := w.heap.size + 1 + 1 + 1 + 1) (grown_below b2) (by omega) (by have := rest1.sz; omega)
    refine hK.out _ _ HB2.out (fun hHeld2 => ?_)
    clear hK K hHeld1 HB1 rest1
    refine wpAnyH_ready (rs := [9]) (by kernel_rfl) (by simp) ?_
    refine AllReadyH.cons rfl (fun K hK => ?_) AllReadyH.nil
    go_simp
    refine (setUDP (w.heap.size + 1 + 1 + 1 + 1) zs S D x1 x2 a4 a6 (by omega) (by omega) _ rest2.src rest2.fz rest2.z (by omega) hG4 hG6 ax1 ax2).mono ?_
    rintro e w3 ⟨rfl, s3, g3, fz3⟩
    have HB3 : Hid (Boxes w #[Value.int .u8 p0, Value.int .u8 p1, Value.int .u8 p2, Value.int .u8 p3] #[Value.int .u8 q0, Value.int .u8 q1, Value.int .u8 q2, Value.int .u8 q3] #[Value.int .u8 r0, Value.int .u8 r1, Value.int .u8 r2, Value.int .u8 r3, Value.int .u8 r4, Value.int .u8 r5, Value.int .u8 r6, Value.int .u8 r7, Value.int .u8 r8, Value.int .u8 r9, Value.int .u8 r10, Value.int .u8 r11, Value.int .u8 r12, Value.int .u8 r13, Value.int .u8 r14, Value.int .u8 r15] #[Value.int .u8 t0, Value.int .u8 t1, Value.int .u8 t2, Value.int .u8 t3, Value.int .u8 t4, Value.int .u8 t5, Value.int .u8 t6, Value.int .u8 t7, Value.int .u8 t8, Value.int .u8 t9, Value.int .u8 t10, Value.int .u8 t11, Value.int .u8 t12, Value.int .u8 t13, Value.int .u8 t14, Value.int .u8 t15] w3) := HB2.out.grown g3 (by omega) (by have := rest2.sz; omega)
    refine hK.out _ _ HB3.out (fun hHeld3 => ?_)
    clear hK K hHeld2 HB2
    refine wpAnyH_done (by kernel_rfl) ?_ _
    rw [HT.out, HSg.out] at s3
    have bel3 : Below w.heap.size w w3 := rest2.bel.grown g3 rest2.bel.size (fun k e => by simp at e; omega)
    have R0 := exact_rest s3 (hs.later bel3) (by omega)
    clear ax1 ax2 b1 b2 rest2 g3 hHeld3 HB3 C1 C2 C3 fz3 s3 hi24 hj24 hu24 rest4 BX4 hs hz
    obtain ⟨c6, c7, cd, cs'⟩ := R0
    have CD : Hid (∀ k, k < zs.length → k ≠ 6 → k ≠ 7 → w3.cell? ⟨w.heap.size + 1 + 1 + 1 + 1, k, none⟩ = some (.int .u8 (zs.getD k 0))) := cd
    have CS : Hid (∀ k, k < zs.length → w3.cell? ⟨b, off + k, none⟩ = some (.int .u8 (zs.getD k 0))) := cs'
    clear cd cs'
    have h6l : (6 : Int) < (zs.length : Int) := by omega
    have h7l : (7 : Int) < (zs.length : Int) := by omega
    have e256 : (65535 - F) % 65536 = (65535 - F) := by omega
    go_wp2
    clear c6 c7 e256 h6l h7l hx hx' hq HT HSg
    go_loopw [17] (fun i wr => ∃ k : Nat, k ≤ zs.length ∧ i = .int .i64 k ∧ ∃ m, wr = w3.drewN m) (fun i _ => zs.length - (intOf i).toNat)
    case atStart => exact ⟨0, Nat.zero_le _, rfl, 0, rfl⟩
    case round =>
      obtain ⟨k, hk, rfl, m, rfl⟩ := hrel
      by_cases hlt : k < zs.length
      · have hki : (k : Int) < (zs.length : Int) := by omega
        by_cases h6 : k = 6
        · have q6 : ((k : Int) != 6) = false := by rw [h6]; rfl
          clear h6 CD CS
          go_wp2
          go_quiet (fail)
          go_wp2
          go_roundw
          case rel => exact ⟨k + 1, by omega, by go_num, _, rfl⟩
          case measure => simp [intOf]; omega
        · have q6 : ((k : Int) != 6) = true := bne_iff_ne.2 (by omega)
          by_cases h7 : k = 7
          · have q7 : ((k : Int) != 7) = false := by rw [h7]; rfl
            clear h7 h6 CD CS
            go_wp2
            go_quiet (fail)
            go_wp2
            go_roundw
            case rel => exact ⟨k + 1, by omega, by go_num, _, rfl⟩
            case measure => simp [intOf]; omega
          · have q7 : ((k : Int) != 7) = true := bne_iff_ne.2 (by omega)
            have cd := CD.out k hlt h6 h7
            have cs' := CS.out k hlt
            generalize zs.getD k 0 = X at cd cs'
            clear h7 h6 CD CS
            go_wp2
            go_quiet (fail)
            go_wp2
            go_roundw
            case rel => exact ⟨k + 1, by omega, by go_num, _, rfl⟩
            case measure => simp [intOf]; omega
      · go_wp2
        go_ret
        exact ⟨rfl, below_drewN bel3 m⟩
end Go.Proofs.YbulkacxcDoor
