import Derived.Test.YbulkacxcDoorBCopy
import Derived.Deep.RegionHeld3
namespace Go.Proofs.YbulkacxcDoor
open Go.ChangeShapes Go.WideShapes Go.ChangeAt Go.WideMaps Go.WideElems Go.RowKit

theorem cblk {w w' : World} {g : Nat} (i : Nat) (h : w'.heap[g]? = w.heap[g]?) : w'.cell? ⟨g, i, none⟩ = w.cell? ⟨g, i, none⟩ := World.cell?_of_block (a := ⟨g, i, none⟩) h

theorem IsAddr.byte {a4 a6 : Addr} {v : Value} {zs : List Int} (h : IsAddr a4 a6 v zs) : ∀ z ∈ zs, 0 ≤ z ∧ z ≤ 255 := by
  rcases h with ⟨b0, b1, b2, b3, k0, k1, k2, k3, rfl, rfl⟩ | ⟨b0, b1, b2, b3, b4, b5, b6, b7, b8, b9, b10, b11, b12, b13, b14, b15, k0, k1, k2, k3, k4, k5, k6, k7, k8, k9, k10, k11, k12, k13, k14, k15, rfl, rfl⟩
  · simp [k0, k1, k2, k3]
  · simp [k0, k1, k2, k3, k4, k5, k6, k7, k8, k9, k10, k11, k12, k13, k14, k15]
theorem IsAddr.len {a4 a6 : Addr} {v : Value} {zs : List Int} (h : IsAddr a4 a6 v zs) : zs.length ≤ 16 := by
  rcases h with ⟨b0, b1, b2, b3, k0, k1, k2, k3, rfl, rfl⟩ | ⟨b0, b1, b2, b3, b4, b5, b6, b7, b8, b9, b10, b11, b12, b13, b14, b15, k0, k1, k2, k3, k4, k5, k6, k7, k8, k9, k10, k11, k12, k13, k14, k15, rfl, rfl⟩ <;> simp
theorem byte_set {zs : List Int} (h : ∀ z ∈ zs, 0 ≤ z ∧ z ≤ 255) : ∀ z ∈ (zs.set 6 0).set 7 0, 0 ≤ z ∧ z ≤ 255 := fun z hz => by
  rcases List.mem_or_eq_of_mem_set hz with h1 | h1
  · rcases List.mem_or_eq_of_mem_set h1 with h2 | h2
    · exact h z h2
    · omega
  · omega
theorem row_at {w : World} {G : Nat} {ys : List Int} (h : Src w (some ⟨G, 0, none⟩) ys) (i : Nat) (z : Int) (hi : i < ys.length) (hz : ys.getD i 0 = z) : w.cell? ⟨G, i, none⟩ = some (.int .u8 z) := by
  obtain ⟨b, off, e, hc⟩ := h.cell i hi
  simp only [Option.some.injEq, Addr.mk.injEq, and_true] at e
  obtain ⟨rfl, rfl⟩ := e
  rw [Nat.zero_add] at hc
  rw [hc, hz]
theorem set67_6 (zs : List Int) (p q : Int) (hl : 8 ≤ zs.length) : ((zs.set 6 p).set 7 q).getD 6 0 = p := by
  simp only [List.getD_eq_getElem?_getD]
  rw [List.getElem?_set_ne (by omega), List.getElem?_set_self (by omega)]; rfl
theorem set67_7 (zs : List Int) (p q : Int) (hl : 8 ≤ zs.length) : ((zs.set 6 p).set 7 q).getD 7 0 = q := by
  simp only [List.getD_eq_getElem?_getD]
  rw [List.getElem?_set_self (by simp; omega)]; rfl
theorem bsumL (a : Option Addr) (ys : List Int) (n c : Nat) (hl : ys.length = n) (s : Int) (hn : n ≤ 4096) (h0 : 0 ≤ s) (h1 : s ≤ 1000000000000) (w : World) (hs : Src w a ys) :
    Calls Ybad.prog 9 #[.slice a n c, .int .u64 s] w fun e w' => e = .returned (.int .u64 (s + wsTo ys n)) ∧ w' = w := by
  subst hl
  exact bsum_any a ys c s hn h0 h1 w hs

/-- The four boxed array parameters. -/
def Boxes (w : World) (A B R T : Array Value) (w' : World) : Prop :=
  (∀ i, w'.cell? ⟨w.heap.size, i, none⟩ = A[i]?) ∧ (∀ i, w'.cell? ⟨w.heap.size + 1, i, none⟩ = B[i]?) ∧ (∀ i, w'.cell? ⟨w.heap.size + 1 + 1, i, none⟩ = R[i]?) ∧ (∀ i, w'.cell? ⟨w.heap.size + 1 + 1 + 1, i, none⟩ = T[i]?)

theorem Boxes.grown {w : World} {A B R T : Array Value} {W W' : World} {G : Nat} (h : Boxes w A B R T W) (hg : W.grownBy W' (some G)) (hG : w.heap.size + 1 + 1 + 1 < G) (hs : w.heap.size + 1 + 1 + 1 < W.heap.size) : Boxes w A B R T W' := by
  obtain ⟨h1, h2, h3, h4⟩ := h
  refine ⟨fun i => ?_, fun i => ?_, fun i => ?_, fun i => ?_⟩
  · rw [cblk i (hg.block _ (by omega) (by simp; omega))]; exact h1 i
  · rw [cblk i (hg.block _ (by omega) (by simp; omega))]; exact h2 i
  · rw [cblk i (hg.block _ (by omega) (by simp; omega))]; exact h3 i
  · rw [cblk i (hg.block _ (by omega) (by simp; omega))]; exact h4 i

theorem range_of {w : World} {b : Nat} (l : List Value) (h : ∀ i, w.cell? ⟨b, i, none⟩ = l.toArray[i]?) : w.rangeAt b 0 l := fun j v hv => by rw [Nat.zero_add, h j]; simpa using hv

/-- What stands while the region of the three calls goes: the copy d, the listed variables, the old memory. -/
structure Rest (w : World) (zs : List Int) (a4 a6 : Addr) (w' : World) : Prop where
  z : Zs w' a4 a6
  src : Src w' (some ⟨w.heap.size + 1 + 1 + 1 + 1, 0, none⟩) zs
  fz : ∀ o, w'.frozen? ⟨w.heap.size + 1 + 1 + 1 + 1, o, none⟩ = false
  bel : Below w.heap.size w w'
  sz : w.heap.size + 1 + 1 + 1 + 1 < w'.heap.size

theorem Rest.later {w : World} {zs : List Int} {a4 a6 : Addr} {W W' : World} (h : Rest w zs a4 a6 W) (hb : Below W.heap.size W W') : Rest w zs a4 a6 W' :=
  ⟨h.z.below hb (Nat.le_refl _), h.src.later hb, fun o => by rw [hb.frozen (p := ⟨w.heap.size + 1 + 1 + 1 + 1, o, none⟩) h.sz]; exact h.fz o, h.bel.trans (hb.mono h.bel.size), Nat.lt_of_lt_of_le h.sz hb.size⟩

theorem Rest.drew {w : World} {zs : List Int} {a4 a6 : Addr} {w' : World} (h : Rest w zs a4 a6 w') : Rest w zs a4 a6 w'.drew :=
  ⟨h.z.below (Below.refl _ w').drew (Nat.le_refl _), h.src.later (Below.refl _ w').drew, h.fz, h.bel.drew, h.sz⟩

/-- 'wpAnyH_take', the slot that is written said outright. -/
theorem take_dst {P : Program} {md : Region.Mode} {ops : Array Oper} {Q : Exit → Act → World → Prop} {S : World → Prop} {i : Nat} {oi : Oper} {v : Value} {fuel : Nat} {listed : Array Bool} {a : Act} {w : World} (d : Nat) (hi : ops[i]? = some oi) (hd : oi.dst = some d)
    (hs : Region.noSelect ops = true) (hf : Region.free md ops listed i = true) (hr : (Region.ready md ops listed).contains i = true)
    (hQ : ∀ c a w, Q (.panic c) (a.put (some d) v) w → Q (.panic c) a w) (hy : YieldsIf P ops S oi v a) (hS : S w)
    (h : wpAnyH P md ops Q S fuel (listed.setIfInBounds i true) (a.put (some d) v) w) : wpAnyH P md ops Q S (fuel + 1) listed a w :=
  wpAnyH_take hi hs hf hr (by rw [hd]; exact hQ) hy hS (by rw [hd]; exact h)

set_option linter.unusedSimpArgs false in
set_option maxHeartbeats 4000000 in
set_option maxRecDepth 100000 in
theorem verifies_walk (a : Option Addr) (zs : List Int) (c : Nat) (v6 : Bool) {X4 Y4 X16 Y16 : Array Value} {s4 d4 s16 d16 : List Int} (h1 : IsB4 X4 s4) (h2 : IsB4 Y4 d4) (h3 : IsB16 X16 s16) (h4 : IsB16 Y16 d16) (a4 a6 : Addr) (w : World)
    (hs : Src w a zs) (hz : Zs w a4 a6) :
    Calls Ybad.prog 4 #[.slice a zs.length c, .bool v6, .agg X4, .agg Y4, .agg X16, .agg Y16] w fun e w' => e = .returned (.bool true) ∧ Below w.heap.size w w' := by
  have A1 := fun W hW => baddrP v6 h1 h3 a4 a6 W hW
  have A2 := fun W hW => baddrP v6 h2 h4 a4 a6 W hW
  have A3 := fun n h0 hn W => pseudo_any v6 h1 h2 h3 h4 n h0 hn W
  obtain ⟨p0, p1, p2, p3, rfl⟩ := h1.lit
  obtain ⟨q0, q1, q2, q3, rfl⟩ := h2.lit
  obtain ⟨r0, r1, r2, r3, r4, r5, r6, r7, r8, r9, r10, r11, r12, r13, r14, r15, rfl⟩ := h3.lit
  obtain ⟨t0, t1, t2, t3, t4, t5, t6, t7, t8, t9, t10, t11, t12, t13, t14, t15, rfl⟩ := h4.lit
  generalize (if v6 then s16 else s4) = S at *
  generalize (if v6 then d16 else d4) = D at *
  have C1 : Hid (∀ W (_ : Zs W a4 a6), _) := A1
  have C2 : Hid (∀ W (_ : Zs W a4 a6), _) := A2
  have C3 : Hid (∀ (n : Int) (_ : 0 ≤ n) (_ : n ≤ 4096) W, _) := A3
  clear A1 A2 A3 h1 h2 h3 h4
  obtain ⟨k0, k1, k2, k3, kb, ksz⟩ := four w #[.int .u8 p0, .int .u8 p1, .int .u8 p2, .int .u8 p3] #[.int .u8 q0, .int .u8 q1, .int .u8 q2, .int .u8 q3] #[.int .u8 r0, .int .u8 r1, .int .u8 r2, .int .u8 r3, .int .u8 r4, .int .u8 r5, .int .u8 r6, .int .u8 r7, .int .u8 r8, .int .u8 r9, .int .u8 r10, .int .u8 r11, .int .u8 r12, .int .u8 r13, .int .u8 r14, .int .u8 r15] #[.int .u8 t0, .int .u8 t1, .int .u8 t2, .int .u8 t3, .int .u8 t4, .int .u8 t5, .int .u8 t6, .int .u8 t7, .int .u8 t8, .int .u8 t9, .int .u8 t10, .int .u8 t11, .int .u8 t12, .int .u8 t13, .int .u8 t14, .int .u8 t15] 23 23 24 24
  by_cases h8 : zs.length < 8
  · go_enter Ybad.func4, Ybad.ntmps4
    go_wp2
    go_ret
    exact ⟨rfl, kb⟩
  by_cases h4k : 4096 < zs.length
  · go_enter Ybad.func4, Ybad.ntmps4
    go_wp2
    go_ret
    exact ⟨rfl, kb⟩
  have hd1 : decide ((zs.length : Int) < 8) = false := by simp; omega
  have hd2 : decide ((4096 : Int) < (zs.length : Int)) = false := by simp; omega
  obtain ⟨i5, i5h, i5z, i5s, i5b⟩ := info_parts info5b
  obtain ⟨b, off, rfl, _⟩ := hs.cell 0 (by omega)
  have KB : Hid _ := kb
  have K0 : Hid _ := k0
  have K1 : Hid _ := k1
  have K2 : Hid _ := k2
  have K3 : Hid _ := k3
  have KZ : Hid _ := ksz
  clear kb k0 k1 k2 k3 ksz
  go_enter Ybad.func4, Ybad.ntmps4
  go_wp2_with (at_make; refine wpList_make_full _ rfl (.tmp 24) (.tmp 24) 22 rfl (w.heap.size + 1 + 1 + 1 + 1) 5 i5 _ 1 Ybad.underlying22 i5h i5z i5s _ _ _ _ zs.length rfl rfl rfl rfl ?c1 ?c2 ?c3 ?_)
  case c1 => rw [i5b]; omega
  case c2 => unfold maxLen; omega
  case c3 => exact Nat.le_of_eq KZ.out.symm
  intro W1 hown hgrow
  obtain ⟨cur, hg, hcs⟩ := own_block hown
  have bW1 : Below w.heap.size w W1 := KB.out.grown hgrow (by rw [KZ.out]; omega) (by simp)
  have m0 : ∀ i, W1.cell? ⟨w.heap.size, i, none⟩ = #[Value.int .u8 p0, Value.int .u8 p1, Value.int .u8 p2, Value.int .u8 p3][i]? := fun i => (cblk i (hgrow.block _ (by rw [KZ.out]; omega) (by simp))).trans (K0.out i)
  have m1 : ∀ i, W1.cell? ⟨w.heap.size + 1, i, none⟩ = #[Value.int .u8 q0, Value.int .u8 q1, Value.int .u8 q2, Value.int .u8 q3][i]? := fun i => (cblk i (hgrow.block _ (by rw [KZ.out]; omega) (by simp))).trans (K1.out i)
  have m2 : ∀ i, W1.cell? ⟨w.heap.size + 1 + 1, i, none⟩ = #[Value.int .u8 r0, Value.int .u8 r1, Value.int .u8 r2, Value.int .u8 r3, Value.int .u8 r4, Value.int .u8 r5, Value.int .u8 r6, Value.int .u8 r7, Value.int .u8 r8, Value.int .u8 r9, Value.int .u8 r10, Value.int .u8 r11, Value.int .u8 r12, Value.int .u8 r13, Value.int .u8 r14, Value.int .u8 r15][i]? := fun i => (cblk i (hgrow.block _ (by rw [KZ.out]; omega) (by simp))).trans (K2.out i)
  have m3 : ∀ i, W1.cell? ⟨w.heap.size + 1 + 1 + 1, i, none⟩ = #[Value.int .u8 t0, Value.int .u8 t1, Value.int .u8 t2, Value.int .u8 t3, Value.int .u8 t4, Value.int .u8 t5, Value.int .u8 t6, Value.int .u8 t7, Value.int .u8 t8, Value.int .u8 t9, Value.int .u8 t10, Value.int .u8 t11, Value.int .u8 t12, Value.int .u8 t13, Value.int .u8 t14, Value.int .u8 t15][i]? := fun i => (cblk i (hgrow.block _ (by rw [KZ.out]; omega) (by simp))).trans (K3.out i)
  have hcp := copy_run (c := c) hg hcs (hs.later bW1)
  obtain ⟨f1, f2, f3, f4⟩ := row_facts (zs := zs) hg hs.byte
  have n0 : ∀ i, (W1.setRow (w.heap.size + 1 + 1 + 1 + 1) (zs.map (Value.int .u8)).toArray).cell? ⟨w.heap.size, i, none⟩ = #[Value.int .u8 p0, Value.int .u8 p1, Value.int .u8 p2, Value.int .u8 p3][i]? := fun i => (cblk i (f3 _ (by omega))).trans (m0 i)
  have n1 : ∀ i, (W1.setRow (w.heap.size + 1 + 1 + 1 + 1) (zs.map (Value.int .u8)).toArray).cell? ⟨w.heap.size + 1, i, none⟩ = #[Value.int .u8 q0, Value.int .u8 q1, Value.int .u8 q2, Value.int .u8 q3][i]? := fun i => (cblk i (f3 _ (by omega))).trans (m1 i)
  have n2 : ∀ i, (W1.setRow (w.heap.size + 1 + 1 + 1 + 1) (zs.map (Value.int .u8)).toArray).cell? ⟨w.heap.size + 1 + 1, i, none⟩ = #[Value.int .u8 r0, Value.int .u8 r1, Value.int .u8 r2, Value.int .u8 r3, Value.int .u8 r4, Value.int .u8 r5, Value.int .u8 r6, Value.int .u8 r7, Value.int .u8 r8, Value.int .u8 r9, Value.int .u8 r10, Value.int .u8 r11, Value.int .u8 r12, Value.int .u8 r13, Value.int .u8 r14, Value.int .u8 r15][i]? := fun i => (cblk i (f3 _ (by omega))).trans (m2 i)
  have n3 : ∀ i, (W1.setRow (w.heap.size + 1 + 1 + 1 + 1) (zs.map (Value.int .u8)).toArray).cell? ⟨w.heap.size + 1 + 1 + 1, i, none⟩ = #[Value.int .u8 t0, Value.int .u8 t1, Value.int .u8 t2, Value.int .u8 t3, Value.int .u8 t4, Value.int .u8 t5, Value.int .u8 t6, Value.int .u8 t7, Value.int .u8 t8, Value.int .u8 t9, Value.int .u8 t10, Value.int .u8 t11, Value.int .u8 t12, Value.int .u8 t13, Value.int .u8 t14, Value.int .u8 t15][i]? := fun i => (cblk i (f3 _ (by omega))).trans (m3 i)
  have bW2 : Below w.heap.size w (W1.setRow (w.heap.size + 1 + 1 + 1 + 1) (zs.map (Value.int .u8)).toArray) := setRow_below bW1 (by omega) _
  have zW2 := hz.below bW2 (Nat.le_refl _)
  obtain ⟨nm, hnm⟩ : ∃ nm, nm = W1.setRow (w.heap.size + 1 + 1 + 1 + 1) (zs.map (Value.int .u8)).toArray := ⟨_, rfl⟩
  rw [← hnm] at hcp f1 f2 f3 f4 n0 n1 n2 n3 bW2 zW2
  have hsz1 := hgrow.size
  rw [KZ.out] at hsz1
  have hGlt : w.heap.size + 1 + 1 + 1 + 1 < W1.heap.size := (Array.getElem?_eq_some_iff.1 hg).1
  clear hnm m0 m1 m2 m3 hgrow hown hg hcs K0 K1 K2 K3 KB f3 bW1
  go_wp2
  have hsz2 : w.heap.size + 1 + 1 + 1 + 1 < nm.heap.size := by rw [f4]; exact hGlt
  have hG4 : a4.block ≠ w.heap.size + 1 + 1 + 1 + 1 := by obtain ⟨c, t, h⟩ := hz.b4; have := (Array.getElem?_eq_some_iff.1 h).1; omega
  have hG6 : a6.block ≠ w.heap.size + 1 + 1 + 1 + 1 := by obtain ⟨c, t, h⟩ := hz.b6; have := (Array.getElem?_eq_some_iff.1 h).1; omega
  have hw3 := hz.big
  clear hcp f4 hGlt hsz1
  have rest : Rest w zs a4 a6 nm := ⟨zW2, f1, f2, bW2, hsz2⟩
  have hi24 : (Ybad.prog.info? 24).map (·.size) = some [Value.int .u8 r0, Value.int .u8 r1, Value.int .u8 r2, Value.int .u8 r3, Value.int .u8 r4, Value.int .u8 r5, Value.int .u8 r6, Value.int .u8 r7, Value.int .u8 r8, Value.int .u8 r9, Value.int .u8 r10, Value.int .u8 r11, Value.int .u8 r12, Value.int .u8 r13, Value.int .u8 r14, Value.int .u8 r15].length := by kernel_rfl
  have hj24 : (Ybad.prog.info? 24).map (·.size) = some [Value.int .u8 t0, Value.int .u8 t1, Value.int .u8 t2, Value.int .u8 t3, Value.int .u8 t4, Value.int .u8 t5, Value.int .u8 t6, Value.int .u8 t7, Value.int .u8 t8, Value.int .u8 t9, Value.int .u8 t10, Value.int .u8 t11, Value.int .u8 t12, Value.int .u8 t13, Value.int .u8 t14, Value.int .u8 t15].length := by kernel_rfl
  have hu24 := Ybad.underlying24
  clear f1 f2 bW2 zW2
  refine wp_region_held_drew (S := (fun w' => (∀ i, w'.cell? ⟨w.heap.size, i, none⟩ = #[Value.int .u8 p0, Value.int .u8 p1, Value.int .u8 p2, Value.int .u8 p3][i]?) ∧ (∀ i, w'.cell? ⟨w.heap.size + 1, i, none⟩ = #[Value.int .u8 q0, Value.int .u8 q1, Value.int .u8 q2, Value.int .u8 q3][i]?) ∧ (∀ i, w'.cell? ⟨w.heap.size + 1 + 1, i, none⟩ = #[Value.int .u8 r0, Value.int .u8 r1, Value.int .u8 r2, Value.int .u8 r3, Value.int .u8 r4, Value.int .u8 r5, Value.int .u8 r6, Value.int .u8 r7, Value.int .u8 r8, Value.int .u8 r9, Value.int .u8 r10, Value.int .u8 r11, Value.int .u8 r12, Value.int .u8 r13, Value.int .u8 r14, Value.int .u8 r15][i]?) ∧ (∀ i, w'.cell? ⟨w.heap.size + 1 + 1 + 1, i, none⟩ = #[Value.int .u8 t0, Value.int .u8 t1, Value.int .u8 t2, Value.int .u8 t3, Value.int .u8 t4, Value.int .u8 t5, Value.int .u8 t6, Value.int .u8 t7, Value.int .u8 t8, Value.int .u8 t9, Value.int .u8 t10, Value.int .u8 t11, Value.int .u8 t12, Value.int .u8 t13, Value.int .u8 t14, Value.int .u8 t15][i]?))) (by kernel_rfl) ?_ (fun hHeld => ?_)
  · exact ⟨n0, n1, n2, n3⟩
  clear n0 n1 n2 n3
  refine take_dst (i := 0) (v := .slice (some ⟨w.heap.size + 1 + 1 + 1 + 1, 0, none⟩) zs.length zs.length) 29 rfl rfl (by kernel_rfl) (by kernel_rfl) (by kernel_rfl) (fun _ _ _ h => h) (Or.inl ⟨by rfl, ?_⟩) hHeld ?_
  · intro W' hSw; obtain ⟨y0, y1, -, -⟩ := hSw; go_simp
  simp only [Act.put, List.setIfInBounds_toArray, List.set_cons_zero, List.set_cons_succ]
  refine take_dst (i := 1) (v := .bool v6) 30 rfl rfl (by kernel_rfl) (by kernel_rfl) (by kernel_rfl) (fun _ _ _ h => h) (Or.inl ⟨by rfl, ?_⟩) hHeld ?_
  · intro W' hSw; obtain ⟨y0, y1, -, -⟩ := hSw; go_simp
  simp only [Act.put, List.setIfInBounds_toArray, List.set_cons_zero, List.set_cons_succ]
  refine take_dst (i := 2) (v := .agg #[Value.int .u8 p0, Value.int .u8 p1, Value.int .u8 p2, Value.int .u8 p3]) 31 rfl rfl (by kernel_rfl) (by kernel_rfl) (by kernel_rfl) (fun _ _ _ h => h) (Or.inl ⟨by rfl, ?_⟩) hHeld ?_
  · intro W' hSw; obtain ⟨y0, y1, -, -⟩ := hSw; go_simp
  simp only [Act.put, List.setIfInBounds_toArray, List.set_cons_zero, List.set_cons_succ]
  refine take_dst (i := 3) (v := .agg (List.toArray [Value.int .u8 r0, Value.int .u8 r1, Value.int .u8 r2, Value.int .u8 r3, Value.int .u8 r4, Value.int .u8 r5, Value.int .u8 r6, Value.int .u8 r7, Value.int .u8 r8, Value.int .u8 r9, Value.int .u8 r10, Value.int .u8 r11, Value.int .u8 r12, Value.int .u8 r13, Value.int .u8 r14, Value.int .u8 r15])) 32 rfl rfl (by kernel_rfl) (by kernel_rfl) (by kernel_rfl) (fun _ _ _ h => h) (yieldsIf_load_mid (by rfl) _ _ rfl (w.heap.size + 1 + 1) 0 rfl [Value.int .u8 r0, Value.int .u8 r1, Value.int .u8 r2, Value.int .u8 r3, Value.int .u8 r4, Value.int .u8 r5, Value.int .u8 r6, Value.int .u8 r7, Value.int .u8 r8, Value.int .u8 r9, Value.int .u8 r10, Value.int .u8 r11, Value.int .u8 r12, Value.int .u8 r13, Value.int .u8 r14, Value.int .u8 r15] _ ?_ hu24 rfl hi24) hHeld ?_
  · intro W' hSw; exact range_of [Value.int .u8 r0, Value.int .u8 r1, Value.int .u8 r2, Value.int .u8 r3, Value.int .u8 r4, Value.int .u8 r5, Value.int .u8 r6, Value.int .u8 r7, Value.int .u8 r8, Value.int .u8 r9, Value.int .u8 r10, Value.int .u8 r11, Value.int .u8 r12, Value.int .u8 r13, Value.int .u8 r14, Value.int .u8 r15] hSw.2.2.1
  simp only [Act.put, List.setIfInBounds_toArray, List.set_cons_zero, List.set_cons_succ]
  refine take_dst (i := 5) (v := .bool v6) 34 rfl rfl (by kernel_rfl) (by kernel_rfl) (by kernel_rfl) (fun _ _ _ h => h) (Or.inl ⟨by rfl, ?_⟩) hHeld ?_
  · intro W' hSw; obtain ⟨y0, y1, -, -⟩ := hSw; go_simp
  simp only [Act.put, List.setIfInBounds_toArray, List.set_cons_zero, List.set_cons_succ]
  refine take_dst (i := 6) (v := .agg #[Value.int .u8 q0, Value.int .u8 q1, Value.int .u8 q2, Value.int .u8 q3]) 35 rfl rfl (by kernel_rfl) (by kernel_rfl) (by kernel_rfl) (fun _ _ _ h => h) (Or.inl ⟨by rfl, ?_⟩) hHeld ?_
  · intro W' hSw; obtain ⟨y0, y1, -, -⟩ := hSw; go_simp
  simp only [Act.put, List.setIfInBounds_toArray, List.set_cons_zero, List.set_cons_succ]
  refine take_dst (i := 7) (v := .agg (List.toArray [Value.int .u8 t0, Value.int .u8 t1, Value.int .u8 t2, Value.int .u8 t3, Value.int .u8 t4, Value.int .u8 t5, Value.int .u8 t6, Value.int .u8 t7, Value.int .u8 t8, Value.int .u8 t9, Value.int .u8 t10, Value.int .u8 t11, Value.int .u8 t12, Value.int .u8 t13, Value.int .u8 t14, Value.int .u8 t15])) 36 rfl rfl (by kernel_rfl) (by kernel_rfl) (by kernel_rfl) (fun _ _ _ h => h) (yieldsIf_load_mid (by rfl) _ _ rfl (w.heap.size + 1 + 1 + 1) 0 rfl [Value.int .u8 t0, Value.int .u8 t1, Value.int .u8 t2, Value.int .u8 t3, Value.int .u8 t4, Value.int .u8 t5, Value.int .u8 t6, Value.int .u8 t7, Value.int .u8 t8, Value.int .u8 t9, Value.int .u8 t10, Value.int .u8 t11, Value.int .u8 t12, Value.int .u8 t13, Value.int .u8 t14, Value.int .u8 t15] _ ?_ hu24 rfl hj24) hHeld ?_
  · intro W' hSw; exact range_of [Value.int .u8 t0, Value.int .u8 t1, Value.int .u8 t2, Value.int .u8 t3, Value.int .u8 t4, Value.int .u8 t5, Value.int .u8 t6, Value.int .u8 t7, Value.int .u8 t8, Value.int .u8 t9, Value.int .u8 t10, Value.int .u8 t11, Value.int .u8 t12, Value.int .u8 t13, Value.int .u8 t14, Value.int .u8 t15] hSw.2.2.2
  simp only [Act.put, List.setIfInBounds_toArray, List.set_cons_zero, List.set_cons_succ]
  have rest0 : Rest w zs a4 a6 nm.drew := rest.drew
  have HB0 : Hid (Boxes w #[Value.int .u8 p0, Value.int .u8 p1, Value.int .u8 p2, Value.int .u8 p3] #[Value.int .u8 q0, Value.int .u8 q1, Value.int .u8 q2, Value.int .u8 q3] #[Value.int .u8 r0, Value.int .u8 r1, Value.int .u8 r2, Value.int .u8 r3, Value.int .u8 r4, Value.int .u8 r5, Value.int .u8 r6, Value.int .u8 r7, Value.int .u8 r8, Value.int .u8 r9, Value.int .u8 r10, Value.int .u8 r11, Value.int .u8 r12, Value.int .u8 r13, Value.int .u8 r14, Value.int .u8 r15] #[Value.int .u8 t0, Value.int .u8 t1, Value.int .u8 t2, Value.int .u8 t3, Value.int .u8 t4, Value.int .u8 t5, Value.int .u8 t6, Value.int .u8 t7, Value.int .u8 t8, Value.int .u8 t9, Value.int .u8 t10, Value.int .u8 t11, Value.int .u8 t12, Value.int .u8 t13, Value.int .u8 t14, Value.int .u8 t15] nm.drew) := hHeld
  refine wpAnyH_ready (rs := [4]) (by kernel_rfl) (by simp) ?_
  refine AllReadyH.cons rfl (fun K hK => ?_) AllReadyH.nil
  go_simp
  refine (C1.out _ rest0.z).mono ?_
  rintro e w1 ⟨x1, rfl, ax1, b1⟩
  have rest1 := rest0.later b1
  have HB1 : Hid (Boxes w #[Value.int .u8 p0, Value.int .u8 p1, Value.int .u8 p2, Value.int .u8 p3] #[Value.int .u8 q0, Value.int .u8 q1, Value.int .u8 q2, Value.int .u8 q3] #[Value.int .u8 r0, Value.int .u8 r1, Value.int .u8 r2, Value.int .u8 r3, Value.int .u8 r4, Value.int .u8 r5, Value.int .u8 r6, Value.int .u8 r7, Value.int .u8 r8, Value.int .u8 r9, Value.int .u8 r10, Value.int .u8 r11, Value.int .u8 r12, Value.int .u8 r13, Value.int .u8 r14, Value.int .u8 r15] #[Value.int .u8 t0, Value.int .u8 t1, Value.int .u8 t2, Value.int .u8 t3, Value.int .u8 t4, Value.int .u8 t5, Value.int .u8 t6, Value.int .u8 t7, Value.int .u8 t8, Value.int .u8 t9, Value.int .u8 t10, Value.int .u8 t11, Value.int .u8 t12, Value.int .u8 t13, Value.int .u8 t14, Value.int .u8 t15] w1) := HB0.out.grown (G := w.heap.size + 1 + 1 + 1 + 1) (grown_below b1) (by omega) (by have := rest0.sz; omega)
  refine hK.out _ _ HB1.out (fun hHeld1 => ?_)
  clear hK K hHeld HB0 rest0 rest
  refine wpAnyH_ready (rs := [8]) (by kernel_rfl) (by simp) ?_
  refine AllReadyH.cons rfl (fun K hK => ?_) AllReadyH.nil
  go_simp
  refine (C2.out _ rest1.z).mono ?_
  rintro e w2 ⟨x2, rfl, ax2, b2⟩
  have rest2 := rest1.later b2
  have HB2 : Hid (Boxes w #[Value.int .u8 p0, Value.int .u8 p1, Value.int .u8 p2, Value.int .u8 p3] #[Value.int .u8 q0, Value.int .u8 q1, Value.int .u8 q2, Value.int .u8 q3] #[Value.int .u8 r0, Value.int .u8 r1, Value.int .u8 r2, Value.int .u8 r3, Value.int .u8 r4, Value.int .u8 r5, Value.int .u8 r6, Value.int .u8 r7, Value.int .u8 r8, Value.int .u8 r9, Value.int .u8 r10, Value.int .u8 r11, Value.int .u8 r12, Value.int .u8 r13, Value.int .u8 r14, Value.int .u8 r15] #[Value.int .u8 t0, Value.int .u8 t1, Value.int .u8 t2, Value.int .u8 t3, Value.int .u8 t4, Value.int .u8 t5, Value.int .u8 t6, Value.int .u8 t7, Value.int .u8 t8, Value.int .u8 t9, Value.int .u8 t10, Value.int .u8 t11, Value.int .u8 t12, Value.int .u8 t13, Value.int .u8 t14, Value.int .u8 t15] w2) := HB1.out.grown (G := w.heap.size + 1 + 1 + 1 + 1) (grown_below b2) (by omega) (by have := rest1.sz; omega)
  refine hK.out _ _ HB2.out (fun hHeld2 => ?_)
  clear hK K hHeld1 HB1 rest1
  refine wpAnyH_ready (rs := [9]) (by kernel_rfl) (by simp) ?_
  refine AllReadyH.cons rfl (fun K hK => ?_) AllReadyH.nil
  go_simp
  refine (setUDP (w.heap.size + 1 + 1 + 1 + 1) zs S D x1 x2 a4 a6 (by omega) (by omega) _ rest2.src rest2.fz rest2.z (by omega) hG4 hG6 ax1 ax2).mono ?_
  rintro e w3 ⟨rfl, s3, g3, fz3⟩
  have HB3 : Hid (Boxes w #[Value.int .u8 p0, Value.int .u8 p1, Value.int .u8 p2, Value.int .u8 p3] #[Value.int .u8 q0, Value.int .u8 q1, Value.int .u8 q2, Value.int .u8 q3] #[Value.int .u8 r0, Value.int .u8 r1, Value.int .u8 r2, Value.int .u8 r3, Value.int .u8 r4, Value.int .u8 r5, Value.int .u8 r6, Value.int .u8 r7, Value.int .u8 r8, Value.int .u8 r9, Value.int .u8 r10, Value.int .u8 r11, Value.int .u8 r12, Value.int .u8 r13, Value.int .u8 r14, Value.int .u8 r15] #[Value.int .u8 t0, Value.int .u8 t1, Value.int .u8 t2, Value.int .u8 t3, Value.int .u8 t4, Value.int .u8 t5, Value.int .u8 t6, Value.int .u8 t7, Value.int .u8 t8, Value.int .u8 t9, Value.int .u8 t10, Value.int .u8 t11, Value.int .u8 t12, Value.int .u8 t13, Value.int .u8 t14, Value.int .u8 t15] w3) := HB2.out.grown g3 (by omega) (by have := rest2.sz; omega)
  refine hK.out _ _ HB3.out (fun hHeld3 => ?_)
  clear hK K hHeld2 HB2
  refine wpAnyH_done (by kernel_rfl) ?_ _
  have hbS : ∀ z ∈ S, 0 ≤ z ∧ z ≤ 255 := ax1.byte
  have hbD : ∀ z ∈ D, 0 ≤ z ∧ z ≤ 255 := ax2.byte
  have hlS := ax1.len
  have hlD := ax2.len
  have z1 := wsTo_bd S hbS S.length
  have z2 := wsTo_bd D hbD D.length
  have z3 := wsTo_bd ((zs.set 6 0).set 7 0) (byte_set hs.byte) zs.length
  have hTpos : 0 < wsTo S S.length + wsTo D D.length + 17 + (zs.length : Int) + wsTo ((zs.set 6 0).set 7 0) zs.length := by omega
  have hC := sent_bd _ hTpos
  have hF := fold16_sent _ hTpos
  have HT0 : Hid (0 ≤ wsTo S S.length + wsTo D D.length + 17 + (zs.length : Int) ∧ wsTo S S.length + wsTo D D.length + 17 + (zs.length : Int) ≤ 1000000000000) := ⟨by omega, by omega⟩
  generalize hCe : sent (wsTo S S.length + wsTo D D.length + 17 + (zs.length : Int) + wsTo ((zs.set 6 0).set 7 0) zs.length) = C at s3 hC hF
  have hws := wsTo_set zs (C / 256) (C % 256) (by omega) zs.length (by omega)
  have HE : wsTo S S.length + wsTo D D.length + 17 + (zs.length : Int) + wsTo ((zs.set 6 (C / 256)).set 7 (C % 256)) zs.length = wsTo S S.length + wsTo D D.length + 17 + (zs.length : Int) + wsTo ((zs.set 6 0).set 7 0) zs.length + C := by rw [hws]; omega
  have HF : Hid (fold16 (wsTo S S.length + wsTo D D.length + 17 + (zs.length : Int) + wsTo ((zs.set 6 (C / 256)).set 7 (C % 256)) zs.length) = 65535) := by show fold16 _ = _; rw [HE]; exact hF
  have HT1 : Hid (0 ≤ wsTo S S.length + wsTo D D.length + 17 + (zs.length : Int) + wsTo ((zs.set 6 (C / 256)).set 7 (C % 256)) zs.length ∧ wsTo S S.length + wsTo D D.length + 17 + (zs.length : Int) + wsTo ((zs.set 6 (C / 256)).set 7 (C % 256)) zs.length < 9223372036854775808) := by
    show _ ∧ _; rw [HE]; omega
  have hl' : ((zs.set 6 (C / 256)).set 7 (C % 256)).length = zs.length := by simp
  have c6 : w3.cell? ⟨w.heap.size + 1 + 1 + 1 + 1, 6, none⟩ = some (.int .u8 (C / 256)) := row_at s3 6 _ (by rw [hl']; omega) (set67_6 zs _ _ (by omega))
  have c7 : w3.cell? ⟨w.heap.size + 1 + 1 + 1 + 1, 7, none⟩ = some (.int .u8 (C % 256)) := row_at s3 7 _ (by rw [hl']; omega) (set67_7 zs _ _ (by omega))
  obtain ⟨k0, k1, k2, k3⟩ := HB3.out
  have bel3 : Below w.heap.size w w3 := rest2.bel.grown g3 rest2.bel.size (fun k e => by simp at e; omega)
  have h6l : (6 : Int) < (zs.length : Int) := by omega
  have h7l : (7 : Int) < (zs.length : Int) := by omega
  clear hCe hws HE hF hTpos z1 z2 z3 hbS hbD hlS hlD HB3 hHeld3 rest2 g3 ax1 ax2 b1 b2 C1 C2 hs hz fz3 hi24 hj24 hu24
  by_cases hc6 : C / 256 = 0
  · have q6 : (C / 256 == 0) = true := by simp [hc6]
    have q7 : (C % 256 == 0) = false := beq_eq_false_iff_ne.2 (by omega)
    clear hc6
    go_wp2_with fail
    refine (C3.out (zs.length : Int) (by omega) (by omega) _).mono ?_
    rintro e w4 ⟨rfl, b4⟩
    have s4 := s3.later b4
    go_wp2_with fail
    refine (bsumL _ _ _ _ hl' (wsTo S S.length + wsTo D D.length + 17 + (zs.length : Int)) (by omega) HT0.out.1 HT0.out.2 _ s4).mono ?_
    rintro e w5 ⟨rfl, rfl⟩
    go_wp2_with fail
    refine (fold_any _ HT1.out.1 HT1.out.2 _).mono ?_
    rintro e w6 ⟨rfl, rfl⟩
    rw [HF.out]
    go_wp2
    go_ret
    exact ⟨rfl, bel3.trans (b4.mono bel3.size)⟩
  · have q6 : (C / 256 == 0) = false := beq_eq_false_iff_ne.2 hc6
    clear hc6
    go_wp2_with fail
    refine (C3.out (zs.length : Int) (by omega) (by omega) _).mono ?_
    rintro e w4 ⟨rfl, b4⟩
    have s4 := s3.later b4
    go_wp2_with fail
    refine (bsumL _ _ _ _ hl' (wsTo S S.length + wsTo D D.length + 17 + (zs.length : Int)) (by omega) HT0.out.1 HT0.out.2 _ s4).mono ?_
    rintro e w5 ⟨rfl, rfl⟩
    go_wp2_with fail
    refine (fold_any _ HT1.out.1 HT1.out.2 _).mono ?_
    rintro e w6 ⟨rfl, rfl⟩
    rw [HF.out]
    go_wp2
    go_ret
    exact ⟨rfl, bel3.trans (b4.mono bel3.size)⟩
end Go.Proofs.YbulkacxcDoor
