import Derived.Test.YbulkacxcDoorBSlice
namespace Go.Proofs.YbulkacxcDoor
open Go.RowKit

theorem calt' {w : World} {o : Obj} {g j : Nat} (h : g < w.heap.size) : (w.alloc o).cell? ⟨g, j, none⟩ = w.cell? ⟨g, j, none⟩ :=
  World.cell?_of_block (Below.heap_alloc w o g h)

theorem cnew (w : World) (C : Array Value) (t : TypeId) (g i : Nat) (h : g = w.heap.size) : (w.alloc (.cells C t)).cell? ⟨g, i, none⟩ = C[i]? := by
  subst h; exact World.cell?_alloc_new w C t i

theorem fnew (w : World) (C : Array Value) (t : TypeId) (g i : Nat) (h : g = w.heap.size) : (w.alloc (.cells C t)).frozen? ⟨g, i, none⟩ = false := by
  subst h; exact World.frozen?_alloc_new w C t i

/-- Three new blocks, one behind the other. -/
theorem three (w : World) (A B C : Array Value) (tA tB tC : TypeId) :
    (∀ i, (((w.alloc (.cells A tA)).alloc (.cells B tB)).alloc (.cells C tC)).cell? ⟨w.heap.size, i, none⟩ = A[i]?) ∧ (∀ i, (((w.alloc (.cells A tA)).alloc (.cells B tB)).alloc (.cells C tC)).cell? ⟨w.heap.size + 1, i, none⟩ = B[i]?) ∧
    (∀ i, (((w.alloc (.cells A tA)).alloc (.cells B tB)).alloc (.cells C tC)).cell? ⟨w.heap.size + 1 + 1, i, none⟩ = C[i]?) ∧ (∀ i, (((w.alloc (.cells A tA)).alloc (.cells B tB)).alloc (.cells C tC)).frozen? ⟨w.heap.size + 1 + 1, i, none⟩ = false) ∧
    Below w.heap.size w (((w.alloc (.cells A tA)).alloc (.cells B tB)).alloc (.cells C tC)) ∧ (((w.alloc (.cells A tA)).alloc (.cells B tB)).alloc (.cells C tC)).heap.size = w.heap.size + 1 + 1 + 1 := by
  refine ⟨fun i => ?_, fun i => ?_, fun i => ?_, fun i => ?_, ?_, ?_⟩
  · rw [calt' (by simp; omega), calt' (by simp), cnew _ _ _ _ _ rfl]
  · rw [calt' (by simp), cnew _ _ _ _ _ (by simp)]
  · rw [cnew _ _ _ _ _ (by simp)]
  · rw [fnew _ _ _ _ _ (by simp)]
  · exact (((Below.refl _ w).alloc (Nat.le_refl _) _).alloc (by simp) _).alloc (by simp; omega) _
  · simp

theorem lit_at (zs : List Int) (i : Nat) (h : i < zs.length) : (zs.map (Value.int .u8)).toArray[i]? = some (.int .u8 (zs.getD i 0)) := by
  simp [List.getD_eq_getElem?_getD, List.getElem?_eq_getElem h]

/-- One byte of the call's own row is written. -/
theorem own_step {wr : World} {G S n k : Nat} {zs : List Int} {X : Int} (hne : S ≠ G) (hlt : k < n) (r1 : ∀ o, o < n → (wr.cell? ⟨G, o, none⟩).isSome = true) (r2 : ∀ o, wr.frozen? ⟨G, o, none⟩ = false)
    (r3 : ∀ j, j < k → wr.cell? ⟨G, j, none⟩ = some (.int .u8 (zs.getD j 0))) (r4 : ∀ j, j < n → wr.cell? ⟨S, j, none⟩ = some (.int .u8 (zs.getD j 0))) (hX : zs.getD k 0 = X) :
    (∀ o, o < n → ((wr.setCell ⟨G, k, none⟩ (.int .u8 X)).cell? ⟨G, o, none⟩).isSome = true) ∧ (∀ o, (wr.setCell ⟨G, k, none⟩ (.int .u8 X)).frozen? ⟨G, o, none⟩ = false) ∧
    (∀ j, j < k + 1 → (wr.setCell ⟨G, k, none⟩ (.int .u8 X)).cell? ⟨G, j, none⟩ = some (.int .u8 (zs.getD j 0))) ∧ (∀ j, j < n → (wr.setCell ⟨G, k, none⟩ (.int .u8 X)).cell? ⟨S, j, none⟩ = some (.int .u8 (zs.getD j 0))) := by
  have st : ∀ o, (wr.setCell ⟨G, k, none⟩ (.int .u8 X)).cell? ⟨G, o, none⟩ = if o = k then some (.int .u8 X) else wr.cell? ⟨G, o, none⟩ := by
    intro o
    by_cases e : o = k
    · subst e; rw [if_pos rfl]; exact World.cell?_setCell_same' wr _ _ (r1 o hlt)
    · rw [if_neg e]; exact World.cell?_setCell_other _ _ _ _ (fun h => e (Addr.mk.inj h).2.1.symm)
  refine ⟨fun o ho => ?_, fun o => ?_, fun j hj => ?_, fun j hj => ?_⟩
  · rw [st]; split
    · rfl
    · exact r1 o ho
  · rw [World.frozen?_setCell]; exact r2 o
  · rw [st]
    by_cases e : j = k
    · rw [if_pos e, e, hX]
    · rw [if_neg e]; exact r3 j (by omega)
  · rw [World.cell?_of_block (Below.heap_setCell wr _ _ S hne)]; exact r4 j hj

set_option maxHeartbeats 1600000 in
set_option maxRecDepth 100000 in
theorem bytes_any (v6 : Bool) (c0 c1 c2 c3 : Int) (l0 : 0 ≤ c0 ∧ c0 ≤ 255) (l1 : 0 ≤ c1 ∧ c1 ≤ 255) (l2 : 0 ≤ c2 ∧ c2 ≤ 255) (l3 : 0 ≤ c3 ∧ c3 ≤ 255) (b0 b1 b2 b3 b4 b5 b6 b7 b8 b9 b10 b11 b12 b13 b14 b15 : Int) (k0 : 0 ≤ b0 ∧ b0 ≤ 255) (k1 : 0 ≤ b1 ∧ b1 ≤ 255) (k2 : 0 ≤ b2 ∧ b2 ≤ 255) (k3 : 0 ≤ b3 ∧ b3 ≤ 255) (k4 : 0 ≤ b4 ∧ b4 ≤ 255) (k5 : 0 ≤ b5 ∧ b5 ≤ 255) (k6 : 0 ≤ b6 ∧ b6 ≤ 255) (k7 : 0 ≤ b7 ∧ b7 ≤ 255) (k8 : 0 ≤ b8 ∧ b8 ≤ 255) (k9 : 0 ≤ b9 ∧ b9 ≤ 255) (k10 : 0 ≤ b10 ∧ b10 ≤ 255) (k11 : 0 ≤ b11 ∧ b11 ≤ 255) (k12 : 0 ≤ b12 ∧ b12 ≤ 255) (k13 : 0 ≤ b13 ∧ b13 ≤ 255) (k14 : 0 ≤ b14 ∧ b14 ≤ 255) (k15 : 0 ≤ b15 ∧ b15 ≤ 255) (w : World) :
    Calls Ybad.prog 15 #[.bool v6, .agg #[.int .u8 c0, .int .u8 c1, .int .u8 c2, .int .u8 c3], .agg #[.int .u8 b0, .int .u8 b1, .int .u8 b2, .int .u8 b3, .int .u8 b4, .int .u8 b5, .int .u8 b6, .int .u8 b7, .int .u8 b8, .int .u8 b9, .int .u8 b10, .int .u8 b11, .int .u8 b12, .int .u8 b13, .int .u8 b14, .int .u8 b15]] w fun e w' =>
      ∃ g, e = .returned (.slice (some ⟨g, 0, none⟩) (if v6 then [b0, b1, b2, b3, b4, b5, b6, b7, b8, b9, b10, b11, b12, b13, b14, b15] else [c0, c1, c2, c3]).length (if v6 then [b0, b1, b2, b3, b4, b5, b6, b7, b8, b9, b10, b11, b12, b13, b14, b15] else [c0, c1, c2, c3]).length) ∧ Src w' (some ⟨g, 0, none⟩) (if v6 then [b0, b1, b2, b3, b4, b5, b6, b7, b8, b9, b10, b11, b12, b13, b14, b15] else [c0, c1, c2, c3]) ∧ Below w.heap.size w w' := by
  cases v6 with
  | true =>
    have hmk : ∀ w, (Instr.makeSlice 22 (.int .i64 16) (.int .i64 16)).run Ybad.prog w = .ok (.slice (some ⟨w.heap.size, 0, none⟩) 16 16) (w.alloc (.cells #[.int .u8 0, .int .u8 0, .int .u8 0, .int .u8 0, .int .u8 0, .int .u8 0, .int .u8 0, .int .u8 0, .int .u8 0, .int .u8 0, .int .u8 0, .int .u8 0, .int .u8 0, .int .u8 0, .int .u8 0, .int .u8 0] 5)) := fun _ => by kernel_rfl
    obtain ⟨zs, hzs⟩ : ∃ zs : List Int, zs = [b0, b1, b2, b3, b4, b5, b6, b7, b8, b9, b10, b11, b12, b13, b14, b15] := ⟨_, rfl⟩
    have hby : Hid (∀ z ∈ zs, 0 ≤ z ∧ z ≤ 255) := by show ∀ z ∈ zs, _; rw [hzs]; simp [k0, k1, k2, k3, k4, k5, k6, k7, k8, k9, k10, k11, k12, k13, k14, k15]
    have hlen : Hid (zs.length = 16) := by show zs.length = 16; rw [hzs]; rfl
    obtain ⟨hA, hB, hC, hF, hbel, hsz⟩ := three w #[.int .u8 c0, .int .u8 c1, .int .u8 c2, .int .u8 c3] #[.int .u8 b0, .int .u8 b1, .int .u8 b2, .int .u8 b3, .int .u8 b4, .int .u8 b5, .int .u8 b6, .int .u8 b7, .int .u8 b8, .int .u8 b9, .int .u8 b10, .int .u8 b11, .int .u8 b12, .int .u8 b13, .int .u8 b14, .int .u8 b15] #[.int .u8 0, .int .u8 0, .int .u8 0, .int .u8 0, .int .u8 0, .int .u8 0, .int .u8 0, .int .u8 0, .int .u8 0, .int .u8 0, .int .u8 0, .int .u8 0, .int .u8 0, .int .u8 0, .int .u8 0, .int .u8 0] 23 24 5
    have hsrc : Hid (∀ i, i < 16 → (((w.alloc (.cells #[.int .u8 c0, .int .u8 c1, .int .u8 c2, .int .u8 c3] 23)).alloc (.cells #[.int .u8 b0, .int .u8 b1, .int .u8 b2, .int .u8 b3, .int .u8 b4, .int .u8 b5, .int .u8 b6, .int .u8 b7, .int .u8 b8, .int .u8 b9, .int .u8 b10, .int .u8 b11, .int .u8 b12, .int .u8 b13, .int .u8 b14, .int .u8 b15] 24)).alloc (.cells #[.int .u8 0, .int .u8 0, .int .u8 0, .int .u8 0, .int .u8 0, .int .u8 0, .int .u8 0, .int .u8 0, .int .u8 0, .int .u8 0, .int .u8 0, .int .u8 0, .int .u8 0, .int .u8 0, .int .u8 0, .int .u8 0] 5)).cell? ⟨w.heap.size + 1, i, none⟩ = some (.int .u8 (zs.getD i 0))) := by
      intro i hi
      rw [hB, hzs]
      exact lit_at [b0, b1, b2, b3, b4, b5, b6, b7, b8, b9, b10, b11, b12, b13, b14, b15] i hi
    have o1 : Hid (∀ o, o < 16 → ((((w.alloc (.cells #[.int .u8 c0, .int .u8 c1, .int .u8 c2, .int .u8 c3] 23)).alloc (.cells #[.int .u8 b0, .int .u8 b1, .int .u8 b2, .int .u8 b3, .int .u8 b4, .int .u8 b5, .int .u8 b6, .int .u8 b7, .int .u8 b8, .int .u8 b9, .int .u8 b10, .int .u8 b11, .int .u8 b12, .int .u8 b13, .int .u8 b14, .int .u8 b15] 24)).alloc (.cells #[.int .u8 0, .int .u8 0, .int .u8 0, .int .u8 0, .int .u8 0, .int .u8 0, .int .u8 0, .int .u8 0, .int .u8 0, .int .u8 0, .int .u8 0, .int .u8 0, .int .u8 0, .int .u8 0, .int .u8 0, .int .u8 0] 5)).cell? ⟨w.heap.size + 1 + 1, o, none⟩).isSome = true) := fun o ho => by
      rw [hC]; simp; omega
    have o2 : Hid (∀ o, (((w.alloc (.cells #[.int .u8 c0, .int .u8 c1, .int .u8 c2, .int .u8 c3] 23)).alloc (.cells #[.int .u8 b0, .int .u8 b1, .int .u8 b2, .int .u8 b3, .int .u8 b4, .int .u8 b5, .int .u8 b6, .int .u8 b7, .int .u8 b8, .int .u8 b9, .int .u8 b10, .int .u8 b11, .int .u8 b12, .int .u8 b13, .int .u8 b14, .int .u8 b15] 24)).alloc (.cells #[.int .u8 0, .int .u8 0, .int .u8 0, .int .u8 0, .int .u8 0, .int .u8 0, .int .u8 0, .int .u8 0, .int .u8 0, .int .u8 0, .int .u8 0, .int .u8 0, .int .u8 0, .int .u8 0, .int .u8 0, .int .u8 0] 5)).frozen? ⟨w.heap.size + 1 + 1, o, none⟩ = false) := hF
    have HR : Hid (zs = [b0, b1, b2, b3, b4, b5, b6, b7, b8, b9, b10, b11, b12, b13, b14, b15]) := hzs
    clear hzs k0 k1 k2 k3 k4 k5 k6 k7 k8 k9 k10 k11 k12 k13 k14 k15 l0 l1 l2 l3 hA hB hC hF
    go_enter Ybad.func15, Ybad.ntmps15
    go_wp2
    clear hmk
    generalize ((w.alloc (.cells #[.int .u8 c0, .int .u8 c1, .int .u8 c2, .int .u8 c3] 23)).alloc (.cells #[.int .u8 b0, .int .u8 b1, .int .u8 b2, .int .u8 b3, .int .u8 b4, .int .u8 b5, .int .u8 b6, .int .u8 b7, .int .u8 b8, .int .u8 b9, .int .u8 b10, .int .u8 b11, .int .u8 b12, .int .u8 b13, .int .u8 b14, .int .u8 b15] 24)).alloc (.cells #[.int .u8 0, .int .u8 0, .int .u8 0, .int .u8 0, .int .u8 0, .int .u8 0, .int .u8 0, .int .u8 0, .int .u8 0, .int .u8 0, .int .u8 0, .int .u8 0, .int .u8 0, .int .u8 0, .int .u8 0, .int .u8 0] 5) = W at hsrc o1 o2 hbel hsz ⊢
    go_loopw [8] (fun i wr => ∃ k : Nat, k ≤ 16 ∧ i = .int .i64 k ∧ Hid (∀ o, o < 16 → (wr.cell? ⟨w.heap.size + 1 + 1, o, none⟩).isSome = true) ∧ Hid (∀ o, wr.frozen? ⟨w.heap.size + 1 + 1, o, none⟩ = false) ∧
        Hid (∀ j, j < k → wr.cell? ⟨w.heap.size + 1 + 1, j, none⟩ = some (.int .u8 (zs.getD j 0))) ∧ Hid (∀ j, j < 16 → wr.cell? ⟨w.heap.size + 1, j, none⟩ = some (.int .u8 (zs.getD j 0))) ∧ Below w.heap.size w wr) (fun i _ => 16 - (intOf i).toNat)
    case atStart => exact ⟨0, Nat.zero_le _, rfl, o1, o2, fun j hj => absurd hj (Nat.not_lt_zero _), hsrc, hbel⟩
    case round =>
      obtain ⟨k, hk, rfl, r1, r2, r3, r4, r5⟩ := hrel
      clear o1 o2 hsrc hbel hsz
      by_cases hlt : k < 16
      · have d0 := r4.out k hlt
        generalize hX : zs.getD k 0 = X at d0
        have HX : Hid (zs.getD k 0 = X) := hX
        clear hX
        obtain ⟨y, d1⟩ := Option.isSome_iff_exists.1 (r1.out k hlt)
        have d2 := r2.out k
        have hki : (k : Int) < 16 := by omega
        go_wp2
        have R := own_step (n := 16) (G := w.heap.size + 1 + 1) (S := w.heap.size + 1) (by omega) hlt r1.out r2.out r3.out r4.out HX.out
        go_roundw
        case rel => exact ⟨k + 1, by omega, by go_num, R.1, R.2.1, R.2.2.1, R.2.2.2, r5.setCell (by simp; omega) _⟩
        case measure => simp [intOf]; omega
      · go_wp2
        go_ret
        have hkn : k = 16 := by omega
        subst hkn
        refine ⟨w.heap.size + 1 + 1, rfl, ?_, r5⟩
        rw [← HR.out]
        exact ⟨(fun h => by cases h), fun i hi => ⟨_, 0, rfl, by rw [Nat.zero_add]; exact r3.out i (by rw [← hlen.out]; exact hi)⟩, hby.out⟩
  | false =>
    have hmk : ∀ w, (Instr.makeSlice 22 (.int .i64 4) (.int .i64 4)).run Ybad.prog w = .ok (.slice (some ⟨w.heap.size, 0, none⟩) 4 4) (w.alloc (.cells #[.int .u8 0, .int .u8 0, .int .u8 0, .int .u8 0] 5)) := fun _ => by kernel_rfl
    obtain ⟨zs, hzs⟩ : ∃ zs : List Int, zs = [c0, c1, c2, c3] := ⟨_, rfl⟩
    have hby : Hid (∀ z ∈ zs, 0 ≤ z ∧ z ≤ 255) := by show ∀ z ∈ zs, _; rw [hzs]; simp [l0, l1, l2, l3]
    have hlen : Hid (zs.length = 4) := by show zs.length = 4; rw [hzs]; rfl
    obtain ⟨hA, hB, hC, hF, hbel, hsz⟩ := three w #[.int .u8 c0, .int .u8 c1, .int .u8 c2, .int .u8 c3] #[.int .u8 b0, .int .u8 b1, .int .u8 b2, .int .u8 b3, .int .u8 b4, .int .u8 b5, .int .u8 b6, .int .u8 b7, .int .u8 b8, .int .u8 b9, .int .u8 b10, .int .u8 b11, .int .u8 b12, .int .u8 b13, .int .u8 b14, .int .u8 b15] #[.int .u8 0, .int .u8 0, .int .u8 0, .int .u8 0] 23 24 5
    have hsrc : Hid (∀ i, i < 4 → (((w.alloc (.cells #[.int .u8 c0, .int .u8 c1, .int .u8 c2, .int .u8 c3] 23)).alloc (.cells #[.int .u8 b0, .int .u8 b1, .int .u8 b2, .int .u8 b3, .int .u8 b4, .int .u8 b5, .int .u8 b6, .int .u8 b7, .int .u8 b8, .int .u8 b9, .int .u8 b10, .int .u8 b11, .int .u8 b12, .int .u8 b13, .int .u8 b14, .int .u8 b15] 24)).alloc (.cells #[.int .u8 0, .int .u8 0, .int .u8 0, .int .u8 0] 5)).cell? ⟨w.heap.size, i, none⟩ = some (.int .u8 (zs.getD i 0))) := by
      intro i hi
      rw [hA, hzs]
      exact lit_at [c0, c1, c2, c3] i hi
    have o1 : Hid (∀ o, o < 4 → ((((w.alloc (.cells #[.int .u8 c0, .int .u8 c1, .int .u8 c2, .int .u8 c3] 23)).alloc (.cells #[.int .u8 b0, .int .u8 b1, .int .u8 b2, .int .u8 b3, .int .u8 b4, .int .u8 b5, .int .u8 b6, .int .u8 b7, .int .u8 b8, .int .u8 b9, .int .u8 b10, .int .u8 b11, .int .u8 b12, .int .u8 b13, .int .u8 b14, .int .u8 b15] 24)).alloc (.cells #[.int .u8 0, .int .u8 0, .int .u8 0, .int .u8 0] 5)).cell? ⟨w.heap.size + 1 + 1, o, none⟩).isSome = true) := fun o ho => by
      rw [hC]; simp; omega
    have o2 : Hid (∀ o, (((w.alloc (.cells #[.int .u8 c0, .int .u8 c1, .int .u8 c2, .int .u8 c3] 23)).alloc (.cells #[.int .u8 b0, .int .u8 b1, .int .u8 b2, .int .u8 b3, .int .u8 b4, .int .u8 b5, .int .u8 b6, .int .u8 b7, .int .u8 b8, .int .u8 b9, .int .u8 b10, .int .u8 b11, .int .u8 b12, .int .u8 b13, .int .u8 b14, .int .u8 b15] 24)).alloc (.cells #[.int .u8 0, .int .u8 0, .int .u8 0, .int .u8 0] 5)).frozen? ⟨w.heap.size + 1 + 1, o, none⟩ = false) := hF
    have HR : Hid (zs = [c0, c1, c2, c3]) := hzs
    clear hzs k0 k1 k2 k3 k4 k5 k6 k7 k8 k9 k10 k11 k12 k13 k14 k15 l0 l1 l2 l3 hA hB hC hF
    go_enter Ybad.func15, Ybad.ntmps15
    go_wp2
    clear hmk
    generalize ((w.alloc (.cells #[.int .u8 c0, .int .u8 c1, .int .u8 c2, .int .u8 c3] 23)).alloc (.cells #[.int .u8 b0, .int .u8 b1, .int .u8 b2, .int .u8 b3, .int .u8 b4, .int .u8 b5, .int .u8 b6, .int .u8 b7, .int .u8 b8, .int .u8 b9, .int .u8 b10, .int .u8 b11, .int .u8 b12, .int .u8 b13, .int .u8 b14, .int .u8 b15] 24)).alloc (.cells #[.int .u8 0, .int .u8 0, .int .u8 0, .int .u8 0] 5) = W at hsrc o1 o2 hbel hsz ⊢
    go_loopw [10] (fun i wr => ∃ k : Nat, k ≤ 4 ∧ i = .int .i64 k ∧ Hid (∀ o, o < 4 → (wr.cell? ⟨w.heap.size + 1 + 1, o, none⟩).isSome = true) ∧ Hid (∀ o, wr.frozen? ⟨w.heap.size + 1 + 1, o, none⟩ = false) ∧
        Hid (∀ j, j < k → wr.cell? ⟨w.heap.size + 1 + 1, j, none⟩ = some (.int .u8 (zs.getD j 0))) ∧ Hid (∀ j, j < 4 → wr.cell? ⟨w.heap.size, j, none⟩ = some (.int .u8 (zs.getD j 0))) ∧ Below w.heap.size w wr) (fun i _ => 4 - (intOf i).toNat)
    case atStart => exact ⟨0, Nat.zero_le _, rfl, o1, o2, fun j hj => absurd hj (Nat.not_lt_zero _), hsrc, hbel⟩
    case round =>
      obtain ⟨k, hk, rfl, r1, r2, r3, r4, r5⟩ := hrel
      clear o1 o2 hsrc hbel hsz
      by_cases hlt : k < 4
      · have d0 := r4.out k hlt
        generalize hX : zs.getD k 0 = X at d0
        have HX : Hid (zs.getD k 0 = X) := hX
        clear hX
        obtain ⟨y, d1⟩ := Option.isSome_iff_exists.1 (r1.out k hlt)
        have d2 := r2.out k
        have hki : (k : Int) < 4 := by omega
        go_wp2
        have R := own_step (n := 4) (G := w.heap.size + 1 + 1) (S := w.heap.size) (by omega) hlt r1.out r2.out r3.out r4.out HX.out
        go_roundw
        case rel => exact ⟨k + 1, by omega, by go_num, R.1, R.2.1, R.2.2.1, R.2.2.2, r5.setCell (by simp; omega) _⟩
        case measure => simp [intOf]; omega
      · go_wp2
        go_ret
        have hkn : k = 4 := by omega
        subst hkn
        refine ⟨w.heap.size + 1 + 1, rfl, ?_, r5⟩
        rw [← HR.out]
        exact ⟨(fun h => by cases h), fun i hi => ⟨_, 0, rfl, by rw [Nat.zero_add]; exact r3.out i (by rw [← hlen.out]; exact hi)⟩, hby.out⟩
end Go.Proofs.YbulkacxcDoor
