import Derived.Test.YbulkadfeDrop
import Derived.Test.YbulkadfeDel
namespace Go.Proofs.Ybulkadfe
open Go.RowKit

/-- The pointers that the row holds. -/
def ptrs (n : Nat) (bs : Nat → Nat) : Array (Option Addr) := ((List.range n).map fun j => some (⟨bs j, 0, none⟩ : Addr)).toArray
theorem ptrs_size (n : Nat) (bs : Nat → Nat) : (ptrs n bs).size = n := by simp [ptrs]
theorem ptrs_at (n : Nat) (bs : Nat → Nat) (j : Nat) (h : j < n) : (ptrs n bs)[j]! = some ⟨bs j, 0, none⟩ := by
  rw [getElem!_pos _ j (by rw [ptrs_size]; exact h)]
  simp [ptrs]

/-- Past place k each stands one ahead. -/
def skip (k : Nat) (f : Nat → Nat) (j : Nat) : Nat := if j < k then f j else f (j + 1)

theorem cut_at (n k : Nat) (hk : k < n) (bs : Nat → Nat) (j : Nat) (hj : j < n - 1) :
    (((ptrs n bs).toList.take k ++ (ptrs n bs).toList.drop (k + 1) ++ List.replicate (k + 1 - k) (none : Option Addr)).toArray)[j]! = some ⟨skip k bs j, 0, none⟩ := by
  have hl : ((ptrs n bs).toList.take k ++ (ptrs n bs).toList.drop (k + 1) ++ List.replicate (k + 1 - k) (none : Option Addr)).length = n := by simp [ptrs]; omega
  rw [getElem!_pos _ j (by rw [List.size_toArray, hl]; omega)]
  have e : ((ptrs n bs).toList.take k ++ (ptrs n bs).toList.drop (k + 1) ++ List.replicate (k + 1 - k) (none : Option Addr))[j]? = some (some ⟨skip k bs j, 0, none⟩) := by
    unfold skip
    rw [List.getElem?_append_left (by simp [ptrs]; omega)]
    by_cases h : j < k
    · rw [if_pos h, List.getElem?_append_left (by simp [ptrs]; omega), List.getElem?_take_of_lt h]
      simp [ptrs, show j < n by omega]
    · rw [if_neg h, List.getElem?_append_right (by simp [ptrs]; omega), List.getElem?_drop]
      have e2 : k + 1 + (j - ((ptrs n bs).toList.take k).length) = j + 1 := by simp [ptrs]; omega
      rw [e2]
      simp [ptrs, show j + 1 < n by omega]
  obtain ⟨h, e⟩ := List.getElem?_eq_some_iff.1 e
  simpa using e

set_option maxHeartbeats 800000 in
set_option maxRecDepth 100000 in
/-- slices.Delete(c.rabs, k, k+1). -/
theorem delete_any (G n cap k : Nat) (hk : k < n) (bs : Nat → Nat) (hn : n ≤ cap) (hcap : cap ≤ maxLen) (w : World) (hp : ∀ j, j < n → w.cell? ⟨G, j, none⟩ = some (.pointer (some ⟨bs j, 0, none⟩))) (hf : ∀ j, w.frozen? ⟨G, j, none⟩ = false) :
    Calls Yba.prog 10 #[.slice (some ⟨G, 0, none⟩) n cap, .int .i64 k, .int .i64 ((k : Int) + 1)] w fun e w' => e = .returned (.slice (some ⟨G, 0, none⟩) (n - 1) cap) ∧ Kept [G] w w' ∧ w'.heap.size = w.heap.size ∧ (∀ j, j < n - 1 → w'.cell? ⟨G, j, none⟩ = some (.pointer (some ⟨skip k bs j, 0, none⟩))) := by
  have hH : Sort.Holds Value.pointer w G 0 (ptrs n bs) := fun j hj => by
    rw [ptrs_size] at hj
    rw [Nat.zero_add, ptrs_at n bs j hj]
    exact ⟨hp j hj, hf j⟩
  have K := Yba.deleteP G cap k (k + 1) (ptrs n bs) w hH (by rw [ptrs_size]; exact hn) (by unfold maxLen at hcap; omega) (by omega) (by rw [ptrs_size]; omega)
  rw [ptrs_size] at K
  refine K.mono ?_
  rintro e w' ⟨rfl, q, rfl⟩
  refine ⟨by rw [show k + 1 - k = 1 by omega], ⟨rfl, rfl, rfl, by simp, fun b hb hn => ?_⟩, by simp, fun j hj => ?_⟩
  · have hne : b ≠ G := by simpa using hn
    simp [Sort.putRow, Sort.mapBlock, Array.getElem?_modify, Ne.symm hne]
  · have h := Sort.cell?_putRow Value.pointer (Sort.ahead w q) G 0 (ptrs n bs) ((ptrs n bs).toList.take k ++ (ptrs n bs).toList.drop (k + 1) ++ List.replicate (k + 1 - k) (none : Option Addr)).toArray (Sort.holds_ahead _ _ _ _ _ _ hH) (by simp [ptrs]; omega) j (by simp [ptrs]; omega)
    rw [cut_at n k hk bs j hj, Nat.zero_add] at h
    exact h

/-- The connection, its row, its RABs and the engine, each in blocks of its own. -/
structure Laid (w : World) (E C G n cap : Nat) (bs ids : Nat → Nat) : Prop where
  slice : w.cell? ⟨C, 1, none⟩ = some (.slice (some ⟨G, 0, none⟩) n cap)
  fC : w.frozen? ⟨C, 1, none⟩ = false
  row : Row w (some ⟨G, 0, none⟩) n bs ids
  fG : ∀ j, w.frozen? ⟨G, j, none⟩ = false
  fE : ∀ j, w.frozen? ⟨E, j, none⟩ = false
  cap1 : n ≤ cap
  cap2 : cap ≤ maxLen
  bE : E < w.heap.size
  bC : C < w.heap.size
  bG : G < w.heap.size
  bB : ∀ j, j < n → bs j < w.heap.size
  nEC : E ≠ C
  nEG : E ≠ G
  nCG : C ≠ G
  nB : ∀ j, j < n → bs j ≠ E ∧ bs j ≠ C ∧ bs j ≠ G

set_option maxHeartbeats 1600000 in
set_option maxRecDepth 100000 in
theorem drop_any (E C G n cap k : Nat) (hk : k < n) (bs ids : Nat → Nat) (u1 u2 o1 o2 : Int) (w : World) (L : Laid w E C G n cap bs ids) (hz : decide (0 < o1) = decide (0 < o2))
    (h29 : w.cell? ⟨E, 29, none⟩ = some (.int .u64 u1)) (h30 : w.cell? ⟨E, 30, none⟩ = some (.int .u64 u2)) (h237 : w.cell? ⟨E, 237, none⟩ = some (.bool false))
    (h42 : w.cell? ⟨bs k, 42, none⟩ = some (.int .u64 o1)) (h43 : w.cell? ⟨bs k, 43, none⟩ = some (.int .u64 o2)) (h45 : w.cell? ⟨bs k, 45, none⟩ = some (.bool false)) :
    Calls Yba.prog 7 #[.pointer (some ⟨E, 0, none⟩), .pointer (some ⟨C, 0, none⟩), .pointer (some ⟨bs k, 0, none⟩)] w fun e w' =>
      e = .returned (.tuple #[]) ∧ Kept [E, C, G] w w' ∧ w'.cell? ⟨E, 29, none⟩ = some (.int .u64 (IntKind.u64.wrap (u1 - o1))) ∧ w'.cell? ⟨E, 30, none⟩ = some (.int .u64 (IntKind.u64.wrap (u2 - o2))) ∧ w'.cell? ⟨E, 237, none⟩ = some (.bool (decide (0 < o1))) ∧
      w'.cell? ⟨C, 1, none⟩ = some (.slice (some ⟨G, 0, none⟩) (n - 1) cap) ∧ (∀ j, j < n - 1 → w'.cell? ⟨G, j, none⟩ = some (.pointer (some ⟨skip k bs j, 0, none⟩))) := by
  have hid := L.row.id k hk
  have hsl := L.slice
  have hfew := L.row.few
  have K9 : Hid _ := fun (_ : Unit) => find_any C (some ⟨G, 0, none⟩) n cap bs ids (ids k) (L.row.lt k hk) w L.slice L.row
  have HL : Hid _ := L
  have HH : Hid _ := And.intro h29 (And.intro h30 (And.intro h237 (And.intro h42 (And.intro h43 h45))))
  have HZ : Hid _ := hz
  clear L h29 h30 h237 h42 h43 h45 hz
  go_enter Yba.func7, Yba.ntmps7
  go_wp2_with fail
  refine (K9.out ()).mono ?_
  rintro e w1 ⟨p, f, rfl, rfl, h1, h2, h3, h4⟩
  obtain ⟨rfl, rfl⟩ := found_iff HL.out.row h2 h3 h4 k hk rfl
  clear h1 h2 h3 h4 K9
  have K10 : Hid _ := fun (_ : Unit) => delete_any G n cap p hk bs HL.out.cap1 HL.out.cap2 w1 (fun j hj => by obtain ⟨G', e, h⟩ := HL.out.row.ptr j hj; cases e; exact h) HL.out.fG
  go_wp2_with fail
  refine (K10.out ()).mono ?_
  rintro e w2 ⟨rfl, hkp, hsz2, hrow⟩
  clear K10
  have HK : Hid _ := hkp
  have HR : Hid _ := hrow
  have s2 : w2.cell? ⟨C, 1, none⟩ = some (.slice (some ⟨G, 0, none⟩) n cap) := (hkp.cell HL.out.bC (by simpa using HL.out.nCG)).trans hsl
  have f2 : w2.frozen? ⟨C, 1, none⟩ = false := (hkp.frozen HL.out.bC (by simpa using HL.out.nCG)).trans HL.out.fC
  have K11 : Hid _ := fun (_ : Unit) => by
    have hB := HL.out.nB p hk
    have ce : ∀ o, (w2.setCell ⟨C, 1, none⟩ (.slice (some ⟨G, 0, none⟩) (n - 1) cap)).cell? ⟨E, o, none⟩ = w1.cell? ⟨E, o, none⟩ := fun o => by
      rw [cset_off (Or.inl HL.out.nEC)]; exact hkp.cell HL.out.bE (by simpa using HL.out.nEG)
    have cb : ∀ o, (w2.setCell ⟨C, 1, none⟩ (.slice (some ⟨G, 0, none⟩) (n - 1) cap)).cell? ⟨bs p, o, none⟩ = w1.cell? ⟨bs p, o, none⟩ := fun o => by
      rw [cset_off (Or.inl hB.2.1)]; exact hkp.cell (HL.out.bB p hk) (by simpa using hB.2.2)
    exact free_any E (bs p) u1 u2 o1 o2 (w2.setCell ⟨C, 1, none⟩ (.slice (some ⟨G, 0, none⟩) (n - 1) cap)) (by rw [ce]; exact HH.out.1) (by rw [ce]; exact HH.out.2.1) (by rw [ce]; exact HH.out.2.2.1)
      (fun o => by rw [World.frozen?_setCell]; exact (hkp.frozen HL.out.bE (by simpa using HL.out.nEG)).trans (HL.out.fE o)) (by have := HL.out.bE; simp [World.setCell]; omega) HZ.out (by have := HL.out.bB p hk; simp [World.setCell]; omega) hB.1
      (by rw [cb]; exact HH.out.2.2.2.1) (by rw [cb]; exact HH.out.2.2.2.2.1) (by rw [cb]; exact HH.out.2.2.2.2.2)
  clear hkp hrow hsl hid
  go_wp2_with fail
  refine (K11.out ()).mono ?_
  rintro e w3 ⟨rfl, k3, a1, a2, a3⟩
  have A : Hid _ := And.intro k3 (And.intro a1 (And.intro a2 a3))
  clear k3 a1 a2 a3 K11
  go_wp2
  go_end0
  obtain ⟨k3, a1, a2, a3⟩ := A.out
  refine ⟨rfl, (HK.out.wide (by simp)).trans (((Kept.refl _ w2).setCell (by simp) _).trans (k3.wide (by simp))), a1, a2, a3, ?_, fun j hj => ?_⟩
  · rw [k3.cell (by have := HL.out.bC; simp [World.setCell]; omega) (by simpa using HL.out.nEC.symm), cset_same s2]
  · rw [k3.cell (by have := HL.out.bG; simp [World.setCell]; omega) (by simpa using HL.out.nEG.symm), cset_off (Or.inl HL.out.nCG.symm)]
    exact HR.out j hj

def item (id : Int) (v : Value) : Value := .agg #[.int .u8 id, v, .pointer none, .pointer none]

set_option maxHeartbeats 800000 in
set_option maxRecDepth 100000 in
theorem release_many (E : Nat) (c : Value) (id named : Int) (sup : Bool) (hn : 1 < named) (w : World) :
    Calls Yba.prog 4 #[.pointer (some ⟨E, 0, none⟩), c, .int .u8 id, .int .i64 named, .bool sup] w fun e w' => e = .returned (.tuple #[item 0 (.slice none 0 0), .int .u16 30]) ∧ Below w.heap.size w w' := by
  go_enter Yba.func4, Yba.ntmps4
  go_wp2
  exact bodyPost_ret (v := .tuple #[item 0 (.slice none 0 0), .int .u16 30]) (by simp [results, Yba.results4, go_sem, item]) rfl ⟨rfl, by first | exact (Below.refl _ w).alloc (Nat.le_refl _) _ | skip⟩

set_option maxHeartbeats 800000 in
set_option maxRecDepth 100000 in
theorem release_sup (E : Nat) (c : Value) (id named : Int) (hn : ¬ 1 < named) (w : World) :
    Calls Yba.prog 4 #[.pointer (some ⟨E, 0, none⟩), c, .int .u8 id, .int .i64 named, .bool true] w fun e w' => e = .returned (.tuple #[item id (.slice none 0 0), .int .u16 0]) ∧ Below w.heap.size w w' := by
  go_enter Yba.func4, Yba.ntmps4
  go_wp2
  exact bodyPost_ret (v := .tuple #[item id (.slice none 0 0), .int .u16 0]) (by simp [results, Yba.results4, go_sem, item]) rfl ⟨rfl, by first | exact (Below.refl _ w).alloc (Nat.le_refl _) _ | skip⟩
end Go.Proofs.Ybulkadfe
