import Derived.Test.YbulkacxcDoorBPseudo
namespace Go.Proofs.YbulkacxcDoor
open Go.RowKit

theorem grown_trans {a b c : World} {r : Option Nat} (h : a.grownBy b r) (k : b.grownBy c r) : a.grownBy c r :=
  ⟨k.os.trans h.os, k.tape.trans h.tape, k.output.trans h.output, Nat.le_trans h.size k.size, fun i hi hne => (k.block i (Nat.lt_of_lt_of_le hi h.size) hne).trans (h.block i hi hne)⟩
theorem grown_below {a b : World} {r : Option Nat} (h : Below a.heap.size a b) : a.grownBy b r := ⟨h.os, h.tape, h.output, h.size, fun i hi _ => h.block i hi⟩
theorem grown_drew {a b : World} {r : Option Nat} (h : a.grownBy b r) : a.grownBy b.drew r := ⟨h.os, h.tape, h.output, h.size, h.block⟩

/-- An Addr, written out. -/
theorem IsAddr.lit {a4 a6 : Addr} {v : Value} {zs : List Int} (h : IsAddr a4 a6 v zs) : ∃ (hi lo : Int) (p : Addr), v = .agg #[.int .u64 hi, .int .u64 lo, .pointer (some p)] := by
  rcases h with ⟨b0, b1, b2, b3, k0, k1, k2, k3, rfl, rfl⟩ | ⟨b0, b1, b2, b3, b4, b5, b6, b7, b8, b9, b10, b11, b12, b13, b14, b15, k0, k1, k2, k3, k4, k5, k6, k7, k8, k9, k10, k11, k12, k13, k14, k15, rfl, rfl⟩
  · exact ⟨_, _, _, rfl⟩
  · exact ⟨_, _, _, rfl⟩

/-- The number is written into bytes 6 and 7 of a row. -/
theorem put_row (G n c : Nat) (zs : List Int) (v : Int) (hv0 : 0 ≤ v) (hv1 : v < 65536) (hn : 2 ≤ n) (W : World) (hs : Src W (some ⟨G, 0, none⟩) zs) (hl : 8 ≤ zs.length) (hf : ∀ o, W.frozen? ⟨G, o, none⟩ = false) :
    Calls Ybad.prog 16 #[.agg #[], .slice (some ⟨G, 6, none⟩) n c, .int .u16 v] W fun e w' => e = .returned (.tuple #[]) ∧ Src w' (some ⟨G, 0, none⟩) ((zs.set 6 (v / 256)).set 7 (v % 256)) ∧ W.grownBy w' (some G) ∧ ∀ o, w'.frozen? ⟨G, o, none⟩ = false := by
  have cell : ∀ i, i < zs.length → W.cell? ⟨G, i, none⟩ = some (.int .u8 (zs.getD i 0)) := fun i hi => by
    obtain ⟨b, off, e, h⟩ := hs.cell i hi
    simp only [Option.some.injEq, Addr.mk.injEq, and_true] at e
    obtain ⟨rfl, rfl⟩ := e
    rwa [Nat.zero_add] at h
  have c6 := cell 6 (by omega)
  have c7 := cell 7 (by omega)
  refine (put16be G 6 n c v hv0 hv1 W hn (by rw [c6]; rfl) (by rw [c7]; rfl) (hf _) (hf _)).mono ?_
  rintro e w' ⟨rfl, rfl⟩
  have hlt := World.block_lt_of_cell? _ _ c6
  have ca : ∀ i, (W.alloc (.cells #[] 51)).cell? ⟨G, i, none⟩ = W.cell? ⟨G, i, none⟩ := fun i => calt' hlt
  have st : ∀ (w : World) (p o : Nat) (x : Value), (w.cell? ⟨G, p, none⟩).isSome = true → (w.setCell ⟨G, p, none⟩ x).cell? ⟨G, o, none⟩ = if o = p then some x else w.cell? ⟨G, o, none⟩ := by
    intro w p o x h
    by_cases e : o = p
    · subst e; rw [if_pos rfl]; exact World.cell?_setCell_same' w _ x h
    · rw [if_neg e]; exact World.cell?_setCell_other _ _ _ _ (fun h => e (Addr.mk.inj h).2.1.symm)
  refine ⟨rfl, ⟨(fun h => by cases h), fun i hi => ⟨G, 0, rfl, ?_⟩, fun z hz => ?_⟩, ⟨rfl, rfl, rfl, ?_, fun k hk hne => ?_⟩, fun o => ?_⟩
  · rw [Nat.zero_add]
    simp only [List.length_set] at hi
    rw [st _ _ _ _ (by rw [st _ _ _ _ (by rw [ca, c6]; rfl), if_neg (by omega), ca, c7]; rfl), st _ _ _ _ (by rw [ca, c6]; rfl), ca]
    simp only [List.getD_eq_getElem?_getD]
    by_cases e7 : i = 6 + 1
    · rw [if_pos e7, e7, List.getElem?_set_self (by simp; omega)]; rfl
    · rw [if_neg e7, List.getElem?_set_ne (by omega)]
      by_cases e6 : i = 6
      · rw [if_pos e6, e6, List.getElem?_set_self (by omega)]; rfl
      · rw [if_neg e6, List.getElem?_set_ne (by omega), cell i hi, List.getD_eq_getElem?_getD]
  · rcases List.mem_or_eq_of_mem_set hz with h | h
    · rcases List.mem_or_eq_of_mem_set h with h | h
      · exact hs.byte z h
      · subst h; omega
    · subst h; omega
  · simp
  · rw [Below.heap_setCell _ _ _ _ (fun h => hne (by rw [h])), Below.heap_setCell _ _ _ _ (fun h => hne (by rw [h])), Below.heap_alloc _ _ _ hk]
  · rw [World.frozen?_setCell, World.frozen?_setCell, frozen?_alloc_cells]; exact hf o

theorem Zs.grown {W W' : World} {a4 a6 : Addr} {G : Nat} (h : Zs W a4 a6) (hg : W.grownBy W' (some G)) (h3 : 3 < G) (h4 : a4.block ≠ G) (h6 : a6.block ≠ G) : Zs W' a4 a6 := by
  have hs := h.big
  have l4 : a4.block < W.heap.size := by obtain ⟨c, t, hc⟩ := h.b4; exact (Array.getElem?_eq_some_iff.1 hc).1
  have l6 : a6.block < W.heap.size := by obtain ⟨c, t, hc⟩ := h.b6; exact (Array.getElem?_eq_some_iff.1 hc).1
  refine ⟨hg.cell h.z0 (by simp; omega), hg.cell h.z4 (by simp; omega), hg.cell h.z6 (by simp; omega), h.ne, ?_, ?_, Nat.lt_of_lt_of_le hs hg.size⟩
  · rw [hg.block _ l4 (by simpa using h4)]; exact h.b4
  · rw [hg.block _ l6 (by simpa using h6)]; exact h.b6

theorem Src.grown {w w' : World} {a : Addr} {zs : List Int} {G : Nat} (h : Src w (some a) zs) (hg : w.grownBy w' (some G)) (hne : a.block ≠ G) : Src w' (some a) zs :=
  ⟨h.nil, fun i hi => by
    obtain ⟨b, off, h1, h2⟩ := h.cell i hi
    refine ⟨b, off, h1, hg.cell h2 ?_⟩
    simp only [Option.some.injEq] at h1
    subst h1
    simpa using hne, h.byte⟩
end Go.Proofs.YbulkacxcDoor
