import Derived.Test.YbulkadfeLeaf
import Derived.Deep.RegionWith
namespace Go.Proofs.Ybulkadfe
open Go.RowKit

/-- All blocks of w but those of L are in w' as they were. -/
structure Kept (L : List Nat) (w w' : World) : Prop where
  os : w'.os = w.os
  tape : w'.tape = w.tape
  output : w'.output = w.output
  size : w.heap.size ≤ w'.heap.size
  block : ∀ k, k < w.heap.size → k ∉ L → w'.heap[k]? = w.heap[k]?

theorem Kept.refl (L : List Nat) (w : World) : Kept L w w := ⟨rfl, rfl, rfl, Nat.le_refl _, fun _ _ _ => rfl⟩
theorem Kept.trans {L : List Nat} {a b c : World} (h : Kept L a b) (k : Kept L b c) : Kept L a c :=
  ⟨k.os.trans h.os, k.tape.trans h.tape, k.output.trans h.output, Nat.le_trans h.size k.size, fun j hj hn => (k.block j (Nat.lt_of_lt_of_le hj h.size) hn).trans (h.block j hj hn)⟩
theorem Kept.of {B : Nat} {L : List Nat} {w w' : World} (h : Below B w w') (hB : w.heap.size ≤ B) : Kept L w w' := ⟨h.os, h.tape, h.output, h.size, fun k hk _ => h.block k (by omega)⟩
theorem Kept.wide {L M : List Nat} {w w' : World} (h : Kept L w w') (hs : ∀ k, k ∈ L → k ∈ M) : Kept M w w' := ⟨h.os, h.tape, h.output, h.size, fun k hk hn => h.block k hk (fun hh => hn (hs k hh))⟩
theorem Kept.alloc {L : List Nat} {a w : World} (h : Kept L a w) (o : Obj) : Kept L a (w.alloc o) :=
  h.trans (.of ((Below.refl _ w).alloc (Nat.le_refl _) o) (Nat.le_refl _))
theorem Kept.drew {L : List Nat} {a w : World} (h : Kept L a w) : Kept L a w.drew := ⟨h.os, h.tape, h.output, h.size, h.block⟩
theorem Kept.setCell {L : List Nat} {a w : World} (h : Kept L a w) {p : Addr} (hp : p.block ∈ L) (u : Value) : Kept L a (w.setCell p u) := by
  have b := (Below.refl 0 w).setCell (p := p) (Nat.zero_le _) u
  exact h.trans ⟨b.os, b.tape, b.output, b.size, fun k _ hn => Below.heap_setCell w p u k (fun e => hn (e ▸ hp))⟩
theorem Kept.below {B : Nat} {L : List Nat} {w w' : World} (h : Kept L w w') (hB : B ≤ w.heap.size) (hL : ∀ k, k ∈ L → B ≤ k) : Below B w w' :=
  ⟨h.os, h.tape, h.output, h.size, fun k hk => h.block k (by omega) (fun hh => by have := hL k hh; omega)⟩
theorem Kept.cell {L : List Nat} {w w' : World} (h : Kept L w w') {p : Addr} (hp : p.block < w.heap.size) (hn : p.block ∉ L) : w'.cell? p = w.cell? p := World.cell?_of_block (w := w) (h.block p.block hp hn)
theorem Kept.frozen {L : List Nat} {w w' : World} (h : Kept L w w') {p : Addr} (hp : p.block < w.heap.size) (hn : p.block ∉ L) : w'.frozen? p = w.frozen? p := World.frozen?_of_block (w := w) (h.block p.block hp hn)

theorem calt' {w : World} {o : Obj} {g j : Nat} (h : g < w.heap.size) : (w.alloc o).cell? ⟨g, j, none⟩ = w.cell? ⟨g, j, none⟩ :=
  World.cell?_of_block (Below.heap_alloc w o g h)
theorem falt' {w : World} {o : Obj} {g j : Nat} (h : g < w.heap.size) : (w.alloc o).frozen? ⟨g, j, none⟩ = w.frozen? ⟨g, j, none⟩ :=
  World.frozen?_of_block (Below.heap_alloc w o g h)
theorem cnew (w : World) (C : Array Value) (t : TypeId) (g i : Nat) (h : g = w.heap.size) : (w.alloc (.cells C t)).cell? ⟨g, i, none⟩ = C[i]? := by
  subst h; exact World.cell?_alloc_new w C t i
theorem fnew (w : World) (C : Array Value) (t : TypeId) (g i : Nat) (h : g = w.heap.size) : (w.alloc (.cells C t)).frozen? ⟨g, i, none⟩ = false := by
  subst h; exact World.frozen?_alloc_new w C t i
theorem cset_same {w : World} {g j : Nat} {u v : Value} (h : w.cell? ⟨g, j, none⟩ = some u) : (w.setCell ⟨g, j, none⟩ v).cell? ⟨g, j, none⟩ = some v :=
  World.cell?_setCell_same' w _ _ (by rw [h]; rfl)
theorem cset_off {w : World} {g j i b : Nat} {v : Value} (h : b ≠ g ∨ i ≠ j) : (w.setCell ⟨g, j, none⟩ v).cell? ⟨b, i, none⟩ = w.cell? ⟨b, i, none⟩ :=
  World.cell?_setCell_other _ _ _ _ (fun e => by have := Addr.mk.inj e; omega)

theorem wrap_wrap (x : Int) : IntKind.u64.wrap (IntKind.u64.wrap x) = IntKind.u64.wrap x := by
  simp only [IntKind.wrap, IntKind.signed, IntKind.bits]
  simp

set_option maxHeartbeats 800000 in
set_option maxRecDepth 100000 in
theorem with_any (r1 r2 o1 o2 : Int) (w : World) :
    Calls Yba.prog 16 #[.agg #[.int .u64 r1, .int .u64 r2], .agg #[.int .u64 o1, .int .u64 o2], .agg #[.int .u64 0, .int .u64 0]] w fun e w' =>
      e = .returned (.agg #[.int .u64 (IntKind.u64.wrap (r1 - o1)), .int .u64 (IntKind.u64.wrap (r2 - o2))]) ∧ Below w.heap.size w w' := by
  have h1 := wrap_wrap (r1 - o1)
  have h2 := wrap_wrap (r2 - o2)
  go_enter Yba.func16, Yba.ntmps16
  go_wp2
  exact bodyPost_ret (v := .agg #[.int .u64 (IntKind.u64.wrap (r1 - o1)), .int .u64 (IntKind.u64.wrap (r2 - o2))]) (by simp [results, Yba.results16, go_sem]) rfl ⟨rfl, ((((Below.refl _ w).alloc (Nat.le_refl _) _).alloc (by simp) _).alloc (by simp; omega) _).alloc (by simp; omega) _⟩

set_option maxHeartbeats 1600000 in
set_option maxRecDepth 100000 in
theorem use_any (E : Nat) (u1 u2 o1 o2 : Int) (w : World) (h29 : w.cell? ⟨E, 29, none⟩ = some (.int .u64 u1)) (h30 : w.cell? ⟨E, 30, none⟩ = some (.int .u64 u2)) (h237 : w.cell? ⟨E, 237, none⟩ = some (.bool false))
    (hf : ∀ o, w.frozen? ⟨E, o, none⟩ = false) (hsz : E < w.heap.size) (hz : decide (0 < o1) = decide (0 < o2)) :
    Calls Yba.prog 14 #[.pointer (some ⟨E, 0, none⟩), .agg #[.int .u64 o1, .int .u64 o2], .agg #[.int .u64 0, .int .u64 0]] w fun e w' =>
      e = .returned (.tuple #[]) ∧ Kept [E] w w' ∧ w'.cell? ⟨E, 29, none⟩ = some (.int .u64 (IntKind.u64.wrap (u1 - o1))) ∧ w'.cell? ⟨E, 30, none⟩ = some (.int .u64 (IntKind.u64.wrap (u2 - o2))) ∧ w'.cell? ⟨E, 237, none⟩ = some (.bool (decide (0 < o1))) := by
  have HF : Hid _ := hf
  have f29 := hf 29
  have f30 := hf 30
  have f237 := hf 237
  clear hf
  have K := with_any u1 u2 o1 o2
  go_enter Yba.func14, Yba.ntmps14
  go_wp2
  have b1 : Kept [E] w ((w.alloc (.cells #[.int .u64 o1, .int .u64 o2] 57)).alloc (.cells #[.int .u64 0, .int .u64 0] 57)) := ((Kept.refl _ w).alloc _).alloc _
  have c29 : ((w.alloc (.cells #[.int .u64 o1, .int .u64 o2] 57)).alloc (.cells #[.int .u64 0, .int .u64 0] 57)).cell? ⟨E, 29, none⟩ = some (.int .u64 u1) := by rw [calt' (by simp; omega), calt' hsz, h29]
  have c30 : ((w.alloc (.cells #[.int .u64 o1, .int .u64 o2] 57)).alloc (.cells #[.int .u64 0, .int .u64 0] 57)).cell? ⟨E, 30, none⟩ = some (.int .u64 u2) := by rw [calt' (by simp; omega), calt' hsz, h30]
  have c237 : ((w.alloc (.cells #[.int .u64 o1, .int .u64 o2] 57)).alloc (.cells #[.int .u64 0, .int .u64 0] 57)).cell? ⟨E, 237, none⟩ = some (.bool false) := by rw [calt' (by simp; omega), calt' hsz, h237]
  have g29 : ((w.alloc (.cells #[.int .u64 o1, .int .u64 o2] 57)).alloc (.cells #[.int .u64 0, .int .u64 0] 57)).frozen? ⟨E, 29, none⟩ = false := by rw [falt' (by simp; omega), falt' hsz, f29]
  have g30 : ((w.alloc (.cells #[.int .u64 o1, .int .u64 o2] 57)).alloc (.cells #[.int .u64 0, .int .u64 0] 57)).frozen? ⟨E, 30, none⟩ = false := by rw [falt' (by simp; omega), falt' hsz, f30]
  have g237 : ((w.alloc (.cells #[.int .u64 o1, .int .u64 o2] 57)).alloc (.cells #[.int .u64 0, .int .u64 0] 57)).frozen? ⟨E, 237, none⟩ = false := by rw [falt' (by simp; omega), falt' hsz, f237]
  have p0 : ((w.alloc (.cells #[.int .u64 o1, .int .u64 o2] 57)).alloc (.cells #[.int .u64 0, .int .u64 0] 57)).cell? ⟨w.heap.size, 0, none⟩ = some (.int .u64 o1) := by rw [calt' (by simp), cnew _ _ _ _ _ rfl]; rfl
  have p1 : ((w.alloc (.cells #[.int .u64 o1, .int .u64 o2] 57)).alloc (.cells #[.int .u64 0, .int .u64 0] 57)).cell? ⟨w.heap.size, 1, none⟩ = some (.int .u64 o2) := by rw [calt' (by simp), cnew _ _ _ _ _ rfl]; rfl
  have q0 : ((w.alloc (.cells #[.int .u64 o1, .int .u64 o2] 57)).alloc (.cells #[.int .u64 0, .int .u64 0] 57)).cell? ⟨w.heap.size + 1, 0, none⟩ = some (.int .u64 0) := by rw [cnew _ _ _ _ _ (by simp)]; rfl
  have q1 : ((w.alloc (.cells #[.int .u64 o1, .int .u64 o2] 57)).alloc (.cells #[.int .u64 0, .int .u64 0] 57)).cell? ⟨w.heap.size + 1, 1, none⟩ = some (.int .u64 0) := by rw [cnew _ _ _ _ _ (by simp)]; rfl
  have hs2 : ((w.alloc (.cells #[.int .u64 o1, .int .u64 o2] 57)).alloc (.cells #[.int .u64 0, .int .u64 0] 57)).heap.size = w.heap.size + 1 + 1 := by simp
  clear f29 f30 f237 h29 h30 h237
  generalize ((w.alloc (.cells #[.int .u64 o1, .int .u64 o2] 57)).alloc (.cells #[.int .u64 0, .int .u64 0] 57)) = W at b1 c29 c30 c237 g29 g30 g237 p0 p1 q0 q1 hs2 ⊢
  have T : ∀ w1 : World, Below (w.heap.size + 1 + 1) W w1 → (w1.cell? ⟨E, 29, none⟩ = some (.int .u64 u1) ∧ w1.cell? ⟨E, 30, none⟩ = some (.int .u64 u2) ∧ w1.cell? ⟨E, 237, none⟩ = some (.bool false) ∧ w1.frozen? ⟨E, 29, none⟩ = false ∧ w1.frozen? ⟨E, 30, none⟩ = false ∧ w1.frozen? ⟨E, 237, none⟩ = false) ∧
      w1.cell? ⟨w.heap.size, 0, none⟩ = some (.int .u64 o1) ∧ w1.cell? ⟨w.heap.size, 1, none⟩ = some (.int .u64 o2) ∧ w1.cell? ⟨w.heap.size + 1, 0, none⟩ = some (.int .u64 0) ∧ w1.cell? ⟨w.heap.size + 1, 1, none⟩ = some (.int .u64 0) ∧ Kept [E] w w1 := fun w1 hb =>
    ⟨⟨(hb.cell (by simp; omega)).trans c29, (hb.cell (by simp; omega)).trans c30, (hb.cell (by simp; omega)).trans c237, (hb.frozen (by simp; omega)).trans g29, (hb.frozen (by simp; omega)).trans g30, (hb.frozen (by simp; omega)).trans g237⟩,
      (hb.cell (by simp; omega)).trans p0, (hb.cell (by simp; omega)).trans p1, (hb.cell (by simp)).trans q0, (hb.cell (by simp)).trans q1, b1.trans (.of hb (by omega))⟩
  have TT : Hid _ := T
  have HS : Hid _ := hs2
  clear T
  go_region_with (go_at_call 16; refine (K _).mono ?_; rintro e w1 ⟨rfl, hb⟩; obtain ⟨⟨e29, e30, e237, k29, k30, k237⟩, l0, l1, m0, m1, hk⟩ := Hid.out TT w1 ⟨hb.os, hb.tape, hb.output, hb.size, fun k hk => hb.block k (by have := HS.out; first | omega | (simp; omega))⟩; clear hb)
  all_goals (
    by_cases hp : 0 < o1
    · have hd : decide ((0 : Int) < o1) = true := decide_eq_true hp
      go_wp2
      go_end0
      refine ⟨rfl, ((hk.setCell (by simp) _).setCell (by simp) _).setCell (by simp) _, ?_, ?_, ?_⟩
      · rw [cset_off (by omega), cset_off (by omega), cset_same e29]
      · rw [cset_off (by omega), cset_same (by rw [cset_off (by omega)]; exact e30)]
      · rw [cset_same (by rw [cset_off (by omega), cset_off (by omega)]; exact e237)]; first | rfl | (rw [hd])
    · have hd : decide ((0 : Int) < o1) = false := decide_eq_false hp
      have hd2 : decide ((0 : Int) < o2) = false := hz.symm.trans hd
      have hp2 : ¬ (0 : Int) < o2 := of_decide_eq_false hd2
      clear hz
      go_wp2
      go_end0
      refine ⟨rfl, (hk.setCell (by simp) _).setCell (by simp) _, ?_, ?_, ?_⟩
      · rw [cset_off (by omega), cset_same e29]
      · rw [cset_same (by rw [cset_off (by omega)]; exact e30)]
      · rw [cset_off (by omega), cset_off (by omega)]; first | exact e237 | (rw [hd]; exact e237))

set_option maxHeartbeats 800000 in
set_option maxRecDepth 100000 in
theorem unplace_any (E r : Nat) (w : World) (h : w.cell? ⟨r, 45, none⟩ = some (.bool false)) :
    Calls Yba.prog 15 #[.pointer (some ⟨E, 0, none⟩), .pointer (some ⟨r, 0, none⟩)] w fun e w' => e = .returned (.tuple #[]) ∧ w' = w := by
  go_enter Yba.func15, Yba.ntmps15
  go_wp2
  exact bodyPost_ret (v := .tuple #[]) (by simp [results, Yba.results15, go_sem]) rfl ⟨rfl, rfl⟩

set_option maxHeartbeats 800000 in
set_option maxRecDepth 100000 in
theorem free_any (E r : Nat) (u1 u2 o1 o2 : Int) (w : World) (h29 : w.cell? ⟨E, 29, none⟩ = some (.int .u64 u1)) (h30 : w.cell? ⟨E, 30, none⟩ = some (.int .u64 u2)) (h237 : w.cell? ⟨E, 237, none⟩ = some (.bool false))
    (hf : ∀ o, w.frozen? ⟨E, o, none⟩ = false) (hsz : E < w.heap.size) (hz : decide (0 < o1) = decide (0 < o2)) (hr : r < w.heap.size) (hrE : r ≠ E)
    (h42 : w.cell? ⟨r, 42, none⟩ = some (.int .u64 o1)) (h43 : w.cell? ⟨r, 43, none⟩ = some (.int .u64 o2)) (h45 : w.cell? ⟨r, 45, none⟩ = some (.bool false)) :
    Calls Yba.prog 11 #[.pointer (some ⟨E, 0, none⟩), .pointer (some ⟨r, 0, none⟩)] w fun e w' =>
      e = .returned (.tuple #[]) ∧ Kept [E] w w' ∧ w'.cell? ⟨E, 29, none⟩ = some (.int .u64 (IntKind.u64.wrap (u1 - o1))) ∧ w'.cell? ⟨E, 30, none⟩ = some (.int .u64 (IntKind.u64.wrap (u2 - o2))) ∧ w'.cell? ⟨E, 237, none⟩ = some (.bool (decide (0 < o1))) := by
  have K : Hid _ := fun (_ : Unit) => use_any E u1 u2 o1 o2 w h29 h30 h237 hf hsz hz
  clear h29 h30 h237 hf hz
  go_enter Yba.func11, Yba.ntmps11
  go_wp2_with fail
  refine (K.out ()).mono ?_
  rintro e w1 ⟨rfl, hk, a1, a2, a3⟩
  have K2 : Hid _ := fun (_ : Unit) => unplace_any E r w1 ((hk.cell hr (by simpa using hrE)).trans h45)
  have A : Hid _ := And.intro hk (And.intro a1 (And.intro a2 a3))
  clear h42 h43 h45 hk a1 a2 a3 K
  go_wp2_with fail
  refine (K2.out ()).mono ?_
  rintro e w2 ⟨rfl, rfl⟩
  go_wp2
  go_end0
  exact ⟨rfl, A.out⟩

set_option maxHeartbeats 800000 in
set_option maxRecDepth 100000 in
theorem volumes_none (r : Nat) (w : World) (h : w.cell? ⟨r, 39, none⟩ = some (.bool false)) :
    Calls Yba.prog 8 #[.pointer (some ⟨r, 0, none⟩)] w fun e w' => e = .returned (.slice none 0 0) ∧ w' = w := by
  go_enter Yba.func8, Yba.ntmps8
  go_wp2
  go_ret
  exact ⟨rfl, rfl⟩

set_option maxHeartbeats 800000 in
set_option maxRecDepth 100000 in
theorem volumes_some (r : Nat) (w : World) (h : w.cell? ⟨r, 39, none⟩ = some (.bool true)) :
    Calls Yba.prog 8 #[.pointer (some ⟨r, 0, none⟩)] w fun e w' => e = .returned (.slice (some ⟨w.heap.size, 0, none⟩) 1 1) ∧ Below w.heap.size w w' ∧ w'.heap.size = w.heap.size + 1 ∧ w'.cell? ⟨w.heap.size, 0, none⟩ = some (.int .u32 0) ∧ w'.cell? ⟨w.heap.size, 1, none⟩ = some (.pointer none) := by
  go_enter Yba.func8, Yba.ntmps8
  go_wp2
  go_ret
  exact ⟨rfl, (Below.refl _ w).alloc (Nat.le_refl _) _, by simp, by go_simp, by go_simp⟩
end Go.Proofs.Ybulkadfe
