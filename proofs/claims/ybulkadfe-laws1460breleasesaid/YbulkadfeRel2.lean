import Derived.Test.YbulkadfeRel
namespace Go.Proofs.Ybulkadfe
open Go.RowKit

set_option maxHeartbeats 800000 in
set_option maxRecDepth 100000 in
/-- No such RAB. -/
theorem release_no (E : Nat) (c : Option Addr) (id named : Int) (hn : ¬ 1 < named) (w : World) (K6 : ∀ W, Kept [] w W → Calls Yba.prog 6 #[.pointer c, .int .u8 id] W fun e w' => e = .returned (.pointer none) ∧ w' = W) :
    Calls Yba.prog 4 #[.pointer (some ⟨E, 0, none⟩), .pointer c, .int .u8 id, .int .i64 named, .bool false] w fun e w' => e = .returned (.tuple #[item 0 (.slice none 0 0), .int .u16 30]) ∧ Below w.heap.size w w' := by
  have H6 : Hid _ := K6
  clear K6
  go_enter Yba.func4, Yba.ntmps4
  go_wp2_with fail
  refine Calls.mono (H6.out _ ((Kept.refl _ w).alloc _)) ?_
  rintro e w1 ⟨rfl, rfl⟩
  go_wp2
  exact bodyPost_ret (v := .tuple #[item 0 (.slice none 0 0), .int .u16 30]) (by simp [results, Yba.results4, go_sem, item]) rfl ⟨rfl, by first | exact (Below.refl _ w).alloc (Nat.le_refl _) _ | skip⟩

theorem Row.later {w W : World} {a : Option Addr} {n : Nat} {bs ids : Nat → Nat} (h : Row w a n bs ids) (k : Kept [] w W) (hG : ∀ G, a = some ⟨G, 0, none⟩ → G < w.heap.size) (hB : ∀ j, j < n → bs j < w.heap.size) : Row W a n bs ids :=
  ⟨fun j hj => by
    obtain ⟨G, e, hc⟩ := h.ptr j hj
    exact ⟨G, e, (k.cell (hG G e) (by simp)).trans hc⟩, fun j hj => (k.cell (hB j hj) (by simp)).trans (h.id j hj), h.lt, h.mono, h.few⟩

theorem Laid.later {w W : World} {E C G n cap : Nat} {bs ids : Nat → Nat} (h : Laid w E C G n cap bs ids) (k : Kept [] w W) : Laid W E C G n cap bs ids where
  slice := (k.cell h.bC (by simp)).trans h.slice
  fC := (k.frozen h.bC (by simp)).trans h.fC
  row := h.row.later k (fun G' e => by cases e; exact h.bG) h.bB
  fG j := (k.frozen h.bG (by simp)).trans (h.fG j)
  fE j := (k.frozen h.bE (by simp)).trans (h.fE j)
  cap1 := h.cap1
  cap2 := h.cap2
  bE := Nat.lt_of_lt_of_le h.bE k.size
  bC := Nat.lt_of_lt_of_le h.bC k.size
  bG := Nat.lt_of_lt_of_le h.bG k.size
  bB j hj := Nat.lt_of_lt_of_le (h.bB j hj) k.size
  nEC := h.nEC
  nEG := h.nEG
  nCG := h.nCG
  nB := h.nB

theorem hnew (w : World) (o : Obj) : (w.alloc o).heap[w.heap.size]? = some o := by
  show (w.heap.push o)[w.heap.size]? = _
  simp

theorem four_of {w : World} {R : Nat} {a b c d : Value} {t : TypeId} (h : w.heap[R]? = some (.cells #[a, b, c, d] t)) :
    w.cell? ⟨R, 0, none⟩ = some a ∧ w.cell? ⟨R, 1, none⟩ = some b ∧ w.cell? ⟨R, 2, none⟩ = some c ∧ w.cell? ⟨R, 3, none⟩ = some d ∧ (∀ o, w.frozen? ⟨R, o, none⟩ = false) := by
  refine ⟨?_, ?_, ?_, ?_, fun o => ?_⟩ <;> simp [World.cell?, World.frozen?, h]

/-- What a release of the RAB at place k leaves. -/
structure Gone (w w' : World) (E C G n cap k : Nat) (bs : Nat → Nat) (u1 u2 o1 o2 : Int) : Prop where
  kept : Kept [E, C, G] w w'
  dl : w'.cell? ⟨E, 29, none⟩ = some (.int .u64 (IntKind.u64.wrap (u1 - o1)))
  ul : w'.cell? ⟨E, 30, none⟩ = some (.int .u64 (IntKind.u64.wrap (u2 - o2)))
  freed : w'.cell? ⟨E, 237, none⟩ = some (.bool (decide (0 < o1)))
  slice : w'.cell? ⟨C, 1, none⟩ = some (.slice (some ⟨G, 0, none⟩) (n - 1) cap)
  row : ∀ j, j < n - 1 → w'.cell? ⟨G, j, none⟩ = some (.pointer (some ⟨skip k bs j, 0, none⟩))

/-- The volumes that are reported. -/
def Vols (rep : Bool) (w w' : World) (v : Value) : Prop :=
  if rep then ∃ V, v = .slice (some ⟨V, 0, none⟩) 1 1 ∧ w.heap.size ≤ V ∧ V < w'.heap.size ∧ w'.cell? ⟨V, 0, none⟩ = some (.int .u32 0) ∧ w'.cell? ⟨V, 1, none⟩ = some (.pointer none) else v = .slice none 0 0

theorem Gone.of {w w2 w' : World} {E C G n cap k : Nat} {bs : Nat → Nat} {u1 u2 o1 o2 : Int} (N : E < w.heap.size ∧ C < w.heap.size ∧ G < w.heap.size) (K : Kept [E, C, G] w w2)
    (A : w2.cell? ⟨E, 29, none⟩ = some (.int .u64 (IntKind.u64.wrap (u1 - o1))) ∧ w2.cell? ⟨E, 30, none⟩ = some (.int .u64 (IntKind.u64.wrap (u2 - o2))) ∧ w2.cell? ⟨E, 237, none⟩ = some (.bool (decide (0 < o1))) ∧
      w2.cell? ⟨C, 1, none⟩ = some (.slice (some ⟨G, 0, none⟩) (n - 1) cap) ∧ (∀ j, j < n - 1 → w2.cell? ⟨G, j, none⟩ = some (.pointer (some ⟨skip k bs j, 0, none⟩)))) (b : Below w.heap.size w2 w') : Gone w w' E C G n cap k bs u1 u2 o1 o2 where
  kept := ⟨b.os.trans K.os, b.tape.trans K.tape, b.output.trans K.output, Nat.le_trans K.size b.size, fun j hj hn => (b.block j hj).trans (K.block j hj hn)⟩
  dl := (b.cell N.1).trans A.1
  ul := (b.cell N.1).trans A.2.1
  freed := (b.cell N.1).trans A.2.2.1
  slice := (b.cell N.2.1).trans A.2.2.2.1
  row j hj := (b.cell N.2.2).trans (A.2.2.2.2 j hj)

theorem set4 {w : World} {R : Nat} {a b c d : Value} (h0 : (w.cell? ⟨R, 0, none⟩).isSome = true) (h1 : (w.cell? ⟨R, 1, none⟩).isSome = true) (h2 : (w.cell? ⟨R, 2, none⟩).isSome = true) (h3 : (w.cell? ⟨R, 3, none⟩).isSome = true) :
    ((((w.setCell ⟨R, 0, none⟩ a).setCell ⟨R, 1, none⟩ b).setCell ⟨R, 2, none⟩ c).setCell ⟨R, 3, none⟩ d).cell? ⟨R, 0, none⟩ = some a ∧ ((((w.setCell ⟨R, 0, none⟩ a).setCell ⟨R, 1, none⟩ b).setCell ⟨R, 2, none⟩ c).setCell ⟨R, 3, none⟩ d).cell? ⟨R, 1, none⟩ = some b ∧
    ((((w.setCell ⟨R, 0, none⟩ a).setCell ⟨R, 1, none⟩ b).setCell ⟨R, 2, none⟩ c).setCell ⟨R, 3, none⟩ d).cell? ⟨R, 2, none⟩ = some c ∧ ((((w.setCell ⟨R, 0, none⟩ a).setCell ⟨R, 1, none⟩ b).setCell ⟨R, 2, none⟩ c).setCell ⟨R, 3, none⟩ d).cell? ⟨R, 3, none⟩ = some d := by
  refine ⟨?_, ?_, ?_, ?_⟩
  · rw [cset_off (by omega), cset_off (by omega), cset_off (by omega)]; exact World.cell?_setCell_same' w _ _ h0
  · rw [cset_off (by omega), cset_off (by omega)]; exact World.cell?_setCell_same' _ _ _ (by rw [cset_off (by omega)]; exact h1)
  · rw [cset_off (by omega)]; exact World.cell?_setCell_same' _ _ _ (by rw [cset_off (by omega), cset_off (by omega)]; exact h2)
  · exact World.cell?_setCell_same' _ _ _ (by rw [cset_off (by omega), cset_off (by omega), cset_off (by omega)]; exact h3)

theorem below4 {B : Nat} {w0 w : World} {R : Nat} {a b c d : Value} (h : Below B w0 w) (hB : B ≤ R) : Below B w0 ((((w.setCell ⟨R, 0, none⟩ a).setCell ⟨R, 1, none⟩ b).setCell ⟨R, 2, none⟩ c).setCell ⟨R, 3, none⟩ d) :=
  (((h.setCell hB _).setCell hB _).setCell hB _).setCell hB _

set_option maxHeartbeats 1600000 in
set_option maxRecDepth 100000 in
theorem release_hit (E C G n cap k : Nat) (hk : k < n) (bs ids : Nat → Nat) (named : Int) (hn : ¬ 1 < named) (rep : Bool) (u1 u2 o1 o2 : Int) (w : World) (L : Laid w E C G n cap bs ids) (hz : decide (0 < o1) = decide (0 < o2))
    (h29 : w.cell? ⟨E, 29, none⟩ = some (.int .u64 u1)) (h30 : w.cell? ⟨E, 30, none⟩ = some (.int .u64 u2)) (h237 : w.cell? ⟨E, 237, none⟩ = some (.bool false))
    (h42 : w.cell? ⟨bs k, 42, none⟩ = some (.int .u64 o1)) (h43 : w.cell? ⟨bs k, 43, none⟩ = some (.int .u64 o2)) (h45 : w.cell? ⟨bs k, 45, none⟩ = some (.bool false)) (h39 : w.cell? ⟨bs k, 39, none⟩ = some (.bool rep)) :
    Calls Yba.prog 4 #[.pointer (some ⟨E, 0, none⟩), .pointer (some ⟨C, 0, none⟩), .int .u8 (ids k), .int .i64 named, .bool false] w fun e w' =>
      ∃ v, e = .returned (.tuple #[item (ids k) v, .int .u16 0]) ∧ Vols rep w w' v ∧ Gone w w' E C G n cap k bs u1 u2 o1 o2 := by
  have HL : Hid _ := L
  have HH : Hid _ := And.intro h29 (And.intro h30 (And.intro h237 (And.intro h42 (And.intro h43 (And.intro h45 h39)))))
  have HZ : Hid _ := hz
  clear L h29 h30 h237 h42 h43 h45 h39 hz
  go_enter Yba.func4, Yba.ntmps4
  go_wp2_with fail
  have k1 : Kept [] w (w.alloc (.cells #[.int .u8 0, .slice none 0 0, .pointer none, .pointer none] 96)) := (Kept.refl _ w).alloc _
  have r1 : (w.alloc (.cells #[.int .u8 0, .slice none 0 0, .pointer none, .pointer none] 96)).heap[w.heap.size]? = some (.cells #[.int .u8 0, .slice none 0 0, .pointer none, .pointer none] 96) := hnew w _
  have z1 : (w.alloc (.cells #[.int .u8 0, .slice none 0 0, .pointer none, .pointer none] 96)).heap.size = w.heap.size + 1 := by simp
  generalize w.alloc (.cells #[.int .u8 0, .slice none 0 0, .pointer none, .pointer none] 96) = W at k1 r1 z1 ⊢
  have L1 := HL.out.later k1
  refine Calls.mono (lookup_hit C (some ⟨G, 0, none⟩) n cap bs ids k hk W L1.slice L1.row) ?_
  rintro e w1 ⟨rfl, rfl⟩
  have K7 : Hid _ := fun (_ : Unit) => drop_any E C G n cap k hk bs ids u1 u2 o1 o2 w1 L1 HZ.out ((k1.cell HL.out.bE (by simp)).trans HH.out.1) ((k1.cell HL.out.bE (by simp)).trans HH.out.2.1) ((k1.cell HL.out.bE (by simp)).trans HH.out.2.2.1)
    ((k1.cell (HL.out.bB k hk) (by simp)).trans HH.out.2.2.2.1) ((k1.cell (HL.out.bB k hk) (by simp)).trans HH.out.2.2.2.2.1) ((k1.cell (HL.out.bB k hk) (by simp)).trans HH.out.2.2.2.2.2.1)
  have K1 : Hid _ := And.intro k1 (And.intro r1 z1)
  have HL1 : Hid _ := L1
  clear k1 r1 L1 z1
  go_wp2_with fail
  refine (K7.out ()).mono ?_
  rintro e w2 ⟨rfl, k2, a1, a2, a3, a4, a5⟩
  clear K7
  have hRL : w.heap.size ∉ [E, C, G] := by
    have h1 := HL.out.bE
    have h2 := HL.out.bC
    have h3 := HL.out.bG
    simp; omega
  obtain ⟨q0, q1, q2, q3, qf⟩ := four_of ((k2.block w.heap.size (by have := K1.out.2.2; omega) hRL).trans K1.out.2.1)
  have f0 := qf 0
  have f1 := qf 1
  have f2 := qf 2
  have f3 := qf 3
  clear qf
  have hB := HL.out.nB k hk
  have t2 : w2.cell? ⟨bs k, 39, none⟩ = some (.bool rep) := (k2.cell (HL1.out.bB k hk) (by simp; omega)).trans ((K1.out.1.cell (HL.out.bB k hk) (by simp)).trans HH.out.2.2.2.2.2.2)
  have z2 : w.heap.size < w2.heap.size := by have h1 := k2.size; have h2 := K1.out.2.2; omega
  have A : Hid _ := And.intro a1 (And.intro a2 (And.intro a3 (And.intro a4 a5)))
  have HK : Hid _ := And.intro ((K1.out.1.wide (M := [E, C, G]) (by simp)).trans k2) z2
  have N : Hid _ := And.intro HL.out.bE (And.intro HL.out.bC HL.out.bG)
  clear a1 a2 a3 a4 a5 k2 K1 HL1 HL HH hB hRL HZ
  cases rep with
  | false =>
    go_wp2_with fail
    refine Calls.mono (volumes_none (bs k) w2 t2) ?_
    rintro e w3 ⟨rfl, rfl⟩
    clear t2 z2
    go_wp2
    obtain ⟨y0, y1, y2, y3⟩ := set4 (w := w3) (R := w.heap.size) (a := .int .u8 (ids k)) (b := .slice none 0 0) (c := .pointer none) (d := .pointer none) (by rw [q0]; rfl) (by rw [q1]; rfl) (by rw [q2]; rfl) (by rw [q3]; rfl)
    exact bodyPost_ret (v := .tuple #[item (ids k) (.slice none 0 0), .int .u16 0]) (by simp [results, Yba.results4, go_sem, item, y0, y1, y2, y3]) rfl ⟨_, rfl, rfl, Gone.of N.out HK.out.1 A.out (below4 (Below.refl _ _) (Nat.le_refl _))⟩
  | true =>
    go_wp2_with fail
    refine Calls.mono (volumes_some (bs k) w2 t2) ?_
    rintro e w3 ⟨rfl, b3, z3, v0, v1⟩
    have g0 := (b3.cell (p := ⟨w.heap.size, 0, none⟩) z2).trans q0
    have g1 := (b3.cell (p := ⟨w.heap.size, 1, none⟩) z2).trans q1
    have g2 := (b3.cell (p := ⟨w.heap.size, 2, none⟩) z2).trans q2
    have g3 := (b3.cell (p := ⟨w.heap.size, 3, none⟩) z2).trans q3
    have e0 := (b3.frozen (p := ⟨w.heap.size, 0, none⟩) z2).trans f0
    have e1 := (b3.frozen (p := ⟨w.heap.size, 1, none⟩) z2).trans f1
    have e2 := (b3.frozen (p := ⟨w.heap.size, 2, none⟩) z2).trans f2
    have e3 := (b3.frozen (p := ⟨w.heap.size, 3, none⟩) z2).trans f3
    have B : Hid _ := And.intro b3 (And.intro z3 (And.intro v0 v1))
    clear b3 v0 v1 q0 q1 q2 q3 f0 f1 f2 f3 t2 z2 z3
    go_wp2
    obtain ⟨y0, y1, y2, y3⟩ := set4 (w := w3) (R := w.heap.size) (a := .int .u8 (ids k)) (b := .slice (some ⟨w2.heap.size, 0, none⟩) 1 1) (c := .pointer none) (d := .pointer none) (by rw [g0]; rfl) (by rw [g1]; rfl) (by rw [g2]; rfl) (by rw [g3]; rfl)
    obtain ⟨b3, z3, v0, v1⟩ := B.out
    have hz2 := HK.out.2
    refine bodyPost_ret (v := .tuple #[item (ids k) (.slice (some ⟨w2.heap.size, 0, none⟩) 1 1), .int .u16 0]) (by simp [results, Yba.results4, go_sem, item, y0, y1, y2, y3]) rfl ⟨_, rfl, ⟨w2.heap.size, rfl, Nat.le_of_lt hz2, by simp [World.setCell]; omega, ?_, ?_⟩, Gone.of N.out HK.out.1 A.out (below4 (b3.mono (Nat.le_of_lt hz2)) (Nat.le_refl _))⟩
    · rw [cset_off (by omega), cset_off (by omega), cset_off (by omega), cset_off (by omega)]; exact v0
    · rw [cset_off (by omega), cset_off (by omega), cset_off (by omega), cset_off (by omega)]; exact v1
end Go.Proofs.Ybulkadfe
