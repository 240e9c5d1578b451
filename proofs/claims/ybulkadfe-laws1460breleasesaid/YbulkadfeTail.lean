import Derived.Test.YbulkadfeInv
namespace Go.Proofs.Ybulkadfe
open Go.RowKit

set_option maxHeartbeats 1600000 in
set_option maxRecDepth 100000 in
/-- The first ID asked for is not the row's first. -/
theorem ids_false (C n cap m cap2 : Nat) (a a2 : Option Addr) (bs ids ws : Nat → Nat) (w : World) (hC : w.cell? ⟨C, 1, none⟩ = some (.slice a n cap))
    (hp : ∀ j, j < n → ∃ G, a = some ⟨G, 0, none⟩ ∧ w.cell? ⟨G, j, none⟩ = some (.pointer (some ⟨bs j, 0, none⟩))) (hid : ∀ j, j < n → w.cell? ⟨bs j, 41, none⟩ = some (.int .u8 (ids j)))
    (hw : ∀ i, i < m → ∃ H, a2 = some ⟨H, 0, none⟩ ∧ w.cell? ⟨H, i, none⟩ = some (.int .u8 (ws i))) (hwl : ∀ i, i < m → ws i < 256) (hm : 0 < m) (hm2 : m ≤ 256) (hne : 0 < n → ids 0 ≠ ws 0) :
    Calls Yba.prog 5 #[.pointer (some ⟨C, 0, none⟩), .slice a2 m cap2, .int .i64 (-1)] w fun e w' => e = .returned (.bool false) ∧ Below w.heap.size w w' := by
  obtain ⟨H, rfl, hw0⟩ := hw 0 hm
  have hl := hwl 0 hm
  have hl2 : (ws 0 : Int) < 256 := by omega
  have hmi : (0 : Int) < (m : Int) := by omega
  have hd : ((ws 0 : Int) == -1) = false := by simp
  clear hw hwl
  by_cases hn : 0 < n
  · obtain ⟨G, rfl, hp0⟩ := hp 0 hn
    have hid0 := hid 0 hn
    have hne0 : ((ids 0 : Int) != (ws 0 : Int)) = true := by have := hne hn; simp; omega
    have hd2 : decide ((n : Int) ≤ 0) = false := by simp; omega
    have hd3 : decide (n ≤ 0) = false := by simp; omega
    have hd4 : decide (n = 0) = false := by simp; omega
    have hd5 : (n == 0) = false := by simp; omega
    have hn0 : ¬ n = 0 := by omega
    clear hp hid hne
    go_enter Yba.func5, Yba.ntmps5
    go_wp2
    go_loopw [7, 8] (fun j i wr => j = .int .i64 0 ∧ i = .int .i64 0 ∧ wr = w) (fun _ _ _ => 0)
    case atStart => exact ⟨rfl, rfl, rfl⟩
    case round =>
      obtain ⟨rfl, rfl, rfl⟩ := hrel
      go_wp2
      go_quiet (fail)
      go_wp2
      go_ret
      exact ⟨rfl, ⟨rfl, rfl, rfl, Nat.le_refl _, fun _ _ => rfl⟩⟩
  · obtain rfl : n = 0 := by omega
    clear hp hid hne
    go_enter Yba.func5, Yba.ntmps5
    go_wp2
    go_loopw [7, 8] (fun j i wr => j = .int .i64 0 ∧ i = .int .i64 0 ∧ wr = w) (fun _ _ _ => 0)
    case atStart => exact ⟨rfl, rfl, rfl⟩
    case round =>
      obtain ⟨rfl, rfl, rfl⟩ := hrel
      go_wp2
      go_quiet (fail)
      go_wp2
      go_ret
      exact ⟨rfl, ⟨rfl, rfl, rfl, Nat.le_refl _, fun _ _ => rfl⟩⟩

/-- All is as it was. -/
theorem same_ids {w wr : World} {P : Nat} {F rp : Nat → Bool} {vr vb : Value} {bl : List Nat} (I : Inv w wr P F rp 256 vr vb bl) (W' : World) (b : Below wr.heap.size wr W') :
    Calls Yba.prog 5 #[.pointer (some ⟨P + 2, 0, none⟩), vb, .int .i64 (-1)] W' fun e w' => e = .returned (.bool true) ∧ Below W'.heap.size W' w' := by
  obtain ⟨a, cap, _, hC, row, _⟩ := I.last W' (Kept.of b (Nat.le_refl _))
  obtain ⟨a2, cap2, rfl, hb⟩ := I.before
  exact ids_any (P + 2) (upto F 256).length cap (upto F 256).length cap2 a a2 (nth bl) (nth (upto F 256)) (nth (upto F 256)) (-1) W' hC row.ptr row.id
    (fun i hi => by
      obtain ⟨H, e, _, hc⟩ := hb i hi
      exact ⟨H, e, later b hc⟩) (fun i hi => (upto_mem hi).1) (upto_len F 256) (fun i hi _ => by rw [cnt_all]; exact ⟨hi, rfl⟩) (cnt_all _ _)

/-- What the checks are told behind a release. -/
theorem gone_facts {w wr W w5 W' : World} {P E G cap k : Nat} {F rp : Nat → Bool} {vr vb : Value} {bl : List Nat} {u1 u2 o1 o2 : Int} (I : Inv w wr P F rp 256 vr vb bl) (hW : Kept [] wr W) (hE : wr.heap.size ≤ E)
    (hGt : ∃ cur, wr.heap[G]? = some (.cells cur 29 (0, 0))) (hk : k < (upto F 256).length) (g : Gone W w5 E (P + 2) G (upto F 256).length cap k (nth bl) u1 u2 o1 o2) (b : Below w5.heap.size w5 W') :
    (∀ (B : Nat) (cs : Array Value) (t : TypeId) (fr : Nat × Nat), wr.heap[B]? = some (.cells cs t fr) → t ≠ 35 → t ≠ 29 → W'.heap[B]? = some (.cells cs t fr)) ∧
    W'.cell? ⟨P + 2, 1, none⟩ = some (.slice (some ⟨G, 0, none⟩) ((upto F 256).length - 1) cap) ∧
    (∀ j, j < (upto F 256).length - 1 → ∃ G', some (⟨G, 0, none⟩ : Addr) = some ⟨G', 0, none⟩ ∧ W'.cell? ⟨G', j, none⟩ = some (.pointer (some ⟨skip k (nth bl) j, 0, none⟩))) ∧
    (∀ j, j < (upto F 256).length - 1 → W'.cell? ⟨skip k (nth bl) j, 41, none⟩ = some (.int .u8 (skip k (nth (upto F 256)) j : Nat))) ∧
    (∃ a2 cap2, vb = .slice a2 (upto F 256).length cap2 ∧ ∀ i, i < (upto F 256).length → ∃ H, a2 = some ⟨H, 0, none⟩ ∧ W'.cell? ⟨H, i, none⟩ = some (.int .u8 (nth (upto F 256) i : Nat))) := by
  obtain ⟨cg, hg⟩ := hGt
  obtain ⟨cc, q1, q2⟩ := I.conn
  have keep : ∀ (B : Nat) (cs : Array Value) (t : TypeId) (fr : Nat × Nat), wr.heap[B]? = some (.cells cs t fr) → t ≠ 35 → t ≠ 29 → W'.heap[B]? = some (.cells cs t fr) := fun B cs t fr hB h35 h29 => by
    have hlt := lt_of hB
    have hnot : B ∉ [E, P + 2, G] := by
      simp only [List.mem_cons, List.not_mem_nil, or_false, not_or]
      refine ⟨by omega, fun e => ?_, fun e => ?_⟩
      · rw [e, q1] at hB
        injection hB with hB
        injection hB with _ e2 _
        exact h35 e2.symm
      · rw [e, hg] at hB
        injection hB with hB
        injection hB with _ e2 _
        exact h29 e2.symm
    have h5 := (g.kept.block B (Nat.lt_of_lt_of_le hlt hW.size) hnot).trans ((hW.block B hlt (by simp)).trans hB)
    exact (b.block B (lt_of h5)).trans h5
  refine ⟨keep, later b g.slice, fun j hj => ⟨G, rfl, later b (g.row j hj)⟩, fun j hj => ?_, ?_⟩
  · have hr : ∀ i, i < (upto F 256).length → W'.cell? ⟨nth bl i, 41, none⟩ = some (.int .u8 (nth (upto F 256) i : Nat)) := fun i hi => by
      obtain ⟨_, cs, h1, _, h2, _⟩ := I.rab i _ _ (nth_at (by have := I.len; omega)) (nth_at hi)
      exact (cell_of (keep _ _ _ _ h1 (by decide) (by decide))).trans h2
    unfold skip
    split
    · exact hr j (by omega)
    · exact hr (j + 1) (by omega)
  · obtain ⟨a2, cap2, e, hb⟩ := I.before
    refine ⟨a2, cap2, e, fun i hi => ?_⟩
    obtain ⟨H, e2, ⟨cur, hcur⟩, hc⟩ := hb i hi
    refine ⟨H, e2, ?_⟩
    rw [cell_of (keep _ _ _ _ hcur (by decide) (by decide)), ← cell_of hcur]
    exact hc

theorem gone_true {w wr W w5 W' : World} {P E G cap k : Nat} {F rp : Nat → Bool} {vr vb : Value} {bl : List Nat} {u1 u2 o1 o2 : Int} (I : Inv w wr P F rp 256 vr vb bl) (hW : Kept [] wr W) (hE : wr.heap.size ≤ E)
    (hGt : ∃ cur, wr.heap[G]? = some (.cells cur 29 (0, 0))) (hk : k < (upto F 256).length) (g : Gone W w5 E (P + 2) G (upto F 256).length cap k (nth bl) u1 u2 o1 o2) (b : Below w5.heap.size w5 W') :
    Calls Yba.prog 5 #[.pointer (some ⟨P + 2, 0, none⟩), vb, .int .i64 (nth (upto F 256) k : Nat)] W' fun e w' => e = .returned (.bool true) ∧ Below W'.heap.size W' w' := by
  obtain ⟨_, hC, hp, hid, a2, cap2, rfl, hw⟩ := gone_facts I hW hE hGt hk g b
  have hcb := cnt_but hk (fun i j => upto_mono F 256 i j)
  refine ids_any (P + 2) ((upto F 256).length - 1) cap (upto F 256).length cap2 (some ⟨G, 0, none⟩) a2 (skip k (nth bl)) (skip k (nth (upto F 256))) (nth (upto F 256)) (nth (upto F 256) k : Nat) W' hC hp hid hw (fun i hi => (upto_mem hi).1) (upto_len F 256) (fun i hi hne => ?_) ?_
  · have hik : i ≠ k := fun e => hne (by rw [e])
    rw [hcb i (by omega)]
    unfold skip
    by_cases h : i ≤ k
    · rw [if_pos h, if_pos (by omega)]; exact ⟨by omega, rfl⟩
    · rw [if_neg h, if_neg (by omega), show i - 1 + 1 = i by omega]; exact ⟨by omega, rfl⟩
  · rw [hcb _ (Nat.le_refl _), if_neg (by omega)]

theorem gone_false {w wr W w5 W' : World} {P E G cap : Nat} {F rp : Nat → Bool} {vr vb : Value} {bl : List Nat} {u1 u2 o1 o2 : Int} (I : Inv w wr P F rp 256 vr vb bl) (hW : Kept [] wr W) (hE : wr.heap.size ≤ E)
    (hGt : ∃ cur, wr.heap[G]? = some (.cells cur 29 (0, 0))) (hk : 0 < (upto F 256).length) (g : Gone W w5 E (P + 2) G (upto F 256).length cap 0 (nth bl) u1 u2 o1 o2) (b : Below w5.heap.size w5 W') :
    Calls Yba.prog 5 #[.pointer (some ⟨P + 2, 0, none⟩), vb, .int .i64 (-1)] W' fun e w' => e = .returned (.bool false) ∧ Below W'.heap.size W' w' := by
  obtain ⟨_, hC, hp, hid, a2, cap2, rfl, hw⟩ := gone_facts I hW hE hGt hk g b
  refine ids_false (P + 2) ((upto F 256).length - 1) cap (upto F 256).length cap2 (some ⟨G, 0, none⟩) a2 (skip 0 (nth bl)) (skip 0 (nth (upto F 256))) (nth (upto F 256)) W' hC hp hid hw (fun i hi => (upto_mem hi).1) hk (upto_len F 256) (fun h => ?_)
  have := upto_mono F 256 0 1 (by omega) (by omega)
  simp [skip]; omega

theorem first_of {F : Nat → Bool} {k : Nat} (hk : k < (upto F 256).length) (h : nth (upto F 256) k = 0) : k = 0 := by
  rcases Nat.eq_zero_or_pos k with e | e
  · exact e
  · have := upto_mono F 256 0 k e hk; omega
end Go.Proofs.Ybulkadfe
