import Derived.Test.YbulkadfeRel2
namespace Go.Proofs.Ybulkadfe
open Go.RowKit

/-- How many of the first i are not s. -/
def cnt (ws : Nat → Nat) (s : Int) : Nat → Nat
  | 0 => 0
  | i + 1 => cnt ws s i + (if (ws i : Int) = s then 0 else 1)

theorem cnt_le (ws : Nat → Nat) (s : Int) : ∀ i, cnt ws s i ≤ i
  | 0 => Nat.le_refl _
  | i + 1 => by have := cnt_le ws s i; unfold cnt; split <;> omega

theorem cell_lt {w : World} {p : Addr} {v : Value} (h : w.cell? p = some v) : p.block < w.heap.size := by
  by_cases e : p.block < w.heap.size
  · exact e
  · exfalso
    have : w.heap[p.block]? = none := Array.getElem?_eq_none (by omega)
    simp [World.cell?, this] at h

theorem later {w W : World} (b : Below w.heap.size w W) {p : Addr} {v : Value} (h : w.cell? p = some v) : W.cell? p = some v := (b.cell (cell_lt h)).trans h

theorem ids_nil (v : Value) (s : Int) (w : World) : Calls Yba.prog 5 #[.pointer none, v, .int .i64 s] w fun e w' => e = .returned (.bool true) ∧ w' = w := by
  go_enter Yba.func5, Yba.ntmps5
  go_wp2
  go_ret
  exact ⟨rfl, rfl⟩

set_option maxHeartbeats 1600000 in
set_option maxRecDepth 100000 in
theorem ids_any (C n cap m cap2 : Nat) (a a2 : Option Addr) (bs ids ws : Nat → Nat) (s : Int) (w : World) (hC : w.cell? ⟨C, 1, none⟩ = some (.slice a n cap))
    (hp : ∀ j, j < n → ∃ G, a = some ⟨G, 0, none⟩ ∧ w.cell? ⟨G, j, none⟩ = some (.pointer (some ⟨bs j, 0, none⟩))) (hid : ∀ j, j < n → w.cell? ⟨bs j, 41, none⟩ = some (.int .u8 (ids j)))
    (hw : ∀ i, i < m → ∃ H, a2 = some ⟨H, 0, none⟩ ∧ w.cell? ⟨H, i, none⟩ = some (.int .u8 (ws i))) (hwl : ∀ i, i < m → ws i < 256) (hm : m ≤ 256)
    (hmatch : ∀ i, i < m → (ws i : Int) ≠ s → cnt ws s i < n ∧ ids (cnt ws s i) = ws i) (hcnt : cnt ws s m = n) :
    Calls Yba.prog 5 #[.pointer (some ⟨C, 0, none⟩), .slice a2 m cap2, .int .i64 s] w fun e w' => e = .returned (.bool true) ∧ Below w.heap.size w w' := by
  have H1 : Hid _ := hp
  have H2 : Hid _ := hid
  have H3 : Hid _ := hw
  have H4 : Hid _ := hwl
  have H5 : Hid _ := hmatch
  have H6 : Hid _ := hcnt
  have HC : Hid _ := hC
  clear hp hid hw hwl hmatch hcnt hC
  go_enter Yba.func5, Yba.ntmps5
  go_wp2
  go_loopw [7, 8] (fun j i wr => ∃ k : Nat, k ≤ m ∧ i = .int .i64 k ∧ j = .int .i64 (cnt ws s k : Nat) ∧ Hid (Below w.heap.size w wr)) (fun _ i _ => m - (intOf i).toNat)
  case atStart => exact ⟨0, Nat.zero_le _, rfl, rfl, Below.refl _ _⟩
  case round =>
    obtain ⟨k, hk, rfl, rfl, hb⟩ := hrel
    have hC := later hb.out HC.out
    have hcl := cnt_le ws s k
    by_cases hlt : k < m
    · obtain ⟨H, rfl, hw⟩ := H3.out k hlt
      replace hw := later hb.out hw
      have hw2 := H4.out k hlt
      have hw3 : (ws k : Int) < 256 := by omega
      by_cases he : (ws k : Int) = s
      · have hd : ((ws k : Int) == s) = true := by simp [he]
        have E : Hid (cnt ws s (k + 1) = cnt ws s k) := by show _ = _; simp [cnt, he]
        clear he
        go_wp2
        go_roundw
        case rel => exact ⟨k + 1, by omega, by go_num, by rw [E.out], hb⟩
        case measure => simp [intOf]; omega
      · have hd : ((ws k : Int) == s) = false := by simp [he]
        have E : Hid (cnt ws s (k + 1) = cnt ws s k + 1) := by show _ = _; simp [cnt, he]
        obtain ⟨m1, m2⟩ := H5.out k hlt he
        obtain ⟨G, rfl, hp⟩ := H1.out _ m1
        replace hp := later hb.out hp
        have hid := later hb.out (H2.out _ m1)
        rw [m2] at hid
        clear he m2
        generalize cnt ws s k = J at hcl m1 hp hid E ⊢
        have hJ : ¬ (n : Int) ≤ (J : Int) := by omega
        have hJ2 : decide ((n : Int) ≤ (J : Int)) = false := decide_eq_false hJ
        have hJ3 : (J : Int) < (n : Int) := by omega
        have hJ4 : decide (n ≤ J) = false := by simp; omega
        go_wp2
        go_quiet (fail)
        go_wp2
        go_roundw
        case rel => exact ⟨k + 1, by omega, by go_num, by rw [E.out]; go_num, hb.out.trans ⟨rfl, rfl, rfl, Nat.le_refl _, fun _ _ => rfl⟩⟩
        case measure => simp [intOf]; omega
    · have hkm : k = m := by omega
      subst hkm
      have E := H6.out
      generalize cnt ws s k = J at hcl E ⊢
      subst E
      go_wp2
      go_ret
      exact ⟨rfl, hb.out⟩
end Go.Proofs.Ybulkadfe
