import Derived.Test.YbulkacxcDoorBuild
namespace Go.Proofs.YbulkacxcDoor
open Go.RowKit

theorem below_drewN {B : Nat} {a w : World} (h : Below B a w) (n : Nat) : Below B a (w.drewN n) := h.trans ⟨rfl, rfl, rfl, Nat.le_refl _, fun _ _ => rfl⟩

set_option maxHeartbeats 1600000 in
set_option maxRecDepth 100000 in
theorem agrees_walk (a1 a2 : Option Addr) (xs ys : List Int) (c1 c2 : Nat) (hc1 : a1 = none → c1 = 0) (hc2 : a2 = none → c2 = 0) (a4 : Addr) (w : World)
    (hs1 : Src w a1 xs) (hs2 : Src w a2 ys) (hz0 : w.cell? ⟨1, 0, none⟩ = some (.pointer none)) (hz4 : w.cell? ⟨2, 0, none⟩ = some (.pointer (some a4))) :
    Calls Ybad.prog 5 #[.slice a1 xs.length c1, .slice a2 ys.length c2] w fun e w' => e = .returned (.bool true) ∧ Below w.heap.size w w' := by
  by_cases hn1 : xs.length ≤ 1024
  · by_cases hn2 : ys.length ≤ 1024
    · by_cases hl : xs.length = ys.length
      · have hq : ((xs.length : Int) == (ys.length : Int)) = true := by simp [hl]
        have HL : Hid (xs.length = ys.length) := hl
        have hd1 : decide ((1024 : Int) < (xs.length : Int)) = false := by simp; omega
        have hd2 : decide ((1024 : Int) < (ys.length : Int)) = false := by simp; omega
        clear hl
        go_enter Ybad.func5, Ybad.ntmps5
        go_wp2
        go_loopw [5, 6] (fun t i wr => ∃ k : Nat, k ≤ xs.length ∧ t = .bool true ∧ i = .int .i64 k ∧ Hid (∀ j, j < k → xs.getD j 0 = ys.getD j 0) ∧ ∃ m, wr = w.drewN m) (fun _ i _ => xs.length - (intOf i).toNat)
        case atStart => exact ⟨0, Nat.zero_le _, rfl, rfl, fun j hj => absurd hj (Nat.not_lt_zero _), 0, rfl⟩
        case round =>
          obtain ⟨k, hk, rfl, rfl, hsame, m, rfl⟩ := hrel
          by_cases hlt : k < xs.length
          · obtain ⟨g1, o1, rfl, p1⟩ := hs1.cell k hlt
            obtain ⟨g2, o2, rfl, p2⟩ := hs2.cell k (by rw [← HL.out]; exact hlt)
            generalize hX : xs.getD k 0 = X at p1
            generalize hY : ys.getD k 0 = Y at p2
            have HX : Hid (xs.getD k 0 = X) := hX
            have HY : Hid (ys.getD k 0 = Y) := hY
            clear hX hY
            have hki : (k : Int) < (xs.length : Int) := by omega
            have hki2 : (k : Int) < (ys.length : Int) := by have := HL.out; omega
            by_cases hXY : X = Y
            · subst hXY
              go_wp2
              go_quiet (fail)
              go_wp2
              go_roundw
              case rel => exact ⟨k + 1, by omega, rfl, by go_num, fun j hj => by
                by_cases e : j = k
                · rw [e]; exact HX.out.trans HY.out.symm
                · exact hsame.out j (by omega), _, rfl⟩
              case measure => simp [intOf]; omega
            · have HW : Hid (decide (xs = ys) = false) := by
                have : ¬ xs = ys := fun e => hXY (by rw [← HX.out, ← HY.out, e])
                show decide (xs = ys) = false
                simp [this]
              have hne : (X != Y) = true := by simp [hXY]
              clear hXY
              go_wp2
              go_quiet (fail)
              go_wp2_with fail
              refine (build_any (some ⟨g1, o1, none⟩) xs c1 hc1 hn1 a4 _ (hs1.later (below_drewN (Below.refl _ w) _)) hz0 hz4).mono ?_
              rintro e w1 ⟨v1, rfl, B1, b1⟩
              go_wp2_with fail
              refine (build_any (some ⟨g2, o2, none⟩) ys c2 hc2 hn2 a4 _ ((hs2.later (below_drewN (Below.refl _ w) _)).later b1) (cell_later b1 hz0) (cell_later b1 hz4)).mono ?_
              rintro e w2 ⟨v2, rfl, B2, b2⟩
              go_wp2_with fail
              refine (equal_any xs ys hn1 v1 v2 a4 _ (B1.prow hn1 b2) (B2.prow hn2 (Below.refl _ _))).mono ?_
              rintro e w3 ⟨rfl, m3, rfl⟩
              rw [HW.out]
              go_wp2
              go_ret
              exact ⟨rfl, below_drewN ((below_drewN (Below.refl _ w) _).trans ((b1.mono (Nat.le_refl _)).trans (b2.mono b1.size))) m3⟩
          · have HW : Hid (decide (xs = ys) = true) := by
              have : xs = ys := List.ext_getElem HL.out (fun j ha hb => by
                have := hsame.out j (by omega)
                simpa [List.getD_eq_getElem?_getD, List.getElem?_eq_getElem ha, List.getElem?_eq_getElem hb] using this)
              show decide (xs = ys) = true
              simp [this]
            go_wp2_with fail
            refine (build_any a1 xs c1 hc1 hn1 a4 _ (hs1.later (below_drewN (Below.refl _ w) m)) hz0 hz4).mono ?_
            rintro e w1 ⟨v1, rfl, B1, b1⟩
            go_wp2_with fail
            refine (build_any a2 ys c2 hc2 hn2 a4 _ ((hs2.later (below_drewN (Below.refl _ w) m)).later b1) (cell_later b1 hz0) (cell_later b1 hz4)).mono ?_
            rintro e w2 ⟨v2, rfl, B2, b2⟩
            go_wp2_with fail
            refine (equal_any xs ys hn1 v1 v2 a4 _ (B1.prow hn1 b2) (B2.prow hn2 (Below.refl _ _))).mono ?_
            rintro e w3 ⟨rfl, m3, rfl⟩
            rw [HW.out]
            go_wp2
            go_ret
            exact ⟨rfl, below_drewN ((below_drewN (Below.refl _ w) m).trans ((b1.mono (Nat.le_refl _)).trans (b2.mono b1.size))) m3⟩
      · have hq : ((xs.length : Int) == (ys.length : Int)) = false := by simp; omega
        have HW : Hid (decide (xs = ys) = false) := by
          show decide (xs = ys) = false
          simp; intro h; exact hl (by rw [h])
        clear hl
        go_enter Ybad.func5, Ybad.ntmps5
        go_wp2_with fail
        refine (build_any a1 xs c1 hc1 hn1 a4 _ hs1 hz0 hz4).mono ?_
        rintro e w1 ⟨v1, rfl, B1, b1⟩
        go_wp2_with fail
        refine (build_any a2 ys c2 hc2 hn2 a4 _ (hs2.later b1) (cell_later b1 hz0) (cell_later b1 hz4)).mono ?_
        rintro e w2 ⟨v2, rfl, B2, b2⟩
        go_wp2_with fail
        refine (equal_any xs ys hn1 v1 v2 a4 _ (B1.prow hn1 b2) (B2.prow hn2 (Below.refl _ _))).mono ?_
        rintro e w3 ⟨rfl, m3, rfl⟩
        rw [HW.out]
        go_wp2
        go_ret
        exact ⟨rfl, below_drewN ((Below.refl _ w).trans ((b1.mono (Nat.le_refl _)).trans (b2.mono b1.size))) m3⟩
    · go_enter Ybad.func5, Ybad.ntmps5
      go_wp2
      go_ret
      exact ⟨rfl, Below.refl _ _⟩
  · go_enter Ybad.func5, Ybad.ntmps5
    go_wp2
    go_ret
    exact ⟨rfl, Below.refl _ _⟩
end Go.Proofs.YbulkacxcDoor
