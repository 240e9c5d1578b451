import Derived.Test.YbulkacxcDoorPfx
import Derived.LoopTactic
import Derived.Deep.Draws
namespace Go.Proofs.YbulkacxcDoor
open Go.RowKit

/-- Element j of a row of prefixes in block g: the prefix that zzs1445cpfx makes of z. -/
structure PfxAt (w : World) (g : Nat) (a4 : Addr) (j : Nat) (z : Int) : Prop where
  c0 : w.cell? ⟨g, j * 4, none⟩ = some (.int .u64 0)
  c1 : w.cell? ⟨g, j * 4 + 1, none⟩ = some (.int .u64 (281470681743360 + z * 16777216))
  c2 : w.cell? ⟨g, j * 4 + 2, none⟩ = some (.pointer (some a4))
  c3 : w.cell? ⟨g, j * 4 + 3, none⟩ = some (.int .u8 (z % 33 + 1))

/-- The slice value v holds the prefixes of zs. -/
def PRow (w : World) (a4 : Addr) (v : Value) (zs : List Int) : Prop :=
  ∃ a c, v = .slice a zs.length c ∧ zs.length ≤ c ∧ c ≤ 4096 ∧ (a = none → c = 0) ∧ ∀ j, j < zs.length → ∃ g, a = some ⟨g, 0, none⟩ ∧ PfxAt w g a4 j (zs.getD j 0)

set_option maxHeartbeats 800000 in
set_option maxRecDepth 100000 in
theorem equal_any (xs ys : List Int) (hn : xs.length ≤ 1024) (v1 v2 : Value) (a4 : Addr) (w : World) (h1 : PRow w a4 v1 xs) (h2 : PRow w a4 v2 ys) :
    Calls Ybad.prog 12 #[v1, v2] w fun e w' => e = .returned (.bool (decide (xs = ys))) ∧ ∃ m, w' = w.drewN m := by
  obtain ⟨a1, c1, rfl, hc1, hm1, _, H1⟩ := h1
  obtain ⟨a2, c2, rfl, hc2, hm2, _, H2⟩ := h2
  by_cases hlen : xs.length = ys.length
  · obtain ⟨n, hn1⟩ : ∃ n, n = xs.length := ⟨_, rfl⟩
    have hn2 : n = ys.length := hn1.trans hlen
    have G1 : Hid (∀ j, j < n → ∃ g, a1 = some ⟨g, 0, none⟩ ∧ PfxAt w g a4 j (xs.getD j 0)) := by rw [hn1]; exact H1
    have G2 : Hid (∀ j, j < n → ∃ g, a2 = some ⟨g, 0, none⟩ ∧ PfxAt w g a4 j (ys.getD j 0)) := by rw [hn2]; exact H2
    rw [← hn1] at hn hc1 ⊢
    rw [← hn2] at hc2 ⊢
    have D : Hid ((∀ j, j < n → xs.getD j 0 = ys.getD j 0) → xs = ys) := fun h => List.ext_getElem hlen (fun j ha hb => by
      have := h j (by omega)
      simpa [List.getD_eq_getElem?_getD, List.getElem?_eq_getElem ha, List.getElem?_eq_getElem hb] using this)
    have D2 : Hid (∀ j, j < n → ¬ xs.getD j 0 = ys.getD j 0 → ¬ xs = ys) := fun j _ h e => h (by rw [e])
    generalize hE : decide (xs = ys) = E at *
    have HE : Hid (decide (xs = ys) = E) := hE
    have hne : ((n : Int) != (n : Int)) = false := by simp
    clear H1 H2 hn1 hn2 hlen hE
    go_enter Ybad.func12, Ybad.ntmps12
    go_wp2
    go_loopw [13] (fun i wr => ∃ k : Nat, k ≤ n ∧ i = .int .i64 k ∧ Hid (∀ j, j < k → xs.getD j 0 = ys.getD j 0) ∧ ∃ m, wr = w.drewN m) (fun i _ => n - (intOf i).toNat)
    case atStart => exact ⟨0, Nat.zero_le _, rfl, fun j hj => absurd hj (Nat.not_lt_zero _), 0, rfl⟩
    case round =>
      obtain ⟨k, hk, rfl, hsame, m, rfl⟩ := hrel
      by_cases hlt : k < n
      · obtain ⟨g1, rfl, p1⟩ := G1.out k hlt
        obtain ⟨g2, rfl, p2⟩ := G2.out k hlt
        generalize hX : xs.getD k 0 = X at p1
        generalize hY : ys.getD k 0 = Y at p2
        have HX : Hid (xs.getD k 0 = X) := hX
        have HY : Hid (ys.getD k 0 = Y) := hY
        clear hX hY
        obtain ⟨p10, p11, p12, p13⟩ := p1
        obtain ⟨p20, p21, p22, p23⟩ := p2
        have q := neq46 a4
        by_cases hXY : X = Y
        · subst hXY
          have hki : (k : Int) < (n : Int) := by omega
          go_wp2
          go_quiet (fail)
          go_wp2
          go_roundw
          case rel => exact ⟨k + 1, by omega, by go_num, fun j hj => by
            by_cases e : j = k
            · rw [e]; exact HX.out.trans HY.out.symm
            · exact hsame.out j (by omega), _, rfl⟩
          case measure => simp [intOf]; omega
        · have q' : ∀ w, (binOp .neq 46 (.agg #[.int .u64 0, .int .u64 (281470681743360 + X * 16777216), .pointer (some a4), .int .u8 (X % 33 + 1)]) (.agg #[.int .u64 0, .int .u64 (281470681743360 + Y * 16777216), .pointer (some a4), .int .u8 (Y % 33 + 1)])).run Ybad.prog w = .ok (.bool true) w := fun w => by
            rw [q w]
            have e : (281470681743360 + X * 16777216 == 281470681743360 + Y * 16777216) = false := by simp; omega
            rw [e]; rfl
          have hki : (k : Int) < (n : Int) := by omega
          clear q
          go_wp2
          go_quiet (fail)
          go_wp2
          go_ret
          refine ⟨?_, _, World.drewN_drewN _ _ _⟩
          rw [← HE.out]
          have := D2.out k hlt (by rw [HX.out, HY.out]; exact hXY)
          simp [this]
      · go_wp2
        go_ret
        refine ⟨?_, m, rfl⟩
        have : k = n := by omega
        subst this
        rw [← HE.out]
        simp [D.out hsame.out]
  · have hne : ((xs.length : Int) != (ys.length : Int)) = true := by simp; omega
    go_enter Ybad.func12, Ybad.ntmps12
    go_wp2
    go_ret
    refine ⟨?_, 0, rfl⟩
    have : ¬ xs = ys := fun h => hlen (by rw [h])
    simp [this]
end Go.Proofs.YbulkacxcDoor
