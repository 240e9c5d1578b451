import Derived.Test.YbulkacxcDoorAgrees
namespace Go.Proofs.YbulkacxcDoor
open Go.RowKit

theorem getD_take (xs : List Int) (n j : Nat) (h : j < n) : (xs.take n).getD j 0 = xs.getD j 0 := by
  rw [List.getD_eq_getElem?_getD, List.getD_eq_getElem?_getD, List.getElem?_take, if_pos h]

/-- All but the last of a built row. -/
theorem short_row {W : World} {a4 : Addr} {G : Nat} {xs : List Int} (hn : xs.length ≤ 1024) (p : ∀ j, j < xs.length → PfxAt W G a4 j (xs.getD j 0)) :
    PRow W a4 (.slice (some ⟨G, 0, none⟩) (xs.length - 1) xs.length) (xs.take (xs.length - 1)) := by
  have hl : (xs.take (xs.length - 1)).length = xs.length - 1 := by rw [List.length_take]; omega
  refine ⟨_, _, by rw [hl], by omega, by omega, (fun h => by cases h), fun j hj => ⟨_, rfl, ?_⟩⟩
  rw [hl] at hj
  rw [getD_take _ _ _ hj]
  exact p j (by omega)

theorem full_row {W : World} {a4 : Addr} {G : Nat} {xs : List Int} (hn : xs.length ≤ 1024) (p : ∀ j, j < xs.length → PfxAt W G a4 j (xs.getD j 0)) :
    PRow W a4 (.slice (some ⟨G, 0, none⟩) xs.length xs.length) xs :=
  ⟨_, _, rfl, by omega, by omega, (fun h => by cases h), fun j hj => ⟨_, rfl, p j hj⟩⟩

theorem full_row' {W : World} {a4 : Addr} {G n : Nat} {ys : List Int} (hl : ys.length = n) (hn : n ≤ 1024) (p : ∀ j, j < ys.length → PfxAt W G a4 j (ys.getD j 0)) :
    PRow W a4 (.slice (some ⟨G, 0, none⟩) n n) ys := by
  subst hl
  exact full_row hn p

theorem short_ne {xs : List Int} (h0 : ¬ xs.length = 0) : ¬ xs = xs.take (xs.length - 1) := fun h => by
  have := congrArg List.length h
  rw [List.length_take] at this
  omega

/-- One element of a row is written anew. -/
theorem change_step {w2 : World} {G k : Nat} {a4 : Addr} {zs : List Int} {Z : Int} (hk : k < zs.length) (p : ∀ j, j < zs.length → PfxAt w2 G a4 j (zs.getD j 0)) :
    ∀ j, j < (zs.set k Z).length → PfxAt ((((w2.setCell ⟨G, k * 4, none⟩ (.int .u64 0)).setCell ⟨G, k * 4 + 1, none⟩ (.int .u64 (281470681743360 + Z * 16777216))).setCell ⟨G, k * 4 + 2, none⟩ (.pointer (some a4))).setCell ⟨G, k * 4 + 3, none⟩ (.int .u8 (Z % 33 + 1))) G a4 j ((zs.set k Z).getD j 0) := by
  have st : ∀ (w : World) (p o : Nat) (v : Value), (w.cell? ⟨G, p, none⟩).isSome = true → (w.setCell ⟨G, p, none⟩ v).cell? ⟨G, o, none⟩ = if o = p then some v else w.cell? ⟨G, o, none⟩ := by
    intro w p o v hs
    by_cases e : o = p
    · subst e; rw [if_pos rfl]; exact World.cell?_setCell_same' w _ v hs
    · rw [if_neg e]; exact World.cell?_setCell_other _ _ _ _ (fun h => e (Addr.mk.inj h).2.1.symm)
  obtain ⟨t0, t1, t2, t3⟩ := p k hk
  have s0 : (w2.cell? ⟨G, k * 4, none⟩).isSome = true := by rw [t0]; rfl
  have s1 : (w2.cell? ⟨G, k * 4 + 1, none⟩).isSome = true := by rw [t1]; rfl
  have s2 : (w2.cell? ⟨G, k * 4 + 2, none⟩).isSome = true := by rw [t2]; rfl
  have s3 : (w2.cell? ⟨G, k * 4 + 3, none⟩).isSome = true := by rw [t3]; rfl
  have all : ∀ o, ((((w2.setCell ⟨G, k * 4, none⟩ (.int .u64 0)).setCell ⟨G, k * 4 + 1, none⟩ (.int .u64 (281470681743360 + Z * 16777216))).setCell ⟨G, k * 4 + 2, none⟩ (.pointer (some a4))).setCell ⟨G, k * 4 + 3, none⟩ (.int .u8 (Z % 33 + 1))).cell? ⟨G, o, none⟩ =
      if o = k * 4 + 3 then some (.int .u8 (Z % 33 + 1)) else if o = k * 4 + 2 then some (.pointer (some a4)) else if o = k * 4 + 1 then some (.int .u64 (281470681743360 + Z * 16777216)) else if o = k * 4 then some (.int .u64 0) else w2.cell? ⟨G, o, none⟩ := by
    intro o
    rw [st _ _ _ _ (by rw [st _ _ _ _ (by rw [st _ _ _ _ (by rw [st _ _ _ _ s0, if_neg (by omega)]; exact s1), if_neg (by omega), st _ _ _ _ s0, if_neg (by omega)]; exact s2), if_neg (by omega), st _ _ _ _ (by rw [st _ _ _ _ s0, if_neg (by omega)]; exact s1), if_neg (by omega), st _ _ _ _ s0, if_neg (by omega)]; exact s3),
      st _ _ _ _ (by rw [st _ _ _ _ (by rw [st _ _ _ _ s0, if_neg (by omega)]; exact s1), if_neg (by omega), st _ _ _ _ s0, if_neg (by omega)]; exact s2),
      st _ _ _ _ (by rw [st _ _ _ _ s0, if_neg (by omega)]; exact s1), st _ _ _ _ s0]
  intro j hj
  rw [List.length_set] at hj
  by_cases e : j = k
  · subst e
    rw [List.getD_eq_getElem?_getD, List.getElem?_set_self hk]
    refine ⟨?_, ?_, ?_, ?_⟩
    · rw [all, if_neg (by omega), if_neg (by omega), if_neg (by omega), if_pos rfl]
    · rw [all, if_neg (by omega), if_neg (by omega), if_pos rfl]; rfl
    · rw [all, if_neg (by omega), if_pos rfl]
    · rw [all, if_pos rfl]; rfl
  · obtain ⟨p0, p1, p2, p3⟩ := p j hj
    rw [List.getD_eq_getElem?_getD, List.getElem?_set_ne (fun h => e h.symm), ← List.getD_eq_getElem?_getD]
    refine ⟨?_, ?_, ?_, ?_⟩ <;> rw [all, if_neg (by omega), if_neg (by omega), if_neg (by omega), if_neg (by omega)] <;> assumption

theorem set_ne {xs : List Int} {J : Nat} {Z : Int} (hJ : J < xs.length) (h : xs.getD J 0 ≠ Z) : ¬ xs = xs.set J Z := fun e => h (by
  have h2 : xs.getD J 0 = (xs.set J Z).getD J 0 := congrArg (fun l => l.getD J 0) e
  rw [h2, List.getD_eq_getElem?_getD, List.getElem?_set_self hJ]; rfl)

/-- The stores go to another block than the row lies in. -/
theorem other_row {w2 : World} {G G1 k : Nat} {a4 : Addr} {Z : Int} (hne : G1 ≠ G) {j : Nat} {z : Int} (p : PfxAt w2 G1 a4 j z) :
    PfxAt ((((w2.setCell ⟨G, k * 4, none⟩ (.int .u64 0)).setCell ⟨G, k * 4 + 1, none⟩ (.int .u64 (281470681743360 + Z * 16777216))).setCell ⟨G, k * 4 + 2, none⟩ (.pointer (some a4))).setCell ⟨G, k * 4 + 3, none⟩ (.int .u8 (Z % 33 + 1))) G1 a4 j z := by
  have st : ∀ (w : World) (p o : Nat) (v : Value), (w.setCell ⟨G, p, none⟩ v).cell? ⟨G1, o, none⟩ = w.cell? ⟨G1, o, none⟩ := fun w p o v => World.cell?_of_block (Below.heap_setCell w _ v G1 hne)
  obtain ⟨p0, p1, p2, p3⟩ := p
  refine ⟨?_, ?_, ?_, ?_⟩ <;> rw [st, st, st, st] <;> assumption

set_option maxHeartbeats 1600000 in
set_option maxRecDepth 100000 in
theorem self_walk (a1 : Option Addr) (xs : List Int) (c1 : Nat) (hc1 : a1 = none → c1 = 0) (k d : Int) (hk : 0 ≤ k ∧ k ≤ 18446744073709551615) (hd : 0 ≤ d ∧ d ≤ 255) (a4 : Addr) (w : World)
    (hs1 : Src w a1 xs) (hz0 : w.cell? ⟨1, 0, none⟩ = some (.pointer none)) (hz4 : w.cell? ⟨2, 0, none⟩ = some (.pointer (some a4))) :
    Calls Ybad.prog 6 #[.slice a1 xs.length c1, .int .u64 k, .int .u8 d] w fun e w' => e = .returned (.bool true) ∧ Below w.heap.size w w' := by
  by_cases hn1 : xs.length ≤ 1024
  · have hd1 : decide ((1024 : Int) < (xs.length : Int)) = false := by simp; omega
    go_enter Ybad.func6, Ybad.ntmps6
    go_wp2_with fail
    refine (build_any a1 xs c1 hc1 hn1 a4 _ hs1 hz0 hz4).mono ?_
    rintro e w1 ⟨v1, rfl, B1, b1⟩
    go_wp2_with fail
    refine (build_any a1 xs c1 hc1 hn1 a4 _ (hs1.later b1) (cell_later b1 hz0) (cell_later b1 hz4)).mono ?_
    rintro e w2 ⟨v2, rfl, B2, b2⟩
    go_wp2_with fail
    refine (equal_any xs xs hn1 v1 v2 a4 _ (B1.prow hn1 b2) (B2.prow hn1 (Below.refl _ _))).mono ?_
    rintro e w3 ⟨rfl, m3, rfl⟩
    rw [show decide (xs = xs) = true from by simp]
    go_wp2_with fail
    refine (equal_any xs xs hn1 v2 v1 a4 _ (B2.prow hn1 (below_drewN (Below.refl _ _) _)) (B1.prow hn1 (below_drewN b2 _))).mono ?_
    rintro e w4 ⟨rfl, m4, rfl⟩
    rw [show decide (xs = xs) = true from by simp]
    have bel0 : Below w.heap.size w w2 := b1.trans (b2.mono b1.size)
    by_cases h0 : xs.length = 0
    · have hq : ((xs.length : Int) == 0) = true := by rw [h0]; rfl
      go_wp2
      go_ret
      exact ⟨rfl, below_drewN bel0 _⟩
    · have hq : ((xs.length : Int) == 0) = false := beq_eq_false_iff_ne.2 (by omega)
      rcases B1 with ⟨_, h⟩ | ⟨rfl, p1, f1, s1⟩
      · rw [h] at h0; exact absurd rfl h0
      rcases B2 with ⟨_, h⟩ | ⟨rfl, p2, f2, s2⟩
      · rw [h] at h0; exact absurd rfl h0
      have P1 : Hid (∀ j, j < xs.length → PfxAt w2 w.heap.size a4 j (xs.getD j 0)) := fun j hj => (p1 j hj).later b2
      have P2 : Hid (∀ j, j < xs.length → PfxAt w2 w1.heap.size a4 j (xs.getD j 0)) := p2
      have F2 : Hid (∀ o, w2.frozen? ⟨w1.heap.size, o, none⟩ = false) := f2
      have N0 : Hid (¬ xs.length = 0) := h0
      have z0 : w2.cell? ⟨1, 0, none⟩ = some (.pointer none) := cell_later b2 (cell_later b1 hz0)
      have z4 : w2.cell? ⟨2, 0, none⟩ = some (.pointer (some a4)) := cell_later b2 (cell_later b1 hz4)
      have hs2 := (hs1.later b1).later b2
      clear p1 p2 f1 f2
      go_wp2_with fail
      refine (equal_any xs (xs.take (xs.length - 1)) hn1 _ _ a4 (w2.drewN _) (full_row hn1 (fun j hj => (P1.out j hj).later (below_drewN (Below.refl _ _) _))) (short_row hn1 (fun j hj => (P2.out j hj).later (below_drewN (Below.refl _ _) _)))).mono ?_
      rintro e w5 ⟨rfl, m5, rfl⟩
      rw [show decide (xs = xs.take (xs.length - 1)) = false from decide_eq_false (short_ne N0.out)]
      go_wp2_with fail
      refine (equal_any (xs.take (xs.length - 1)) xs (by rw [List.length_take]; omega) _ _ a4 (w2.drewN _) (short_row hn1 (fun j hj => (P2.out j hj).later (below_drewN (Below.refl _ _) _))) (full_row hn1 (fun j hj => (P1.out j hj).later (below_drewN (Below.refl _ _) _)))).mono ?_
      rintro e w6 ⟨rfl, m6, rfl⟩
      rw [show decide (xs.take (xs.length - 1) = xs) = false from decide_eq_false (fun h => short_ne N0.out h.symm)]
      by_cases hd0 : d = 0
      · subst hd0
        go_wp2
        go_ret
        exact ⟨rfl, below_drewN bel0 _⟩
      · have hdq : (d == 0) = false := beq_eq_false_iff_ne.2 hd0
        have hlen : (0 : Int) < (xs.length : Int) := by have := N0.out; omega
        obtain ⟨J, hJ⟩ := Int.eq_ofNat_of_zero_le (Int.emod_nonneg k (show (xs.length : Int) ≠ 0 by omega))
        have hJlt : J < xs.length := by have := Int.emod_lt_of_pos k hlen; omega
        have hJi : (J : Int) < (xs.length : Int) := by omega
        obtain ⟨bs, off, rfl, hcell⟩ := hs2.cell J hJlt
        have hbyte := hs2.at J hJlt
        generalize hX : xs.getD J 0 = X at hcell hbyte
        have HX : Hid (xs.getD J 0 = X) := hX
        clear hX
        have t0 : w2.cell? ⟨w1.heap.size, J * 4, none⟩ = some (.int .u64 0) := (P2.out J hJlt).c0
        have t1 := (P2.out J hJlt).c1
        have t2 := (P2.out J hJlt).c2
        have t3 := (P2.out J hJlt).c3
        have u0 := F2.out (J * 4)
        have u1 := F2.out (J * 4 + 1)
        have u2 := F2.out (J * 4 + 2)
        have u3 := F2.out (J * 4 + 3)
        rw [HX.out] at t1 t3
        go_wp2_with fail
        refine (pfx_any ((X + d) % 256) (by omega) (by omega) a4 (w2.drewN _) z0 z4).mono ?_
        rintro e w7 ⟨rfl, b7⟩
        have b7' : Below w2.heap.size w2 w7 := (below_drewN (Below.refl _ w2) _).trans b7
        obtain ⟨hc7, hf7⟩ := bcell b7'
        have R2 : Hid (∀ j, j < xs.length → PfxAt w7 w1.heap.size a4 j (xs.getD j 0)) := fun j hj => (P2.out j hj).later b7'
        have R1 : Hid (∀ j, j < xs.length → PfxAt w7 w.heap.size a4 j (xs.getD j 0)) := fun j hj => (P1.out j hj).later b7'
        have bel7 : Below w.heap.size w w7 := bel0.trans (b7'.mono bel0.size)
        clear hz0 hz4 hs1 hs2 hcell z0 z4 P1 P2
        have hXd : xs.getD J 0 ≠ (X + d) % 256 := by rw [HX.out]; omega
        have HD : Hid (¬ xs = xs.set J ((X + d) % 256)) := set_ne hJlt hXd
        clear hXd
        go_wp2_with fail
        refine (equal_any xs (xs.set J ((X + d) % 256)) hn1 _ _ a4 _ (full_row hn1 (fun j hj => other_row (by omega) (R1.out j hj))) (full_row' (List.length_set ..) hn1 (change_step hJlt R2.out))).mono ?_
        rintro e w8 ⟨rfl, m8, rfl⟩
        rw [show decide (xs = xs.set J ((X + d) % 256)) = false from decide_eq_false HD.out]
        go_wp2_with fail
        refine (equal_any (xs.set J ((X + d) % 256)) xs (by rw [List.length_set]; exact hn1) _ _ a4 _
          (full_row' (List.length_set ..) hn1 (fun j hj => (change_step hJlt R2.out j hj).later (below_drewN (Below.refl _ _) _))) (full_row hn1 (fun j hj => (other_row (by omega) (R1.out j hj)).later (below_drewN (Below.refl _ _) _)))).mono ?_
        rintro e w9 ⟨rfl, m9, rfl⟩
        rw [show decide (xs.set J ((X + d) % 256) = xs) = false from decide_eq_false (fun h => HD.out h.symm)]
        go_wp2
        go_ret
        exact ⟨rfl, below_drewN ((((bel7.setCell (Nat.le_of_lt s1) _).setCell (Nat.le_of_lt s1) _).setCell (Nat.le_of_lt s1) _).setCell (Nat.le_of_lt s1) _) _⟩
  · go_enter Ybad.func6, Ybad.ntmps6
    go_wp2
    go_ret
    exact ⟨rfl, Below.refl _ _⟩
end Go.Proofs.YbulkacxcDoor
