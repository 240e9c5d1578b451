import Derived.Test.YbulkacxcDoorBRow
namespace Go.Proofs.YbulkacxcDoor
open Go.RowKit

theorem set_set (zs : List Int) (p q : Int) : ((((zs.set 6 0).set 7 0).set 6 p).set 7 q) = (zs.set 6 p).set 7 q := by
  rw [List.set_comm 0 p (show (7 : Nat) ≠ 6 by decide), List.set_set, List.set_set]

theorem addWordsL (a : Option Addr) (ys : List Int) (n c : Nat) (hl : ys.length = n) (s : Int) (hn : n ≤ 4096) (hc : n ≤ c) (hc2 : c ≤ 4096) (h0 : 0 ≤ s) (h1 : s ≤ 1000000000000) (w : World) (hs : Src w a ys) :
    Calls Ybad.prog 17 #[.int .u64 s, .slice a n c] w fun e w' => e = .returned (.int .u64 (s + wsTo ys n)) ∧ Below w.heap.size w w' := by
  subst hl
  exact addWords_any a ys c s hn hc hc2 h0 h1 w hs

set_option maxHeartbeats 1600000 in
set_option maxRecDepth 100000 in
theorem setUDP (G : Nat) (zs S D : List Int) (v1 v2 : Value) (a4 a6 : Addr) (hn8 : 8 ≤ zs.length) (hn : zs.length ≤ 4096) (w : World) (hs : Src w (some ⟨G, 0, none⟩) zs) (hfz : ∀ o, w.frozen? ⟨G, o, none⟩ = false)
    (hz : Zs w a4 a6) (hG3 : 3 < G) (hG4 : a4.block ≠ G) (hG6 : a6.block ≠ G) (h1 : IsAddr a4 a6 v1 S) (h2 : IsAddr a4 a6 v2 D) :
    Calls Ybad.prog 10 #[.slice (some ⟨G, 0, none⟩) zs.length zs.length, v1, v2] w fun e w' => e = .returned (.tuple #[]) ∧
      Src w' (some ⟨G, 0, none⟩) ((zs.set 6 (sent (wsTo S S.length + wsTo D D.length + 17 + zs.length + wsTo ((zs.set 6 0).set 7 0) zs.length) / 256)).set 7 (sent (wsTo S S.length + wsTo D D.length + 17 + zs.length + wsTo ((zs.set 6 0).set 7 0) zs.length) % 256)) ∧
      w.grownBy w' (some G) ∧ ∀ o, w'.frozen? ⟨G, o, none⟩ = false := by
  have K1 := fun W hW => asSlice_any h1 W hW
  have K2 := fun W hW => asSlice_any h2 W hW
  obtain ⟨hi1, lo1, p1, rfl⟩ := h1.lit
  obtain ⟨hi2, lo2, p2, rfl⟩ := h2.lit
  have hGw : G < w.heap.size := by obtain ⟨b, off, e, h⟩ := hs.cell 0 (by omega); simp only [Option.some.injEq, Addr.mk.injEq, and_true] at e; obtain ⟨rfl, rfl⟩ := e; exact World.block_lt_of_cell? _ _ h
  have Q1 : Hid (∀ W (_ : Zs W a4 a6), _) := K1
  have Q2 : Hid (∀ W (_ : Zs W a4 a6), _) := K2
  have hn6 : ¬ zs.length = 6 := by omega
  have h6i : (6 : Int) ≤ (zs.length : Int) := by omega
  have HF : Hid (∀ o, w.frozen? ⟨G, o, none⟩ = false) := hfz
  have bW : Below w.heap.size w ((w.alloc (.cells #[.int .u64 hi1, .int .u64 lo1, .pointer (some p1)] 37)).alloc (.cells #[.int .u64 hi2, .int .u64 lo2, .pointer (some p2)] 37)).drew := (((Below.refl _ w).alloc (Nat.le_refl _) _).alloc (by simp) _).drew
  have P0 := put_row G (zs.length - 6) (zs.length - 6) zs 0 (by omega) (by omega) (by omega) ((w.alloc (.cells #[.int .u64 hi1, .int .u64 lo1, .pointer (some p1)] 37)).alloc (.cells #[.int .u64 hi2, .int .u64 lo2, .pointer (some p2)] 37)).drew (hs.later bW) hn8 (fun o => by rw [bW.frozen (p := ⟨G, o, none⟩) hGw]; exact HF.out o)
  have Z0 := hz.below bW (Nat.le_refl _)
  have e0 : ∀ j, ((w.alloc (.cells #[.int .u64 hi1, .int .u64 lo1, .pointer (some p1)] 37)).alloc (.cells #[.int .u64 hi2, .int .u64 lo2, .pointer (some p2)] 37)).drew.cell? ⟨w.heap.size, j, none⟩ = #[Value.int .u64 hi1, .int .u64 lo1, .pointer (some p1)][j]? := fun j => by
    show ((w.alloc (.cells #[.int .u64 hi1, .int .u64 lo1, .pointer (some p1)] 37)).alloc (.cells #[.int .u64 hi2, .int .u64 lo2, .pointer (some p2)] 37)).cell? _ = _
    rw [calt' (by simp), cnew _ _ _ _ _ rfl]
  have e1 : ∀ j, ((w.alloc (.cells #[.int .u64 hi1, .int .u64 lo1, .pointer (some p1)] 37)).alloc (.cells #[.int .u64 hi2, .int .u64 lo2, .pointer (some p2)] 37)).drew.cell? ⟨w.heap.size + 1, j, none⟩ = #[Value.int .u64 hi2, .int .u64 lo2, .pointer (some p2)][j]? := fun j => by
    show ((w.alloc (.cells #[.int .u64 hi1, .int .u64 lo1, .pointer (some p1)] 37)).alloc (.cells #[.int .u64 hi2, .int .u64 lo2, .pointer (some p2)] 37)).cell? _ = _
    rw [cnew _ _ _ _ _ (by simp)]
  have hsz0 : ((w.alloc (.cells #[.int .u64 hi1, .int .u64 lo1, .pointer (some p1)] 37)).alloc (.cells #[.int .u64 hi2, .int .u64 lo2, .pointer (some p2)] 37)).drew.heap.size = w.heap.size + 1 + 1 := by show ((w.alloc (.cells #[.int .u64 hi1, .int .u64 lo1, .pointer (some p1)] 37)).alloc (.cells #[.int .u64 hi2, .int .u64 lo2, .pointer (some p2)] 37)).heap.size = _; simp
  rw [Int.zero_ediv, Int.zero_emod] at P0
  clear K1 K2 h1 h2 hfz hs
  go_enter Ybad.func10, Ybad.ntmps10
  go_wp2
  go_region_with (go_at_call 16; refine P0.mono ?_; rintro e w1 ⟨rfl, hs1, hg1, hf1⟩)
  have hG1 : G ≠ w.heap.size := by omega
  have hG2 : G ≠ w.heap.size + 1 := by omega
  have a0 : w1.cell? ⟨w.heap.size, 0, none⟩ = some (.int .u64 hi1) := hg1.cell (e0 0) (by simp; omega)
  have a1 : w1.cell? ⟨w.heap.size, 1, none⟩ = some (.int .u64 lo1) := hg1.cell (e0 1) (by simp; omega)
  have a2 : w1.cell? ⟨w.heap.size, 2, none⟩ = some (.pointer (some p1)) := hg1.cell (e0 2) (by simp; omega)
  have a3 : w1.cell? ⟨w.heap.size + 1, 0, none⟩ = some (.int .u64 hi2) := hg1.cell (e1 0) (by simp; omega)
  have a4' : w1.cell? ⟨w.heap.size + 1, 1, none⟩ = some (.int .u64 lo2) := hg1.cell (e1 1) (by simp; omega)
  have a5 : w1.cell? ⟨w.heap.size + 1, 2, none⟩ = some (.pointer (some p2)) := hg1.cell (e1 2) (by simp; omega)
  have Z1 := Z0.grown hg1 hG3 hG4 hG6
  have G1 : w.grownBy w1 (some G) := grown_trans (grown_below bW) hg1
  have hz1 := hg1.size
  rw [hsz0] at hz1
  have F1 : Hid (∀ o, w1.frozen? ⟨G, o, none⟩ = false) := hf1
  clear P0 e0 e1 hg1 hsz0 bW Z0 hf1 hz
  go_wp2_with fail
  refine (Q1.out _ Z1).mono ?_
  rintro e w2 ⟨g1, rfl, hg1, s1, l1, b1⟩
  go_wp2_with fail
  refine (addWords_any _ S _ 0 (by omega) (Nat.le_refl _) (by omega) (by omega) (by omega) _ s1).mono ?_
  rintro e w3 ⟨rfl, b2⟩
  have z1 := wsTo_bd S s1.byte S.length
  generalize hVS : wsTo S S.length = VS at z1 ⊢
  have KS : Hid (wsTo S S.length = VS) := hVS
  clear hVS
  rw [Int.zero_add]
  have B13 : Below w1.heap.size w1 w3 := b1.trans (b2.mono b1.size)
  have c3 := cell_later B13 a3
  have c4 := cell_later B13 a4'
  have c5 := cell_later B13 a5
  have Z3 := Z1.below B13 (Nat.le_refl _)
  have s3 := hs1.later B13
  have hz3 := B13.size
  clear a0 a1 a2 a3 a4' a5 s1 b1 b2 Z1 hs1
  go_wp2_with fail
  refine (Q2.out _ Z3).mono ?_
  rintro e w4 ⟨g2, rfl, hg2, s4, l2, b3⟩
  go_wp2_with fail
  refine (addWords_any _ D _ VS (by omega) (Nat.le_refl _) (by omega) (by omega) (by omega) _ s4).mono ?_
  rintro e w5 ⟨rfl, b4⟩
  have z2 := wsTo_bd D s4.byte D.length
  generalize hVD : wsTo D D.length = VD at z2 ⊢
  have KD : Hid (wsTo D D.length = VD) := hVD
  clear hVD
  have B35 : Below w3.heap.size w3 w5 := b3.trans (b4.mono b3.size)
  have s5 := s3.later B35
  have hz5 := B35.size
  have hl0 : ((zs.set 6 0).set 7 0).length = zs.length := by simp
  clear c3 c4 c5 s3 s4 b3 b4 Z3
  go_wp2_with fail
  refine (addWordsL _ _ _ _ hl0 (VS + VD + (17 + (zs.length : Int))) hn (Nat.le_refl _) hn (by omega) (by omega) _ s5).mono ?_
  rintro e w6 ⟨rfl, b6⟩
  have z3 := wsTo_bd _ s5.byte zs.length
  generalize hV : wsTo ((zs.set 6 0).set 7 0) zs.length = V at z3 ⊢
  have KV : Hid (wsTo ((zs.set 6 0).set 7 0) zs.length = V) := hV
  clear hV
  go_wp2_with fail
  refine (checksum_any (VS + VD + (17 + (zs.length : Int)) + V) (by omega) (by omega) _).mono ?_
  rintro e w6' ⟨rfl, rfl⟩
  have zf := fold16_le (VS + VD + (17 + (zs.length : Int)) + V)
  generalize hF : fold16 (VS + VD + (17 + (zs.length : Int)) + V) = F at zf ⊢
  have KF : Hid (fold16 (VS + VD + (17 + (zs.length : Int)) + V) = F) := hF
  clear hF
  have s6 := s5.later b6
  have B16 : Below w1.heap.size w1 w6' := B13.trans ((B35.mono hz3).trans (b6.mono (Nat.le_trans hz3 hz5)))
  have G6 : w.grownBy w6' (some G) := grown_trans G1 (grown_below B16)
  have hz6 := b6.size
  have F6 : Hid (∀ o, w6'.frozen? ⟨G, o, none⟩ = false) := fun o => by rw [B16.frozen (p := ⟨G, o, none⟩) (by show G < _; omega)]; exact F1.out o
  clear s5 B13 B35 b6 B16 F1 Q1 Q2
  by_cases hc0 : 65535 - F = 0
  · have hq : (65535 - F == 0) = true := by simp [hc0]
    have HC : Hid (65535 - F = 0) := hc0
    clear hc0
    have P7 := put_row G (zs.length - 6) (zs.length - 6) _ 65535 (by omega) (by omega) (by omega) w6'.drew (s6.later (Below.refl _ w6').drew) (by rw [hl0]; exact hn8) F6.out
    go_wp2
    go_region_with (go_at_call 16; refine P7.mono ?_; rintro e w7 ⟨rfl, hs7, hg7, hf7⟩)
    go_wp2
    go_end0
    have HT : sent (wsTo S S.length + wsTo D D.length + 17 + zs.length + wsTo ((zs.set 6 0).set 7 0) zs.length) = 65535 := by
      rw [KS.out, KD.out, KV.out, show VS + VD + 17 + (zs.length : Int) + V = VS + VD + (17 + (zs.length : Int)) + V from by omega]
      unfold sent
      rw [KF.out]
      rw [if_pos HC.out]
    rw [HT]
    refine ⟨rfl, ?_, grown_trans G6 (grown_trans (grown_below (Below.refl _ w6').drew) hg7), hf7⟩
    rw [set_set] at hs7
    exact hs7
  · have hq : (65535 - F == 0) = false := beq_eq_false_iff_ne.2 hc0
    have HC : Hid (¬ 65535 - F = 0) := hc0
    clear hc0
    have P7 := put_row G (zs.length - 6) (zs.length - 6) _ (65535 - F) (by omega) (by omega) (by omega) w6'.drew (s6.later (Below.refl _ w6').drew) (by rw [hl0]; exact hn8) F6.out
    go_wp2
    go_region_with (go_at_call 16; refine P7.mono ?_; rintro e w7 ⟨rfl, hs7, hg7, hf7⟩)
    go_wp2
    go_end0
    have HT : sent (wsTo S S.length + wsTo D D.length + 17 + zs.length + wsTo ((zs.set 6 0).set 7 0) zs.length) = (65535 - F) := by
      rw [KS.out, KD.out, KV.out, show VS + VD + 17 + (zs.length : Int) + V = VS + VD + (17 + (zs.length : Int)) + V from by omega]
      unfold sent
      rw [KF.out]
      rw [if_neg HC.out]
    rw [HT]
    refine ⟨rfl, ?_, grown_trans G6 (grown_trans (grown_below (Below.refl _ w6').drew) hg7), hf7⟩
    rw [set_set] at hs7
    exact hs7
end Go.Proofs.YbulkacxcDoor
