/- THE PLAIN MATHEMATICS OF THE INTERNET CHECKSUM. No Go in it. -/
namespace Go.Proofs.YbulkacxcDoor

/-- The ones' complement fold to 16 bits. -/
def fold16 (s : Int) : Int := if s = 0 then 0 else (s - 1) % 65535 + 1

theorem fold16_le (s : Int) : 0 ≤ fold16 s ∧ fold16 s ≤ 65535 := by
  unfold fold16; split <;> omega

theorem fold16_small (s : Int) (h0 : 0 ≤ s) (h1 : s ≤ 65535) : fold16 s = s := by
  unfold fold16; split <;> omega

theorem fold16_step (s : Int) (h : 65535 < s) : fold16 (s / 65536 + s % 65536) = fold16 s := by
  unfold fold16
  rw [if_neg (by omega), if_neg (by omega)]
  omega

theorem fold16_pos (s : Int) (h : 0 < s) : 0 < fold16 s := by
  unfold fold16; rw [if_neg (by omega)]; omega

/-- What is sent: the complement of the fold, 0xffff in 0's place. -/
def sent (s : Int) : Int := if 65535 - fold16 s = 0 then 65535 else 65535 - fold16 s

theorem sent_bd (s : Int) (h : 0 < s) : 0 < sent s ∧ sent s ≤ 65535 := by
  have h1 := fold16_le s
  have h2 := fold16_pos s h
  unfold sent; split <;> omega

theorem fold16_sent (s : Int) (h : 0 < s) : fold16 (s + sent s) = 65535 := by
  have hf : fold16 s = (s - 1) % 65535 + 1 := by unfold fold16; rw [if_neg (by omega)]
  have hs : sent s = if 65535 - ((s - 1) % 65535 + 1) = 0 then 65535 else 65535 - ((s - 1) % 65535 + 1) := by unfold sent; rw [hf]
  rw [hs]
  by_cases hz : 65535 - ((s - 1) % 65535 + 1) = 0
  · rw [if_pos hz]; unfold fold16; rw [if_neg (by omega)]; omega
  · rw [if_neg hz]; unfold fold16; rw [if_neg (by omega)]; omega

/-- The sum of the 16-bit words of the first k bytes, the last byte padded where k is odd. -/
def wsTo (zs : List Int) : Nat → Int
  | 0 => 0
  | k + 1 => wsTo zs k + (if k % 2 = 0 then zs.getD k 0 * 256 else zs.getD k 0)

theorem wsTo_even (zs : List Int) (k : Nat) (h : k % 2 = 0) : wsTo zs (k + 1) = wsTo zs k + zs.getD k 0 * 256 := by
  simp [wsTo, h]
theorem wsTo_odd (zs : List Int) (k : Nat) (h : ¬ k % 2 = 0) : wsTo zs (k + 1) = wsTo zs k + zs.getD k 0 := by
  simp [wsTo, h]
theorem wsTo_two (zs : List Int) (k : Nat) (h : k % 2 = 0) : wsTo zs (k + 2) = wsTo zs k + (zs.getD k 0 * 256 + zs.getD (k + 1) 0) := by
  rw [show k + 2 = (k + 1) + 1 from rfl, wsTo_odd zs (k + 1) (by omega), wsTo_even zs k h]; omega

theorem wsTo_bd (zs : List Int) (hb : ∀ z ∈ zs, 0 ≤ z ∧ z ≤ 255) : ∀ k : Nat, 0 ≤ wsTo zs k ∧ wsTo zs k ≤ 65280 * (k : Int)
  | 0 => by simp [wsTo]
  | k + 1 => by
    have ih := wsTo_bd zs hb k
    have hz : 0 ≤ zs.getD k 0 ∧ zs.getD k 0 ≤ 255 := by
      rw [List.getD_eq_getElem?_getD]
      cases h : zs[k]? with
      | none => simp
      | some z => exact hb z (List.mem_of_getElem? h)
    simp only [wsTo]
    split <;> omega

/-- The words at bytes 6 and 7 stand apart in the sum. -/
theorem wsTo_set (zs : List Int) (p q : Int) (hl : 8 ≤ zs.length) : ∀ k : Nat, 8 ≤ k →
    wsTo ((zs.set 6 p).set 7 q) k = wsTo ((zs.set 6 0).set 7 0) k + (p * 256 + q)
  | 0, h => by omega
  | k + 1, h => by
    by_cases h8 : k + 1 = 8
    · obtain rfl : k = 7 := by omega
      have g : ∀ (a b : Int) (j : Nat), j < 6 → ((zs.set 6 a).set 7 b).getD j 0 = zs.getD j 0 := fun a b j hj => by
        simp only [List.getD_eq_getElem?_getD]
        rw [List.getElem?_set_ne (by omega), List.getElem?_set_ne (by omega)]
      have g6 : ∀ (a b : Int), ((zs.set 6 a).set 7 b).getD 6 0 = a := fun a b => by
        simp only [List.getD_eq_getElem?_getD]
        rw [List.getElem?_set_ne (by omega), List.getElem?_set_self (by omega)]; rfl
      have g7 : ∀ (a b : Int), ((zs.set 6 a).set 7 b).getD 7 0 = b := fun a b => by
        simp only [List.getD_eq_getElem?_getD]
        rw [List.getElem?_set_self (by simp; omega)]; rfl
      simp only [wsTo, g6, g7, g _ _ 0 (by omega), g _ _ 1 (by omega), g _ _ 2 (by omega), g _ _ 3 (by omega), g _ _ 4 (by omega), g _ _ 5 (by omega), Nat.reduceMod, if_true, Nat.one_ne_zero, if_false]
      omega
    · have ih := wsTo_set zs p q hl k (by omega)
      have gk : ∀ (a b : Int), ((zs.set 6 a).set 7 b).getD k 0 = zs.getD k 0 := fun a b => by
        simp only [List.getD_eq_getElem?_getD]
        rw [List.getElem?_set_ne (by omega), List.getElem?_set_ne (by omega)]
      simp only [wsTo, ih, gk]
      omega
end Go.Proofs.YbulkacxcDoor
