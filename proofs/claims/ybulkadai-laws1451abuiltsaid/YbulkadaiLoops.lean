import Derived.Test.YbulkadaiLeaf
namespace Go.Proofs.Ybulkadai
open Go.RowKit

def tailB (l : Bool) (t : ByteArray) : Bool := t.data.toList.all fun b => okB l (b.toNat : Int)
def anyB (t : ByteArray) : Bool := t.data.toList.any fun b => smallB (b.toNat : Int)

theorem tail_true {l : Bool} {t : ByteArray} (h : ∀ j (hj : j < t.size), okB l (t[j].toNat : Int) = true) : tailB l t = true := by
  unfold tailB
  rw [List.all_eq_true]
  intro b hb
  obtain ⟨j, hj, rfl⟩ := List.mem_iff_getElem.1 hb
  exact h j (by simpa using hj)

theorem tail_false {l : Bool} {t : ByteArray} (j : Nat) (hj : j < t.size) (h : okB l (t[j].toNat : Int) = false) : tailB l t = false := by
  unfold tailB
  rw [List.all_eq_false]
  refine ⟨t[j], ?_, by simp [h]⟩
  exact List.getElem_mem (l := t.data.toList) (n := j) (by simpa using hj)

theorem any_true {t : ByteArray} (j : Nat) (hj : j < t.size) (h : smallB (t[j].toNat : Int) = true) : anyB t = true := by
  unfold anyB
  rw [List.any_eq_true]
  exact ⟨t[j], List.getElem_mem (l := t.data.toList) (n := j) (by simpa using hj), h⟩

theorem any_false {t : ByteArray} (h : ∀ j (hj : j < t.size), smallB (t[j].toNat : Int) = false) : anyB t = false := by
  unfold anyB
  rw [List.any_eq_false]
  intro b hb
  obtain ⟨j, hj, rfl⟩ := List.mem_iff_getElem.1 hb
  have h2 : smallB ((t.data.toList[j]).toNat : Int) = false := h j (by simpa using hj)
  rw [h2]
  simp

set_option maxHeartbeats 800000 in
set_option maxRecDepth 100000 in
theorem tail_any (B : Nat) (l : Bool) (t : ByteArray) (ht : t.size ≤ 4096) (w : World) (hl : w.cell? ⟨B, 1, none⟩ = some (.bool l)) :
    Calls Yba.prog 10 #[.pointer (some ⟨B, 0, none⟩), .string t] w fun e w' => e = .returned (.bool (tailB l t)) ∧ w' = w := by
  go_enter Yba.func10, Yba.ntmps10
  go_wp2
  go_loop [5] (fun i => ∃ k : Nat, k ≤ t.size ∧ i = .int .i64 k ∧ Hid (∀ j (hj : j < t.size), j < k → okB l (t[j].toNat : Int) = true)) (fun i => t.size - (intOf i).toNat)
  case atStart => exact ⟨0, Nat.zero_le _, rfl, fun j _ hj => absurd hj (Nat.not_lt_zero _)⟩
  case round =>
    obtain ⟨k, hk, rfl, hall⟩ := hrel
    by_cases hlt : k < t.size
    · have K13 := let_any B l (t[k].toNat : Int)
      have K14 := dig_any (t[k].toNat : Int)
      have E : Hid (okB l (t[k].toNat : Int) = (letB l (t[k].toNat : Int) || digB (t[k].toNat : Int) || ((t[k].toNat : Int) == 95))) := rfl
      have hki : (k : Int) < (t.size : Int) := by omega
      cases h1 : letB l (t[k].toNat : Int) <;> rw [h1] at K13
      · cases h2 : digB (t[k].toNat : Int) <;> rw [h2] at K14
        · by_cases h3 : (t[k].toNat : Int) = 95
          · have q3 : ((t[k].toNat : Int) != 95) = false := by rw [h3]; rfl
            have O : Hid (okB l (t[k].toNat : Int) = true) := by show _ = _; rw [E.out, h3]; simp
            clear E h3
            go_wp2_with (first | (go_at_call 13; refine (K13 _ hl).mono ?_; rintro e w' ⟨rfl, rfl⟩) | (go_at_call 14; refine (K14 _).mono ?_; rintro e w' ⟨rfl, rfl⟩))
            go_round
            case rel => exact ⟨k + 1, by omega, by go_num, fun j hj hjk => by
              by_cases e : j = k
              · subst e; exact O.out
              · exact hall.out j hj (by omega)⟩
            case measure => simp [intOf]; omega
          · have q3 : ((t[k].toNat : Int) != 95) = true := bne_iff_ne.2 h3
            have O : Hid (okB l (t[k].toNat : Int) = false) := by show _ = _; rw [E.out, h1, h2]; simp [h3]
            clear E h3
            go_wp2_with (first | (go_at_call 13; refine (K13 _ hl).mono ?_; rintro e w' ⟨rfl, rfl⟩) | (go_at_call 14; refine (K14 _).mono ?_; rintro e w' ⟨rfl, rfl⟩))
            go_ret
            exact ⟨ret_bool (tail_false k hlt O.out).symm, rfl⟩
        · have O : Hid (okB l (t[k].toNat : Int) = true) := by show _ = _; rw [E.out, h2]; simp
          clear E
          go_wp2_with (first | (go_at_call 13; refine (K13 _ hl).mono ?_; rintro e w' ⟨rfl, rfl⟩) | (go_at_call 14; refine (K14 _).mono ?_; rintro e w' ⟨rfl, rfl⟩))
          go_round
          case rel => exact ⟨k + 1, by omega, by go_num, fun j hj hjk => by
            by_cases e : j = k
            · subst e; exact O.out
            · exact hall.out j hj (by omega)⟩
          case measure => simp [intOf]; omega
      · have O : Hid (okB l (t[k].toNat : Int) = true) := by show _ = _; rw [E.out, h1]; simp
        clear E
        go_wp2_with (first | (go_at_call 13; refine (K13 _ hl).mono ?_; rintro e w' ⟨rfl, rfl⟩) | (go_at_call 14; refine (K14 _).mono ?_; rintro e w' ⟨rfl, rfl⟩))
        go_round
        case rel => exact ⟨k + 1, by omega, by go_num, fun j hj hjk => by
          by_cases e : j = k
          · subst e; exact O.out
          · exact hall.out j hj (by omega)⟩
        case measure => simp [intOf]; omega
    · go_wp2
      go_ret
      exact ⟨ret_bool (tail_true (fun j hj => hall.out j hj (by omega))).symm, rfl⟩

set_option maxHeartbeats 800000 in
set_option maxRecDepth 100000 in
theorem hasSmall_any (t : ByteArray) (ht : t.size ≤ 4096) (w : World) :
    Calls Yba.prog 15 #[.string t] w fun e w' => e = .returned (.bool (anyB t)) ∧ w' = w := by
  go_enter Yba.func15, Yba.ntmps15
  go_wp2
  go_loop [3] (fun i => ∃ k : Nat, k ≤ t.size ∧ i = .int .i64 k ∧ Hid (∀ j (hj : j < t.size), j < k → smallB (t[j].toNat : Int) = false)) (fun i => t.size - (intOf i).toNat)
  case atStart => exact ⟨0, Nat.zero_le _, rfl, fun j _ hj => absurd hj (Nat.not_lt_zero _)⟩
  case round =>
    obtain ⟨k, hk, rfl, hall⟩ := hrel
    by_cases hlt : k < t.size
    · have K18 := small_any (t[k].toNat : Int)
      have hki : (k : Int) < (t.size : Int) := by omega
      cases h1 : smallB (t[k].toNat : Int) <;> rw [h1] at K18
      · have O : Hid (smallB (t[k].toNat : Int) = false) := h1
        go_wp2_with (go_at_call 18; refine (K18 _).mono ?_; rintro e w' ⟨rfl, rfl⟩)
        go_round
        case rel => exact ⟨k + 1, by omega, by go_num, fun j hj hjk => by
          by_cases e : j = k
          · subst e; exact O.out
          · exact hall.out j hj (by omega)⟩
        case measure => simp [intOf]; omega
      · have O : Hid (smallB (t[k].toNat : Int) = true) := h1
        go_wp2_with (go_at_call 18; refine (K18 _).mono ?_; rintro e w' ⟨rfl, rfl⟩)
        go_ret
        exact ⟨ret_bool (any_true k hlt O.out).symm, rfl⟩
    · go_wp2
      go_ret
      exact ⟨ret_bool (any_false (fun j hj => hall.out j hj (by omega))).symm, rfl⟩

set_option maxHeartbeats 800000 in
set_option maxRecDepth 100000 in
theorem zsmall_any (t : ByteArray) (ht : t.size ≤ 4096) (w : World) :
    Calls Yba.prog 8 #[.string t] w fun e w' => e = .returned (.bool (anyB t)) ∧ w' = w := by
  go_enter Yba.func8, Yba.ntmps8
  go_wp2
  go_loop [3] (fun i => ∃ k : Nat, k ≤ t.size ∧ i = .int .i64 k ∧ Hid (∀ j (hj : j < t.size), j < k → smallB (t[j].toNat : Int) = false)) (fun i => t.size - (intOf i).toNat)
  case atStart => exact ⟨0, Nat.zero_le _, rfl, fun j _ hj => absurd hj (Nat.not_lt_zero _)⟩
  case round =>
    obtain ⟨k, hk, rfl, hall⟩ := hrel
    by_cases hlt : k < t.size
    · have hki : (k : Int) < (t.size : Int) := by omega
      by_cases h1 : (97 : Int) ≤ (t[k].toNat : Int)
      · by_cases h2 : (t[k].toNat : Int) ≤ 122
        · have O : Hid (smallB (t[k].toNat : Int) = true) := by show _ = _; simp [smallB, h1, h2]
          go_wp2
          go_ret
          exact ⟨ret_bool (any_true k hlt O.out).symm, rfl⟩
        · have O : Hid (smallB (t[k].toNat : Int) = false) := by show _ = _; simp [smallB, h2]
          go_wp2
          go_round
          case rel => exact ⟨k + 1, by omega, by go_num, fun j hj hjk => by
            by_cases e : j = k
            · subst e; exact O.out
            · exact hall.out j hj (by omega)⟩
          case measure => simp [intOf]; omega
      · have O : Hid (smallB (t[k].toNat : Int) = false) := by show _ = _; simp [smallB, h1]
        have hd : decide ((97 : Int) ≤ (t[k].toNat : Int)) = false := by simpa using h1
        clear h1
        go_wp2
        go_round
        case rel => exact ⟨k + 1, by omega, by go_num, fun j hj hjk => by
          by_cases e : j = k
          · subst e; exact O.out
          · exact hall.out j hj (by omega)⟩
        case measure => simp [intOf]; omega
    · go_wp2
      go_ret
      exact ⟨ret_bool (any_false (fun j hj => hall.out j hj (by omega))).symm, rfl⟩
end Go.Proofs.Ybulkadai
