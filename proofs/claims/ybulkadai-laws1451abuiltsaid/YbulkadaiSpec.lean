import Derived.Test.YbulkadaiLoops
namespace Go.Proofs.Ybulkadai
open Go.RowKit

theorem drop_data (s : ByteArray) : (s.extract 1 s.size).data.toList = s.data.toList.drop 1 := by
  have : (s.extract 1 s.size).data = s.data.extract 1 s.size := by simp [ByteArray.data_extract]
  rw [this, Array.toList_extract, List.extract_eq_take_drop]
  apply List.take_of_length_le
  rw [List.length_drop]
  exact Nat.le_refl _

/-- An extension tag: '_', then one or more letters, digits, underscores. -/
def specB (l : Bool) (s : ByteArray) : Bool := decide (2 ≤ s.size) && ((s.data.toList.headD 0).toNat == 95) && tailB l (s.extract 1 s.size)

theorem tailx_true {l : Bool} {s : ByteArray} (h : ∀ j (hj : j < s.size), 1 ≤ j → okB l (s[j].toNat : Int) = true) : tailB l (s.extract 1 s.size) = true := by
  unfold tailB
  rw [drop_data, List.all_eq_true]
  intro b hb
  obtain ⟨j, hj, rfl⟩ := List.mem_iff_getElem.1 hb
  rw [List.getElem_drop]
  have hj' : j < s.size - 1 := by rw [List.length_drop] at hj; exact hj
  exact h (1 + j) (by omega) (by omega)

theorem tailx_false {l : Bool} {s : ByteArray} (j : Nat) (hj : j < s.size) (h1 : 1 ≤ j) (h : okB l (s[j].toNat : Int) = false) : tailB l (s.extract 1 s.size) = false := by
  unfold tailB
  rw [drop_data, List.all_eq_false]
  refine ⟨s[j], ?_, by simp [h]⟩
  have hm : (s.data.toList.drop 1)[j - 1]? = some s[j] := by
    rw [List.getElem?_drop, show 1 + (j - 1) = j from by omega]
    have : j < s.data.toList.length := hj
    rw [List.getElem?_eq_getElem this]; rfl
  exact List.mem_of_getElem? hm

theorem headD_at (l : List UInt8) (h : 0 < l.length) : l.headD 0 = l[0] := by
  cases l with
  | nil => simp at h
  | cons a r => rfl

theorem head_at (s : ByteArray) (h : 0 < s.size) : s.data.toList.headD 0 = s[0] := headD_at s.data.toList h

set_option maxHeartbeats 1600000 in
set_option maxRecDepth 100000 in
theorem spec_any (l : Bool) (s : ByteArray) (hs : s.size ≤ 4096) (w : World) :
    Calls Yba.prog 7 #[.string s, .bool l] w fun e w' => e = .returned (.bool (specB l s)) ∧ w' = w := by
  by_cases h2 : s.size < 2
  · go_enter Yba.func7, Yba.ntmps7
    go_wp2
    go_ret
    exact ⟨ret_bool (by simp [specB]; omega), rfl⟩
  have h0 : 0 < s.size := by omega
  have hd2 : decide ((s.size : Int) < 2) = false := by simp; omega
  by_cases h95 : (s[0].toNat : Int) = 95
  · have q : ((s[0].toNat : Int) != 95) = false := by rw [h95]; rfl
    have HH : Hid (specB l s = tailB l (s.extract 1 s.size)) := by
      show _ = _
      unfold specB
      rw [head_at s h0]
      have e1 : (s[0].toNat == 95) = true := by simp; omega
      have e2 : decide (2 ≤ s.size) = true := by simp; omega
      rw [e1, e2]; simp
    clear h95
    go_enter Yba.func7, Yba.ntmps7
    go_wp2
    go_loop [5] (fun i => ∃ k : Nat, k ≤ s.size ∧ 1 ≤ k ∧ i = .int .i64 k ∧ Hid (∀ j (hj : j < s.size), 1 ≤ j → j < k → okB l (s[j].toNat : Int) = true)) (fun i => s.size - (intOf i).toNat)
    case atStart => exact ⟨1, by omega, by omega, rfl, fun j _ h1 hj => by omega⟩
    case round =>
      obtain ⟨k, hk, hk1, rfl, hall⟩ := hrel
      by_cases hlt : k < s.size
      · have hki : (k : Int) < (s.size : Int) := by omega
        rcases (show ((s[k].toNat : Int) < 48) ∨ (48 ≤ (s[k].toNat : Int) ∧ (s[k].toNat : Int) ≤ 57) ∨ (58 ≤ (s[k].toNat : Int) ∧ (s[k].toNat : Int) ≤ 64) ∨ (65 ≤ (s[k].toNat : Int) ∧ (s[k].toNat : Int) ≤ 90) ∨ (91 ≤ (s[k].toNat : Int) ∧ (s[k].toNat : Int) ≤ 94) ∨ ((s[k].toNat : Int) = 95) ∨ ((s[k].toNat : Int) = 96) ∨ (97 ≤ (s[k].toNat : Int) ∧ (s[k].toNat : Int) ≤ 122) ∨ (123 ≤ (s[k].toNat : Int)) from by omega) with hr | hr | hr | hr | hr | hr | hr | hr | hr
        · have a1 : decide ((65 : Int) ≤ (s[k].toNat : Int)) = false := by simp; omega
          have a2 : decide ((s[k].toNat : Int) ≤ (90 : Int)) = true := by simp; omega
          have a3 : decide ((48 : Int) ≤ (s[k].toNat : Int)) = false := by simp; omega
          have a4 : decide ((s[k].toNat : Int) ≤ (57 : Int)) = true := by simp; omega
          have a5 : ((s[k].toNat : Int) == 95) = false := by simp; omega
          have a6 : decide ((97 : Int) ≤ (s[k].toNat : Int)) = false := by simp; omega
          have a7 : decide ((s[k].toNat : Int) ≤ (122 : Int)) = true := by simp; omega
          have O : Hid (okB l (s[k].toNat : Int) = false) := by show _ = _; simp only [okB, letB, capB, smallB, digB, a1, a2, a3, a4, a5, a6, a7]; cases l <;> rfl
          clear hr
          cases l
          · go_wp2
            go_ret
            exact ⟨ret_bool (by rw [HH.out]; exact (tailx_false k hlt hk1 O.out).symm), rfl⟩
          · go_wp2
            go_ret
            exact ⟨ret_bool (by rw [HH.out]; exact (tailx_false k hlt hk1 O.out).symm), rfl⟩
        · have a1 : decide ((65 : Int) ≤ (s[k].toNat : Int)) = false := by simp; omega
          have a2 : decide ((s[k].toNat : Int) ≤ (90 : Int)) = true := by simp; omega
          have a3 : decide ((48 : Int) ≤ (s[k].toNat : Int)) = true := by simp; omega
          have a4 : decide ((s[k].toNat : Int) ≤ (57 : Int)) = true := by simp; omega
          have a5 : ((s[k].toNat : Int) == 95) = false := by simp; omega
          have a6 : decide ((97 : Int) ≤ (s[k].toNat : Int)) = false := by simp; omega
          have a7 : decide ((s[k].toNat : Int) ≤ (122 : Int)) = true := by simp; omega
          have O : Hid (okB l (s[k].toNat : Int) = true) := by show _ = _; simp only [okB, letB, capB, smallB, digB, a1, a2, a3, a4, a5, a6, a7]; cases l <;> rfl
          clear hr
          go_wp2
          go_round
          case rel => exact ⟨k + 1, by omega, by omega, by go_num, fun j hj h1 hjk => by
            by_cases e : j = k
            · subst e; exact O.out
            · exact hall.out j hj h1 (by omega)⟩
          case measure => simp [intOf]; omega
        · have a1 : decide ((65 : Int) ≤ (s[k].toNat : Int)) = false := by simp; omega
          have a2 : decide ((s[k].toNat : Int) ≤ (90 : Int)) = true := by simp; omega
          have a3 : decide ((48 : Int) ≤ (s[k].toNat : Int)) = true := by simp; omega
          have a4 : decide ((s[k].toNat : Int) ≤ (57 : Int)) = false := by simp; omega
          have a5 : ((s[k].toNat : Int) == 95) = false := by simp; omega
          have a6 : decide ((97 : Int) ≤ (s[k].toNat : Int)) = false := by simp; omega
          have a7 : decide ((s[k].toNat : Int) ≤ (122 : Int)) = true := by simp; omega
          have O : Hid (okB l (s[k].toNat : Int) = false) := by show _ = _; simp only [okB, letB, capB, smallB, digB, a1, a2, a3, a4, a5, a6, a7]; cases l <;> rfl
          clear hr
          cases l
          · go_wp2
            go_ret
            exact ⟨ret_bool (by rw [HH.out]; exact (tailx_false k hlt hk1 O.out).symm), rfl⟩
          · go_wp2
            go_ret
            exact ⟨ret_bool (by rw [HH.out]; exact (tailx_false k hlt hk1 O.out).symm), rfl⟩
        · have a1 : decide ((65 : Int) ≤ (s[k].toNat : Int)) = true := by simp; omega
          have a2 : decide ((s[k].toNat : Int) ≤ (90 : Int)) = true := by simp; omega
          have a3 : decide ((48 : Int) ≤ (s[k].toNat : Int)) = true := by simp; omega
          have a4 : decide ((s[k].toNat : Int) ≤ (57 : Int)) = false := by simp; omega
          have a5 : ((s[k].toNat : Int) == 95) = false := by simp; omega
          have a6 : decide ((97 : Int) ≤ (s[k].toNat : Int)) = false := by simp; omega
          have a7 : decide ((s[k].toNat : Int) ≤ (122 : Int)) = true := by simp; omega
          have O : Hid (okB l (s[k].toNat : Int) = true) := by show _ = _; simp only [okB, letB, capB, smallB, digB, a1, a2, a3, a4, a5, a6, a7]; cases l <;> rfl
          clear hr
          go_wp2
          go_round
          case rel => exact ⟨k + 1, by omega, by omega, by go_num, fun j hj h1 hjk => by
            by_cases e : j = k
            · subst e; exact O.out
            · exact hall.out j hj h1 (by omega)⟩
          case measure => simp [intOf]; omega
        · have a1 : decide ((65 : Int) ≤ (s[k].toNat : Int)) = true := by simp; omega
          have a2 : decide ((s[k].toNat : Int) ≤ (90 : Int)) = false := by simp; omega
          have a3 : decide ((48 : Int) ≤ (s[k].toNat : Int)) = true := by simp; omega
          have a4 : decide ((s[k].toNat : Int) ≤ (57 : Int)) = false := by simp; omega
          have a5 : ((s[k].toNat : Int) == 95) = false := by simp; omega
          have a6 : decide ((97 : Int) ≤ (s[k].toNat : Int)) = false := by simp; omega
          have a7 : decide ((s[k].toNat : Int) ≤ (122 : Int)) = true := by simp; omega
          have O : Hid (okB l (s[k].toNat : Int) = false) := by show _ = _; simp only [okB, letB, capB, smallB, digB, a1, a2, a3, a4, a5, a6, a7]; cases l <;> rfl
          clear hr
          cases l
          · go_wp2
            go_ret
            exact ⟨ret_bool (by rw [HH.out]; exact (tailx_false k hlt hk1 O.out).symm), rfl⟩
          · go_wp2
            go_ret
            exact ⟨ret_bool (by rw [HH.out]; exact (tailx_false k hlt hk1 O.out).symm), rfl⟩
        · have a1 : decide ((65 : Int) ≤ (s[k].toNat : Int)) = true := by simp; omega
          have a2 : decide ((s[k].toNat : Int) ≤ (90 : Int)) = false := by simp; omega
          have a3 : decide ((48 : Int) ≤ (s[k].toNat : Int)) = true := by simp; omega
          have a4 : decide ((s[k].toNat : Int) ≤ (57 : Int)) = false := by simp; omega
          have a5 : ((s[k].toNat : Int) == 95) = true := by simp; omega
          have a6 : decide ((97 : Int) ≤ (s[k].toNat : Int)) = false := by simp; omega
          have a7 : decide ((s[k].toNat : Int) ≤ (122 : Int)) = true := by simp; omega
          have O : Hid (okB l (s[k].toNat : Int) = true) := by show _ = _; simp only [okB, letB, capB, smallB, digB, a1, a2, a3, a4, a5, a6, a7]; cases l <;> rfl
          clear hr
          go_wp2
          go_round
          case rel => exact ⟨k + 1, by omega, by omega, by go_num, fun j hj h1 hjk => by
            by_cases e : j = k
            · subst e; exact O.out
            · exact hall.out j hj h1 (by omega)⟩
          case measure => simp [intOf]; omega
        · have a1 : decide ((65 : Int) ≤ (s[k].toNat : Int)) = true := by simp; omega
          have a2 : decide ((s[k].toNat : Int) ≤ (90 : Int)) = false := by simp; omega
          have a3 : decide ((48 : Int) ≤ (s[k].toNat : Int)) = true := by simp; omega
          have a4 : decide ((s[k].toNat : Int) ≤ (57 : Int)) = false := by simp; omega
          have a5 : ((s[k].toNat : Int) == 95) = false := by simp; omega
          have a6 : decide ((97 : Int) ≤ (s[k].toNat : Int)) = false := by simp; omega
          have a7 : decide ((s[k].toNat : Int) ≤ (122 : Int)) = true := by simp; omega
          have O : Hid (okB l (s[k].toNat : Int) = false) := by show _ = _; simp only [okB, letB, capB, smallB, digB, a1, a2, a3, a4, a5, a6, a7]; cases l <;> rfl
          clear hr
          cases l
          · go_wp2
            go_ret
            exact ⟨ret_bool (by rw [HH.out]; exact (tailx_false k hlt hk1 O.out).symm), rfl⟩
          · go_wp2
            go_ret
            exact ⟨ret_bool (by rw [HH.out]; exact (tailx_false k hlt hk1 O.out).symm), rfl⟩
        · have a1 : decide ((65 : Int) ≤ (s[k].toNat : Int)) = true := by simp; omega
          have a2 : decide ((s[k].toNat : Int) ≤ (90 : Int)) = false := by simp; omega
          have a3 : decide ((48 : Int) ≤ (s[k].toNat : Int)) = true := by simp; omega
          have a4 : decide ((s[k].toNat : Int) ≤ (57 : Int)) = false := by simp; omega
          have a5 : ((s[k].toNat : Int) == 95) = false := by simp; omega
          have a6 : decide ((97 : Int) ≤ (s[k].toNat : Int)) = true := by simp; omega
          have a7 : decide ((s[k].toNat : Int) ≤ (122 : Int)) = true := by simp; omega
          cases l
          · have O : Hid (okB false (s[k].toNat : Int) = false) := by show _ = _; simp only [okB, letB, capB, smallB, digB, a1, a2, a3, a4, a5, a6, a7]; rfl
            clear hr
            go_wp2
            go_ret
            exact ⟨ret_bool (by rw [HH.out]; exact (tailx_false k hlt hk1 O.out).symm), rfl⟩
          · have O : Hid (okB true (s[k].toNat : Int) = true) := by show _ = _; simp only [okB, letB, capB, smallB, digB, a1, a2, a3, a4, a5, a6, a7]; rfl
            clear hr
            go_wp2
            go_round
            case rel => exact ⟨k + 1, by omega, by omega, by go_num, fun j hj h1 hjk => by
              by_cases e : j = k
              · subst e; exact O.out
              · exact hall.out j hj h1 (by omega)⟩
            case measure => simp [intOf]; omega
        · have a1 : decide ((65 : Int) ≤ (s[k].toNat : Int)) = true := by simp; omega
          have a2 : decide ((s[k].toNat : Int) ≤ (90 : Int)) = false := by simp; omega
          have a3 : decide ((48 : Int) ≤ (s[k].toNat : Int)) = true := by simp; omega
          have a4 : decide ((s[k].toNat : Int) ≤ (57 : Int)) = false := by simp; omega
          have a5 : ((s[k].toNat : Int) == 95) = false := by simp; omega
          have a6 : decide ((97 : Int) ≤ (s[k].toNat : Int)) = true := by simp; omega
          have a7 : decide ((s[k].toNat : Int) ≤ (122 : Int)) = false := by simp; omega
          have O : Hid (okB l (s[k].toNat : Int) = false) := by show _ = _; simp only [okB, letB, capB, smallB, digB, a1, a2, a3, a4, a5, a6, a7]; cases l <;> rfl
          clear hr
          cases l
          · go_wp2
            go_ret
            exact ⟨ret_bool (by rw [HH.out]; exact (tailx_false k hlt hk1 O.out).symm), rfl⟩
          · go_wp2
            go_ret
            exact ⟨ret_bool (by rw [HH.out]; exact (tailx_false k hlt hk1 O.out).symm), rfl⟩
      · go_wp2
        go_ret
        exact ⟨ret_bool (by rw [HH.out]; exact (tailx_true (fun j hj h1 => hall.out j hj h1 (by omega))).symm), rfl⟩
  · have q : ((s[0].toNat : Int) != 95) = true := bne_iff_ne.2 h95
    go_enter Yba.func7, Yba.ntmps7
    go_wp2
    go_ret
    refine ⟨ret_bool ?_, rfl⟩
    unfold specB
    rw [head_at s h0]
    have e1 : (s[0].toNat == 95) = false := by simp; omega
    rw [e1]; simp
end Go.Proofs.Ybulkadai
