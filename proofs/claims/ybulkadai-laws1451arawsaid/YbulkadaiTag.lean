import Derived.Test.YbulkadaiSpec
namespace Go.Proofs.Ybulkadai
open Go.RowKit

theorem pre1 (s : ByteArray) (h : 0 < s.size) : (s.extract 0 1).data.toList = [s[0]] := by
  have : (s.extract 0 1).data = s.data.extract 0 1 := by simp [ByteArray.data_extract]
  rw [this, Array.toList_extract, List.extract_eq_take_drop]
  have hl : 0 < s.data.toList.length := h
  cases he : s.data.toList with
  | nil => rw [he] at hl; simp at hl
  | cons a r =>
    have e0 : s[0] = s.data.toList.headD 0 := (head_at s h).symm
    rw [e0, he]; rfl

set_option maxRecDepth 100000 in
theorem ext_any (s : ByteArray) (h2 : 2 ≤ s.size) (hs : s.size ≤ 4096) (w : World) :
    Calls Yba.prog 9 #[.string s] w fun e w' => e = .returned (.bool ((s[0]'(by omega)).toNat == 95)) ∧ w' = w := by
  have hp := pre1 s (by omega)
  have h1 : (1 : Int) ≤ (s.size : Int) := by omega
  go_enter Yba.func9, Yba.ntmps9
  go_wp2
  go_ret
  refine ⟨ret_bool ?_, rfl⟩
  show ((s.extract 0 1).toList == [95]) = _
  rw [ByteArray.toList_eq, hp]
  rw [Bool.eq_iff_iff]
  simp [← UInt8.toNat_inj]

set_option maxRecDepth 100000 in
theorem noteCase_yes (B : Nat) (rep : Int) (s : ByteArray) (hs : s.size ≤ 4096) (ha : anyB s = true) (w : World) (hr : w.cell? ⟨B, 2, none⟩ = some (.int .u8 rep)) (hf : w.frozen? ⟨B, 2, none⟩ = false) :
    Calls Yba.prog 11 #[.pointer (some ⟨B, 0, none⟩), .string s] w fun e w' => e = .returned (.tuple #[]) ∧ w' = w.setCell ⟨B, 2, none⟩ (.int .u8 (bits BinOp.or IntKind.u8 rep 2)) := by
  have K := hasSmall_any s hs
  rw [ha] at K
  go_enter Yba.func11, Yba.ntmps11
  go_wp2_with (go_at_call 15; refine (K _).mono ?_; rintro e w' ⟨rfl, rfl⟩)
  go_end0
  exact ⟨rfl, rfl⟩

set_option maxRecDepth 100000 in
theorem noteCase_no (B : Nat) (s : ByteArray) (hs : s.size ≤ 4096) (ha : anyB s = false) (w : World) :
    Calls Yba.prog 11 #[.pointer (some ⟨B, 0, none⟩), .string s] w fun e w' => e = .returned (.tuple #[]) ∧ w' = w := by
  have K := hasSmall_any s hs
  rw [ha] at K
  go_enter Yba.func11, Yba.ntmps11
  go_wp2_with (go_at_call 15; refine (K _).mono ?_; rintro e w' ⟨rfl, rfl⟩)
  go_end0
  exact ⟨rfl, rfl⟩

theorem specB_of (l : Bool) (s : ByteArray) (h2 : 2 ≤ s.size) : specB l s = (((s[0]'(by omega)).toNat == 95) && tailB l (s.extract 1 s.size)) := by
  unfold specB
  rw [head_at s (by omega)]
  have e2 : decide (2 ≤ s.size) = true := by simp; omega
  rw [e2]; simp

/-- isExtensionTag, its answer false: nothing turns. -/
theorem tag_no (B : Nat) (l : Bool) (s : ByteArray) (hs : s.size ≤ 4096) (w : World) (hl : w.cell? ⟨B, 1, none⟩ = some (.bool l)) (h : specB l s = false) :
    Calls Yba.prog 6 #[.pointer (some ⟨B, 0, none⟩), .string s] w fun e w' => e = .returned (.bool false) ∧ w' = w := by
  by_cases h2 : s.size < 2
  · go_enter Yba.func6, Yba.ntmps6
    go_wp2
    go_ret
    exact ⟨rfl, rfl⟩
  have hd2 : decide ((s.size : Int) < 2) = false := by simp; omega
  have hsl : (1 : Int) ≤ (s.size : Int) := by omega
  have K9 := ext_any s (by omega) hs
  have K10 := fun W hW => tail_any B l (s.extract 1 s.size) (by simp; omega) W hW
  rw [specB_of l s (by omega)] at h
  cases h1 : ((s[0]'(by omega)).toNat == 95)
  · rw [h1] at K9
    have K9' : Hid _ := K9
    clear K9 h1 h K10
    go_enter Yba.func6, Yba.ntmps6
    go_wp2_with (go_at_call 9; refine (K9'.out _).mono ?_; rintro e w' ⟨rfl, rfl⟩)
    go_ret
    exact ⟨rfl, rfl⟩
  · rw [h1, Bool.true_and] at h
    rw [h1] at K9
    rw [h] at K10
    have K9' : Hid _ := K9
    have K10' : Hid _ := K10
    clear K9 h1 h K10
    go_enter Yba.func6, Yba.ntmps6
    go_wp2_with (first | (go_at_call 9; refine (K9'.out _).mono ?_; rintro e w' ⟨rfl, rfl⟩) | (go_at_call 10; refine (K10'.out _ hl).mono ?_; rintro e w' ⟨rfl, rfl⟩))
    go_ret
    exact ⟨rfl, rfl⟩

set_option maxRecDepth 100000 in
/-- isExtensionTag, its answer true: a small letter is noted in the reader's repairs. -/
theorem tag_yes (B : Nat) (l : Bool) (rep : Int) (s : ByteArray) (hs : s.size ≤ 4096) (w : World) (hl : w.cell? ⟨B, 1, none⟩ = some (.bool l)) (hr : w.cell? ⟨B, 2, none⟩ = some (.int .u8 rep)) (hf : w.frozen? ⟨B, 2, none⟩ = false) (h : specB l s = true) :
    Calls Yba.prog 6 #[.pointer (some ⟨B, 0, none⟩), .string s] w fun e w' => e = .returned (.bool true) ∧ ((anyB s = false ∧ w' = w) ∨ (anyB s = true ∧ w' = w.setCell ⟨B, 2, none⟩ (.int .u8 (bits BinOp.or IntKind.u8 rep 2)))) := by
  have h2 : 2 ≤ s.size := by
    unfold specB at h
    simp only [Bool.and_eq_true, decide_eq_true_eq] at h
    exact h.1.1
  have hd2 : decide ((s.size : Int) < 2) = false := by simp; omega
  have hsl : (1 : Int) ≤ (s.size : Int) := by omega
  have K9 := ext_any s (by omega) hs
  have K10 := fun W hW => tail_any B l (s.extract 1 s.size) (by simp; omega) W hW
  rw [specB_of l s (by omega), Bool.and_eq_true] at h
  rw [h.1] at K9
  rw [h.2] at K10
  have K9' : Hid _ := K9
  have K10' : Hid _ := K10
  clear K9 h K10
  cases ha : anyB s
  · have K11 : Hid _ := fun W => noteCase_no B s hs ha W
    clear ha
    go_enter Yba.func6, Yba.ntmps6
    go_wp2_with (first | (go_at_call 9; refine (K9'.out _).mono ?_; rintro e w' ⟨rfl, rfl⟩) | (go_at_call 10; refine (K10'.out _ hl).mono ?_; rintro e w' ⟨rfl, rfl⟩))
    refine (K11.out _).mono ?_
    rintro e w' ⟨rfl, rfl⟩
    go_wp2
    go_ret
    exact ⟨rfl, .inl ⟨trivial, rfl⟩⟩
  · have K11 : Hid _ := fun W => noteCase_yes B rep s hs ha W
    clear ha
    go_enter Yba.func6, Yba.ntmps6
    go_wp2_with (first | (go_at_call 9; refine (K9'.out _).mono ?_; rintro e w' ⟨rfl, rfl⟩) | (go_at_call 10; refine (K10'.out _ hl).mono ?_; rintro e w' ⟨rfl, rfl⟩))
    refine (K11.out _ hr hf).mono ?_
    rintro e w' ⟨rfl, rfl⟩
    go_wp2
    go_ret
    exact ⟨rfl, .inr ⟨trivial, rfl⟩⟩
end Go.Proofs.Ybulkadai
