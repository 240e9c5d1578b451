import Derived.Test.YbulkadaiProg
import Derived.WalkKit
import Derived.ProofKit
import Derived.RegionTactic
import Derived.Deep.RegionWith
import Derived.WalkSpells
import Derived.Outline
import Derived.LoopTactic
import Derived.Deep.QuietTactic
import Derived.BigQuiet
namespace Go.Proofs.Ybulkadai
open Go.RowKit

/-! ### The plain functions -/
def capB (c : Int) : Bool := decide (65 ≤ c) && decide (c ≤ 90)
def smallB (c : Int) : Bool := decide (97 ≤ c) && decide (c ≤ 122)
def digB (c : Int) : Bool := decide (48 ≤ c) && decide (c ≤ 57)
def letB (l : Bool) (c : Int) : Bool := capB c || (l && smallB c)
def okB (l : Bool) (c : Int) : Bool := letB l c || digB c || (c == 95)

theorem ret_bool {a b : Bool} (h : a = b) : Ending.returned (.bool a) = .returned (.bool b) := by rw [h]

set_option maxRecDepth 100000 in
theorem cap_any (c : Int) (w : World) : Calls Yba.prog 17 #[.int .u8 c] w fun e w' => e = .returned (.bool (capB c)) ∧ w' = w := by
  by_cases h1 : 65 ≤ c
  · by_cases h2 : c ≤ 90
    · go_enter Yba.func17, Yba.ntmps17
      go_wp2
      go_ret
      exact ⟨ret_bool (by simp [capB, h1, h2]), rfl⟩
    · go_enter Yba.func17, Yba.ntmps17
      go_wp2
      go_ret
      exact ⟨ret_bool (by simp [capB, h1, h2]), rfl⟩
  · have hd : decide (65 ≤ c) = false := by simpa using h1
    go_enter Yba.func17, Yba.ntmps17
    go_wp2
    go_ret
    exact ⟨ret_bool (by simp [capB, hd]), rfl⟩

set_option maxRecDepth 100000 in
theorem small_any (c : Int) (w : World) : Calls Yba.prog 18 #[.int .u8 c] w fun e w' => e = .returned (.bool (smallB c)) ∧ w' = w := by
  by_cases h1 : 97 ≤ c
  · by_cases h2 : c ≤ 122
    · go_enter Yba.func18, Yba.ntmps18
      go_wp2
      go_ret
      exact ⟨ret_bool (by simp [smallB, h1, h2]), rfl⟩
    · go_enter Yba.func18, Yba.ntmps18
      go_wp2
      go_ret
      exact ⟨ret_bool (by simp [smallB, h1, h2]), rfl⟩
  · have hd : decide (97 ≤ c) = false := by simpa using h1
    go_enter Yba.func18, Yba.ntmps18
    go_wp2
    go_ret
    exact ⟨ret_bool (by simp [smallB, hd]), rfl⟩

set_option maxRecDepth 100000 in
theorem dig_any (c : Int) (w : World) : Calls Yba.prog 14 #[.int .u8 c] w fun e w' => e = .returned (.bool (digB c)) ∧ w' = w := by
  by_cases h1 : 48 ≤ c
  · by_cases h2 : c ≤ 57
    · go_enter Yba.func14, Yba.ntmps14
      go_wp2
      go_ret
      exact ⟨ret_bool (by simp [digB, h1, h2]), rfl⟩
    · go_enter Yba.func14, Yba.ntmps14
      go_wp2
      go_ret
      exact ⟨ret_bool (by simp [digB, h1, h2]), rfl⟩
  · have hd : decide (48 ≤ c) = false := by simpa using h1
    go_enter Yba.func14, Yba.ntmps14
    go_wp2
    go_ret
    exact ⟨ret_bool (by simp [digB, hd]), rfl⟩

set_option maxRecDepth 100000 in
theorem let_any (B : Nat) (l : Bool) (c : Int) (w : World) (hl : w.cell? ⟨B, 1, none⟩ = some (.bool l)) :
    Calls Yba.prog 13 #[.pointer (some ⟨B, 0, none⟩), .int .u8 c] w fun e w' => e = .returned (.bool (letB l c)) ∧ w' = w := by
  have K17 := cap_any c
  have K18 := small_any c
  have e1 : Hid (letB l c = (capB c || (l && smallB c))) := rfl
  cases h1 : capB c <;> rw [h1] at K17
  · cases l
    · go_enter Yba.func13, Yba.ntmps13
      go_wp2_with (first | (go_at_call 17; refine (K17 _).mono ?_; rintro e w' ⟨rfl, rfl⟩) | (go_at_call 18; refine (K18 _).mono ?_; rintro e w' ⟨rfl, rfl⟩))
      go_ret
      exact ⟨ret_bool (by rw [e1.out, h1]; rfl), rfl⟩
    · go_enter Yba.func13, Yba.ntmps13
      go_wp2_with (first | (go_at_call 17; refine (K17 _).mono ?_; rintro e w' ⟨rfl, rfl⟩) | (go_at_call 18; refine (K18 _).mono ?_; rintro e w' ⟨rfl, rfl⟩))
      go_ret
      exact ⟨ret_bool (by rw [e1.out, h1]; rfl), rfl⟩
  · go_enter Yba.func13, Yba.ntmps13
    go_wp2_with (first | (go_at_call 17; refine (K17 _).mono ?_; rintro e w' ⟨rfl, rfl⟩) | (go_at_call 18; refine (K18 _).mono ?_; rintro e w' ⟨rfl, rfl⟩))
    go_ret
    exact ⟨ret_bool (by rw [e1.out, h1]; rfl), rfl⟩
end Go.Proofs.Ybulkadai
