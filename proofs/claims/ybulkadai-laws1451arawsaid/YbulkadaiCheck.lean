import Derived.Test.YbulkadaiTag
namespace Go.Proofs.Ybulkadai
open Go.RowKit

set_option maxHeartbeats 1600000 in
set_option maxRecDepth 100000 in
theorem check_any (s : ByteArray) (l : Bool) (d rep : Int) (text : ByteArray) (hs : s.size ≤ 4096) (w : World) :
    Calls Yba.prog 5 #[.string s, .bool l, .int .u8 d, .int .u8 rep, .string text] w fun e w' => e = .returned (.bool true) ∧ Below w.heap.size w w' := by
  have K7 := spec_any l s hs
  have K8 := zsmall_any s hs
  cases h : specB l s
  · rw [h] at K7
    have K7' : Hid _ := K7
    have K6 : Hid _ := fun W hl => tag_no w.heap.size l s hs W hl h
    clear K7 h
    go_enter Yba.func5, Yba.ntmps5
    go_wp2_with fail
    refine (K6.out _ (by go_simp)).mono ?_
    rintro e w' ⟨rfl, rfl⟩
    go_wp2_with fail
    refine (K7'.out _).mono ?_
    rintro e w' ⟨rfl, rfl⟩
    go_wp2
    go_ret
    exact ⟨rfl, (Below.refl _ w).alloc (Nat.le_refl _) _⟩
  · rw [h] at K7
    have K7' : Hid _ := K7
    have K6 : Hid _ := fun W hl hr hf => tag_yes w.heap.size l rep s hs W hl hr hf h
    clear K7 h
    cases ha : anyB s
    · rw [ha] at K8
      have K8' : Hid _ := K8
      clear K8
      go_enter Yba.func5, Yba.ntmps5
      go_wp2_with fail
      refine (K6.out _ (by go_simp) (by go_simp) (by go_simp)).mono ?_
      rintro e w' ⟨rfl, h6⟩
      rcases h6 with ⟨_, rfl⟩ | ⟨h6, _⟩
      · clear ha
        go_wp2_with fail
        refine (K7'.out _).mono ?_
        rintro e w' ⟨rfl, rfl⟩
        go_wp2_with fail
        refine (K8'.out _).mono ?_
        rintro e w' ⟨rfl, rfl⟩
        go_wp2
        go_ret
        exact ⟨rfl, (Below.refl _ w).alloc (Nat.le_refl _) _⟩
      · rw [ha] at h6; cases h6
    · rw [ha] at K8
      have K8' : Hid _ := K8
      clear K8
      go_enter Yba.func5, Yba.ntmps5
      go_wp2_with fail
      refine (K6.out _ (by go_simp) (by go_simp) (by go_simp)).mono ?_
      rintro e w' ⟨rfl, h6⟩
      rcases h6 with ⟨h6, _⟩ | ⟨_, rfl⟩
      · rw [ha] at h6; cases h6
      · clear ha
        go_wp2_with fail
        refine (K7'.out _).mono ?_
        rintro e w' ⟨rfl, rfl⟩
        go_wp2_with fail
        refine (K8'.out _).mono ?_
        rintro e w' ⟨rfl, rfl⟩
        go_wp2
        go_ret
        exact ⟨rfl, by repeat (first | exact Below.refl _ _ | refine Below.setCell ?_ (by simp) _ | refine Below.alloc ?_ (Nat.le_refl _) _)⟩

set_option maxRecDepth 100000 in
theorem raw_walk (s : ByteArray) (l : Bool) (d rep : Int) (text : ByteArray) (w : World) :
    Calls Yba.prog 3 #[.string s, .bool l, .int .u8 d, .int .u8 rep, .string text] w fun e w' => e = .returned (.bool true) ∧ Below w.heap.size w w' := by
  by_cases hs : s.size ≤ 1024
  · have K := check_any s l d rep text (by omega) w
    go_enter Yba.func3, Yba.ntmps3
    go_wp2_with fail
    refine K.mono ?_
    rintro e w' ⟨rfl, hb⟩
    go_wp2
    go_ret
    exact ⟨rfl, hb⟩
  · go_enter Yba.func3, Yba.ntmps3
    go_wp2
    go_ret
    exact ⟨rfl, Below.refl _ _⟩
end Go.Proofs.Ybulkadai
