import Derived.Test.YbulkadfeRows
import Derived.Test.YbulkadfeChecked
import Derived.Shelf.SlicesE.Delete
import Derived.BigQuiet
import Derived.OpenShut
namespace Go.Proofs.Ybulkadfe
open Go.RowKit

/-- The connection's slice of RABs: n pointers, to blocks 'bs j', of the IDs 'ids j', rising. -/
structure Row (w : World) (a : Option Addr) (n : Nat) (bs ids : Nat → Nat) : Prop where
  ptr : ∀ j, j < n → ∃ G, a = some ⟨G, 0, none⟩ ∧ w.cell? ⟨G, j, none⟩ = some (.pointer (some ⟨bs j, 0, none⟩))
  id : ∀ j, j < n → w.cell? ⟨bs j, 41, none⟩ = some (.int .u8 (ids j))
  lt : ∀ j, j < n → ids j < 256
  mono : ∀ i j, i < j → j < n → ids i < ids j
  few : n ≤ 256

/-- What the search answers. -/
def Found (n t : Nat) (ids : Nat → Nat) (w : World) (e : Ending) (w' : World) : Prop :=
  ∃ p f, e = .returned (.tuple #[.int .i64 (p : Nat), .bool f]) ∧ w' = w ∧ p ≤ n ∧ (∀ j, j < p → ids j < t) ∧ (∀ j, p ≤ j → j < n → t ≤ ids j) ∧ (f = true ↔ (p < n ∧ ids p = t))

theorem ret_bool {a b : Bool} (h : a = b) : (Ending.returned (Value.bool a)) = Ending.returned (Value.bool b) := by rw [h]

set_option maxHeartbeats 800000 in
set_option maxRecDepth 100000 in
theorem cmp_any (b x t : Nat) (hx : x < 256) (ht : t < 256) (w : World) (h : w.cell? ⟨b, 41, none⟩ = some (.int .u8 x)) :
    Calls Yba.prog 13 #[.pointer (some ⟨b, 0, none⟩), .int .u8 t] w fun e w' => e = .returned (.int .i64 ((x : Int) - (t : Int))) ∧ w' = w := by
  have h1 : (x : Int) < 256 := by omega
  have h2 : (t : Int) < 256 := by omega
  go_enter Yba.func13, Yba.ntmps13
  go_wp2
  go_ret
  exact ⟨rfl, rfl⟩

set_option maxHeartbeats 1600000 in
set_option maxRecDepth 100000 in
theorem search_any (a : Option Addr) (n cap : Nat) (bs ids : Nat → Nat) (t : Nat) (ht : t < 256) (w : World) (R : Row w a n bs ids) :
    Calls Yba.prog 12 #[.slice a n cap, .int .u8 t, .func (.func 13) #[] #[]] w (Found n t ids w) := by
  have HR : Hid _ := R
  have hn := R.few
  clear R
  go_enter Yba.func12, Yba.ntmps12
  go_wp2
  go_loop [9, 10] (fun s9 s10 => ∃ lo hi : Nat, s9 = .int .i64 lo ∧ s10 = .int .i64 hi ∧ lo ≤ hi ∧ hi ≤ n ∧ Hid ((∀ j, j < lo → ids j < t) ∧ (∀ j, hi ≤ j → j < n → t ≤ ids j))) (fun s9 s10 => (intOf s10).toNat - (intOf s9).toNat)
  case atStart => exact ⟨0, n, rfl, rfl, Nat.zero_le _, Nat.le_refl _, (⟨fun j h => absurd h (Nat.not_lt_zero _), fun j h1 h2 => by omega⟩ : (∀ j, j < 0 → ids j < t) ∧ (∀ j, n ≤ j → j < n → t ≤ ids j))⟩
  case round =>
    obtain ⟨lo, hi, rfl, rfl, hlh, hin, I⟩ := hrel
    by_cases hlt : lo < hi
    · have hm : (lo + hi) / 2 < n := by omega
      obtain ⟨G, rfl, hp⟩ := HR.out.ptr _ hm
      have K := fun W h => cmp_any (bs ((lo + hi) / 2)) (ids ((lo + hi) / 2)) t (HR.out.lt _ hm) ht W h
      have hid := HR.out.id _ hm
      have hK := K w hid
      clear K hid
      have M : Hid (∀ j, j < (lo + hi) / 2 → ids j < ids ((lo + hi) / 2)) := fun j hj => HR.out.mono j _ hj hm
      have M2 : Hid (∀ j, (lo + hi) / 2 < j → j < n → ids ((lo + hi) / 2) < ids j) := fun j hj hjn => HR.out.mono _ j hj hjn
      by_cases hyx : ids ((lo + hi) / 2) < t
      · go_wp2_with fail
        refine hK.mono ?_
        rintro e w' ⟨rfl, rfl⟩
        go_wp2
        go_round
        case rel =>
          have I2 : Hid ((∀ j, j < (lo + hi) / 2 + 1 → ids j < t) ∧ (∀ j, hi ≤ j → j < n → t ≤ ids j)) := ⟨fun j hj => by
            by_cases e : j = (lo + hi) / 2
            · rw [e]; exact hyx
            · exact Nat.lt_trans (M.out j (by omega)) hyx, I.out.2⟩
          exact ⟨(lo + hi) / 2 + 1, hi, by rw [show ((lo : Int) + (hi : Int)) / 2 + 1 = (((lo + hi) / 2 + 1 : Nat) : Int) by omega], rfl, by omega, hin, I2⟩
        case measure => simp [intOf]; omega
      · go_wp2_with fail
        refine hK.mono ?_
        rintro e w' ⟨rfl, rfl⟩
        go_wp2
        go_round
        case rel =>
          have I2 : Hid ((∀ j, j < lo → ids j < t) ∧ (∀ j, (lo + hi) / 2 ≤ j → j < n → t ≤ ids j)) := ⟨I.out.1, fun j hj hjn => by
            by_cases e : j = (lo + hi) / 2
            · rw [e]; omega
            · have := M2.out j (by omega) hjn; omega⟩
          exact ⟨lo, (lo + hi) / 2, rfl, by rw [show ((lo : Int) + (hi : Int)) / 2 = (((lo + hi) / 2 : Nat) : Int) by omega], by omega, by omega, I2⟩
        case measure => simp [intOf]; omega
    · obtain rfl : hi = lo := by omega
      by_cases hn1 : hi < n
      · obtain ⟨G, rfl, hp⟩ := HR.out.ptr _ hn1
        have hK := cmp_any (bs hi) (ids hi) t (HR.out.lt _ hn1) ht w (HR.out.id _ hn1)
        by_cases he : ids hi = t
        · have hd : decide (((ids hi : Nat) : Int) - (t : Int) = 0) = true := by simp; omega
          have hd2 : ((((ids hi : Nat) : Int) - (t : Int)) == 0) = true := by simp; omega
          have HE : Hid (ids hi = t) := he
          clear he
          go_wp2_with fail
          refine hK.mono ?_
          rintro e w' ⟨rfl, rfl⟩
          go_wp2
          go_ret2
          exact ⟨hi, true, rfl, rfl, hin, I.out.1, I.out.2, by simp [hn1, HE.out]⟩
        · have hd : decide (((ids hi : Nat) : Int) - (t : Int) = 0) = false := by simp; omega
          have hd2 : ((((ids hi : Nat) : Int) - (t : Int)) == 0) = false := by simp; omega
          have HE : Hid (¬ ids hi = t) := he
          clear he
          go_wp2_with fail
          refine hK.mono ?_
          rintro e w' ⟨rfl, rfl⟩
          go_wp2
          go_ret2
          exact ⟨hi, false, rfl, rfl, hin, I.out.1, I.out.2, by simp [HE.out]⟩
      · go_wp2
        go_ret2
        exact ⟨hi, false, rfl, rfl, hin, I.out.1, I.out.2, by simp [hn1]⟩

set_option maxHeartbeats 800000 in
set_option maxRecDepth 100000 in
theorem find_any (C : Nat) (a : Option Addr) (n cap : Nat) (bs ids : Nat → Nat) (t : Nat) (ht : t < 256) (w : World) (hC : w.cell? ⟨C, 1, none⟩ = some (.slice a n cap)) (R : Row w a n bs ids) :
    Calls Yba.prog 9 #[.pointer (some ⟨C, 0, none⟩), .int .u8 t] w (Found n t ids w) := by
  have K : Hid _ := search_any a n cap bs ids t ht w R
  clear R
  go_enter Yba.func9, Yba.ntmps9
  go_wp2_with fail
  refine Calls.mono K.out ?_
  rintro e w' ⟨p, f, rfl, rfl, h1, h2, h3, h4⟩
  have H : Hid ((∀ j, j < p → ids j < t) ∧ (∀ j, p ≤ j → j < n → t ≤ ids j) ∧ (f = true ↔ (p < n ∧ ids p = t))) := ⟨h2, h3, h4⟩
  clear h2 h3 h4 K
  go_wp2
  go_ret2
  exact ⟨p, f, rfl, rfl, h1, H.out⟩

/-- The plain search. -/
theorem found_iff {w : World} {a : Option Addr} {n : Nat} {bs ids : Nat → Nat} (R : Row w a n bs ids) {t p : Nat} {f : Bool} (h2 : ∀ j, j < p → ids j < t) (h3 : ∀ j, p ≤ j → j < n → t ≤ ids j) (h4 : f = true ↔ (p < n ∧ ids p = t)) (k : Nat) (hk : k < n) (he : ids k = t) : p = k ∧ f = true := by
  have e : p = k := by
    rcases Nat.lt_trichotomy p k with h | h | h
    · have := R.mono p k h hk
      have := h3 p (Nat.le_refl _) (by omega)
      omega
    · exact h
    · have := h2 k h
      omega
  subst e
  exact ⟨rfl, h4.2 ⟨hk, he⟩⟩

theorem lookup_nil (t : Nat) (w : World) :
    Calls Yba.prog 6 #[.pointer none, .int .u8 t] w fun e w' => e = .returned (.pointer none) ∧ w' = w := by
  go_enter Yba.func6, Yba.ntmps6
  go_wp2
  go_ret
  exact ⟨rfl, rfl⟩

set_option maxHeartbeats 800000 in
set_option maxRecDepth 100000 in
/-- The RAB is there, at place k. -/
theorem lookup_hit (C : Nat) (a : Option Addr) (n cap : Nat) (bs ids : Nat → Nat) (k : Nat) (hk : k < n) (w : World) (hC : w.cell? ⟨C, 1, none⟩ = some (.slice a n cap)) (R : Row w a n bs ids) :
    Calls Yba.prog 6 #[.pointer (some ⟨C, 0, none⟩), .int .u8 (ids k)] w fun e w' => e = .returned (.pointer (some ⟨bs k, 0, none⟩)) ∧ w' = w := by
  have K : Hid _ := find_any C a n cap bs ids (ids k) (R.lt k hk) w hC R
  obtain ⟨G, rfl, hp⟩ := R.ptr k hk
  have HR : Hid _ := R
  have hn := R.few
  clear R
  go_enter Yba.func6, Yba.ntmps6
  go_wp2_with fail
  refine Calls.mono K.out ?_
  rintro e w' ⟨p, f, rfl, rfl, h1, h2, h3, h4⟩
  obtain ⟨rfl, rfl⟩ := found_iff HR.out h2 h3 h4 k hk rfl
  clear h2 h3 h4 K
  go_wp2
  go_ret
  exact ⟨rfl, rfl⟩

set_option maxHeartbeats 800000 in
set_option maxRecDepth 100000 in
theorem lookup_miss (C : Nat) (a : Option Addr) (n cap : Nat) (bs ids : Nat → Nat) (t : Nat) (ht : t < 256) (hno : ∀ j, j < n → ids j ≠ t) (w : World) (hC : w.cell? ⟨C, 1, none⟩ = some (.slice a n cap)) (R : Row w a n bs ids) :
    Calls Yba.prog 6 #[.pointer (some ⟨C, 0, none⟩), .int .u8 t] w fun e w' => e = .returned (.pointer none) ∧ w' = w := by
  have K : Hid _ := find_any C a n cap bs ids t ht w hC R
  have HN : Hid _ := hno
  clear hno R
  go_enter Yba.func6, Yba.ntmps6
  go_wp2_with fail
  refine Calls.mono K.out ?_
  rintro e w' ⟨p, f, rfl, rfl, h1, h2, h3, h4⟩
  have hf : f = false := by
    cases f
    · rfl
    · have := h4.1 rfl; exact absurd this.2 (HN.out p this.1)
  subst hf
  clear h2 h3 h4 K
  go_wp2
  go_ret
  exact ⟨rfl, rfl⟩
end Go.Proofs.Ybulkadfe
