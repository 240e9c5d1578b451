import Derived.Test.YbulkacxcDoorSum
import Derived.Test.YbulkacxcDoorBuild
namespace Go.Proofs.YbulkacxcDoor
open Go.RowKit

theorem and16 (q : Int) (h0 : 0 ≤ q) (h1 : q < 18446744073709551616) : bits .and .u64 q 65535 = q % 65536 :=
  bits_mask .u64 64 (by decide) wraps_u64 16 (by decide) q h0 (by omega)

theorem fold_num (q : Int) (h0 : 0 ≤ q) (h1 : q < 9223372036854775808) : IntKind.u64.wrap (q / 65536 + bits BinOp.and IntKind.u64 q 65535) = q / 65536 + q % 65536 := by
  rw [and16 q h0 (by omega), u64_wrap_id _ (by omega) (by omega)]

theorem below_drewN {B : Nat} {a w : World} (h : Below B a w) (n : Nat) : Below B a (w.drewN n) := h.trans ⟨rfl, rfl, rfl, Nat.le_refl _, fun _ _ => rfl⟩

set_option maxHeartbeats 400000 in
set_option maxRecDepth 100000 in
theorem fold_any (s : Int) (h0 : 0 ≤ s) (h1 : s < 9223372036854775808) (w : World) :
    Calls Ybad.prog 8 #[.int .u64 s] w fun e w' => e = .returned (.int .u64 (fold16 s)) ∧ w' = w := by
  go_enter Ybad.func8, Ybad.ntmps8
  go_wp2
  go_loop [0] (fun t => ∃ q : Int, 0 ≤ q ∧ q ≤ s ∧ t = .int .u64 q ∧ Hid (fold16 q = fold16 s)) (fun t => (intOf t).toNat)
  case atStart => exact ⟨s, h0, Int.le_refl _, rfl, rfl⟩
  case round =>
    obtain ⟨q, hq0, hq1, rfl, hq⟩ := hrel
    by_cases hlt : 65535 < q
    · go_wp2
      have e := fold_num q hq0 (by omega)
      go_round
      case rel => exact ⟨q / 65536 + q % 65536, by omega, by omega, by rw [e], (fold16_step q hlt).trans hq.out⟩
      case measure => rw [e]; simp [intOf]; omega
    · go_wp2
      go_ret
      refine ⟨?_, rfl⟩
      rw [← hq.out, fold16_small q hq0 (by omega)]
      rfl

theorem xor16_nat (q : Nat) (h : q < 65536) : 65535 ^^^ q = 65535 - q := by
  apply Nat.eq_of_testBit_eq
  intro i
  have h1 := Nat.testBit_two_pow_sub_succ (x := q) (n := 16) (by omega) i
  have h2 := Nat.testBit_two_pow_sub_one 16 i
  rw [Nat.testBit_xor, show (65535 : Nat) = 2 ^ 16 - 1 from rfl, h2, show 2 ^ 16 - 1 - q = 2 ^ 16 - (q + 1) from by omega, h1]
  by_cases hi : i < 16
  · simp [hi]
  · have : q.testBit i = false := Nat.testBit_lt_two_pow (Nat.lt_of_lt_of_le h (Nat.pow_le_pow_right (show 0 < 2 by decide) (show 16 ≤ i by omega)))
    simp [hi, this]

theorem xor16 (q : Int) (h0 : 0 ≤ q) (h1 : q ≤ 65535) : bits BinOp.xor IntKind.u16 IntKind.u16.max q = 65535 - q := by
  obtain ⟨n, rfl⟩ := Int.eq_ofNat_of_zero_le h0
  have h := u16_xor_nat 65535 n (by omega) (by omega)
  rw [xor16_nat n (by omega)] at h
  rw [show IntKind.u16.max = ((65535 : Nat) : Int) from by decide, h]
  omega

set_option maxHeartbeats 400000 in
set_option maxRecDepth 100000 in
theorem checksum_any (s : Int) (h0 : 0 ≤ s) (h1 : s < 9223372036854775808) (w : World) :
    Calls Ybad.prog 19 #[.int .u64 s] w fun e w' => e = .returned (.int .u16 (65535 - fold16 s)) ∧ w' = w := by
  go_enter Ybad.func19, Ybad.ntmps19
  go_wp2
  go_loop [0] (fun t => ∃ q : Int, 0 ≤ q ∧ q ≤ s ∧ t = .int .u64 q ∧ Hid (fold16 q = fold16 s)) (fun t => (intOf t).toNat)
  case atStart => exact ⟨s, h0, Int.le_refl _, rfl, rfl⟩
  case round =>
    obtain ⟨q, hq0, hq1, rfl, hq⟩ := hrel
    by_cases hlt : 65535 < q
    · go_wp2
      have e := fold_num q hq0 (by omega)
      go_round
      case rel => exact ⟨q / 65536 + q % 65536, by omega, by omega, by rw [e], (fold16_step q hlt).trans hq.out⟩
      case measure => rw [e]; simp [intOf]; omega
    · go_wp2
      go_ret
      refine ⟨?_, rfl⟩
      rw [← hq.out, fold16_small q hq0 (by omega)]
      show Ending.returned (Value.int IntKind.u16 (bits BinOp.xor IntKind.u16 IntKind.u16.max q)) = _
      rw [xor16 q hq0 (by omega)]

set_option maxHeartbeats 400000 in
set_option maxRecDepth 100000 in
theorem bsum_any (a : Option Addr) (zs : List Int) (c : Nat) (s : Int) (hn : zs.length ≤ 4096) (h0 : 0 ≤ s) (h1 : s ≤ 1000000000000) (w : World) (hs : Src w a zs) :
    Calls Ybad.prog 9 #[.slice a zs.length c, .int .u64 s] w fun e w' => e = .returned (.int .u64 (s + wsTo zs zs.length)) ∧ w' = w := by
  go_enter Ybad.func9, Ybad.ntmps9
  go_wp2
  go_loop [1, 5] (fun t i => ∃ k : Nat, k ≤ zs.length ∧ i = .int .i64 k ∧ t = .int .u64 (s + wsTo zs k)) (fun _ i => zs.length - (intOf i).toNat)
  case atStart => exact ⟨0, Nat.zero_le _, rfl, by simp [wsTo]⟩
  case round =>
    obtain ⟨k, hk, rfl, rfl⟩ := hrel
    have hb := wsTo_bd zs hs.byte k
    by_cases hlt : k < zs.length
    · obtain ⟨b, off, rfl, hcell⟩ := hs.cell k hlt
      have hbyte := hs.at k hlt
      generalize hX : zs.getD k 0 = X at hcell hbyte
      have HX : Hid (zs.getD k 0 = X) := hX
      clear hX
      have hki : (k : Int) < (zs.length : Int) := by omega
      by_cases hp : k % 2 = 0
      · have hq : ((k : Int) % 2 == 0) = true := by simp; omega
        have HW : Hid (wsTo zs (k + 1) = wsTo zs k + X * 256) := by have := wsTo_even zs k hp; rw [HX.out] at this; exact this
        generalize hV : wsTo zs k = V at hb
        have HV : Hid (wsTo zs k = V) := hV
        clear hp hV
        go_wp2
        go_round
        case rel => exact ⟨k + 1, by omega, by go_num, by rw [HW.out, HV.out]; congr 1; omega⟩
        case measure => simp [intOf]; omega
      · have hq : ((k : Int) % 2 == 0) = false := by simp; omega
        have HW : Hid (wsTo zs (k + 1) = wsTo zs k + X) := by have := wsTo_odd zs k hp; rw [HX.out] at this; exact this
        generalize hV : wsTo zs k = V at hb
        have HV : Hid (wsTo zs k = V) := hV
        clear hp hV
        go_wp2
        go_round
        case rel => exact ⟨k + 1, by omega, by go_num, by rw [HW.out, HV.out]; congr 1; omega⟩
        case measure => simp [intOf]; omega
    · go_wp2
      go_ret
      have hkn : k = zs.length := by omega
      subst hkn
      exact ⟨rfl, rfl⟩

set_option maxHeartbeats 400000 in
set_option maxRecDepth 100000 in
theorem uint16_any (b off n c : Nat) (x y : Int) (hx : 0 ≤ x ∧ x ≤ 255) (hy : 0 ≤ y ∧ y ≤ 255) (hn : 2 ≤ n) (w : World) (h0 : w.cell? ⟨b, off, none⟩ = some (.int .u8 x)) (h1 : w.cell? ⟨b, off + 1, none⟩ = some (.int .u8 y)) :
    Calls Ybad.prog 23 #[.agg #[], .slice (some ⟨b, off, none⟩) n c] w fun e w' => e = .returned (.int .u16 (x * 256 + y)) ∧ Below w.heap.size w w' := by
  have c0 := cold1 h0
  have c1 := cold1 h1
  have hni : (1 : Int) < (n : Int) := by omega
  have hn0 : 0 < n := by omega
  go_enter Ybad.func23, Ybad.ntmps23
  go_wp2
  go_quiet (fail)
  go_wp2
  go_ret
  refine ⟨?_, below_drewN ((Below.refl _ w).alloc (Nat.le_refl _) _) nq⟩
  show Ending.returned (Value.int IntKind.u16 (bits BinOp.or IntKind.u16 y (x * 256))) = _
  rw [u16_or8 y (x * 256) hy.1 (by omega) (by omega) (by omega) (by omega), Int.add_comm]

set_option maxHeartbeats 800000 in
set_option maxRecDepth 100000 in
theorem addWords_any (a : Option Addr) (zs : List Int) (c : Nat) (s : Int) (hn : zs.length ≤ 4096) (hc : zs.length ≤ c) (hc2 : c ≤ 4096) (h0 : 0 ≤ s) (h1 : s ≤ 1000000000000) (w : World) (hs : Src w a zs) :
    Calls Ybad.prog 17 #[.int .u64 s, .slice a zs.length c] w fun e w' => e = .returned (.int .u64 (s + wsTo zs zs.length)) ∧ Below w.heap.size w w' := by
  go_enter Ybad.func17, Ybad.ntmps17
  go_wp2
  go_loopw [0, 5] (fun t i wr => ∃ k : Nat, k ≤ zs.length ∧ k % 2 = 0 ∧ i = .int .i64 k ∧ t = .int .u64 (s + wsTo zs k) ∧ Below w.heap.size w wr) (fun _ i _ => zs.length - (intOf i).toNat)
  case atStart => exact ⟨0, Nat.zero_le _, rfl, rfl, by simp [wsTo], Below.refl _ _⟩
  case round =>
    obtain ⟨k, hk, hk2, rfl, rfl, hbw⟩ := hrel
    have hb := wsTo_bd zs hs.byte k
    by_cases hlt : k + 1 < zs.length
    · obtain ⟨b, off, rfl, hcell⟩ := hs.cell k (by omega)
      obtain ⟨b', off', e', hcell'⟩ := hs.cell (k + 1) hlt
      simp only [Option.some.injEq, Addr.mk.injEq, and_true] at e'
      obtain ⟨rfl, rfl⟩ := e'
      have hX := hs.at k (by omega)
      have hY := hs.at (k + 1) hlt
      have HW : Hid (wsTo zs (k + 2) = wsTo zs k + (zs.getD k 0 * 256 + zs.getD (k + 1) 0)) := wsTo_two zs k hk2
      generalize hXe : zs.getD k 0 = X at hcell hX HW
      generalize hYe : zs.getD (k + 1) 0 = Y at hcell' hY HW
      generalize hV : wsTo zs k = V at hb HW
      have d0 := cell_later hbw hcell
      have d1 := cell_later hbw hcell'
      have HV : Hid (wsTo zs k = V) := hV
      have HK : Hid (k % 2 = 0) := hk2
      clear hV hXe hYe hcell hcell' hk2
      have hki : (k : Int) + 1 < (zs.length : Int) := by omega
      have hck : ¬ c = k := by omega
      go_wp2_with fail
      go_region_with (go_at_call 23; refine (uint16_any b (off + k) _ _ X Y hX hY (by omega) _ (by exact d0) (by exact d1)).mono ?_; rintro e w2 ⟨rfl, hb2⟩)
      have bel : Below w.heap.size w w2 := hbw.trans ((Below.refl _ wr).drew.trans hb2 |>.mono hbw.size)
      clear hb2 d0 d1
      go_wp2
      go_roundw
      case rel => exact ⟨k + 2, by omega, by have := HK.out; omega, by go_num, by rw [HW.out]; congr 1; omega, bel⟩
      case measure => simp [intOf]; omega
    · by_cases hodd : zs.length % 2 = 1
      · have hkl : k = zs.length - 1 := by omega
        obtain ⟨b, off, rfl, hcell⟩ := hs.cell k (by omega)
        have hX := hs.at k (by omega)
        have HW : Hid (wsTo zs zs.length = wsTo zs k + zs.getD k 0 * 256) := by
          have := wsTo_even zs k hk2
          rw [show k + 1 = zs.length from by omega] at this
          exact this
        generalize hXe : zs.getD k 0 = X at hcell hX HW
        generalize hV : wsTo zs k = V at hb HW
        have d0 := cell_later hbw hcell
        rw [hkl] at d0
        have hq : ((zs.length : Int) % 2 == 1) = true := by simp; omega
        have HK : Hid (k = zs.length - 1) := hkl
        clear hV hXe hcell hk2 hkl
        go_wp2
        go_ret
        refine ⟨?_, hbw⟩
        rw [HW.out]
        show Ending.returned (Value.int IntKind.u64 (s + V + X * 256)) = _
        congr 2
        omega
      · have hkl : k = zs.length := by omega
        have hq : ((zs.length : Int) % 2 == 1) = false := by simp; omega
        have HK : Hid (k = zs.length) := hkl
        clear hkl hk2
        go_wp2
        go_ret
        refine ⟨?_, hbw⟩
        rw [← HK.out]
        rfl
end Go.Proofs.YbulkacxcDoor
