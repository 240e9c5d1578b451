import Derived.Test.YbulkacxcDoorAgrees
import Derived.Test.YbulkacxcDoorTie
import Derived.Test.YbulkacxcDoorCards
import Derived.ChangeOld
import Derived.Carry
namespace Go.Proofs.YbulkacxcDoor
open Go.ChangeShapes Go.WideShapes Go.ChangeAt Go.WideMaps Go.WideElems Go.RowKit

/-- A slice of bytes that came in, opened: what the walks are told of it. -/
theorem src_of {H : Type} {enc : TypeId × Value → H} {W : World} {base : Nat} {a0 : Option Addr} {len cap fuel : Nat} {x : DataW H × List MemPlace} {held : Bool}
    (hf : DataW.trod enc Ybad.prog W base (fun _ => true) held fuel 22 (Value.slice a0 len cap).cells.toList = some x) :
    ∃ zs : List Int, len = zs.length ∧ Src W a0 zs ∧ (a0 = none → cap = 0) := by
  rcases open_ints Ybad.underlying22 Ybad.underlying5 (by kernel_rfl) hf with ⟨hcs, _⟩ | ⟨a, l, c, zs, hcs, _, hl, hm, hz, _, hcell, hwz⟩
  · simp [Value.cells] at hcs
    obtain ⟨rfl, rfl, rfl⟩ := hcs
    exact ⟨[], rfl, ⟨fun _ => rfl, fun i hi => absurd hi (Nat.not_lt_zero _), fun z hz => by cases hz⟩, fun _ => rfl⟩
  · simp [Value.cells] at hcs
    obtain ⟨rfl, rfl, rfl⟩ := hcs
    have hz' : zs.length = cap := by simpa using hz
    refine ⟨zs.take len, by rw [List.length_take]; omega, ⟨(fun h => by cases h), fun i hi => ?_, fun z hz => ?_⟩, (fun h => by cases h)⟩
    · rw [List.length_take] at hi
      obtain ⟨b, off, spot⟩ := a
      have h0 := hcell i (by omega)
      have hspot : spot = none := by
        have h := World.cell?_spot (hcell 0 (by omega))
        simpa [Addr.add] using h
      subst hspot
      refine ⟨b, off, rfl, ?_⟩
      rw [add_plain] at h0
      rw [h0, List.getD_eq_getElem?_getD, List.getD_eq_getElem?_getD, List.getElem?_take, if_pos (by omega)]
    · exact bounds_u8 (hwz z (List.mem_of_mem_take hz))

namespace lawS1445CAgrees
set_option maxRecDepth 100000 in
theorem lifted (os : Os) (started : os.Started) (H : Type) (enc : TypeId × Value → H) :
    ReturnsInHanded {} Ybad.checked os 5 .any (fun w args => (Rows.lawS1445CAgreesSpec.pre enc Ybad.prog Ybad.f5 [] false w args ∧ laidMetH Ybad.prog laid3 w) ∧ sizedMet enc Ybad.prog Ybad.f5 (OpenSpec.ofChange Rows.lawS1445CAgreesSpec) false w args)
      (Rows.lawS1445CAgreesSpec.post enc Ybad.prog Ybad.f5 false true false false) := by
  refine returnsInHanded_of_change_and (C := Ybad.checked) (X := fun w _ => laidMetH Ybad.prog laid3 w) (fun _ _ _ hh h => h.of_heap hh) own started (by kernel_rfl) Ybad.func5
    (ChangeSpec.witness_shaped (enc := enc) (C := Ybad.checked) (os := os) (X := fun w _ => laidMetH Ybad.prog laid3 w) false ({ World.holding Ybad.prog os ⟨#[.cells #[.bool false, .string ByteArray.empty] 82, .cells #[.bool true, .string ByteArray.empty] 82], #[], []⟩ with
      heap := ((World.holding Ybad.prog os ⟨#[.cells #[.bool false, .string ByteArray.empty] 82, .cells #[.bool true, .string ByteArray.empty] 82], #[], []⟩).heap.modify 2 fun
        | .cells _ t frozen => .cells #[.pointer (some ⟨9, 0, none⟩)] t frozen
        | o => o).modify 3 fun
        | .cells _ t frozen => .cells #[.pointer (some ⟨10, 0, none⟩)] t frozen
        | o => o } : World) #[.slice none 0 0, .slice none 0 0] 8 rfl (World.shaped_of_RefB (by kernel_rfl) (by kernel_rfl)) (by kernel_rfl) (by kernel_rfl) (by kernel_rfl) (start_met os _)) ?_
  intro W base args ds gs before hval0 hW _ _ hL _
  have hval : ∀ (j : Nat) t v, Ybad.f5.params[j]? = some t → args[j]? = some v → Value.okWide Ybad.prog W .any base t v := hval0
  have hW' := hW
  obtain ⟨p, q, hA0, hV, rfl, hfz, hnd⟩ := hW
  have hA : DataW.TrodAll enc Ybad.prog W 0 (fun _ => true) true Ybad.f5.params.toList args.toList ds p := hA0
  rw [Ybad.params5] at hA hval
  obtain ⟨v0, vs0, d0, ds0, p0, q0, hargs, rfl, rfl, h0, r0⟩ := trodAll_cons hA
  obtain ⟨v1, vs1, d1, ds1, p1, q1, rfl, rfl, rfl, h1, r1⟩ := trodAll_cons r0
  obtain ⟨rfl, rfl, rfl⟩ := trodAll_nil r1
  obtain rfl : args = #[v0, v1] := by cases args; simp_all
  obtain ⟨rfl, rfl⟩ := trodVars_none hV
  obtain ⟨a4, a6, Z⟩ := of_laid hL
  obtain ⟨a0, len0, cap0, rfl⟩ := okWide_slice Ybad.underlying22 (hval 0 22 v0 rfl rfl)
  obtain ⟨a1, len1, cap1, rfl⟩ := okWide_slice Ybad.underlying22 (hval 1 22 v1 rfl rfl)
  have k0 := h0
  have k1 := h1
  have lt0 : ∀ x ∈ p0, x.block < W.heap.size := by obtain ⟨m, hm⟩ := k0; exact DataW.trod_lt m _ _ _ hm
  have lt1 : ∀ x ∈ p1, x.block < W.heap.size := by obtain ⟨m, hm⟩ := k1; exact DataW.trod_lt m _ _ _ hm
  obtain ⟨fuel0, hf0⟩ := h0
  obtain ⟨fuel1, hf1⟩ := h1
  obtain ⟨xs, rfl, hs0, hc0⟩ := src_of hf0
  obtain ⟨ys, rfl, hs1, hc1⟩ := src_of hf1
  clear hA0 hval0
  refine (agrees_walk a0 a1 xs ys cap0 cap1 hc0 hc1 a4 W hs0 hs1 Z.z0 Z.z4).mono fun e W' ⟨he, bel⟩ => ?_
  subst he
  exact ⟨_, rfl, _, _, _, [], _, [], hW', trodAll_mk1 (shut_bool Ybad.underlying4 _), (trodAll_cons_mk (Below.trod laidOut (by kernel_rfl) (of_decide_eq_true (by kernel_rfl)) k0 bel lt0) (trodAll_cons_mk (Below.trod laidOut (by kernel_rfl) (of_decide_eq_true (by kernel_rfl)) k1 bel lt1) trodAll_mk0)), rfl, bel.frame _, fun h => by cases h⟩

theorem holds : Rows.LawS1445CAgreesSaid :=
  OpenClaim.holds_of_wide 5 Ybad.f5 rfl rfl rfl rfl rfl rfl rfl ⟨rfl, rfl, rfl, rfl, rfl⟩ rfl rfl rfl rfl rfl (by kernel_rfl) Ybad.func5 (by kernel_rfl)
    (of_decide_eq_true (by kernel_rfl)) (by unfold Func.isWrapper; first | (rw [if_pos (by decide +kernel)]; kernel_rfl) | (rw [if_neg (by decide +kernel)]; exact ⟨rfl, rfl⟩))
    (fun os started H enc _ => lifted os started H enc)

theorem proved : Rows.LawS1445CAgreesCardSaid :=
  Claim7.holds_tied_plain_at .later [] [.called, .called, .zero] true Rows.lawS1445CAgreesCard.stood.harness false
    holds (fun _ h => by cases h) (by kernel_rfl) (fun _ h => by cases h) lawS1445CAgrees_row_tie rfl ⟨rfl, rfl⟩ (by kernel_rfl) rfl
    (fun f fn hf hfn => by
      obtain rfl : f = 5 := Option.some.inj ((show Ybad.prog.funcNamed Rows.lawS1445CAgreesRow.func = some 5 by kernel_rfl).symm.trans hf) |>.symm
      obtain rfl : fn = Ybad.f5 := (Option.some.inj (Ybad.func5.symm.trans hfn)).symm
      exact ⟨by kernel_rfl, fun j t ht => by
        rw [Ybad.params5] at ht
        have hm : t ∈ [22, 22] := by simpa using Array.mem_of_getElem? ht
        have hall : ([22, 22].all fun u => !Ybad.prog.wantsStandIn u) = true := by kernel_rfl
        exact (show Ybad.prog.wantsStandIn t = false by simpa using List.all_eq_true.1 hall t hm)⟩)
    (by kernel_rfl)
end lawS1445CAgrees
end Go.Proofs.YbulkacxcDoor
