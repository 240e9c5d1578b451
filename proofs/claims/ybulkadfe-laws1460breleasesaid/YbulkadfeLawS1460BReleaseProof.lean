/-
  THE PROOF OF 'Rows.LawS1460BReleaseSaid', in the frame that the guide's proof-skeleton tool writes, turned by hand to this function's eight parameters (the tool does not serve slices of bool).
-/
import Derived.Test.YbulkadfeRows
import Derived.WalkKit
import Derived.ProofKit
import Derived.OpenShut
import Derived.Test.YbulkadfeLaw
import Derived.Deep.Grids
import Derived.ChangeOld
import Derived.Below
namespace Go.Proofs.Ybulkadfe.lawS1460BRelease
open Go.ChangeShapes Go.WideShapes Go.ChangeAt Go.RowKit
set_option linter.unusedVariables false

theorem own : ownKnob Yba.prog.godebug = none := by kernel_rfl
theorem laidOut : laidOutB Yba.prog = true := by kernel_rfl

theorem plain_of {w : World} {x : Addr} {v : Value} (h : w.cell? (x.add 0) = some v) : ∃ b off, x = ⟨b, off, none⟩ := by
  obtain ⟨b, off, spot⟩ := x
  have h := World.cell?_spot h
  have e : spot = none := by simpa [Addr.add] using h
  subst e
  exact ⟨b, off, rfl⟩

/-- The slice of bytes that came in. -/
theorem src_of {w : World} {x : Addr} {len cap : Nat} {zs : List Int} (hl : len ≤ cap) (hz : zs.length = cap) (hcell : ∀ i, i < zs.length → w.cell? (x.add i) = some (.int .u8 (zs.getD i 0))) (hwz : ∀ n ∈ zs, (Lit.int .u8 n).wf = true) :
    Src w (some x) len (fun i => (zs.getD i 0).toNat) := by
  have bd : ∀ i, i < zs.length → 0 ≤ zs.getD i 0 ∧ zs.getD i 0 ≤ 255 := fun i hi => bounds_u8 (hwz _ (by rw [List.getD_eq_getElem?_getD, List.getElem?_eq_getElem hi]; simp))
  refine ⟨fun i hi => ?_, fun i hi => by have := bd i (by omega); omega⟩
  obtain ⟨b, off, rfl⟩ := plain_of (hcell 0 (by omega))
  refine ⟨b, off, rfl, ?_⟩
  have h := hcell i (by omega)
  rw [add_plain] at h
  rw [h, Int.toNat_of_nonneg (bd i (by omega)).1]

theorem srcB_of {w : World} {x : Addr} {len cap : Nat} {B : Nat → Bool} (hl : len ≤ cap) (hcell : ∀ i, i < cap → w.cell? (x.add i) = some (.bool (B i))) : SrcB w (some x) len B := by
  refine ⟨fun i hi => ?_⟩
  obtain ⟨b, off, rfl⟩ := plain_of (hcell 0 (by omega))
  refine ⟨b, off, rfl, ?_⟩
  have h := hcell i (by omega)
  rw [add_plain] at h
  exact h

theorem bounds_u64 {n : Int} (h : (Lit.int .u64 n).wf = true) : 0 ≤ n ∧ n < 18446744073709551616 := by
  simp [Lit.wf, IntKind.min, IntKind.max, IntKind.signed, IntKind.bits] at h
  omega

/-! ### STEP 1: THE WALK (YbulkadfeLaw.lean): the Go text returns true; of what was there nothing has turned ('Below'). -/
theorem walk (a0 a1 : Option Addr) (l0 l1 c0 c1 : Nat) (f : Nat → Nat) (g : Nat → Bool) (id named u1 u2 : Int) (sup nilc : Bool) (w : World) (S : Src w a0 l0 f) (SB : SrcB w a1 l1 g) (w2 : (Lit.int .u8 id).wf = true) (w6 : (Lit.int .u64 u1).wf = true) (w7 : (Lit.int .u64 u2).wf = true) :
    Calls Yba.prog 3 #[.slice a0 l0 c0, .slice a1 l1 c1, .int .u8 id, .int .i64 named, .bool sup, .bool nilc, .int .u64 u1, .int .u64 u2] w fun e w' => e = .returned (.bool true) ∧ Below w.heap.size w w' := by
  have hb := bounds_u8 w2
  obtain ⟨i, rfl⟩ : ∃ i : Nat, id = (i : Int) := ⟨id.toNat, by omega⟩
  exact law_walk a0 a1 l0 l1 c0 c1 f g i (by omega) named sup nilc u1 u2 (bounds_u64 w6) (bounds_u64 w7) w S SB

/-! ### THE ROW's STEP -/
set_option maxRecDepth 100000 in
theorem lifted (os : Os) (started : os.Started) (H : Type) (enc : TypeId × Value → H) :
    ReturnsInHanded {} Yba.checked os 3 .any (Rows.lawS1460BReleaseSpec.pre6 enc Yba.prog Yba.f3 Rows.lawS1460BReleaseRow.domain false) (Rows.lawS1460BReleaseSpec.post enc Yba.prog Yba.f3 false true false false) := by
  refine returnsInHanded_of_change (C := Yba.checked) own started (by kernel_rfl) Yba.func3
    (ChangeSpec.witness6 (enc := enc) (C := Yba.checked) false ⟨#[], #[.slice none 0 0, .slice none 0 0, .int .u8 0, .int .i64 0, .bool false, .bool false, .int .u64 0, .int .u64 0], []⟩ 8 (by kernel_rfl) (by kernel_rfl) (by kernel_rfl) (by kernel_rfl)) ?_
  intro W base args ds gs before hval0 hW hcnd _
  have hval : ∀ (j : Nat) t v, Yba.f3.params[j]? = some t → args[j]? = some v → Value.okWide Yba.prog W .any base t v := hval0
  have hW' := hW
  obtain ⟨p, q, hA0, hV, rfl, hfz, hnd⟩ := hW
  have hA : DataW.TrodAll enc Yba.prog W 0 (fun _ => true) true Yba.f3.params.toList args.toList ds p := hA0
  rw [Yba.params3] at hA hval
  obtain ⟨v0, vs0, d0, ds0, p0, q0, hargs, rfl, rfl, h0, r0⟩ := trodAll_cons hA
  obtain ⟨v1, vs1, d1, ds1, p1, q1, rfl, rfl, rfl, h1, r1⟩ := trodAll_cons r0
  obtain ⟨v2, vs2, d2, ds2, p2, q2, rfl, rfl, rfl, h2, r2⟩ := trodAll_cons r1
  obtain ⟨v3, vs3, d3, ds3, p3, q3, rfl, rfl, rfl, h3, r3⟩ := trodAll_cons r2
  obtain ⟨v4, vs4, d4, ds4, p4, q4, rfl, rfl, rfl, h4, r4⟩ := trodAll_cons r3
  obtain ⟨v5, vs5, d5, ds5, p5, q5, rfl, rfl, rfl, h5, r5⟩ := trodAll_cons r4
  obtain ⟨v6, vs6, d6, ds6, p6, q6, rfl, rfl, rfl, h6, r6⟩ := trodAll_cons r5
  obtain ⟨v7, vs7, d7, ds7, p7, q7, rfl, rfl, rfl, h7, r7⟩ := trodAll_cons r6
  obtain ⟨rfl, rfl, rfl⟩ := trodAll_nil r7
  obtain rfl : args = #[v0, v1, v2, v3, v4, v5, v6, v7] := by cases args; simp_all
  obtain ⟨rfl, rfl⟩ := trodVars_none hV
  obtain ⟨a0, l0, c0, rfl⟩ := okWide_slice Yba.underlying22 (hval 0 22 v0 rfl rfl)
  obtain ⟨a1, l1, c1, rfl⟩ := okWide_slice Yba.underlying23 (hval 1 23 v1 rfl rfl)
  have k0 := h0
  have k1 := h1
  have lt0 : ∀ x ∈ p0, x.block < W.heap.size := by obtain ⟨m, hm⟩ := k0; exact DataW.trod_lt m _ _ _ hm
  have lt1 : ∀ x ∈ p1, x.block < W.heap.size := by obtain ⟨m, hm⟩ := k1; exact DataW.trod_lt m _ _ _ hm
  obtain ⟨f, w0⟩ : ∃ f, Src W a0 l0 f := by
    obtain ⟨fuel, hf⟩ := h0
    rcases open_ints Yba.underlying22 Yba.underlying5 (by kernel_rfl) hf with ⟨hcs, _⟩ | ⟨x, l, c, zs, hcs, _, hl, hm, hz, _, hcell, hwz⟩
    · simp [Value.cells] at hcs
      obtain ⟨rfl, rfl, rfl⟩ := hcs
      exact ⟨fun _ => 0, fun i hi => absurd hi (Nat.not_lt_zero _), fun i hi => absurd hi (Nat.not_lt_zero _)⟩
    · simp [Value.cells] at hcs
      obtain ⟨rfl, rfl, rfl⟩ := hcs
      exact ⟨_, src_of hl (by simpa using hz) hcell hwz⟩
  obtain ⟨g, w1⟩ : ∃ g, SrcB W a1 l1 g := by
    obtain ⟨fuel, hf⟩ := h1
    rcases Go.Deep.open_bools Yba.underlying23 Yba.underlying4 (by kernel_rfl) hf with ⟨hcs, _⟩ | ⟨x, l, c, B, hcs, _, hl, hm, _, hcell⟩
    · simp [Value.cells] at hcs
      obtain ⟨rfl, rfl, rfl⟩ := hcs
      exact ⟨fun _ => false, ⟨fun i hi => absurd hi (Nat.not_lt_zero _)⟩⟩
    · simp [Value.cells] at hcs
      obtain ⟨rfl, rfl, rfl⟩ := hcs
      exact ⟨_, srcB_of hl hcell⟩
  obtain ⟨a2, rfl, rfl, rfl, w2⟩ := open_int Yba.underlying5 (hval 2 5 v2 rfl rfl) h2
  obtain ⟨a3, rfl, rfl, rfl, w3⟩ := open_int Yba.underlying3 (hval 3 3 v3 rfl rfl) h3
  obtain ⟨a4, rfl, rfl, rfl⟩ := open_bool Yba.underlying4 (hval 4 4 v4 rfl rfl) h4
  obtain ⟨a5, rfl, rfl, rfl⟩ := open_bool Yba.underlying4 (hval 5 4 v5 rfl rfl) h5
  obtain ⟨a6, rfl, rfl, rfl, w6⟩ := open_int Yba.underlying24 (hval 6 24 v6 rfl rfl) h6
  obtain ⟨a7, rfl, rfl, rfl, w7⟩ := open_int Yba.underlying24 (hval 7 24 v7 rfl rfl) h7
  clear hA0 hval0
  refine (walk a0 a1 l0 l1 c0 c1 f g a2 a3 a6 a7 a4 a5 W w0 w1 w2 w6 w7).mono fun e W' ⟨he, bel⟩ => ?_
  subst he
  exact ⟨_, rfl, _, _, _, [], _, [], hW', trodAll_mk1 (shut_bool Yba.underlying4 _), (trodAll_cons_mk (Below.trod laidOut (by kernel_rfl) (of_decide_eq_true (by kernel_rfl)) k0 bel lt0) (trodAll_cons_mk (Below.trod laidOut (by kernel_rfl) (of_decide_eq_true (by kernel_rfl)) k1 bel lt1) (trodAll_cons_mk (shut_int Yba.underlying5 w2) (trodAll_cons_mk (shut_int Yba.underlying3 w3) (trodAll_cons_mk (shut_bool Yba.underlying4 _) (trodAll_cons_mk (shut_bool Yba.underlying4 _) (trodAll_cons_mk (shut_int Yba.underlying24 w6) (trodAll_cons_mk (shut_int Yba.underlying24 w7) trodAll_mk0)))))))), rfl, bel.frame _, fun h => by cases h⟩

theorem over : Rows.lawS1460BReleaseRow.holds Yba.pinned (OpenSpec.ofChange Rows.lawS1460BReleaseSpec) :=
  OpenClaim.holds_of_wide 3 Yba.f3 rfl rfl rfl rfl rfl rfl rfl ⟨rfl, rfl, rfl, rfl, rfl⟩ rfl rfl rfl rfl rfl (by kernel_rfl) Yba.func3 (by kernel_rfl)
    (of_decide_eq_true (by kernel_rfl)) (by unfold Func.isWrapper; first | (rw [if_pos (by decide +kernel)]; kernel_rfl) | (rw [if_neg (by decide +kernel)]; exact ⟨rfl, rfl⟩))
    (fun os started H enc _ => lifted os started H enc)

/-- ████ THE STATEMENT ████ -/
theorem proved : Rows.LawS1460BReleaseSaid := over
end Go.Proofs.Ybulkadfe.lawS1460BRelease
