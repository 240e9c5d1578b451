import Derived.Test.YbulkacxcDoorEqual
namespace Go.Proofs.YbulkacxcDoor
open Go.RowKit

/-- What a walk is told of a slice of bytes that came in: its numbers zs. -/
structure Src (w : World) (a : Option Addr) (zs : List Int) : Prop where
  nil : a = none → zs = []
  cell : ∀ i, i < zs.length → ∃ b off, a = some ⟨b, off, none⟩ ∧ w.cell? ⟨b, off + i, none⟩ = some (.int .u8 (zs.getD i 0))
  byte : ∀ z ∈ zs, 0 ≤ z ∧ z ≤ 255

theorem Src.at {w : World} {a : Option Addr} {zs : List Int} (h : Src w a zs) (k : Nat) (hk : k < zs.length) : 0 ≤ zs.getD k 0 ∧ zs.getD k 0 ≤ 255 :=
  h.byte _ (by rw [List.getD_eq_getElem?_getD, List.getElem?_eq_getElem hk]; simp)

theorem Src.later {w w' : World} {a : Option Addr} {zs : List Int} (h : Src w a zs) (hb : Below w.heap.size w w') : Src w' a zs :=
  ⟨h.nil, fun i hi => by obtain ⟨b, off, h1, h2⟩ := h.cell i hi; exact ⟨b, off, h1, cell_later hb h2⟩, h.byte⟩

theorem info46 : (Ybad.prog.info? 46).map (fun i => (i.zero, i.size, i.bytes)) = some (some (.agg #[.int .u64 0, .int .u64 0, .pointer none, .int .u8 0]), 4, 32) := by kernel_rfl

theorem owned {w : World} {base g n : Nat} {xs : List Value} (h : w.ownsRow base 46 4 (.slice (some ⟨g, 0, none⟩) n n) n xs) :
    (∀ o, o < n * 4 → (w.cell? ⟨g, o, none⟩).isSome = true) ∧ (∀ o, w.frozen? ⟨g, o, none⟩ = false) ∧ g < w.heap.size := by
  rcases h.2 with ⟨h1, _⟩ | ⟨g', cap, cur, h1, _, hg, _, _, hs, _⟩
  · cases h1
  · simp only [Value.slice.injEq, Option.some.injEq, Addr.mk.injEq, and_true] at h1
    obtain ⟨rfl, _, rfl⟩ := h1
    refine ⟨fun o ho => ?_, fun o => ?_, (Array.getElem?_eq_some_iff.1 hg).1⟩
    · rw [cell_of_row w g o cur 46 (0, 0) hg]
      simp [hs, ho]
    · simp [World.frozen?, hg]

/-- A round of zzs1445cbuild's loop, seen from the row: element k is written. -/
theorem build_step {wr w2 : World} {G n k : Nat} {a4 : Addr} {zs : List Int} {Z : Int} (r4 : G < wr.heap.size) (hlt : k < n) (r1 : ∀ o, o < n * 4 → (wr.cell? ⟨G, o, none⟩).isSome = true) (r2 : ∀ o, wr.frozen? ⟨G, o, none⟩ = false)
    (r3 : ∀ j, j < k → PfxAt wr G a4 j (zs.getD j 0)) (hZ : zs.getD k 0 = Z) (hb2 : Below wr.heap.size wr w2) :
    (∀ o, o < n * 4 → (((((w2.setCell ⟨G, k * 4, none⟩ (.int .u64 0)).setCell ⟨G, k * 4 + 1, none⟩ (.int .u64 (281470681743360 + Z * 16777216))).setCell ⟨G, k * 4 + 2, none⟩ (.pointer (some a4))).setCell ⟨G, k * 4 + 3, none⟩ (.int .u8 (Z % 33 + 1))).cell? ⟨G, o, none⟩).isSome = true) ∧
    (∀ o, ((((w2.setCell ⟨G, k * 4, none⟩ (.int .u64 0)).setCell ⟨G, k * 4 + 1, none⟩ (.int .u64 (281470681743360 + Z * 16777216))).setCell ⟨G, k * 4 + 2, none⟩ (.pointer (some a4))).setCell ⟨G, k * 4 + 3, none⟩ (.int .u8 (Z % 33 + 1))).frozen? ⟨G, o, none⟩ = false) ∧
    (∀ j, j < k + 1 → PfxAt ((((w2.setCell ⟨G, k * 4, none⟩ (.int .u64 0)).setCell ⟨G, k * 4 + 1, none⟩ (.int .u64 (281470681743360 + Z * 16777216))).setCell ⟨G, k * 4 + 2, none⟩ (.pointer (some a4))).setCell ⟨G, k * 4 + 3, none⟩ (.int .u8 (Z % 33 + 1))) G a4 j (zs.getD j 0)) ∧
    G < ((((w2.setCell ⟨G, k * 4, none⟩ (.int .u64 0)).setCell ⟨G, k * 4 + 1, none⟩ (.int .u64 (281470681743360 + Z * 16777216))).setCell ⟨G, k * 4 + 2, none⟩ (.pointer (some a4))).setCell ⟨G, k * 4 + 3, none⟩ (.int .u8 (Z % 33 + 1))).heap.size ∧
    Below G wr ((((w2.setCell ⟨G, k * 4, none⟩ (.int .u64 0)).setCell ⟨G, k * 4 + 1, none⟩ (.int .u64 (281470681743360 + Z * 16777216))).setCell ⟨G, k * 4 + 2, none⟩ (.pointer (some a4))).setCell ⟨G, k * 4 + 3, none⟩ (.int .u8 (Z % 33 + 1))) := by
  have hc : ∀ o, w2.cell? ⟨G, o, none⟩ = wr.cell? ⟨G, o, none⟩ := fun o => hb2.cell (p := ⟨G, o, none⟩) r4
  have q1 : ∀ o, o < n * 4 → (w2.cell? ⟨G, o, none⟩).isSome = true := fun o ho => by rw [hc]; exact r1 o ho
  -- a store at one offset, seen at another
  have st : ∀ (w : World) (p o : Nat) (v : Value), (w.cell? ⟨G, p, none⟩).isSome = true → (w.setCell ⟨G, p, none⟩ v).cell? ⟨G, o, none⟩ = if o = p then some v else w.cell? ⟨G, o, none⟩ := by
    intro w p o v hs
    by_cases e : o = p
    · subst e; rw [if_pos rfl]; exact World.cell?_setCell_same' w _ v hs
    · rw [if_neg e]; exact World.cell?_setCell_other _ _ _ _ (fun h => e (Addr.mk.inj h).2.1.symm)
  have s0 := q1 (k * 4) (by omega)
  have s1 := q1 (k * 4 + 1) (by omega)
  have s2 := q1 (k * 4 + 2) (by omega)
  have s3 := q1 (k * 4 + 3) (by omega)
  have all : ∀ o, ((((w2.setCell ⟨G, k * 4, none⟩ (.int .u64 0)).setCell ⟨G, k * 4 + 1, none⟩ (.int .u64 (281470681743360 + Z * 16777216))).setCell ⟨G, k * 4 + 2, none⟩ (.pointer (some a4))).setCell ⟨G, k * 4 + 3, none⟩ (.int .u8 (Z % 33 + 1))).cell? ⟨G, o, none⟩ =
      if o = k * 4 + 3 then some (.int .u8 (Z % 33 + 1)) else if o = k * 4 + 2 then some (.pointer (some a4)) else if o = k * 4 + 1 then some (.int .u64 (281470681743360 + Z * 16777216)) else if o = k * 4 then some (.int .u64 0) else w2.cell? ⟨G, o, none⟩ := by
    intro o
    rw [st _ _ _ _ (by rw [st _ _ _ _ (by rw [st _ _ _ _ (by rw [st _ _ _ _ s0, if_neg (by omega)]; exact s1), if_neg (by omega), st _ _ _ _ s0, if_neg (by omega)]; exact s2), if_neg (by omega), st _ _ _ _ (by rw [st _ _ _ _ s0, if_neg (by omega)]; exact s1), if_neg (by omega), st _ _ _ _ s0, if_neg (by omega)]; exact s3),
      st _ _ _ _ (by rw [st _ _ _ _ (by rw [st _ _ _ _ s0, if_neg (by omega)]; exact s1), if_neg (by omega), st _ _ _ _ s0, if_neg (by omega)]; exact s2),
      st _ _ _ _ (by rw [st _ _ _ _ s0, if_neg (by omega)]; exact s1), st _ _ _ _ s0]
  refine ⟨fun o ho => ?_, fun o => ?_, fun j hj => ?_, ?_, ?_⟩
  · rw [all o]
    repeat' split
    all_goals first | rfl | exact q1 o ho
  · simp only [World.frozen?_setCell]
    rw [hb2.frozen (p := ⟨G, o, none⟩) r4]; exact r2 o
  · by_cases e : j = k
    · subst e
      rw [hZ]
      refine ⟨?_, ?_, ?_, ?_⟩
      · rw [all, if_neg (by omega), if_neg (by omega), if_neg (by omega), if_pos rfl]
      · rw [all, if_neg (by omega), if_neg (by omega), if_pos rfl]
      · rw [all, if_neg (by omega), if_pos rfl]
      · rw [all, if_pos rfl]
    · obtain ⟨p0, p1, p2, p3⟩ := r3 j (by omega)
      refine ⟨?_, ?_, ?_, ?_⟩ <;> rw [all, if_neg (by omega), if_neg (by omega), if_neg (by omega), if_neg (by omega), hc] <;> assumption
  · have := hb2.size; simp; omega
  · exact ((((hb2.mono (Nat.le_of_lt r4)).setCell (Nat.le_refl _) _).setCell (Nat.le_refl _) _).setCell (Nat.le_refl _) _).setCell (Nat.le_refl _) _

set_option maxHeartbeats 800000 in
set_option maxRecDepth 100000 in
theorem build_some (x : Addr) (zs : List Int) (cap : Nat) (hn : zs.length ≤ 1024) (a4 : Addr) (w : World) (hs : Src w (some x) zs) (hz0 : w.cell? ⟨1, 0, none⟩ = some (.pointer none)) (hz4 : w.cell? ⟨2, 0, none⟩ = some (.pointer (some a4))) :
    Calls Ybad.prog 13 #[.slice (some x) zs.length cap] w fun e w' => e = .returned (.slice (some ⟨w.heap.size, 0, none⟩) zs.length zs.length) ∧
      (∀ j, j < zs.length → PfxAt w' w.heap.size a4 j (zs.getD j 0)) ∧ (∀ o, w'.frozen? ⟨w.heap.size, o, none⟩ = false) ∧ w.heap.size < w'.heap.size ∧ Below w.heap.size w w' := by
  obtain ⟨i46, h1, h2, h3, h4⟩ := info_parts info46
  have hq := Lib.run_eql_slice_nil (P := Ybad.prog)
  generalize hN : zs.length = n at *
  go_enter Ybad.func13, Ybad.ntmps13
  go_wp2_with (at_make; refine wpList_make_full _ rfl (.tmp 8) (.tmp 8) 42 rfl w.heap.size 46 i46 _ 4 Ybad.underlying42 h1 h2 h3 _ _ _ _ n rfl rfl rfl rfl ?c1 ?c2 (Nat.le_refl _) ?_)
  case c1 => rw [h4]; omega
  case c2 => unfold maxLen; omega
  intro w1 hown hgrow
  obtain ⟨o1, o2, o3⟩ := owned hown
  have HN : Hid (zs.length = n) := hN
  have HS : Hid (Src w (some x) zs) := hs
  have hb1 : Below w.heap.size w w1 := (Below.refl _ w).grown hgrow (Nat.le_refl _) (by simp)
  have b2w : 2 < w.heap.size := World.block_lt_of_cell? _ _ hz4
  have y0 : w1.cell? ⟨1, 0, none⟩ = some (.pointer none) := cell_later hb1 hz0
  have y4 : w1.cell? ⟨2, 0, none⟩ = some (.pointer (some a4)) := cell_later hb1 hz4
  clear hN hs hown hgrow hq h1 h2 h3 h4
  generalize hG : w.heap.size = G at *
  have HG : Hid (w.heap.size = G) := hG
  clear hG
  go_wp2
  go_loopw [4] (fun i wr => ∃ k : Nat, k ≤ n ∧ i = .int .i64 k ∧ Hid (∀ o, o < n * 4 → (wr.cell? ⟨G, o, none⟩).isSome = true) ∧ Hid (∀ o, wr.frozen? ⟨G, o, none⟩ = false) ∧
      Hid (∀ j, j < k → PfxAt wr G a4 j (zs.getD j 0)) ∧ G < wr.heap.size ∧ Below G w wr) (fun i _ => n - (intOf i).toNat)
  case atStart => exact ⟨0, Nat.zero_le _, rfl, o1, o2, fun j hj => absurd hj (Nat.not_lt_zero _), o3, hb1⟩
  case round =>
    obtain ⟨k, hk, rfl, r1, r2, r3, r4, r5⟩ := hrel
    clear o1 o2 o3 hb1 y0 y4
    by_cases hlt : k < n
    · obtain ⟨b, off, hxe, hcell⟩ := HS.out.cell k (by rw [HN.out]; exact hlt)
      have hbyte := HS.out.at k (by rw [HN.out]; exact hlt)
      simp only [Option.some.injEq] at hxe
      subst hxe
      generalize hZ : zs.getD k 0 = Z at hcell hbyte
      have HZ : Hid (zs.getD k 0 = Z) := hZ
      clear hZ
      have hbw := World.block_lt_of_cell? _ _ hcell
      have hcr : wr.cell? ⟨b, off + k, none⟩ = some (.int .u8 Z) := cell_later (by rw [HG.out]; exact r5) hcell
      have y0 : wr.cell? ⟨1, 0, none⟩ = some (.pointer none) := cell_later (by rw [HG.out]; exact r5) hz0
      have y4 : wr.cell? ⟨2, 0, none⟩ = some (.pointer (some a4)) := cell_later (by rw [HG.out]; exact r5) hz4
      have hki : (k : Int) < (n : Int) := by omega
      obtain ⟨e0, d0⟩ := Option.isSome_iff_exists.1 (r1.out (k * 4) (by omega))
      obtain ⟨e1, d1⟩ := Option.isSome_iff_exists.1 (r1.out (k * 4 + 1) (by omega))
      obtain ⟨e2, d2⟩ := Option.isSome_iff_exists.1 (r1.out (k * 4 + 2) (by omega))
      obtain ⟨e3, d3⟩ := Option.isSome_iff_exists.1 (r1.out (k * 4 + 3) (by omega))
      have g0 := r2.out (k * 4)
      have g1 := r2.out (k * 4 + 1)
      have g2 := r2.out (k * 4 + 2)
      have g3 := r2.out (k * 4 + 3)
      go_wp2_with (go_at_call 14; refine (pfx_any Z hbyte.1 hbyte.2 a4 _ y0 y4).mono ?_; rintro e w2 ⟨rfl, hb2⟩; obtain ⟨hc2, hf2⟩ := bcell hb2)
      have R := build_step (Z := Z) r4 hlt r1.out r2.out r3.out HZ.out hb2
      go_roundw
      case rel => exact ⟨k + 1, by omega, by go_num, R.1, R.2.1, R.2.2.1, R.2.2.2.1, r5.trans R.2.2.2.2⟩
      case measure => simp [intOf]; omega
    · go_wp2
      go_ret
      have hkn : k = n := by omega
      subst hkn
      rw [HG.out]
      exact ⟨rfl, r3.out, r2.out, r4, r5⟩

set_option maxRecDepth 100000 in
theorem build_nil (w : World) : Calls Ybad.prog 13 #[.slice none 0 0] w fun e w' => e = .returned (.slice none 0 0) ∧ w' = w := by
  have hq := Lib.run_eql_slice_nil (P := Ybad.prog)
  go_enter Ybad.func13, Ybad.ntmps13
  go_wp2
  go_ret
  exact ⟨rfl, rfl⟩

/-- What zzs1445cbuild leaves: a row of its own, the prefixes of zs. -/
def Built (w0 w' : World) (a4 : Addr) (v : Value) (zs : List Int) : Prop :=
  (v = .slice none 0 0 ∧ zs = []) ∨ (v = .slice (some ⟨w0.heap.size, 0, none⟩) zs.length zs.length ∧ (∀ j, j < zs.length → PfxAt w' w0.heap.size a4 j (zs.getD j 0)) ∧ (∀ o, w'.frozen? ⟨w0.heap.size, o, none⟩ = false) ∧ w0.heap.size < w'.heap.size)

theorem build_any (a : Option Addr) (zs : List Int) (cap : Nat) (hcap : a = none → cap = 0) (hn : zs.length ≤ 1024) (a4 : Addr) (w : World) (hs : Src w a zs) (hz0 : w.cell? ⟨1, 0, none⟩ = some (.pointer none)) (hz4 : w.cell? ⟨2, 0, none⟩ = some (.pointer (some a4))) :
    Calls Ybad.prog 13 #[.slice a zs.length cap] w fun e w' => ∃ v, e = .returned v ∧ Built w w' a4 v zs ∧ Below w.heap.size w w' := by
  cases a with
  | none =>
    have hz := hs.nil rfl
    subst hz
    rw [hcap rfl]
    refine (build_nil w).mono ?_
    rintro e w' ⟨rfl, rfl⟩
    exact ⟨_, rfl, .inl ⟨rfl, rfl⟩, Below.refl _ _⟩
  | some x =>
    refine (build_some x zs cap hn a4 w hs hz0 hz4).mono ?_
    rintro e w' ⟨rfl, h1, h2, h3, h4⟩
    exact ⟨_, rfl, .inr ⟨rfl, h1, h2, h3⟩, h4⟩

theorem PfxAt.later {w w' : World} {g : Nat} {a4 : Addr} {j : Nat} {z : Int} (h : PfxAt w g a4 j z) (hb : Below w.heap.size w w') : PfxAt w' g a4 j z :=
  ⟨cell_later hb h.c0, cell_later hb h.c1, cell_later hb h.c2, cell_later hb h.c3⟩

theorem Built.prow {w0 w' w2 : World} {a4 : Addr} {v : Value} {zs : List Int} (h : Built w0 w' a4 v zs) (hn : zs.length ≤ 1024) (hb : Below w'.heap.size w' w2) : PRow w2 a4 v zs := by
  rcases h with ⟨rfl, rfl⟩ | ⟨rfl, h1, _, _⟩
  · exact ⟨none, 0, rfl, Nat.le_refl _, by omega, fun _ => rfl, fun j hj => absurd hj (Nat.not_lt_zero _)⟩
  · exact ⟨_, _, rfl, Nat.le_refl _, by omega, (fun h => by cases h), fun j hj => ⟨_, rfl, (h1 j hj).later hb⟩⟩
end Go.Proofs.YbulkacxcDoor
