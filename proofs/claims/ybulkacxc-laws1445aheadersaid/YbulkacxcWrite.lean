import Derived.Test.YbulkacxcPuts
import Derived.Outline
namespace Go.Proofs.Ybulkacxc.lawS1445AHeader
open Go.RowKit

theorem info3 : (Yba.prog.info? 3).map (fun i => (i.zero, i.size, i.bytes)) = some (some (.int .i64 0), 1, 8) := by kernel_rfl
theorem info5 : (Yba.prog.info? 5).map (fun i => (i.zero, i.size, i.bytes)) = some (some (.int .u8 0), 1, 1) := by kernel_rfl

theorem add0 (g j : Nat) : (⟨g, 0, none⟩ : Addr).add j = ⟨g, j, none⟩ := by unfold Addr.add; split <;> simp_all

theorem cso {w : World} {S o g j : Nat} {v : Value} (h : g ≠ S) : (w.setCell ⟨S, o, none⟩ v).cell? ⟨g, j, none⟩ = w.cell? ⟨g, j, none⟩ :=
  World.cell?_of_block (Below.heap_setCell w ⟨S, o, none⟩ v g h)

theorem calt {w : World} {o : Obj} {g j : Nat} (h : g < w.heap.size) : (w.alloc o).cell? ⟨g, j, none⟩ = w.cell? ⟨g, j, none⟩ :=
  World.cell?_of_block (Below.heap_alloc w o g h)

theorem shape {w : World} {base : Nat} {e : TypeId} {v : Value} {n : Nat} {xs : List Value} (h : w.ownsRow base e 1 v n xs) (hn : 0 < n) :
    ∃ g cap, v = .slice (some ⟨g, 0, none⟩) n cap ∧ base ≤ g ∧ n ≤ cap ∧ cap ≤ maxLen ∧ (∀ j u, xs[j]? = some u → w.cell? ⟨g, j, none⟩ = some u) ∧ g < w.heap.size := by
  rcases h.2 with ⟨_, h0⟩ | ⟨g, cap, cur, rfl, hb, hg, h1, h2, h3, h4⟩
  · omega
  · refine ⟨g, cap, rfl, hb, h1, h2, fun j u hu => ?_, (Array.getElem?_eq_some_iff.1 hg).1⟩
    have := h.cells (g := g) rfl j u hu
    rwa [add0] at this

set_option maxHeartbeats 800000 in
set_option maxRecDepth 100000 in
theorem write_any (S g : Nat) (bs : List Value) (hbl : bs.length = 24) (hb1 : ∀ u ∈ bs, u.oneCell' = true) (w : World) (hgS : g ≠ S) (hSw : S < w.heap.size)
    (k0 : w.cell? ⟨S, 0, none⟩ = some (.slice none 0 0)) (k1 : w.cell? ⟨S, 1, none⟩ = some (.slice none 0 0)) (k2 : w.cell? ⟨S, 2, none⟩ = some (.int .i64 0))
    (k3 : w.cell? ⟨S, 3, none⟩ = some (.bool false))
    (f0 : w.frozen? ⟨S, 0, none⟩ = false) (f1 : w.frozen? ⟨S, 1, none⟩ = false) (f2 : w.frozen? ⟨S, 2, none⟩ = false)
    (hp : ∀ j u, bs[j]? = some u → w.cell? ⟨g, j, none⟩ = some u) :
    Calls Yba.prog 25 #[.pointer (some ⟨S, 0, none⟩), .slice (some ⟨g, 0, none⟩) 24 24] w fun e w' => e = .returned (.tuple #[.int .i64 24, .nilIface]) ∧
      ∃ gl cl gb cb, w'.cell? ⟨S, 0, none⟩ = some (.slice (some ⟨gb, 0, none⟩) 24 cb) ∧ w'.cell? ⟨S, 1, none⟩ = some (.slice (some ⟨gl, 0, none⟩) 1 cl) ∧
        w'.cell? ⟨S, 2, none⟩ = some (.int .i64 1) ∧ w'.cell? ⟨gl, 0, none⟩ = some (.int .i64 24) ∧ (∀ j u, bs[j]? = some u → w'.cell? ⟨gb, j, none⟩ = some u) ∧ Below S w w' ∧ S < w'.heap.size := by
  obtain ⟨i3, h3i, h3z, h3s, h3b⟩ := info_parts info3
  obtain ⟨i5, h5i, h5z, h5s, h5b⟩ := info_parts info5
  go_enter Yba.func25, Yba.ntmps25
  go_wp2_with (at_builtin; refine wpList_append_own _ rfl (.tmp 17) (.tmp 20) 25 rfl (S + 1) 3 i3 (.int .i64 0) 1 8 Yba.underlying25 h3i h3z h3s h3b rfl (by decide) _ _ _ rfl (World.ownsRow_nil _ _ _ _) ⟨w.heap.size, 0, none⟩ 1 1 [.int .i64 24] rfl rfl ?c1 ?c2 ?c3 ?c4 ?c5 ?_)
  case c1 =>
    intro j u hj
    match j, hj with
    | 0, hj => simp at hj; subst hj; rw [add0]; go_simp
  case c2 => intro u hu; simp at hu; subst hu; rfl
  case c3 => unfold maxLen; omega
  case c4 => omega
  case c5 => simp; omega
  intro v1 w1 hown1 hgrow1 _
  obtain ⟨gl, cl, hv1, hgl, _, _, hcl, hglw⟩ := shape hown1 (by omega)
  rw [hv1]
  have b1 : Below S w w1 := (((Below.refl S w).setCell (p := ⟨S, 2, none⟩) (Nat.le_refl _) _).alloc (by simp; omega) _).grown hgrow1 (by simp; omega) (by simp [Value.ownBlock])
  have z1 := hgrow1.size
  simp at z1
  have q0 : w1.cell? ⟨S, 0, none⟩ = some (.slice none 0 0) := hgrow1.cell (by go_simp) (by simp [Value.ownBlock])
  have q1 : w1.cell? ⟨S, 1, none⟩ = some (.slice none 0 0) := hgrow1.cell (by go_simp) (by simp [Value.ownBlock])
  have q2 : w1.cell? ⟨S, 2, none⟩ = some (.int .i64 1) := hgrow1.cell (by go_simp) (by simp [Value.ownBlock])
  have q3 : w1.cell? ⟨S, 3, none⟩ = some (.bool false) := hgrow1.cell (by go_simp) (by simp [Value.ownBlock])
  have hfz1 : ∀ o, o < 3 → w1.frozen? ⟨S, o, none⟩ = false := fun o ho => by
    rw [World.frozen?_of_block (w := (w.setCell ⟨S, 2, none⟩ (.int .i64 1)).alloc (.cells #[.int .i64 24] 3)) (hgrow1.block S (by simp; omega) (by simp [Value.ownBlock])), World.frozen?_alloc_past _ _ _ (by simp; omega), World.frozen?_setCell]
    have : o = 0 ∨ o = 1 ∨ o = 2 := by omega
    rcases this with rfl | rfl | rfl <;> assumption
  have fz0 := hfz1 0 (by omega)
  have fz1 := hfz1 1 (by omega)
  have hp1 : ∀ j u, bs[j]? = some u → w1.cell? ⟨g, j, none⟩ = some u := fun j u hu => hgrow1.cell (by
    rw [calt (by simpa using World.block_lt_of_cell? w ⟨g, j, none⟩ (hp j u hu)), cso (by omega)]; exact hp j u hu) (by simp [Value.ownBlock])
  have l1 : w1.cell? ⟨gl, 0, none⟩ = some (.int .i64 24) := hcl 0 _ rfl
  clear hown1 hgrow1 hcl hfz1 k0 k1 k2 k3 f0 f1 f2 hp hv1
  go_wp2_with (at_builtin; refine wpList_append_own _ rfl (.tmp 36) (.tmp 37) 24 rfl (S + 1) 5 i5 (.int .u8 0) 1 1 Yba.underlying24 h5i h5z h5s h5b rfl (by decide) _ _ _ rfl (World.ownsRow_nil _ _ _ _) ⟨g, 0, none⟩ 24 24 bs rfl ?d0 ?d1 hb1 ?d3 ?d4 ?d5 ?_)
  case d0 => rw [hbl]
  case d1 => intro j u hu; rw [add0, cso (by omega)]; exact hp1 j u hu
  case d3 => unfold maxLen; omega
  case d4 => omega
  case d5 => simp; omega
  intro v2 w2 hown2 hgrow2 _
  obtain ⟨gb, cb, hv2, hgb, _, _, hcb, hgbw⟩ := shape hown2 (by omega)
  rw [hv2]
  have b2 : Below S w w2 := (b1.setCell (p := ⟨S, 1, none⟩) (Nat.le_refl _) _).grown hgrow2 (by simp; omega) (by simp [Value.ownBlock])
  have z2 := hgrow2.size
  simp at z2
  have r0 : w2.cell? ⟨S, 0, none⟩ = some (.slice none 0 0) := hgrow2.cell (by go_simp) (by simp [Value.ownBlock])
  have r1 : w2.cell? ⟨S, 1, none⟩ = some (.slice (some ⟨gl, 0, none⟩) 1 cl) := hgrow2.cell (by go_simp) (by simp [Value.ownBlock])
  have r2 : w2.cell? ⟨S, 2, none⟩ = some (.int .i64 1) := hgrow2.cell (by go_simp) (by simp [Value.ownBlock])
  have r3 : w2.cell? ⟨gl, 0, none⟩ = some (.int .i64 24) := hgrow2.cell (by rw [cso (by omega)]; exact l1) (by simp [Value.ownBlock])
  have gz0 : w2.frozen? ⟨S, 0, none⟩ = false := by
    rw [World.frozen?_of_block (w := w1.setCell ⟨S, 1, none⟩ (.slice (some ⟨gl, 0, none⟩) 1 cl)) (hgrow2.block S (by simp; omega) (by simp [Value.ownBlock])), World.frozen?_setCell]; exact fz0
  have hcb' : ∀ j u, bs[j]? = some u → w2.cell? ⟨gb, j, none⟩ = some u := by simpa using hcb
  clear hown2 hgrow2 hcb hv2 q0 q1 q2 q3 fz0 fz1 hp1 l1
  go_wp2
  go_ret2
  refine ⟨rfl, gl, cl, gb, cb, ?_, ?_, ?_, ?_, ?_, ?_, ?_⟩
  · go_simp
  · go_simp
  · go_simp
  · rw [cso (by omega)]; exact r3
  · intro j u hu; rw [cso (by omega)]; exact hcb' j u hu
  · exact b2.setCell (Nat.le_refl _) _
  · simp; omega
end Go.Proofs.Ybulkacxc.lawS1445AHeader
