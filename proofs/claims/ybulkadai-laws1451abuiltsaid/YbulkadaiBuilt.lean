import Derived.Test.YbulkadaiCheck
import Derived.Laws.IdiomStrings
namespace Go.Proofs.Ybulkadai
open Go.RowKit

theorem info5 : (Yba.prog.info? 5).map (fun i => (i.zero, i.size, i.bytes)) = some (some (.int .u8 0), 1, 1) := by kernel_rfl

/-- What the walk is told of the slice of bytes that came in. -/
structure Src (w : World) (a : Option Addr) (zs : List Int) : Prop where
  cell : ∀ i, i < zs.length → ∃ b off, a = some ⟨b, off, none⟩ ∧ w.cell? ⟨b, off + i, none⟩ = some (.int .u8 (zs.getD i 0))
  byte : ∀ z ∈ zs, 0 ≤ z ∧ z ≤ 255

theorem Src.at {w : World} {a : Option Addr} {zs : List Int} (h : Src w a zs) (k : Nat) (hk : k < zs.length) : 0 ≤ zs.getD k 0 ∧ zs.getD k 0 ≤ 255 :=
  h.byte _ (by rw [List.getD_eq_getElem?_getD, List.getElem?_eq_getElem hk]; simp)

def bv (b : UInt8) : Value := .int .u8 (b.toNat : Int)

theorem one_new {w : World} (v : Value) (t : TypeId) (j : Nat) (u : Value) (h : [v][j]? = some u) : (w.alloc (.cells #[v] t)).cell? ((⟨w.heap.size, 0, none⟩ : Addr).add j) = some u := by
  match j, h with
  | 0, h =>
    simp at h; subst h
    simp [Addr.add]

theorem shape {w : World} {base k : Nat} {v : Value} {xs : List Value} (h : w.ownsRow base 5 1 v (k + 1) xs) :
    ∃ g cap, v = .slice (some ⟨g, 0, none⟩) (k + 1) cap ∧ ∀ j u, xs[j]? = some u → w.cell? ((⟨g, 0, none⟩ : Addr).add j) = some u := by
  rcases h.2 with ⟨_, h0⟩ | ⟨g, cap, cur, rfl, hb, hg, h1, h2, h3, h4⟩
  · omega
  · exact ⟨g, cap, rfl, fun j u hu => h.cells (g := g) rfl j u hu⟩

set_option maxHeartbeats 1600000 in
set_option maxRecDepth 100000 in
theorem built_walk (a : Option Addr) (zs : List Int) (cap : Nat) (l : Bool) (d rep : Int) (w : World) (hs : Src w a zs) :
    Calls Yba.prog 4 #[.slice a zs.length cap, .bool l, .int .u8 d, .int .u8 rep] w fun e w' => e = .returned (.bool true) ∧ Below w.heap.size w w' := by
  by_cases hn : zs.length ≤ 1024
  · obtain ⟨i5, i5h, i5z, i5s, i5b⟩ := info_parts info5
    have hd1 : decide ((1024 : Int) < (zs.length : Int)) = false := by simp; omega
    go_enter Yba.func4, Yba.ntmps4
    go_wp2_with (at_make; refine wpList_make_own _ rfl (.const (.int .i64 0)) (.tmp 16) 23 rfl w.heap.size 5 i5 _ 1 Yba.underlying23 i5h i5z i5s _ _ _ (zs.length + 1) rfl rfl ?c0 ?c1 ?c2 (Nat.le_refl _) ?_)
    case c0 => omega
    case c1 => rw [i5b]; omega
    case c2 => unfold maxLen; omega
    intro w1 hown1 hgrow1
    have b1 : Below w.heap.size w w1 := (Below.refl _ w).grown hgrow1 (Nat.le_refl _) (by simp)
    clear hgrow1
    go_wp2_with (at_builtin; refine wpList_append_own _ rfl (.tmp 18) (.tmp 19) 23 rfl w.heap.size 5 i5 (.int .u8 0) 1 1 Yba.underlying23 i5h i5z i5s i5b rfl (by decide) _ _ _ rfl (hown1.alloc _) ⟨w1.heap.size, 0, none⟩ 1 1 [.int .u8 95] rfl rfl ?d1 ?d2 ?d3 ?d4 ?d5 ?_)
    case d1 => exact fun j u hj => one_new _ _ j u hj
    case d2 => intro u hu; simp at hu; subst hu; rfl
    case d3 => unfold maxLen; omega
    case d4 => omega
    case d5 => have := b1.size; simp; omega
    intro v2 w2 hown2 hgrow2 _
    have b2 : Below w.heap.size w w2 := (b1.alloc b1.size _).grown hgrow2 (by have := b1.size; simp; omega) (fun k hk => by simp [Value.ownBlock] at hk; omega)
    have own2 : w2.ownsRow w.heap.size 5 1 v2 1 ([(95 : UInt8)].map bv) := hown2
    clear hown2 hgrow2 hown1 b1
    go_wp2
    go_loopw [9, 10] (fun v i wr => ∃ (k : Nat) (ls : List UInt8), k ≤ zs.length ∧ i = .int .i64 k ∧ ls.length = k + 1 ∧ wr.ownsRow w.heap.size 5 1 v (k + 1) (ls.map bv) ∧ Below w.heap.size w wr) (fun _ i _ => zs.length - (intOf i).toNat)
    case atStart => exact ⟨0, [95], Nat.zero_le _, rfl, rfl, own2, b2⟩
    case round =>
      obtain ⟨k, ls, hk, rfl, hls, hown, hbel⟩ := hrel
      clear own2 b2
      by_cases hlt : k < zs.length
      · obtain ⟨b, off, rfl, hcell⟩ := hs.cell k hlt
        have hX := hs.at k hlt
        generalize zs.getD k 0 = X at hcell hX
        have hcr := cell_later hbel hcell
        have hki : (k : Int) < (zs.length : Int) := by omega
        have hm0 : 0 ≤ X % 10 := by omega
        have hm1 : X % 10 < 10 := by omega
        have hT : (X % 10).toNat < ({ data := #[95, 65, 97, 48, 90, 95, 122, 57, 35, 45] } : ByteArray).size := by show _ < 10; omega
        go_wp2_with (at_builtin; refine wpList_append_own _ rfl (.tmp 27) (.tmp 35) 23 rfl w.heap.size 5 i5 (.int .u8 0) 1 1 Yba.underlying23 i5h i5z i5s i5b rfl (by decide) _ _ _ rfl (hown.alloc _) ⟨wr.heap.size, 0, none⟩ 1 1 [.int .u8 ((({ data := #[95, 65, 97, 48, 90, 95, 122, 57, 35, 45] } : ByteArray)[(X % 10).toNat]'hT).toNat : Int)] rfl rfl ?e1 ?e2 ?e3 ?e4 ?e5 ?_)
        case e1 => exact fun j u hj => one_new _ _ j u hj
        case e2 => intro u hu; simp at hu; subst hu; rfl
        case e3 => unfold maxLen; omega
        case e4 => omega
        case e5 => have := hbel.size; simp; omega
        intro v' w' hown' hgrow' _
        have bel' : Below w.heap.size w w' := (hbel.alloc hbel.size _).grown hgrow' (by have := hbel.size; simp; omega) (fun k hk => (hown.lt k hk).1)
        clear hgrow' hown
        have R : ∃ c : UInt8, w'.ownsRow w.heap.size 5 1 v' (k + 1 + 1) ((ls ++ [c]).map bv) := ⟨_, by rw [List.map_append]; exact hown'⟩
        obtain ⟨c, R⟩ := R
        clear hown'
        go_wp2
        go_roundw
        case rel => exact ⟨k + 1, ls ++ [c], by omega, by go_num, by simp [hls], R, bel'⟩
        case measure => simp [intOf]; omega
      · obtain ⟨g, cp, hv, hcells⟩ := shape hown
        subst hv
        have hcv := run_convert_bytes_back (P := Yba.prog) wr 23 9 5 ⟨g, 0, none⟩ cp ls Yba.underlying23 Yba.underlying5 Yba.underlying9 (fun j hj => hcells j _ (by simp [bv, List.getElem?_eq_getElem hj]))
        rw [hls] at hcv
        have KC : Hid _ := fun W => check_any ⟨ls.toArray⟩ l d rep ⟨#[]⟩ (by show ls.toArray.size ≤ 4096; simp; omega) W
        clear hcells
        go_wp2_with fail
        refine (KC.out _).mono ?_
        rintro e w' ⟨rfl, hb⟩
        go_wp2
        go_ret
        exact ⟨rfl, hbel.trans (hb.mono hbel.size)⟩
  · go_enter Yba.func4, Yba.ntmps4
    go_wp2
    go_ret
    exact ⟨rfl, Below.refl _ _⟩
end Go.Proofs.Ybulkadai
