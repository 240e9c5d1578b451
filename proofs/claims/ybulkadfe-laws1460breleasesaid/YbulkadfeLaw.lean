import Derived.Test.YbulkadfeTail
namespace Go.Proofs.Ybulkadfe
open Go.RowKit

def zeros : Array Value := Array.replicate 256 (.bool false)
theorem zero25 : ∀ w, Sem.run Yba.prog (zeroValue 25) w = Result.ok (.agg zeros) w := fun w => by kernel_rfl
noncomputable def eng0 : Array Value := match (Yba.prog.info? 93).bind (·.zero) with | some (.agg a) => a | _ => #[]
theorem zero93 : ∀ w, Sem.run Yba.prog (zeroValue 93) w = Result.ok (.agg eng0) w := fun w => by kernel_rfl
theorem nil_eql : ∀ w, Sem.run Yba.prog (binOp BinOp.eql 94 (Value.slice none 0 0) (Value.slice none 0 0)) w = Result.ok (.bool true) w := fun w => by kernel_rfl
theorem nil_neq : ∀ w, Sem.run Yba.prog (binOp BinOp.neq 94 (Value.slice none 0 0) (Value.slice none 0 0)) w = Result.ok (.bool false) w := fun w => by kernel_rfl
theorem eng0_size : eng0.size = 238 := by kernel_rfl
theorem eng0_freed : eng0[237]? = some (.bool false) := by kernel_rfl
def eng (u1 u2 : Int) (e : Array Value) : Array Value := (e.setIfInBounds 29 (.int .u64 u1)).setIfInBounds 30 (.int .u64 u2)
theorem eng_cells (u1 u2 : Int) : (eng u1 u2 eng0)[29]? = some (.int .u64 u1) ∧ (eng u1 u2 eng0)[30]? = some (.int .u64 u2) ∧ (eng u1 u2 eng0)[237]? = some (.bool false) := by
  refine ⟨by simp [eng, eng0_size], by simp [eng, eng0_size], ?_⟩
  unfold eng
  rw [Array.getElem?_setIfInBounds, if_neg (by omega), Array.getElem?_setIfInBounds, if_neg (by omega), eng0_freed]

/-- The engine's block, as it is laid. -/
structure EngAt (W : World) (E : Nat) (u1 u2 : Int) : Prop where
  dl : W.cell? ⟨E, 29, none⟩ = some (.int .u64 u1)
  ul : W.cell? ⟨E, 30, none⟩ = some (.int .u64 u2)
  freed : W.cell? ⟨E, 237, none⟩ = some (.bool false)
  froz : ∀ o, W.frozen? ⟨E, o, none⟩ = false
  lt : E < W.heap.size

theorem eng_at (w : World) (E : Nat) (u1 u2 : Int) (h : E = w.heap.size) : EngAt (w.alloc (.cells (eng u1 u2 eng0) 93)) E u1 u2 := by
  obtain ⟨h1, h2, h3⟩ := eng_cells u1 u2
  have hh : (w.alloc (.cells (eng u1 u2 eng0) 93)).heap[E]? = some (.cells (eng u1 u2 eng0) 93 (0, 0)) := by rw [h]; exact hnew w _
  exact ⟨(cell_of hh).trans h1, (cell_of hh).trans h2, (cell_of hh).trans h3, fun o => frozen_of hh, lt_of hh⟩

theorem EngAt.later {W W' : World} {E : Nat} {u1 u2 : Int} (h : EngAt W E u1 u2) (b : Below W.heap.size W W') : EngAt W' E u1 u2 :=
  ⟨(b.cell h.lt).trans h.dl, (b.cell h.lt).trans h.ul, (b.cell h.lt).trans h.freed, fun o => (b.frozen h.lt).trans (h.froz o), Nat.lt_of_lt_of_le h.lt b.size⟩

theorem info5 : (Yba.prog.info? 5).map (fun i => (i.zero, i.size, i.bytes)) = some (some (.int .u8 0), 1, 1) := by kernel_rfl
theorem info29 : (Yba.prog.info? 29).map (fun i => (i.zero, i.size, i.bytes)) = some (some (.pointer none), 1, 8) := by kernel_rfl
theorem zeros_new (w : World) (B : Nat) (h : B = w.heap.size) : BArr (w.alloc (.cells zeros 25)) B (fun _ => false) := by
  subst h
  exact ⟨zeros, hnew w _, by simp [zeros], fun x hx => by simp [zeros, hx]⟩

/-- The new RAB. -/
def rabCells (v : Nat) (r : Bool) : Array Value := #[.int .u8 0, .int .u8 0, .slice none 0 0, .slice none 0 0, .bool false, .int .u16 0, .slice none 0 0, .pointer none, .pointer none, .pointer none, .pointer none, .pointer none, .int .u8 0, .int .u16 0, .int .i64 0, .int .u8 0, .int .u8 0, .int .u8 0, .int .u8 0, .int .u8 0, .int .u8 0, .int .u8 0, .int .u8 0, .int .u8 0, .int .u8 0, .int .u8 0, .int .u8 0, .int .u8 0, .int .u8 0, .int .u8 0, .int .u8 0, .int .u8 0, .int .u8 0, .int .u8 0, .int .u8 0, .bool false, .int .u32 0, .int .u32 0, .bool false, .bool r, .int .u64 7, .int .u8 (v : Int), .int .u64 (v : Int), .int .u64 ((v : Int) * 3), .int .i64 0, .bool false, .int .u8 0, .bool false, .int .u32 0]

/-- The world behind the new RAB and the note of its reporting. -/
structure Two (w wr W2 : World) (P : Nat) (F rp : Nat → Bool) (v : Nat) (vr vb : Value) (bl : List Nat) : Prop where
  below : Below P w W2
  size : W2.heap.size = wr.heap.size + 1
  pres : BArr W2 P F
  rep : BArr W2 (P + 1) (fun x => decide (x < v + 1) && (F x && rp x))
  conn : ∃ cs, W2.heap[P + 2]? = some (.cells cs 35 (0, 0)) ∧ cs[1]? = some vr
  rrow : W2.ownsRow P 29 1 vr (upto F v).length (bl.map pv)
  brow : W2.ownsRow P 5 1 vb (upto F v).length ((upto F v).map iv)
  rab : ∀ (j b x : Nat), bl[j]? = some b → (upto F v)[j]? = some x → RabAt rp P W2 b x
  new : RabAt rp P W2 wr.heap.size v

theorem two_of {w wr : World} {P : Nat} {F rp : Nat → Bool} {v : Nat} {vr vb : Value} {bl : List Nat} (I : Inv w wr P F rp v vr vb bl) (h : F v = true) (hv : v < 256) (r : Bool) (hr : rp v = r) :
    ∃ W2, Hid (W2 = (wr.alloc (.cells (rabCells v r) 61)).setCell ⟨P + 1, v, none⟩ (.bool r)) ∧ Hid (Two w wr W2 P F rp v vr vb bl) := by
  subst hr
  obtain ⟨h1, h2, h3, h4, h5, h6, h7, h8, h9⟩ := I.two h hv (rabCells v (rp v)) ⟨rfl, rfl, rfl, rfl, rfl⟩ _ rfl
  exact ⟨_, rfl, ⟨h1, h2, h3, h4, h5, h6, h7, h8, h9⟩⟩

theorem inv_start {w wr : World} {P : Nat} {F rp : Nat → Bool} (hA : BArr wr P F) (b : Below P w wr) (hsz : wr.heap.size = P + 1) (cc : Array Value) (hcc : cc[1]? = some (.slice none 0 0)) :
    Inv w ((wr.alloc (.cells zeros 25)).alloc (.cells cc 35)) P F rp 0 (.slice none 0 0) (.slice none 0 0) [] := by
  refine ⟨(b.alloc (by omega) _).alloc (by simp; omega) _, by simp; omega, hA.of ((Below.heap_alloc _ _ _ (by simp; omega)).trans (Below.heap_alloc _ _ _ (by omega))), ?_, ⟨cc, ?_, hcc⟩, World.ownsRow_nil _ _ _ _, World.ownsRow_nil _ _ _ _, fun j b x h => by simp at h, rfl⟩
  · have h := (zeros_new wr (P + 1) hsz.symm).of (w' := (wr.alloc (.cells zeros 25)).alloc (.cells cc 35)) (Below.heap_alloc _ _ _ (by simp; omega))
    have e : (fun x => decide (x < 0) && (F x && rp x)) = fun _ => false := by funext x; simp
    rw [e]; exact h
  · have h := hnew (wr.alloc (.cells zeros 25)) (.cells cc 35)
    rw [show (wr.alloc (.cells zeros 25)).heap.size = P + 2 by simp; omega] at h
    exact h

theorem one_new {w : World} (v : Value) (t : TypeId) (B : Nat) (hB : B = w.heap.size) (j : Nat) (u : Value) (h : [v][j]? = some u) : (w.alloc (.cells #[v] t)).cell? ((⟨B, 0, none⟩ : Addr).add j) = some u := by
  subst hB
  match j, h with
  | 0, h =>
    simp at h; subst h
    simp [Addr.add]

theorem wrap_ne (u : Int) (id : Nat) (h0 : 0 < id) (h : id < 256) : IntKind.u64.wrap (u - (id : Int)) ≠ u := by
  simp only [IntKind.wrap, IntKind.signed, IntKind.bits]
  simp
  omega
theorem wrap_u (u : Int) (hu : 0 ≤ u ∧ u < 18446744073709551616) : IntKind.u64.wrap u = u := by
  simp only [IntKind.wrap, IntKind.signed, IntKind.bits]
  simp
  omega

structure Src (w : World) (a : Option Addr) (n : Nat) (f : Nat → Nat) : Prop where
  cell : ∀ i, i < n → ∃ b off, a = some ⟨b, off, none⟩ ∧ w.cell? ⟨b, off + i, none⟩ = some (.int .u8 (f i))
  lt : ∀ i, i < n → f i < 256
structure SrcB (w : World) (a : Option Addr) (n : Nat) (f : Nat → Bool) : Prop where
  cell : ∀ i, i < n → ∃ b off, a = some ⟨b, off, none⟩ ∧ w.cell? ⟨b, off + i, none⟩ = some (.bool (f i))

set_option maxHeartbeats 1600000 in
set_option maxRecDepth 100000 in
theorem law_walk (a a2 : Option Addr) (n n2 cap cap2 : Nat) (f : Nat → Nat) (g : Nat → Bool) (id : Nat) (hid : id < 256) (named : Int) (sup nilc : Bool) (u1 u2 : Int) (hu1 : 0 ≤ u1 ∧ u1 < 18446744073709551616) (hu2 : 0 ≤ u2 ∧ u2 < 18446744073709551616) (w : World) (S : Src w a n f) (SB : SrcB w a2 n2 g) :
    Calls Yba.prog 3 #[.slice a n cap, .slice a2 n2 cap2, .int .u8 id, .int .i64 named, .bool sup, .bool nilc, .int .u64 u1, .int .u64 u2] w fun e w' => e = .returned (.bool true) ∧ Below w.heap.size w w' := by
  by_cases hn : n ≤ 1024
  · by_cases hn2 : n2 ≤ 1024
    · have hd1 : decide ((1024 : Int) < (n : Int)) = false := by simp; omega
      have hd2 : decide ((1024 : Int) < (n2 : Int)) = false := by simp; omega
      have z25 := zero25
      have HS : Hid _ := S
      have HU1 : Hid _ := hu1
      have HU2 : Hid _ := hu2
      clear hu1 hu2
      have HSB : Hid _ := SB
      clear S SB
      go_enter Yba.func3, Yba.ntmps3
      go_wp2
      go_loopw [41] (fun i wr => ∃ k : Nat, k ≤ n ∧ i = .int .i64 k ∧ Hid (BArr wr w.heap.size (seen f k)) ∧ Hid (Below w.heap.size w wr ∧ wr.heap.size = w.heap.size + 1)) (fun i _ => n - (intOf i).toNat)
      case atStart => exact ⟨0, Nat.zero_le _, rfl, zeros_new w _ rfl, ⟨(Below.refl _ w).alloc (Nat.le_refl _) _, by simp⟩⟩
      case round =>
        obtain ⟨k, hk, rfl, hA, hB⟩ := hrel
        by_cases hlt : k < n
        · obtain ⟨b, off, rfl, hc⟩ := HS.out.cell k hlt
          have hc' := later hB.out.1 hc
          have hx := HS.out.lt k hlt
          have hx1 : (f k : Int) < 256 := by omega
          obtain ⟨c1, c2⟩ := hA.out.cell (f k) hx
          have hki : (k : Int) < (n : Int) := by omega
          go_wp2
          go_roundw
          case rel => exact ⟨k + 1, by omega, by go_num, hA.out.set (f k) true hx (fun x _ => by
            show (seen f k x || (f k == x)) = _
            by_cases e : x = f k
            · simp [e]
            · have : (f k == x) = false := by simp; omega
              simp [e, this]), hB.out.1.setCell (by simp) _, by simp [World.setCell]; exact hB.out.2⟩
          case measure => simp [intOf]; omega
        · have hkn : k = n := by omega
          subst hkn
          have z93 := zero93
          have q94 := nil_eql
          have n94 := nil_neq
          have es := eng0_size
          have HE : Hid _ := eng_cells u1 u2
          cases nilc with
          | true =>
            by_cases hm : 1 < named
            · have K4 := fun W E => release_many E (.pointer none) id named sup hm W
              simp only [item] at K4
              have H4 : Hid _ := K4
              clear K4
              go_wp2_with fail
              have b1 : Below w.heap.size w ((wr.alloc (.cells zeros 25)).alloc (.cells ((eng0.setIfInBounds 29 (.int .u64 u1)).setIfInBounds 30 (.int .u64 u2)) 93)) := (hB.out.1.alloc (by have := hB.out.2; omega) _).alloc (by have := hB.out.2; simp; omega) _
              have e1 : EngAt ((wr.alloc (.cells zeros 25)).alloc (.cells ((eng0.setIfInBounds 29 (.int .u64 u1)).setIfInBounds 30 (.int .u64 u2)) 93)) (wr.heap.size + 1) u1 u2 := eng_at _ _ _ _ (by simp)
              generalize ((wr.alloc (.cells zeros 25)).alloc (.cells ((eng0.setIfInBounds 29 (.int .u64 u1)).setIfInBounds 30 (.int .u64 u2)) 93)) = W at b1 e1 ⊢
              refine Calls.mono (H4.out W _) ?_
              rintro e w5 ⟨rfl, b5⟩
              obtain ⟨c29, c30, c237, cf, clt⟩ := e1.later b5
              have HB5 : Hid _ := b1.trans (b5.mono b1.size)
              clear b5 b1 e1 H4 cf
              go_wp2_with fail
              refine Calls.mono (ids_nil _ _ _) ?_
              rintro e w6 ⟨rfl, rfl⟩
              go_wp2
              go_ret
              exact ⟨rfl, HB5.out.alloc HB5.out.size _⟩
            · cases sup with
              | true =>
                · have K4 := fun W E => release_sup E (.pointer none) id named hm W
                  simp only [item] at K4
                  have H4 : Hid _ := K4
                  clear K4
                  go_wp2_with fail
                  have b1 : Below w.heap.size w ((wr.alloc (.cells zeros 25)).alloc (.cells ((eng0.setIfInBounds 29 (.int .u64 u1)).setIfInBounds 30 (.int .u64 u2)) 93)) := (hB.out.1.alloc (by have := hB.out.2; omega) _).alloc (by have := hB.out.2; simp; omega) _
                  have e1 : EngAt ((wr.alloc (.cells zeros 25)).alloc (.cells ((eng0.setIfInBounds 29 (.int .u64 u1)).setIfInBounds 30 (.int .u64 u2)) 93)) (wr.heap.size + 1) u1 u2 := eng_at _ _ _ _ (by simp)
                  generalize ((wr.alloc (.cells zeros 25)).alloc (.cells ((eng0.setIfInBounds 29 (.int .u64 u1)).setIfInBounds 30 (.int .u64 u2)) 93)) = W at b1 e1 ⊢
                  refine Calls.mono (H4.out W _) ?_
                  rintro e w5 ⟨rfl, b5⟩
                  obtain ⟨c29, c30, c237, cf, clt⟩ := e1.later b5
                  have HB5 : Hid _ := b1.trans (b5.mono b1.size)
                  clear b5 b1 e1 H4 cf
                  go_wp2_with fail
                  refine Calls.mono (ids_nil _ _ _) ?_
                  rintro e w6 ⟨rfl, rfl⟩
                  go_wp2
                  go_ret
                  exact ⟨rfl, HB5.out.alloc HB5.out.size _⟩
              | false =>
                · have K4 := fun W E => release_no E none id named hm W (fun W' _ => lookup_nil id W')
                  simp only [item] at K4
                  have H4 : Hid _ := K4
                  clear K4
                  go_wp2_with fail
                  have b1 : Below w.heap.size w ((wr.alloc (.cells zeros 25)).alloc (.cells ((eng0.setIfInBounds 29 (.int .u64 u1)).setIfInBounds 30 (.int .u64 u2)) 93)) := (hB.out.1.alloc (by have := hB.out.2; omega) _).alloc (by have := hB.out.2; simp; omega) _
                  have e1 : EngAt ((wr.alloc (.cells zeros 25)).alloc (.cells ((eng0.setIfInBounds 29 (.int .u64 u1)).setIfInBounds 30 (.int .u64 u2)) 93)) (wr.heap.size + 1) u1 u2 := eng_at _ _ _ _ (by simp)
                  generalize ((wr.alloc (.cells zeros 25)).alloc (.cells ((eng0.setIfInBounds 29 (.int .u64 u1)).setIfInBounds 30 (.int .u64 u2)) 93)) = W at b1 e1 ⊢
                  refine Calls.mono (H4.out W _) ?_
                  rintro e w5 ⟨rfl, b5⟩
                  obtain ⟨c29, c30, c237, cf, clt⟩ := e1.later b5
                  have HB5 : Hid _ := b1.trans (b5.mono b1.size)
                  clear b5 b1 e1 H4 cf
                  go_wp2_with fail
                  refine Calls.mono (ids_nil _ _ _) ?_
                  rintro e w6 ⟨rfl, rfl⟩
                  go_wp2
                  go_ret
                  exact ⟨rfl, HB5.out.alloc HB5.out.size _⟩
          | false =>
            have hsz := hB.out.2
            obtain ⟨i29, i29h, i29z, i29s, i29b⟩ := info_parts info29
            obtain ⟨i5, i5h, i5z, i5s, i5b⟩ := info_parts info5
            obtain ⟨F, hF⟩ : ∃ F : Nat → Bool, F = seen f k := ⟨_, rfl⟩
            rw [← hF] at hA
            obtain ⟨rp, hrp⟩ : ∃ rp : Nat → Bool, rp = fun x => decide ((upto F x).length < n2) && g (upto F x).length := ⟨_, rfl⟩
            have HRP : Hid _ := hrp
            clear hF hrp
            go_wp2
            go_loopw [22, 23, 24] (fun s22 s23 s24 wq => ∃ (v : Nat) (vr : Value) (bl : List Nat), v ≤ 256 ∧ s24 = .int .i64 v ∧ s23 = .int .i64 (upto F v).length ∧ Hid (Inv w wq w.heap.size F rp v vr s22 bl)) (fun _ _ i _ => 256 - (intOf i).toNat)
            case atStart =>
              exact ⟨0, .slice none 0 0, [], Nat.zero_le _, rfl, rfl, inv_start hA.out hB.out.1 hB.out.2 _ rfl⟩
            case round =>
              obtain ⟨v, vr, bl, hv, rfl, rfl, hI⟩ := hrel
              by_cases hlt : v < 256
              · have hp := (hI.out.pres.cell v hlt).1
                have hvi : (v : Int) < 256 := by omega
                cases hF : F v with
                | false =>
                  rw [hF] at hp
                  have HF : Hid _ := hF
                  clear hF
                  go_wp2
                  go_roundw
                  case rel => exact ⟨v + 1, vr, bl, by omega, by go_num, by rw [upto_miss HF.out], hI.out.miss HF.out⟩
                  case measure => simp [intOf]; omega
                | true =>
                  rw [hF] at hp
                  have HF : Hid _ := hF
                  clear hF
                  have hul := upto_len F v
                  have hs3 := hI.out.size
                  have hr1 := hI.out.rep.cell v hlt
                  have hI1 := hI.out.size
                  have m1 : ∀ o, (wr.alloc o).cell? ⟨w.heap.size + 1, v, none⟩ = wr.cell? ⟨w.heap.size + 1, v, none⟩ := fun o => calt' (by omega)
                  have m2 : ∀ o, (wr.alloc o).frozen? ⟨w.heap.size + 1, v, none⟩ = wr.frozen? ⟨w.heap.size + 1, v, none⟩ := fun o => falt' (by omega)
                  obtain ⟨cc, q1, q2⟩ := hI.out.conn
                  have m3 : ∀ o u, ((wr.alloc o).setCell ⟨w.heap.size + 1, v, none⟩ u).cell? ⟨w.heap.size + 1 + 1, 1, none⟩ = some vr := fun o u => by
                    rw [cset_off (Or.inl (by omega)), calt' (by omega)]
                    exact (cell_of q1).trans q2
                  clear q1 q2
                  by_cases hK : (upto F v).length < n2
                  · obtain ⟨b2, off2, rfl, hc2⟩ := HSB.out.cell _ hK
                    have hc3 := later hI.out.below hc2
                    have hc4 := cell_lt hc3
                    have hr : g (upto F v).length = rp v := by rw [HRP.out]; simp [hK]
                    rw [hr] at hc3
                    clear hr hc2
                    obtain ⟨W2, HW2, T⟩ := two_of hI.out HF.out hlt (rp v) rfl
                    have hKi : ((upto F v).length : Int) < (n2 : Int) := by omega
                    have m4 : ∀ o, (wr.alloc o).cell? ⟨b2, off2 + (upto F v).length, none⟩ = wr.cell? ⟨b2, off2 + (upto F v).length, none⟩ := fun o => calt' hc4
                    obtain ⟨r1, r2⟩ := hr1
                    go_wp2_with (at_builtin; refine wpList_append_own _ rfl (.tmp 101) (.tmp 103) 27 rfl w.heap.size 29 i29 (.pointer none) 1 8 Yba.underlying27 i29h i29z i29s i29b rfl (by decide) vr (upto F v).length (bl.map pv) rfl ?own ⟨wr.heap.size + 1, 0, none⟩ 1 1 [pv wr.heap.size] rfl rfl ?d1 ?d2 ?d3 ?d4 ?d5 ?_)
                    case own => have h := T.out.rrow; rw [HW2.out] at h; exact h.alloc _
                    case d1 => exact fun j u h => h
                    case d2 => rfl
                    case d3 => unfold maxLen; omega
                    case d4 => omega
                    case d5 => omega
                    intro v' w' hown' hgrow' _
                    obtain ⟨a', cap', rfl, _⟩ := own_shape hown'
                    have hg : (W2.alloc (.cells #[pv wr.heap.size] 29)).grownBy w' vr.ownBlock := by rw [HW2.out]; exact hgrow'
                    obtain ⟨y1, y2, y3⟩ := three_of T.out.conn T.out.rrow T.out.brow _ hg
                    have y1' : w'.cell? ⟨w.heap.size + 1 + 1, 1, none⟩ = some vr := y1
                    have y2' : w'.frozen? ⟨w.heap.size + 1 + 1, 1, none⟩ = false := y2
                    clear y1 y2
                    have Y : Hid _ := And.intro hg (And.intro hown' y3)
                    have gsz : w.heap.size ≤ w'.heap.size := by have h1 := hg.size; have h2 := T.out.size; simp at h1; omega
                    clear hg hgrow' hown' y3 m1 m2 m3 r1 r2 hp
                    go_wp2_with (at_builtin; refine wpList_append_own _ rfl (.tmp 107) (.tmp 110) 22 rfl w.heap.size 5 i5 (.int .u8 0) 1 1 Yba.underlying22 i5h i5z i5s i5b rfl (by decide) _ (upto F v).length ((upto F v).map iv) rfl ?own2 ⟨w'.heap.size, 0, none⟩ 1 1 [iv v] rfl rfl ?e1 ?e2 ?e3 ?e4 ?e5 ?_)
                    case own2 => exact (Y.out.2.2 _).alloc _
                    case e1 => exact fun j u h => one_new (w := w'.setCell _ _) _ _ _ (by simp [World.setCell]) j u h
                    case e2 => intro u hu; simp at hu; subst hu; rfl
                    case e3 => unfold maxLen; omega
                    case e4 => omega
                    case e5 => simp [World.setCell]; omega
                    intro v6 w6 hown6 hgrow6 _
                    have J : Hid _ := Inv.hit hI.out.len HF.out hI.out.size T.out.below T.out.size T.out.pres T.out.rep T.out.conn T.out.rrow T.out.rab T.out.new _ _ Y.out.1 Y.out.2.1 (Y.out.2.2 _) hgrow6 hown6
                    clear hgrow6 hown6 Y T HW2 y1' y2'
                    go_wp2
                    go_roundw
                    case rel => exact ⟨v + 1, _, _, by omega, by go_num, by rw [upto_hit HF.out, List.length_append]; go_num, J⟩
                    case measure => simp [intOf]; omega
                  · have hr : rp v = false := by rw [HRP.out]; simp [hK]
                    obtain ⟨W2, HW2, T⟩ := two_of hI.out HF.out hlt false hr
                    have hKi : ¬ ((upto F v).length : Int) < (n2 : Int) := by omega
                    clear hr
                    obtain ⟨r1, r2⟩ := hr1
                    go_wp2_with (at_builtin; refine wpList_append_own _ rfl (.tmp 101) (.tmp 103) 27 rfl w.heap.size 29 i29 (.pointer none) 1 8 Yba.underlying27 i29h i29z i29s i29b rfl (by decide) vr (upto F v).length (bl.map pv) rfl ?own ⟨wr.heap.size + 1, 0, none⟩ 1 1 [pv wr.heap.size] rfl rfl ?d1 ?d2 ?d3 ?d4 ?d5 ?_)
                    case own => have h := T.out.rrow; rw [HW2.out] at h; exact h.alloc _
                    case d1 => exact fun j u h => h
                    case d2 => rfl
                    case d3 => unfold maxLen; omega
                    case d4 => omega
                    case d5 => omega
                    intro v' w' hown' hgrow' _
                    obtain ⟨a', cap', rfl, _⟩ := own_shape hown'
                    have hg : (W2.alloc (.cells #[pv wr.heap.size] 29)).grownBy w' vr.ownBlock := by rw [HW2.out]; exact hgrow'
                    obtain ⟨y1, y2, y3⟩ := three_of T.out.conn T.out.rrow T.out.brow _ hg
                    have y1' : w'.cell? ⟨w.heap.size + 1 + 1, 1, none⟩ = some vr := y1
                    have y2' : w'.frozen? ⟨w.heap.size + 1 + 1, 1, none⟩ = false := y2
                    clear y1 y2
                    have Y : Hid _ := And.intro hg (And.intro hown' y3)
                    have gsz : w.heap.size ≤ w'.heap.size := by have h1 := hg.size; have h2 := T.out.size; simp at h1; omega
                    clear hg hgrow' hown' y3 m1 m2 m3 r1 r2 hp
                    go_wp2_with (at_builtin; refine wpList_append_own _ rfl (.tmp 107) (.tmp 110) 22 rfl w.heap.size 5 i5 (.int .u8 0) 1 1 Yba.underlying22 i5h i5z i5s i5b rfl (by decide) _ (upto F v).length ((upto F v).map iv) rfl ?own2 ⟨w'.heap.size, 0, none⟩ 1 1 [iv v] rfl rfl ?e1 ?e2 ?e3 ?e4 ?e5 ?_)
                    case own2 => exact (Y.out.2.2 _).alloc _
                    case e1 => exact fun j u h => one_new (w := w'.setCell _ _) _ _ _ (by simp [World.setCell]) j u h
                    case e2 => intro u hu; simp at hu; subst hu; rfl
                    case e3 => unfold maxLen; omega
                    case e4 => omega
                    case e5 => simp [World.setCell]; omega
                    intro v6 w6 hown6 hgrow6 _
                    have J : Hid _ := Inv.hit hI.out.len HF.out hI.out.size T.out.below T.out.size T.out.pres T.out.rep T.out.conn T.out.rrow T.out.rab T.out.new _ _ Y.out.1 Y.out.2.1 (Y.out.2.2 _) hgrow6 hown6
                    clear hgrow6 hown6 Y T HW2 y1' y2'
                    go_wp2
                    go_roundw
                    case rel => exact ⟨v + 1, _, _, by omega, by go_num, by rw [upto_hit HF.out, List.length_append]; go_num, J⟩
                    case measure => simp [intOf]; omega
              · obtain rfl : v = 256 := by omega
                clear z25
                by_cases hm : 1 < named
                · have K4 := fun W E (hKW : Kept [] wr W) => release_many E (.pointer (some ⟨w.heap.size + 1 + 1, 0, none⟩)) id named sup hm W
                  simp only [item] at K4
                  have H4 : Hid _ := K4
                  clear K4
                  go_wp2_with fail
                  have b1 : Below wr.heap.size wr (wr.alloc (.cells ((eng0.setIfInBounds 29 (.int .u64 u1)).setIfInBounds 30 (.int .u64 u2)) 93)) := (Below.refl _ wr).alloc (Nat.le_refl _) _
                  have e1 : EngAt (wr.alloc (.cells ((eng0.setIfInBounds 29 (.int .u64 u1)).setIfInBounds 30 (.int .u64 u2)) 93)) wr.heap.size u1 u2 := eng_at _ _ _ _ rfl
                  generalize (wr.alloc (.cells ((eng0.setIfInBounds 29 (.int .u64 u1)).setIfInBounds 30 (.int .u64 u2)) 93)) = W at b1 e1 ⊢
                  refine Calls.mono (H4.out W wr.heap.size (Kept.of b1 (Nat.le_refl _))) ?_
                  rintro e w5 ⟨rfl, b5⟩
                  obtain ⟨c29, c30, c237, cf, clt⟩ := e1.later b5
                  have HB5 : Hid (Below wr.heap.size wr w5) := b1.trans (b5.mono b1.size)
                  clear b5 b1 e1 H4 cf
                  go_wp2_with fail
                  refine Calls.mono (same_ids hI.out _ (HB5.out.alloc HB5.out.size _)) ?_
                  rintro e w6 ⟨rfl, b6⟩
                  have d0 := later b6 (show (w5.alloc (.cells #[.int .u8 0, .slice none 0 0, .pointer none, .pointer none] 96)).cell? ⟨w5.heap.size, 0, none⟩ = some (.int .u8 0) by rw [cnew _ _ _ _ _ rfl]; rfl)
                  have d1 := later b6 (show (w5.alloc (.cells #[.int .u8 0, .slice none 0 0, .pointer none, .pointer none] 96)).cell? ⟨w5.heap.size, 1, none⟩ = some (.slice none 0 0) by rw [cnew _ _ _ _ _ rfl]; rfl)
                  have HB6 : Hid (Below wr.heap.size wr w6) := (HB5.out.alloc HB5.out.size _).trans (b6.mono (by have := HB5.out.size; simp; omega))
                  clear b6 c29 c30 c237 clt HB5
                  go_wp2
                  go_ret
                  exact ⟨rfl, hI.out.below.trans (HB6.out.mono (by have := hI.out.size; omega))⟩
                · cases sup with
                  | true =>
                    have K4 := fun W E (hKW : Kept [] wr W) => release_sup E (.pointer (some ⟨w.heap.size + 1 + 1, 0, none⟩)) id named hm W
                    simp only [item] at K4
                    have H4 : Hid _ := K4
                    clear K4
                    go_wp2_with fail
                    have b1 : Below wr.heap.size wr (wr.alloc (.cells ((eng0.setIfInBounds 29 (.int .u64 u1)).setIfInBounds 30 (.int .u64 u2)) 93)) := (Below.refl _ wr).alloc (Nat.le_refl _) _
                    have e1 : EngAt (wr.alloc (.cells ((eng0.setIfInBounds 29 (.int .u64 u1)).setIfInBounds 30 (.int .u64 u2)) 93)) wr.heap.size u1 u2 := eng_at _ _ _ _ rfl
                    generalize (wr.alloc (.cells ((eng0.setIfInBounds 29 (.int .u64 u1)).setIfInBounds 30 (.int .u64 u2)) 93)) = W at b1 e1 ⊢
                    refine Calls.mono (H4.out W wr.heap.size (Kept.of b1 (Nat.le_refl _))) ?_
                    rintro e w5 ⟨rfl, b5⟩
                    obtain ⟨c29, c30, c237, cf, clt⟩ := e1.later b5
                    have HB5 : Hid (Below wr.heap.size wr w5) := b1.trans (b5.mono b1.size)
                    clear b5 b1 e1 H4 cf
                    go_wp2_with fail
                    refine Calls.mono (same_ids hI.out _ (HB5.out.alloc HB5.out.size _)) ?_
                    rintro e w6 ⟨rfl, b6⟩
                    have d0 := later b6 (show (w5.alloc (.cells #[.int .u8 (id : Int), .slice none 0 0, .pointer none, .pointer none] 96)).cell? ⟨w5.heap.size, 0, none⟩ = some (.int .u8 (id : Int)) by rw [cnew _ _ _ _ _ rfl]; rfl)
                    have d1 := later b6 (show (w5.alloc (.cells #[.int .u8 (id : Int), .slice none 0 0, .pointer none, .pointer none] 96)).cell? ⟨w5.heap.size, 1, none⟩ = some (.slice none 0 0) by rw [cnew _ _ _ _ _ rfl]; rfl)
                    have HB6 : Hid (Below wr.heap.size wr w6) := (HB5.out.alloc HB5.out.size _).trans (b6.mono (by have := HB5.out.size; simp; omega))
                    clear b6 c29 c30 c237 clt HB5
                    go_wp2
                    go_ret
                    exact ⟨rfl, hI.out.below.trans (HB6.out.mono (by have := hI.out.size; omega))⟩
                  | false =>
                    cases hF : F id with
                    | false =>
                      have HF : Hid _ := hF
                      clear hF
                      have K4 := fun W E (hKW : Kept [] wr W) => release_no E (some ⟨w.heap.size + 1 + 1, 0, none⟩) id named hm W (fun W' hK => by
                          obtain ⟨a, cap, _, hC, row, _⟩ := hI.out.last W' (hKW.trans hK)
                          exact lookup_miss _ a _ cap (nth bl) (nth (upto F 256)) id hid (fun j hj e => by have := (upto_mem hj).2; rw [e, HF.out] at this; cases this) W' hC row)
                      simp only [item] at K4
                      have H4 : Hid _ := K4
                      clear K4
                      go_wp2_with fail
                      have b1 : Below wr.heap.size wr (wr.alloc (.cells ((eng0.setIfInBounds 29 (.int .u64 u1)).setIfInBounds 30 (.int .u64 u2)) 93)) := (Below.refl _ wr).alloc (Nat.le_refl _) _
                      have e1 : EngAt (wr.alloc (.cells ((eng0.setIfInBounds 29 (.int .u64 u1)).setIfInBounds 30 (.int .u64 u2)) 93)) wr.heap.size u1 u2 := eng_at _ _ _ _ rfl
                      generalize (wr.alloc (.cells ((eng0.setIfInBounds 29 (.int .u64 u1)).setIfInBounds 30 (.int .u64 u2)) 93)) = W at b1 e1 ⊢
                      refine Calls.mono (H4.out W wr.heap.size (Kept.of b1 (Nat.le_refl _))) ?_
                      rintro e w5 ⟨rfl, b5⟩
                      obtain ⟨c29, c30, c237, cf, clt⟩ := e1.later b5
                      have HB5 : Hid (Below wr.heap.size wr w5) := b1.trans (b5.mono b1.size)
                      clear b5 b1 e1 H4 cf
                      go_wp2_with fail
                      refine Calls.mono (same_ids hI.out _ (HB5.out.alloc HB5.out.size _)) ?_
                      rintro e w6 ⟨rfl, b6⟩
                      have d0 := later b6 (show (w5.alloc (.cells #[.int .u8 0, .slice none 0 0, .pointer none, .pointer none] 96)).cell? ⟨w5.heap.size, 0, none⟩ = some (.int .u8 0) by rw [cnew _ _ _ _ _ rfl]; rfl)
                      have d1 := later b6 (show (w5.alloc (.cells #[.int .u8 0, .slice none 0 0, .pointer none, .pointer none] 96)).cell? ⟨w5.heap.size, 1, none⟩ = some (.slice none 0 0) by rw [cnew _ _ _ _ _ rfl]; rfl)
                      have HB6 : Hid (Below wr.heap.size wr w6) := (HB5.out.alloc HB5.out.size _).trans (b6.mono (by have := HB5.out.size; simp; omega))
                      have p6 := later HB6.out ((hI.out.pres.cell id hid).1.trans (by rw [HF.out]))
                      clear b6 c29 c30 c237 clt HB5
                      go_wp2
                      go_ret
                      exact ⟨rfl, hI.out.below.trans (HB6.out.mono (by have := hI.out.size; omega))⟩
                    | true =>
                      have HF : Hid _ := hF
                      clear hF
                      obtain ⟨kk, hkk, hke⟩ := upto_has hid HF.out
                      have HKE : Hid _ := And.intro hkk hke
                      clear hkk hke
                      go_wp2_with fail
                      have b1 : Below wr.heap.size wr (wr.alloc (.cells ((eng0.setIfInBounds 29 (.int .u64 u1)).setIfInBounds 30 (.int .u64 u2)) 93)) := (Below.refl _ wr).alloc (Nat.le_refl _) _
                      have e1 : EngAt (wr.alloc (.cells ((eng0.setIfInBounds 29 (.int .u64 u1)).setIfInBounds 30 (.int .u64 u2)) 93)) wr.heap.size u1 u2 := eng_at _ _ _ _ rfl
                      generalize (wr.alloc (.cells ((eng0.setIfInBounds 29 (.int .u64 u1)).setIfInBounds 30 (.int .u64 u2)) 93)) = W at b1 e1 ⊢
                      have kW : Kept [] wr W := Kept.of b1 (Nat.le_refl _)
                      obtain ⟨a3, cap3, hvr, hC, row, hl⟩ := hI.out.last W kW
                      obtain ⟨G, hPG, rfl, hGt, L⟩ := hl (by have := HKE.out.1; omega) wr.heap.size (Nat.le_refl _) e1.lt e1.froz
                      obtain ⟨_, rc, g1, g39, g41, g42, g43, g45⟩ := hI.out.rab kk _ _ (nth_at (by have h1 := hI.out.len; have h2 := HKE.out.1; omega)) (nth_at HKE.out.1)
                      have gW := (kW.block _ (lt_of g1) (by simp)).trans g1
                      have K4 := release_hit wr.heap.size (w.heap.size + 2) G (upto F 256).length cap3 kk HKE.out.1 (nth bl) (nth (upto F 256)) named (by omega) (rp (nth (upto F 256) kk)) u1 u2 (nth (upto F 256) kk : Nat) ((nth (upto F 256) kk : Nat) * 3) W L (by rw [decide_eq_decide]; omega)
                        e1.dl e1.ul e1.freed ((cell_of gW).trans g42) ((cell_of gW).trans g43) ((cell_of gW).trans g45) ((cell_of gW).trans g39)
                      rw [HKE.out.2] at K4
                      simp only [item] at K4
                      refine Calls.mono K4 ?_
                      clear K4
                      rintro e w5 ⟨v5, rfl, hvol, gone⟩
                      have GF := fun W' b => gone_facts (W' := W') hI.out kW (Nat.le_refl _) hGt HKE.out.1 gone b
                      have GT := fun W' b => gone_true (W' := W') hI.out kW (Nat.le_refl _) hGt HKE.out.1 gone b
                      rw [HKE.out.2] at GT
                      have GZ : Hid (∀ W', kk = 0 → Below w5.heap.size w5 W' → Calls Yba.prog 5 #[.pointer (some ⟨w.heap.size + 2, 0, none⟩), _, .int .i64 (-1)] W' fun e w' => e = .returned (.bool false) ∧ Below W'.heap.size W' w') := fun W' h0 b => by
                        subst h0
                        exact gone_false hI.out kW (Nat.le_refl _) hGt HKE.out.1 gone b
                      obtain ⟨keep, _⟩ := GF w5 (Below.refl _ _)
                      obtain ⟨pc, p1, p2, p3⟩ := hI.out.pres
                      have pp : w5.cell? ⟨w.heap.size, id, none⟩ = some (.bool true) := (cell_of (keep _ _ _ _ p1 (by decide) (by decide))).trans ((p3 id hid).trans (by rw [HF.out]))
                      have plt : w.heap.size < w5.heap.size := cell_lt pp
                      obtain ⟨qc, q1, q2, q3⟩ := hI.out.rep
                      have qq : w5.cell? ⟨w.heap.size + 1, id, none⟩ = some (.bool (rp id)) := (cell_of (keep _ _ _ _ q1 (by decide) (by decide))).trans ((q3 id hid).trans (by show some (Value.bool (decide (id < 256) && (F id && rp id))) = _; rw [HF.out, decide_eq_true hid]; rfl))
                      have qlt : w.heap.size + 1 < w5.heap.size := cell_lt qq
                      have c29 := gone.dl
                      have c30 := gone.ul
                      have c237 := gone.freed
                      have clt : wr.heap.size < w5.heap.size := cell_lt c29
                      have BL : Hid (Below w.heap.size w w5) := hI.out.below.trans ((b1.mono (by have := hI.out.size; omega)).trans (gone.kept.below (by have h1 := hI.out.size; have h2 := b1.size; omega) (by
                        intro x hx
                        simp at hx
                        have := hI.out.size
                        rcases hx with h | h | h <;> omega)))
                      have HGT : Hid _ := GT
                      have HGN : Hid (W.heap.size ≤ w5.heap.size) := gone.kept.size
                      clear GT GF keep pc p1 p2 p3 qc q1 q2 q3 gone rc g1 g39 g41 g42 g43 g45 gW L hl row hC hvr kW b1 e1 hGt
                      by_cases h0 : id = 0
                      · subst h0
                        have HK0 : Hid (kk = 0) := first_of HKE.out.1 HKE.out.2
                        have hw1 := wrap_u u1 HU1.out
                        have hw2 := wrap_u u2 HU2.out
                        rw [show IntKind.u64.wrap (u1 - ((0 : Nat) : Int)) = u1 by simp [hw1]] at c29
                        rw [show IntKind.u64.wrap (u2 - ((0 : Nat) : Int) * 3) = u2 by simp [hw2]] at c30
                        rw [show decide ((0 : Int) < ((0 : Nat) : Int)) = false by decide] at c237
                        cases hrp : rp 0 with
                        | true =>
                          rw [hrp] at qq hvol
                          obtain ⟨V, rfl, hV1, hV2, hV3, hV4⟩ := hvol
                          have vlt : V < w5.heap.size := hV2
                          clear hV1 hV2
                          go_wp2_with fail
                          refine Calls.mono (GZ.out _ HK0.out ((Below.refl _ w5).alloc (Nat.le_refl _) _)) ?_
                          rintro e w6 ⟨rfl, b6⟩
                          have d0 := later b6 (show (w5.alloc (.cells #[.int .u8 0, .slice (some ⟨V, 0, none⟩) 1 1, .pointer none, .pointer none] 96)).cell? ⟨w5.heap.size, 0, none⟩ = some (.int .u8 0) by rw [cnew _ _ _ _ _ rfl]; rfl)
                          have d1 := later b6 (show (w5.alloc (.cells #[.int .u8 0, .slice (some ⟨V, 0, none⟩) 1 1, .pointer none, .pointer none] 96)).cell? ⟨w5.heap.size, 1, none⟩ = some (.slice (some ⟨V, 0, none⟩) 1 1) by rw [cnew _ _ _ _ _ rfl]; rfl)
                          have b56 : Below w5.heap.size w5 w6 := ((Below.refl _ w5).alloc (Nat.le_refl _) _).trans (b6.mono (by simp))
                          have c29' := later b56 c29
                          have c30' := later b56 c30
                          have c237' := later b56 c237
                          have pp' := later b56 pp
                          have qq' := later b56 qq
                          have hV3' := later b56 hV3
                          have hV4' := later b56 hV4
                          clear hV3 hV4
                          have H56 : Hid _ := b56
                          clear b56 b6 c29 c30 c237 pp qq
                          go_wp2_with fail
                          refine Calls.mono (HGT.out _ H56.out) ?_
                          rintro e w7 ⟨rfl, b7⟩
                          have B7 : Hid (Below w.heap.size w w7) := (BL.out.trans (H56.out.mono BL.out.size)).trans (b7.mono (by have h1 := BL.out.size; have h2 := H56.out.size; omega))
                          clear b7
                          go_wp2
                          go_ret
                          exact ⟨rfl, B7.out⟩
                        | false =>
                          rw [hrp] at qq hvol
                          obtain rfl : v5 = .slice none 0 0 := hvol
                          go_wp2_with fail
                          refine Calls.mono (GZ.out _ HK0.out ((Below.refl _ w5).alloc (Nat.le_refl _) _)) ?_
                          rintro e w6 ⟨rfl, b6⟩
                          have d0 := later b6 (show (w5.alloc (.cells #[.int .u8 0, .slice none 0 0, .pointer none, .pointer none] 96)).cell? ⟨w5.heap.size, 0, none⟩ = some (.int .u8 0) by rw [cnew _ _ _ _ _ rfl]; rfl)
                          have d1 := later b6 (show (w5.alloc (.cells #[.int .u8 0, .slice none 0 0, .pointer none, .pointer none] 96)).cell? ⟨w5.heap.size, 1, none⟩ = some (.slice none 0 0) by rw [cnew _ _ _ _ _ rfl]; rfl)
                          have b56 : Below w5.heap.size w5 w6 := ((Below.refl _ w5).alloc (Nat.le_refl _) _).trans (b6.mono (by simp))
                          have c29' := later b56 c29
                          have c30' := later b56 c30
                          have c237' := later b56 c237
                          have pp' := later b56 pp
                          have qq' := later b56 qq
                          have H56 : Hid _ := b56
                          clear b56 b6 c29 c30 c237 pp qq
                          go_wp2_with fail
                          refine Calls.mono (HGT.out _ H56.out) ?_
                          rintro e w7 ⟨rfl, b7⟩
                          have B7 : Hid (Below w.heap.size w w7) := (BL.out.trans (H56.out.mono BL.out.size)).trans (b7.mono (by have h1 := BL.out.size; have h2 := H56.out.size; omega))
                          clear b7
                          go_wp2
                          go_ret
                          exact ⟨rfl, B7.out⟩
                      · cases hrp : rp id with
                        | true =>
                          rw [hrp] at qq hvol
                          obtain ⟨V, rfl, hV1, hV2, hV3, hV4⟩ := hvol
                          have vlt : V < w5.heap.size := hV2
                          clear hV1 hV2
                          have ipos : (0 : Int) < (id : Int) := by omega
                          have hq : (IntKind.u64.wrap (u1 - (id : Int)) == u1) = false := by have := wrap_ne u1 id (by omega) hid; simp [this]
                          have hq2 : decide (IntKind.u64.wrap (u1 - (id : Int)) = u1) = false := by have := wrap_ne u1 id (by omega) hid; simp [this]
                          have hdp : decide ((0 : Int) < (id : Int)) = true := decide_eq_true ipos
                          have hdq : decide (0 < id) = true := by simp; omega
                          have hne : ((id : Int) != 0) = true := by simp; omega
                          have hne2 : (id == 0) = false := by simp; omega
                          rw [hdp] at c237
                          go_wp2_with fail
                          refine Calls.mono (HGT.out _ ((Below.refl _ w5).alloc (Nat.le_refl _) _)) ?_
                          rintro e w7 ⟨rfl, b7⟩
                          have B7 : Hid (Below w.heap.size w w7) := (BL.out.alloc BL.out.size _).trans (b7.mono (by have := BL.out.size; simp; omega))
                          clear b7
                          go_wp2
                          go_ret
                          exact ⟨rfl, B7.out⟩
                        | false =>
                          rw [hrp] at qq hvol
                          obtain rfl : v5 = .slice none 0 0 := hvol
                          have ipos : (0 : Int) < (id : Int) := by omega
                          have hq : (IntKind.u64.wrap (u1 - (id : Int)) == u1) = false := by have := wrap_ne u1 id (by omega) hid; simp [this]
                          have hq2 : decide (IntKind.u64.wrap (u1 - (id : Int)) = u1) = false := by have := wrap_ne u1 id (by omega) hid; simp [this]
                          have hdp : decide ((0 : Int) < (id : Int)) = true := decide_eq_true ipos
                          have hdq : decide (0 < id) = true := by simp; omega
                          have hne : ((id : Int) != 0) = true := by simp; omega
                          have hne2 : (id == 0) = false := by simp; omega
                          rw [hdp] at c237
                          go_wp2_with fail
                          refine Calls.mono (HGT.out _ ((Below.refl _ w5).alloc (Nat.le_refl _) _)) ?_
                          rintro e w7 ⟨rfl, b7⟩
                          have B7 : Hid (Below w.heap.size w w7) := (BL.out.alloc BL.out.size _).trans (b7.mono (by have := BL.out.size; simp; omega))
                          clear b7
                          go_wp2
                          go_ret
                          exact ⟨rfl, B7.out⟩
    · have hd1 : decide ((1024 : Int) < (n : Int)) = false := by simp; omega
      have hd2 : decide ((1024 : Int) < (n2 : Int)) = true := by simp; omega
      clear S SB
      go_enter Yba.func3, Yba.ntmps3
      go_wp2
      go_ret
      exact ⟨rfl, Below.refl _ _⟩
  · have hd1 : decide ((1024 : Int) < (n : Int)) = true := by simp; omega
    clear S SB
    go_enter Yba.func3, Yba.ntmps3
    go_wp2
    go_ret
    exact ⟨rfl, Below.refl _ _⟩
end Go.Proofs.Ybulkadfe
