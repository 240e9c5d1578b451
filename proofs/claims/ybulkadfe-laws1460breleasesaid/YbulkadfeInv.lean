import Derived.Test.YbulkadfeIds
namespace Go.Proofs.Ybulkadfe
open Go.RowKit

def seen (f : Nat → Nat) : Nat → Nat → Bool
  | 0, _ => false
  | k + 1, x => seen f k x || (f k == x)

theorem heap_set {w : World} {B i : Nat} {cs : Array Value} {t : TypeId} {fr : Nat × Nat} {v : Value} (h : w.heap[B]? = some (.cells cs t fr)) : (w.setCell ⟨B, i, none⟩ v).heap[B]? = some (.cells (cs.setIfInBounds i v) t fr) := by
  simp [World.setCell, Array.getElem?_modify, h]

theorem cell_of {w : World} {B i : Nat} {cs : Array Value} {t : TypeId} {fr : Nat × Nat} (h : w.heap[B]? = some (.cells cs t fr)) : w.cell? ⟨B, i, none⟩ = cs[i]? := by simp [World.cell?, h]
theorem frozen_of {w : World} {B i : Nat} {cs : Array Value} {t : TypeId} (h : w.heap[B]? = some (.cells cs t (0, 0))) : w.frozen? ⟨B, i, none⟩ = false := by simp [World.frozen?, h]
theorem lt_of {w : World} {B : Nat} {o : Obj} (h : w.heap[B]? = some o) : B < w.heap.size := (Array.getElem?_eq_some_iff.1 h).1

/-- A [256]bool. -/
def BArr (w : World) (B : Nat) (F : Nat → Bool) : Prop := ∃ cs, w.heap[B]? = some (.cells cs 25 (0, 0)) ∧ cs.size = 256 ∧ ∀ x, x < 256 → cs[x]? = some (.bool (F x))

theorem BArr.cell {w : World} {B : Nat} {F : Nat → Bool} (h : BArr w B F) (x : Nat) (hx : x < 256) : w.cell? ⟨B, x, none⟩ = some (.bool (F x)) ∧ w.frozen? ⟨B, x, none⟩ = false := by
  obtain ⟨cs, h1, h2, h3⟩ := h
  exact ⟨(cell_of h1).trans (h3 x hx), frozen_of h1⟩

theorem BArr.set {w : World} {B : Nat} {F F' : Nat → Bool} (h : BArr w B F) (i : Nat) (b : Bool) (hi : i < 256) (hF : ∀ x, x < 256 → F' x = if x = i then b else F x) : BArr (w.setCell ⟨B, i, none⟩ (.bool b)) B F' := by
  obtain ⟨cs, h1, h2, h3⟩ := h
  refine ⟨_, heap_set h1, by simpa using h2, fun x hx => ?_⟩
  rw [Array.getElem?_setIfInBounds, hF x hx]
  by_cases e : i = x
  · subst e; simp [h2, hi]
  · rw [if_neg e, if_neg (fun h => e h.symm)]; exact h3 x hx

theorem BArr.of {w w' : World} {B : Nat} {F : Nat → Bool} (h : BArr w B F) (e : w'.heap[B]? = w.heap[B]?) : BArr w' B F := by
  obtain ⟨cs, h1, h2⟩ := h
  exact ⟨cs, e.trans h1, h2⟩

/-- Blocks of cells of other types than those of L stand as they stood. -/
def TK (L : List TypeId) (a b : World) : Prop := ∀ (g : Nat) (cs : Array Value) (t : TypeId) (fr : Nat × Nat), a.heap[g]? = some (.cells cs t fr) → t ∉ L → b.heap[g]? = a.heap[g]?
theorem TK.trans {L M : List TypeId} {a b c : World} (h : TK L a b) (k : TK M b c) : TK (L ++ M) a c := fun g cs t fr hg ht => by
  have h1 := h g cs t fr hg (fun hh => ht (by simp [hh]))
  exact (k g cs t fr (h1.trans hg) (fun hh => ht (by simp [hh]))).trans h1
theorem TK.alloc (a : World) (o : Obj) : TK [] a (a.alloc o) := fun g _ _ _ hg _ => Below.heap_alloc a o g (lt_of hg)
theorem TK.set {a : World} {B i : Nat} {cs : Array Value} {t : TypeId} {fr : Nat × Nat} (v : Value) (h : a.heap[B]? = some (.cells cs t fr)) : TK [t] a (a.setCell ⟨B, i, none⟩ v) := fun g cs' t' fr' hg ht =>
  Below.heap_setCell a _ v g (fun e => by
    simp only at e
    subst e
    rw [h] at hg
    injection hg with hg
    injection hg with _ e2 _
    exact ht (by simp [e2]))
theorem TK.grown {a b : World} {base : Nat} {e : TypeId} {v : Value} {n : Nat} {xs : List Value} (h : a.ownsRow base e 1 v n xs) (hg : a.grownBy b v.ownBlock) : TK [e] a b := fun g cs t fr hgg ht =>
  hg.block g (lt_of hgg) (fun hh => by
    rcases h.2 with ⟨rfl, _⟩ | ⟨g', cap, cur, rfl, _, hg2, _⟩
    · simp [Value.ownBlock] at hh
    · simp [Value.ownBlock] at hh
      subst hh
      rw [hg2] at hgg
      injection hgg with hgg
      injection hgg with _ e2 _
      exact ht (by simp [e2]))
theorem own_tk {a b : World} {base : Nat} {e : TypeId} {v : Value} {n : Nat} {xs : List Value} {L : List TypeId} (h : a.ownsRow base e 1 v n xs) (k : TK L a b) (he : e ∉ L) : b.ownsRow base e 1 v n xs := by
  refine ⟨h.1, ?_⟩
  rcases h.2 with hn | ⟨g, cap, cur, rfl, hb, hgg, rest⟩
  · exact .inl hn
  · exact .inr ⟨g, cap, cur, rfl, hb, (k g cur e (0, 0) hgg he).trans hgg, rest⟩

/-- The IDs below v that are there. -/
def upto (F : Nat → Bool) (v : Nat) : List Nat := (List.range v).filter F
theorem upto_hit {F : Nat → Bool} {v : Nat} (h : F v = true) : upto F (v + 1) = upto F v ++ [v] := by simp [upto, List.range_succ, h]
theorem upto_miss {F : Nat → Bool} {v : Nat} (h : F v = false) : upto F (v + 1) = upto F v := by simp [upto, List.range_succ, h]
theorem upto_len (F : Nat → Bool) (v : Nat) : (upto F v).length ≤ v := by
  have := List.length_filter_le F (List.range v); simpa [upto] using this

def pv (b : Nat) : Value := .pointer (some ⟨b, 0, none⟩)
def iv (x : Nat) : Value := .int .u8 (x : Int)

/-- A RAB of the ID x. -/
def RabAt (rp : Nat → Bool) (P : Nat) (w : World) (b x : Nat) : Prop := P + 3 ≤ b ∧ ∃ cs, w.heap[b]? = some (.cells cs 61 (0, 0)) ∧ cs[39]? = some (.bool (rp x)) ∧ cs[41]? = some (.int .u8 (x : Int)) ∧ cs[42]? = some (.int .u64 (x : Int)) ∧ cs[43]? = some (.int .u64 ((x : Int) * 3)) ∧ cs[45]? = some (.bool false)

structure Inv (w wr : World) (P : Nat) (F rp : Nat → Bool) (v : Nat) (vr vb : Value) (bl : List Nat) : Prop where
  below : Below P w wr
  size : P + 3 ≤ wr.heap.size
  pres : BArr wr P F
  rep : BArr wr (P + 1) (fun x => decide (x < v) && (F x && rp x))
  conn : ∃ cs, wr.heap[P + 2]? = some (.cells cs 35 (0, 0)) ∧ cs[1]? = some vr
  rrow : wr.ownsRow P 29 1 vr (upto F v).length (bl.map pv)
  brow : wr.ownsRow P 5 1 vb (upto F v).length ((upto F v).map iv)
  rab : ∀ (j b x : Nat), bl[j]? = some b → (upto F v)[j]? = some x → RabAt rp P wr b x
  len : bl.length = (upto F v).length

theorem Inv.miss {w wr : World} {P : Nat} {F rp : Nat → Bool} {v : Nat} {vr vb : Value} {bl : List Nat} (I : Inv w wr P F rp v vr vb bl) (h : F v = false) : Inv w wr P F rp (v + 1) vr vb bl := by
  obtain ⟨a1, a2, a3, a4, a5, a6, a7, a8, a9⟩ := I
  refine ⟨a1, a2, a3, ?_, a5, by rw [upto_miss h]; exact a6, by rw [upto_miss h]; exact a7, by rw [upto_miss h]; exact a8, by rw [upto_miss h]; exact a9⟩
  have e : (fun x => decide (x < v + 1) && (F x && rp x)) = (fun x => decide (x < v) && (F x && rp x)) := by
    funext x
    by_cases hx : x = v
    · subst hx; simp [h]
    · have : decide (x < v + 1) = decide (x < v) := by simp; omega
      rw [this]
  rw [e]; exact a4

/-- The world behind the new RAB and the note of its reporting. -/
theorem Inv.two {w wr : World} {P : Nat} {F rp : Nat → Bool} {v : Nat} {vr vb : Value} {bl : List Nat} (I : Inv w wr P F rp v vr vb bl) (h : F v = true) (hv : v < 256) (RC : Array Value)
    (hRC : RC[39]? = some (.bool (rp v)) ∧ RC[41]? = some (.int .u8 (v : Int)) ∧ RC[42]? = some (.int .u64 (v : Int)) ∧ RC[43]? = some (.int .u64 ((v : Int) * 3)) ∧ RC[45]? = some (.bool false)) :
    ∀ W2, W2 = (wr.alloc (.cells RC 61)).setCell ⟨P + 1, v, none⟩ (.bool (rp v)) → Below P w W2 ∧ W2.heap.size = wr.heap.size + 1 ∧ BArr W2 P F ∧ BArr W2 (P + 1) (fun x => decide (x < v + 1) && (F x && rp x)) ∧
      (∃ cs, W2.heap[P + 2]? = some (.cells cs 35 (0, 0)) ∧ cs[1]? = some vr) ∧ W2.ownsRow P 29 1 vr (upto F v).length (bl.map pv) ∧ W2.ownsRow P 5 1 vb (upto F v).length ((upto F v).map iv) ∧
      (∀ (j b x : Nat), bl[j]? = some b → (upto F v)[j]? = some x → RabAt rp P W2 b x) ∧ RabAt rp P W2 wr.heap.size v := by
  obtain ⟨a1, a2, a3, a4, a5, a6, a7, a8, a9⟩ := I
  obtain ⟨cs, b1, b2, b3⟩ := a4
  have t1 : TK [] wr (wr.alloc (.cells RC 61)) := TK.alloc _ _
  have r1 : (wr.alloc (.cells RC 61)).heap[P + 1]? = some (.cells cs 25 (0, 0)) := (t1 _ _ _ _ b1 (by simp)).trans b1
  have t2 : TK [25] wr ((wr.alloc (.cells RC 61)).setCell ⟨P + 1, v, none⟩ (.bool (rp v))) := t1.trans (TK.set _ r1)
  rintro _ rfl
  refine ⟨(a1.alloc (by omega) _).setCell (by simp) _, by simp [World.setCell], ?_, ?_, ?_, own_tk a6 t2 (by decide), own_tk a7 t2 (by decide), fun j b x hb hx => ?_, ?_⟩
  · exact a3.of ((Below.heap_setCell _ _ _ _ (by simp)).trans (Below.heap_alloc _ _ _ (by omega)))
  · refine BArr.set (F := fun x => decide (x < v) && (F x && rp x)) ⟨cs, r1, b2, b3⟩ v (rp v) hv (fun x _ => ?_)
    by_cases hx : x = v
    · subst hx; simp [h]
    · rw [if_neg hx]
      have : decide (x < v + 1) = decide (x < v) := by simp; omega
      rw [this]
  · obtain ⟨cc, c1, c2⟩ := a5
    exact ⟨cc, (t2 _ _ _ _ c1 (by decide)).trans c1, c2⟩
  · obtain ⟨g0, cc, c1, c2⟩ := a8 j b x hb hx
    exact ⟨g0, cc, (t2 _ _ _ _ c1 (by decide)).trans c1, c2⟩
  · refine ⟨by omega, RC, ?_, hRC⟩
    exact (Below.heap_setCell _ _ _ _ (by simp; omega)).trans (hnew wr _)

/-- The world behind the first append. -/
theorem three_of {W2 W3 : World} {P m : Nat} {vr vb : Value} {bl : List Nat} {ys : List Value} (c5 : ∃ cs, W2.heap[P + 2]? = some (.cells cs 35 (0, 0)) ∧ cs[1]? = some vr)
    (c6 : W2.ownsRow P 29 1 vr m (bl.map pv)) (c7 : W2.ownsRow P 5 1 vb m ys) (o1 : Obj) (d1 : (W2.alloc o1).grownBy W3 vr.ownBlock) :
    W3.cell? ⟨P + 2, 1, none⟩ = some vr ∧ W3.frozen? ⟨P + 2, 1, none⟩ = false ∧ ∀ u, (W3.setCell ⟨P + 2, 1, none⟩ u).ownsRow P 5 1 vb m ys := by
  have t1 : TK [29] W2 W3 := (TK.alloc W2 o1).trans (TK.grown (c6.alloc o1) d1)
  obtain ⟨cc, q1, q2⟩ := c5
  have q3 := (t1 _ _ _ _ q1 (by decide)).trans q1
  exact ⟨(cell_of q3).trans q2, frozen_of q3, fun u => own_tk (own_tk c7 t1 (by decide)) (TK.set u q3) (by decide)⟩

/-- The world behind both appends. -/
theorem Inv.hit {w wr W2 W3 W6 : World} {P : Nat} {F rp : Nat → Bool} {v : Nat} {vr vb vr' vb' : Value} {bl : List Nat} (hlen : bl.length = (upto F v).length) (h : F v = true) (hsz : P + 3 ≤ wr.heap.size)
    (c1 : Below P w W2) (c2 : W2.heap.size = wr.heap.size + 1) (c3 : BArr W2 P F) (c4 : BArr W2 (P + 1) (fun x => decide (x < v + 1) && (F x && rp x))) (c5 : ∃ cs, W2.heap[P + 2]? = some (.cells cs 35 (0, 0)) ∧ cs[1]? = some vr)
    (c6 : W2.ownsRow P 29 1 vr (upto F v).length (bl.map pv)) (c8 : ∀ (j b x : Nat), bl[j]? = some b → (upto F v)[j]? = some x → RabAt rp P W2 b x) (c9 : RabAt rp P W2 wr.heap.size v) (o1 o2 : Obj)
    (d1 : (W2.alloc o1).grownBy W3 vr.ownBlock) (d2 : W3.ownsRow P 29 1 vr' ((upto F v).length + 1) (bl.map pv ++ [pv wr.heap.size]))
    (e0 : (W3.setCell ⟨P + 2, 1, none⟩ vr').ownsRow P 5 1 vb (upto F v).length ((upto F v).map iv)) (e1 : ((W3.setCell ⟨P + 2, 1, none⟩ vr').alloc o2).grownBy W6 vb.ownBlock) (e2 : W6.ownsRow P 5 1 vb' ((upto F v).length + 1) ((upto F v).map iv ++ [iv v])) :
    Inv w W6 P F rp (v + 1) vr' vb' (bl ++ [wr.heap.size]) := by
  have t1 : TK [29] W2 W3 := (TK.alloc W2 o1).trans (TK.grown (c6.alloc o1) d1)
  obtain ⟨cc, q1, q2⟩ := c5
  have q3 := (t1 _ _ _ _ q1 (by decide)).trans q1
  have t3 : TK [5] (W3.setCell ⟨P + 2, 1, none⟩ vr') W6 := (TK.alloc _ o2).trans (TK.grown (e0.alloc o2) e1)
  have t2 : TK [29, 35, 5] W2 W6 := (t1.trans (TK.set vr' q3)).trans t3
  have s1 := c2
  have s2 := d1.size
  have s3 := e1.size
  simp [World.setCell] at s2 s3
  have ok : ∀ b x, RabAt rp P W2 b x → RabAt rp P W6 b x := fun b x ⟨g0, cs, g1, g2⟩ => ⟨g0, cs, (t2 _ _ _ _ g1 (by decide)).trans g1, g2⟩
  refine ⟨?_, by omega, ?_, ?_, ?_, ?_, ?_, fun j b x hb hx => ?_, ?_⟩
  · have g1 : Below P w W3 := (c1.alloc (by omega) _).grown d1 (by simp; omega) (fun k hk => (c6.lt k hk).1)
    exact ((g1.setCell (by simp) _).alloc (by simp [World.setCell]; omega) _).grown e1 (by simp [World.setCell]; omega) (fun k hk => (e0.lt k hk).1)
  · obtain ⟨cs, g1, g2⟩ := c3
    exact ⟨cs, (t2 _ _ _ _ g1 (by decide)).trans g1, g2⟩
  · obtain ⟨cs, g1, g2⟩ := c4
    exact ⟨cs, (t2 _ _ _ _ g1 (by decide)).trans g1, g2⟩
  · have g1 := heap_set (i := 1) (v := vr') q3
    refine ⟨_, (t3 _ _ _ _ g1 (by decide)).trans g1, ?_⟩
    have hs := (Array.getElem?_eq_some_iff.1 q2).1
    simp [hs]
  · rw [upto_hit h, List.map_append, List.length_append]
    exact own_tk d2 ((TK.set vr' q3).trans t3) (by decide)
  · rw [upto_hit h, List.map_append, List.length_append]
    exact e2
  · rw [upto_hit h] at hx
    by_cases hj : j < bl.length
    · rw [List.getElem?_append_left hj] at hb
      rw [List.getElem?_append_left (by omega)] at hx
      exact ok _ _ (c8 j b x hb hx)
    · have e : j = bl.length := by
        have := (List.getElem?_eq_some_iff.1 hb).1
        simp at this; omega
      subst e
      simp at hb
      rw [hlen] at hx
      simp at hx
      subst hb hx
      exact ok _ _ c9
  · rw [upto_hit h]; simp [hlen]

def nth (l : List Nat) (j : Nat) : Nat := l.getD j 0
theorem nth_at {l : List Nat} {j : Nat} (h : j < l.length) : l[j]? = some (nth l j) := by
  simp [nth, List.getD_eq_getElem?_getD, List.getElem?_eq_getElem h]

theorem upto_mono (F : Nat → Bool) (v : Nat) (i j : Nat) (hij : i < j) (hj : j < (upto F v).length) : nth (upto F v) i < nth (upto F v) j := by
  have hp : (upto F v).Pairwise (· < ·) := List.Pairwise.filter F List.pairwise_lt_range
  have := List.pairwise_iff_getElem.1 hp i j (by omega) hj hij
  simpa [nth, List.getD_eq_getElem?_getD, List.getElem?_eq_getElem hj, List.getElem?_eq_getElem (Nat.lt_trans hij hj)] using this

theorem upto_mem {F : Nat → Bool} {v j : Nat} (hj : j < (upto F v).length) : nth (upto F v) j < v ∧ F (nth (upto F v) j) = true := by
  have h := List.mem_of_getElem? (nth_at hj)
  simpa [upto] using h

theorem upto_has {F : Nat → Bool} {v x : Nat} (hx : x < v) (h : F x = true) : ∃ k, k < (upto F v).length ∧ nth (upto F v) k = x := by
  have hm : x ∈ upto F v := by simp [upto, hx, h]
  obtain ⟨k, hk, e⟩ := List.mem_iff_getElem.1 hm
  refine ⟨k, hk, ?_⟩
  have := nth_at hk
  rw [List.getElem?_eq_getElem hk, e] at this
  injection this with this
  exact this.symm

theorem cnt_all (ws : Nat → Nat) : ∀ i, cnt ws (-1) i = i
  | 0 => rfl
  | i + 1 => by unfold cnt; rw [cnt_all ws i, if_neg (by omega)]

/-- All of the row but place k. -/
theorem cnt_but {l : List Nat} {k : Nat} (hk : k < l.length) (mono : ∀ i j, i < j → j < l.length → nth l i < nth l j) : ∀ i, i ≤ l.length → cnt (nth l) (nth l k : Nat) i = if i ≤ k then i else i - 1
  | 0, _ => by simp [cnt]
  | i + 1, hi => by
    unfold cnt
    rw [cnt_but hk mono i (by omega)]
    by_cases e : i = k
    · subst e; simp
    · have hne : (nth l i : Int) ≠ (nth l k : Int) := by
        rcases Nat.lt_or_gt_of_ne e with h | h
        · have := mono i k h hk; omega
        · have := mono k i h (by omega); omega
      rw [if_neg hne]
      by_cases h : i < k
      · rw [if_pos (by omega), if_pos (by omega)]
      · rw [if_neg (by omega), if_neg (by omega)]; omega

theorem own_shape {w : World} {base : Nat} {e : TypeId} {n : Nat} {v : Value} {xs : List Value} (h : w.ownsRow base e 1 v n xs) :
    ∃ a cap, v = .slice a n cap ∧ ∀ j u, xs[j]? = some u → ∃ G, a = some ⟨G, 0, none⟩ ∧ base ≤ G ∧ n ≤ cap ∧ cap ≤ maxLen ∧ (∃ cur, w.heap[G]? = some (.cells cur e (0, 0))) ∧ w.cell? ⟨G, j, none⟩ = some u := by
  rcases h.2 with ⟨rfl, rfl⟩ | ⟨g, cap, cur, rfl, hb, hg, h1, h2, h3, h4⟩
  · refine ⟨none, 0, rfl, fun j u hu => ?_⟩
    have := h.1
    simp at this
    subst this
    simp at hu
  · refine ⟨some ⟨g, 0, none⟩, cap, rfl, fun j u hu => ⟨g, rfl, hb, h1, h2, ⟨cur, hg⟩, ?_⟩⟩
    have := h.cells (g := g) rfl j u hu
    rw [← this]
    by_cases e : j = 0 <;> simp [Addr.add, e]

theorem pv_at {bl : List Nat} {j : Nat} (h : j < bl.length) : (bl.map pv)[j]? = some (.pointer (some ⟨nth bl j, 0, none⟩)) := by
  rw [List.getElem?_map, nth_at h]; rfl
theorem iv_at {l : List Nat} {j : Nat} (h : j < l.length) : (l.map iv)[j]? = some (.int .u8 (nth l j : Nat)) := by
  rw [List.getElem?_map, nth_at h]; rfl

/-- What the release is told of the connection. -/
theorem Inv.last {w wr : World} {P : Nat} {F rp : Nat → Bool} {vr vb : Value} {bl : List Nat} (I : Inv w wr P F rp 256 vr vb bl) (W : World) (hW : Kept [] wr W) :
    (∃ a cap, vr = .slice a (upto F 256).length cap ∧ W.cell? ⟨P + 2, 1, none⟩ = some (.slice a (upto F 256).length cap) ∧ Row W a (upto F 256).length (nth bl) (nth (upto F 256)) ∧
      (0 < (upto F 256).length → ∀ E, wr.heap.size ≤ E → E < W.heap.size → (∀ o, W.frozen? ⟨E, o, none⟩ = false) → ∃ G, P ≤ G ∧ a = some ⟨G, 0, none⟩ ∧ (∃ cur, wr.heap[G]? = some (.cells cur 29 (0, 0))) ∧ Laid W E (P + 2) G (upto F 256).length cap (nth bl) (nth (upto F 256)))) := by
  obtain ⟨a1, a2, a3, a4, ⟨cc, q1, q2⟩, a6, a7, a8, a9⟩ := I
  obtain ⟨a, cap, rfl, hsh⟩ := own_shape a6
  have qW := (hW.block _ (lt_of q1) (by simp)).trans q1
  have hrab : ∀ j, j < (upto F 256).length → RabAt rp P wr (nth bl j) (nth (upto F 256) j) := fun j hj => a8 j _ _ (nth_at (by omega)) (nth_at hj)
  have row : Row W a (upto F 256).length (nth bl) (nth (upto F 256)) := by
    refine ⟨fun j hj => ?_, fun j hj => ?_, fun j hj => (upto_mem hj).1, fun i j hij hj => upto_mono F 256 i j hij hj, upto_len F 256⟩
    · obtain ⟨G, e, _, _, _, _, hc⟩ := hsh j _ (pv_at (by omega))
      exact ⟨G, e, (hW.cell (cell_lt hc) (by simp)).trans hc⟩
    · obtain ⟨_, cs, h1, _, h2, _⟩ := hrab j hj
      exact (hW.cell (lt_of h1) (by simp)).trans ((cell_of h1).trans h2)
  refine ⟨a, cap, rfl, (cell_of qW).trans q2, row, fun h0 E hE1 hE2 hEf => ?_⟩
  obtain ⟨G, rfl, g1, g2, g3, ⟨cur, g4⟩, _⟩ := hsh 0 _ (pv_at (by omega))
  have gW := (hW.block _ (lt_of g4) (by simp)).trans g4
  have hC := lt_of q1
  have hG := lt_of g4
  refine ⟨G, g1, rfl, ⟨cur, g4⟩, (cell_of qW).trans q2, frozen_of qW, row, fun j => frozen_of gW, hEf, g2, g3, hE2, lt_of qW, lt_of gW, fun j hj => ?_, by omega, by omega, ?_, fun j hj => ?_⟩
  · obtain ⟨_, cs, h1, _⟩ := hrab j hj
    exact Nat.lt_of_lt_of_le (lt_of h1) hW.size
  · intro e
    rw [e] at q1
    rw [q1] at g4
    injection g4 with g4
    injection g4 with _ e2 _
    exact absurd e2 (by decide)
  · obtain ⟨h0, cs, h1, _⟩ := hrab j hj
    have := lt_of h1
    refine ⟨by omega, by omega, fun e => ?_⟩
    rw [e] at h1
    rw [h1] at g4
    injection g4 with g4
    injection g4 with _ e2 _
    exact absurd e2 (by decide)

theorem Inv.before {w wr : World} {P : Nat} {F rp : Nat → Bool} {vr vb : Value} {bl : List Nat} (I : Inv w wr P F rp 256 vr vb bl) :
    ∃ a cap, vb = .slice a (upto F 256).length cap ∧ ∀ i, i < (upto F 256).length → ∃ H, a = some ⟨H, 0, none⟩ ∧ (∃ cur, wr.heap[H]? = some (.cells cur 5 (0, 0))) ∧ wr.cell? ⟨H, i, none⟩ = some (.int .u8 (nth (upto F 256) i : Nat)) := by
  obtain ⟨a, cap, rfl, hsh⟩ := own_shape I.brow
  refine ⟨a, cap, rfl, fun i hi => ?_⟩
  obtain ⟨H, e, _, _, _, hcur, hc⟩ := hsh i _ (iv_at hi)
  exact ⟨H, e, hcur, hc⟩
end Go.Proofs.Ybulkadfe
