import Derived.Test.YbulkacxcDoorBSet
import Derived.Laws.CopyOwn
namespace Go.Proofs.YbulkacxcDoor
open Go.ChangeShapes Go.WideShapes Go.ChangeAt Go.WideMaps Go.WideElems Go.RowKit

theorem info5b : (Ybad.prog.info? 5).map (fun i => (i.zero, i.size, i.bytes)) = some (some (.int .u8 0), 1, 1) := by kernel_rfl
theorem size5 : (Ybad.prog.info? 5).map (·.size) = some 1 := by kernel_rfl

theorem own_block {w : World} {base g n : Nat} {xs : List Value} (h : w.ownsRow base 5 1 (.slice (some ⟨g, 0, none⟩) n n) n xs) :
    ∃ cur, w.heap[g]? = some (.cells cur 5 (0, 0)) ∧ cur.size = n := by
  rcases h.2 with ⟨h1, _⟩ | ⟨g', cap, cur, h1, _, hg, _, _, hs, _⟩
  · cases h1
  · simp only [Value.slice.injEq, Option.some.injEq, Addr.mk.injEq, and_true] at h1
    obtain ⟨rfl, _, rfl⟩ := h1
    exact ⟨cur, hg, by simpa using hs⟩

/-- 'copy(d, data)': d is the call's own row, as long as data. -/
theorem copy_run {W : World} {G c b off : Nat} {cur : Array Value} {zs : List Int} (hg : W.heap[G]? = some (.cells cur 5 (0, 0))) (hcs : cur.size = zs.length) (hs : Src W (some ⟨b, off, none⟩) zs) (ty : TypeId) :
    (Builtin.copy_ #[22, 22] ty #[.slice (some ⟨G, 0, none⟩) zs.length zs.length, .slice (some ⟨b, off, none⟩) zs.length c]).run Ybad.prog W =
      .ok (.int .i64 zs.length) (W.setRow G (zs.map (Value.int .u8)).toArray) := by
  have h := run_copy_row (P := Ybad.prog) W 22 22 ty 5 G 0 zs.length zs.length ⟨b, off, none⟩ zs.length c cur 5 (zs.map (Value.int .u8)) Ybad.underlying22 size5 hg (by simp)
    (fun j v hv => by
      have hj : j < zs.length := by
        have := (List.getElem?_eq_some_iff.1 hv).1
        simpa using this
      obtain ⟨b', off', e, h⟩ := hs.cell j hj
      simp only [Option.some.injEq, Addr.mk.injEq, and_true] at e
      obtain ⟨rfl, rfl⟩ := e
      rw [add_plain, h]
      rw [List.getElem?_map, List.getElem?_eq_getElem hj] at hv
      rw [List.getD_eq_getElem?_getD, List.getElem?_eq_getElem hj]
      simpa using hv) (by simp; omega) (fun v hv => by
      obtain ⟨z, _, rfl⟩ := List.mem_map.1 hv; rfl)
  rw [h]
  have e1 : (List.take 0 cur.toList ++ zs.map (Value.int .u8) ++ List.drop (0 + (zs.map (Value.int .u8)).length) cur.toList) = zs.map (Value.int .u8) := by
    rw [List.take_zero, List.nil_append, List.drop_of_length_le (by simp; omega), List.append_nil]
  rw [e1]
  simp [goInt]

theorem row_facts {W : World} {G : Nat} {cur : Array Value} {zs : List Int} (hg : W.heap[G]? = some (.cells cur 5 (0, 0))) (hb : ∀ z ∈ zs, 0 ≤ z ∧ z ≤ 255) :
    Src (W.setRow G (zs.map (Value.int .u8)).toArray) (some ⟨G, 0, none⟩) zs ∧ (∀ o, (W.setRow G (zs.map (Value.int .u8)).toArray).frozen? ⟨G, o, none⟩ = false) ∧
      (∀ k, k ≠ G → (W.setRow G (zs.map (Value.int .u8)).toArray).heap[k]? = W.heap[k]?) ∧ (W.setRow G (zs.map (Value.int .u8)).toArray).heap.size = W.heap.size := by
  have h := setRow_heap W G cur (zs.map (Value.int .u8)).toArray 5 (0, 0) hg
  refine ⟨src_lit h rfl hb, fun o => by simp [World.frozen?, h], fun k hk => setRow_other W G k _ hk, by simp [World.setRow]⟩

theorem setRow_below {B : Nat} {w W : World} {G : Nat} (h : Below B w W) (hB : B ≤ G) (cs : Array Value) : Below B w (W.setRow G cs) := below_setRow h hB cs

/-- Four new blocks, one behind the other: the four array parameters. -/
theorem four (w : World) (A B C D : Array Value) (tA tB tC tD : TypeId) :
    (∀ i, ((((w.alloc (.cells A tA)).alloc (.cells B tB)).alloc (.cells C tC)).alloc (.cells D tD)).cell? ⟨w.heap.size, i, none⟩ = A[i]?) ∧ (∀ i, ((((w.alloc (.cells A tA)).alloc (.cells B tB)).alloc (.cells C tC)).alloc (.cells D tD)).cell? ⟨w.heap.size + 1, i, none⟩ = B[i]?) ∧
    (∀ i, ((((w.alloc (.cells A tA)).alloc (.cells B tB)).alloc (.cells C tC)).alloc (.cells D tD)).cell? ⟨w.heap.size + 1 + 1, i, none⟩ = C[i]?) ∧ (∀ i, ((((w.alloc (.cells A tA)).alloc (.cells B tB)).alloc (.cells C tC)).alloc (.cells D tD)).cell? ⟨w.heap.size + 1 + 1 + 1, i, none⟩ = D[i]?) ∧
    Below w.heap.size w ((((w.alloc (.cells A tA)).alloc (.cells B tB)).alloc (.cells C tC)).alloc (.cells D tD)) ∧ ((((w.alloc (.cells A tA)).alloc (.cells B tB)).alloc (.cells C tC)).alloc (.cells D tD)).heap.size = w.heap.size + 1 + 1 + 1 + 1 := by
  refine ⟨fun i => ?_, fun i => ?_, fun i => ?_, fun i => ?_, ?_, ?_⟩
  · rw [calt' (by simp; omega), calt' (by simp; omega), calt' (by simp), cnew _ _ _ _ _ rfl]
  · rw [calt' (by simp), calt' (by simp), cnew _ _ _ _ _ (by simp)]
  · rw [calt' (by simp), cnew _ _ _ _ _ (by simp)]
  · rw [cnew _ _ _ _ _ (by simp)]
  · exact ((((Below.refl _ w).alloc (Nat.le_refl _) _).alloc (by simp) _).alloc (by simp; omega) _).alloc (by simp; omega) _
  · simp
end Go.Proofs.YbulkacxcDoor
