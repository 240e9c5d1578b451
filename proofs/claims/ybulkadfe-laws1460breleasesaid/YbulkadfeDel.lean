import Derived.Test.YbulkadfeLeaf
import Derived.Shelf.SlGeneric
import Derived.Ground.SlgnProg
namespace Go.Proofs.Ybulkadfe
open Go.Proofs Go.Shelf
shelf_lay_g SlLaysE.n45 Slgn 45 at Yba 10 as Yba.del
noncomputable def Yba.ptrI : TypeInfo := (Yba.prog.info? 29).get (by kernel_rfl)
theorem Yba.deleteP (G cap i j : Nat) (d : Array (Option Addr)) (w : World) (hH : Sort.Holds Value.pointer w G 0 d) (hcap : d.size ≤ cap) (hm : cap ≤ 9223372036854775807) (hij : i ≤ j) (hj : j ≤ d.size) :
    Calls Yba.prog 10 #[.slice (some ⟨G, 0, none⟩) d.size cap, .int .i64 i, .int .i64 j] w fun e w' => e = .returned (.slice (some ⟨G, 0, none⟩) (d.size - (j - i)) cap) ∧ ∃ q, w' = Sort.putRow Value.pointer (Sort.ahead w q) G 0 (d.toList.take i ++ d.toList.drop j ++ List.replicate (j - i) (none : Option Addr)).toArray :=
  AnyE.slices_Delete Yba.del Value.pointer (fun _ => rfl) none Yba.zeroValue29 Yba.ptrI (by kernel_rfl) (by kernel_rfl) G 0 cap i j d w hH hcap hm hij hj
end Go.Proofs.Ybulkadfe
