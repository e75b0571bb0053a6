/-
  SEAT b6613794aM: THE CONTRACTS: withInfo (22), ZZWithInfo (11), ZZPointer (10).
-/
import Derived.Test.Qxb6613794aModsKit
namespace Go.Proofs.Qxb6613794aMods
open Go.RowKit

set_option maxHeartbeats 400000 in
theorem withInfo_any {ids : Array Value} (hI : Id16 ids) (l i : Int) (s s' : ByteArray) (v : Int) (w : World) :
    Calls Trym.prog 22 #[.agg (ptr ids l i s v), .string s'] w fun e w' => e = .returned (.agg (ptr ids l i s' (IntKind.u64.wrap (v + 1)))) ∧ Grown w w' := by
  have p22 := ptr_22 hI l i s v
  have p23 := ptr_23 hI l i s v
  go_enter Trym.func22, Trym.ntmps22
  go_wp2_with (first | (refine ld38 _ rfl rfl rfl (At.old (At.new w _ 38) _) ?_ ?_) | (refine st38n _ _ rfl rfl rfl rfl (size_alloc _ _) rfl ?_ ?_ ?_))
  · rw [ptr_set hI]
    exact ptr_size hI _ _ _ _
  · rw [ptr_set hI]
    exact ptr_size hI _ _ _ _
  · rw [ptr_set hI]
    exact ptr_one hI _ _ _ _
  · refine res38 Trym.results22 (At.new1 w _ _ 38) ?_ rfl rfl ⟨?_, ((Grown.refl w).alloc _ _).alloc _ _⟩
    · rw [ptr_set hI]
      exact ptr_size hI _ _ _ _
    · rw [ptr_set hI]

set_option maxHeartbeats 400000 in
theorem zzWithInfo_any {ids : Array Value} (hI : Id16 ids) (l i : Int) (s s' : ByteArray) (v : Int) (w : World) :
    Calls Trym.prog 11 #[.agg (ptr ids l i s v), .string s'] w fun e w' => e = .returned (.agg (ptr ids l i s' (IntKind.u64.wrap (v + 1)))) ∧ Grown w w' := by
  have hs := ptr_size hI l i s v
  go_enter Trym.func11, Trym.ntmps11
  go_wp2_with (first | (refine ld38 _ rfl rfl rfl (At.old (At.new w _ 38) _) hs ?_))
  refine (withInfo_any hI l i s s' v _).mono ?_
  rintro e w' ⟨rfl, hg⟩
  have a1 : At w' (w.heap.size + 1) zero38 38 := (At.new1 w _ zero38 38).grown hg
  have hg' := grown_trans (((Grown.refl w).alloc _ _).alloc _ _) hg
  have hs' := ptr_size hI l i s' (IntKind.u64.wrap (v + 1))
  have ho' := ptr_one hI l i s' (IntKind.u64.wrap (v + 1))
  clear hg hs
  go_wp2_with (first | (refine st38 _ _ rfl rfl rfl rfl a1 rfl hs' ho' ?_))
  exact res38 Trym.results11 (setRow_heap _ _ _ _ _ _ a1) hs' rfl rfl ⟨rfl, Grown.setRow hg' (by omega) _⟩

set_option maxHeartbeats 400000 in
theorem zzPointer_any {ids : Array Value} (hI : Id16 ids) (l i : Int) (s : ByteArray) (v : Int) (w : World) :
    Calls Trym.prog 10 #[.agg ids, .int .i64 l, .int .u64 i, .string s, .int .u64 v] w fun e w' => e = .returned (.agg (ptr ids l i s v)) ∧ Grown w w' := by
  have hi := hI.1
  have hs := ptr_size hI l i s v
  have ho := ptr_one hI l i s v
  go_enter Trym.func10, Trym.ntmps10
  go_wp2_with (first | (refine ld22 _ rfl rfl rfl (At.old (At.new w _ 22) _) hi ?_) | (refine bld38 _ _ _ _ _ rfl rfl rfl rfl rfl rfl rfl hI ?_) | (refine st38n _ _ rfl rfl rfl rfl (size_alloc _ _) rfl hs ho ?_))
  exact res38 Trym.results10 (At.new1 w _ _ 38) hs rfl rfl ⟨rfl, ((Grown.refl w).alloc _ _).alloc _ _⟩
end Go.Proofs.Qxb6613794aMods
