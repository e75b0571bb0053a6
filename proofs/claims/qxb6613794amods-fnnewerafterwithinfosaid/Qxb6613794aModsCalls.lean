/-
  SEAT b6613794aM: THE CONTRACTS: staler (23), ZZStaler (12), newer (24), ZZNewer (14), withInfo (22), ZZWithInfo (11), ZZPointer (10).
-/
import Derived.Test.Qxb6613794aModsKit
namespace Go.Proofs.Qxb6613794aMods
open Go.RowKit

/-- p is staler than o: the same incarnation, a lower version. -/
def stal (pi pv oi ov : Int) : Bool := decide (pi = oi) && decide (pv < ov)

theorem ret_bool {a b : Bool} (h : a = b) : Ending.returned (.bool a) = .returned (.bool b) := by rw [h]

set_option maxHeartbeats 400000 in
theorem staler_any {p o : Array Value} {pi pv oi ov : Int} (p21 : p[21]? = some (.int .u64 pi)) (p23 : p[23]? = some (.int .u64 pv)) (o21 : o[21]? = some (.int .u64 oi)) (o23 : o[23]? = some (.int .u64 ov)) (w : World) :
    Calls Trym.prog 23 #[.agg p, .agg o] w fun e w' => e = .returned (.bool (stal pi pv oi ov)) ∧ Grown w w' := by
  by_cases h : pi = oi
  · subst h
    go_enter Trym.func23, Trym.ntmps23
    go_wp2
    go_ret
    exact ⟨ret_bool (by simp [stal]), ((Grown.refl w).alloc _ _).alloc _ _⟩
  · have hf : (pi == oi) = false := by simp [h]
    go_enter Trym.func23, Trym.ntmps23
    go_wp2
    go_ret
    exact ⟨ret_bool (by simp [stal, h]), ((Grown.refl w).alloc _ _).alloc _ _⟩

set_option maxHeartbeats 400000 in
theorem zzStaler_any {p o : Array Value} {pi pv oi ov : Int} (hp : p.size = 24) (ho : o.size = 24) (p21 : p[21]? = some (.int .u64 pi)) (p23 : p[23]? = some (.int .u64 pv)) (o21 : o[21]? = some (.int .u64 oi)) (o23 : o[23]? = some (.int .u64 ov)) (w : World) :
    Calls Trym.prog 12 #[.agg p, .agg o] w fun e w' => e = .returned (.bool (stal pi pv oi ov)) ∧ Grown w w' := by
  have a1 := (At.new w p 38).old (.cells o 38)
  have a2 := At.new1 w (.cells p 38) o 38
  go_enter Trym.func12, Trym.ntmps12
  go_wp2_with (first | (refine ld38 _ rfl rfl rfl a1 hp ?_) | (refine ld38 _ rfl rfl rfl a2 ho ?_))
  refine (staler_any p21 p23 o21 o23 _).mono ?_
  rintro e w' ⟨rfl, hg⟩
  go_wp2_with fail
  go_ret
  exact ⟨rfl, grown_trans (((Grown.refl w).alloc _ _).alloc _ _) hg⟩

/-- p is newer than o: a later incarnation, or o is staler than p. -/
def newr (pi pv oi ov : Int) : Bool := decide (oi < pi) || stal oi ov pi pv

set_option maxHeartbeats 400000 in
theorem newer_any {p o : Array Value} {pi pv oi ov : Int} (hp : p.size = 24) (ho : o.size = 24) (p21 : p[21]? = some (.int .u64 pi)) (p23 : p[23]? = some (.int .u64 pv)) (o21 : o[21]? = some (.int .u64 oi)) (o23 : o[23]? = some (.int .u64 ov)) (w : World) :
    Calls Trym.prog 24 #[.agg p, .agg o] w fun e w' => e = .returned (.bool (newr pi pv oi ov)) ∧ Grown w w' := by
  have HP : Hid (p.size = 24) := hp
  have HO : Hid (o.size = 24) := ho
  clear hp ho
  have a1 := (At.new w p 38).old (.cells o 38)
  have a2 := At.new1 w (.cells p 38) o 38
  by_cases h : oi < pi
  · go_enter Trym.func24, Trym.ntmps24
    go_wp2
    go_ret
    exact ⟨ret_bool (by simp [newr, h]), ((Grown.refl w).alloc _ _).alloc _ _⟩
  · have hf : decide (oi < pi) = false := by simpa using h
    go_enter Trym.func24, Trym.ntmps24
    go_wp2_with (first | (refine ld38 _ rfl rfl rfl a1 HP.out ?_) | (refine ld38 _ rfl rfl rfl a2 HO.out ?_))
    refine (staler_any o21 o23 p21 p23 _).mono ?_
    rintro e w' ⟨rfl, hg⟩
    go_wp2_with fail
    go_ret
    exact ⟨ret_bool (by unfold newr; rw [hf]; rfl), grown_trans (((Grown.refl w).alloc _ _).alloc _ _) hg⟩

set_option maxHeartbeats 400000 in
theorem zzNewer_any {p o : Array Value} {pi pv oi ov : Int} (hp : p.size = 24) (ho : o.size = 24) (p21 : p[21]? = some (.int .u64 pi)) (p23 : p[23]? = some (.int .u64 pv)) (o21 : o[21]? = some (.int .u64 oi)) (o23 : o[23]? = some (.int .u64 ov)) (w : World) :
    Calls Trym.prog 14 #[.agg p, .agg o] w fun e w' => e = .returned (.bool (newr pi pv oi ov)) ∧ Grown w w' := by
  have a1 := (At.new w p 38).old (.cells o 38)
  have a2 := At.new1 w (.cells p 38) o 38
  go_enter Trym.func14, Trym.ntmps14
  go_wp2_with (first | (refine ld38 _ rfl rfl rfl a1 hp ?_) | (refine ld38 _ rfl rfl rfl a2 ho ?_))
  refine (newer_any hp ho p21 p23 o21 o23 _).mono ?_
  rintro e w' ⟨rfl, hg⟩
  go_wp2_with fail
  go_ret
  exact ⟨rfl, grown_trans (((Grown.refl w).alloc _ _).alloc _ _) hg⟩
end Go.Proofs.Qxb6613794aMods
