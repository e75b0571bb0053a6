/-
  SEAT b6613794aM: AN ID (an array of sixteen bytes, by value) OPENED AS AN ARGUMENT, AND READ AGAIN BEHIND THE CALL.
-/
import Derived.Test.Qxb6613794aModsKit
import Derived.ProofKit
import Derived.OpenShut
import Derived.ShutString
namespace Go.Proofs.Qxb6613794aMods
open Go.ChangeShapes Go.WideShapes Go.ChangeAt Go.RowKit

theorem laidOut : laidOutB Trym.prog = true := by kernel_rfl
theorem rec22 : Trym.prog.readableRec 22 = true := by kernel_rfl
theorem row22 : (22 : TypeId) < Trym.prog.types.size := of_decide_eq_true (by kernel_rfl)
theorem cells22 : Trym.prog.cellsOf 22 = 16 := by kernel_rfl
theorem cells5 : Trym.prog.cellsOf 5 = 1 := by kernel_rfl

theorem open_id {H : Type} {enc : TypeId × Value → H} {W : World} {base : Nat} {v : Value} {d : DataW H} {p : List MemPlace}
    (hv : Value.okWide Trym.prog W .any base 22 v) (h : DataW.Trod enc Trym.prog W 0 (fun _ => true) true 22 v d p) :
    ∃ ids : Array Value, v = .agg ids ∧ Id16 ids ∧ p = [] ∧ ∀ (W' : World) (sp : Nat → Bool), DataW.Trod enc Trym.prog W' 0 sp true 22 (.agg ids) d [] := by
  simp only [Value.okWide, Trym.underlying22] at hv
  obtain ⟨ids, rfl, hs, _⟩ := hv
  rw [cells22] at hs
  have h' := h
  obtain ⟨fuel, hf⟩ := h'
  obtain ⟨ys, m, _, hx, _, hl, hy⟩ := DataW.trod_array Trym.underlying22 hf
  have hcs : (Value.agg ids).cells = ids := rfl
  have hall : ∀ i, i < 16 → ∃ n : Int, ids[i]? = some (.int .u8 n) ∧ ∃ y : DataW H, ys[i]? = some (y, []) := by
    intro i hi
    have e := hy i hi
    rw [cells5, hcs, Nat.mul_one] at e
    have hil : i < ids.toList.length := by simp [hs, hi]
    have ed : (ids.toList.drop i).take 1 = [ids.toList[i]] := by
      rw [List.drop_eq_getElem_cons hil]; rfl
    rw [ed] at e
    have hyl : i < ys.length := by omega
    rw [List.getElem?_eq_getElem hyl] at e
    obtain ⟨n, h1, h2, _⟩ := DataW.trod_int Trym.underlying5 e
    refine ⟨n, ?_, .lit (.int .u8 n), ?_⟩
    · have hia : i < ids.size := by omega
      rw [Array.getElem?_eq_getElem hia]
      simpa using h1
    · rw [List.getElem?_eq_getElem hyl, h2]
  have hp : p = [] := by
    have : p = ys.flatMap (·.2) := by
      have := congrArg Prod.snd hx
      exact this
    rw [this, List.flatMap_eq_nil_iff]
    intro y hym
    obtain ⟨i, hi, rfl⟩ := List.mem_iff_getElem.1 hym
    obtain ⟨_, _, y', hy'⟩ := hall i (by omega)
    rw [List.getElem?_eq_getElem hi] at hy'
    have e : ys[i] = (y', []) := Option.some.inj hy'
    rw [e]
  subst hp
  refine ⟨ids, rfl, ⟨hs, ?_⟩, rfl, fun W' sp => WideElems.Trod_stays laidOut rec22 row22 h (by simp) (by simp)⟩
  rw [Array.all_eq_true]
  intro i hi
  obtain ⟨n, hn, _⟩ := hall i (by omega)
  rw [Array.getElem?_eq_getElem hi] at hn
  have e : ids[i] = .int .u8 n := Option.some.inj hn
  rw [e]
  rfl
end Go.Proofs.Qxb6613794aMods
