/-
  SEAT b6613794aM: LAWS FOR THE WALKS: a Pointer is a row of 24 cells (16 of its id): the row is loaded, stored and boxed WHOLE.
-/
import Derived.Test.Qxb6613794aModsRows
import Derived.WalkKit
import Derived.WalkSpells
import Derived.RowKit3
import Derived.Deep.WholeRow
namespace Go.Proofs.Qxb6613794aMods
open Go.RowKit

/-! ### Worlds that have only grown -/
theorem grown_old {W w' : World} (h : Grown W w') {g : Nat} (hg : g < W.heap.size) : w'.heap[g]? = W.heap[g]? := by
  obtain ⟨⟨_, _, h3⟩, _, _⟩ := h
  have hk := h3 g hg
  split at hk
  · rename_i c t fr c' t' fr' h1 h2
    obtain ⟨rfl, rfl, _, hc⟩ := hk
    have e : c' = c := Array.ext_getElem? (fun j => hc j (fun f => f))
    rw [h1, h2, e]
  · rename_i es ck es' ck' h1 h2
    rcases hk with f | ⟨rfl, rfl⟩
    · exact f.elim
    · rw [h1, h2]
  · exact hk
theorem grown_trans {a b c : World} (h : Grown a b) (h' : Grown b c) : Grown a c := by
  obtain ⟨⟨h1, h2, h3⟩, hf, hs⟩ := h
  obtain ⟨⟨k1, k2, k3⟩, kf, ks⟩ := h'
  exact ⟨World.keptBut_trans ⟨h1, h2, h3⟩ ⟨k1, k2, fun i hi => k3 i hi⟩, fun x => (kf x).trans (hf x), Nat.le_trans hs ks⟩
/-- A block that lies there. -/
def At (w : World) (g : Nat) (c : Array Value) (t : TypeId) : Prop := w.heap[g]? = some (.cells c t (0, 0))
theorem At.lt {w : World} {g : Nat} {c : Array Value} {t : TypeId} (h : At w g c t) : g < w.heap.size := (Array.getElem?_eq_some_iff.1 h).1
theorem At.grown {W w' : World} (h : Grown W w') {g : Nat} {c : Array Value} {t : TypeId} (k : At W g c t) : At w' g c t := (grown_old h k.lt).trans k
theorem At.old {w : World} {g : Nat} {c : Array Value} {t : TypeId} (k : At w g c t) (o : Obj) : At (w.alloc o) g c t := by
  have e : (w.alloc o).heap[g]? = w.heap[g]? := heap_alloc_old w o k.lt
  exact e.trans k
theorem At.new (w : World) (c : Array Value) (t : TypeId) : At (w.alloc (.cells c t)) w.heap.size c t := heap_alloc_new w _
theorem At.new1 (w : World) (x : Obj) (c : Array Value) (t : TypeId) : At ((w.alloc x).alloc (.cells c t)) (w.heap.size + 1) c t := by
  have e : (w.alloc x).heap.size = w.heap.size + 1 := by show (w.heap.push x).size = _; simp
  have h := At.new (w.alloc x) c t
  rwa [e] at h
theorem Grown.setRow {W w' : World} (h : Grown W w') {g : Nat} (ha : W.heap.size ≤ g) (c : Array Value) : Grown W (w'.setRow g c) := by
  obtain ⟨⟨h1, h2, h3⟩, hf, hs⟩ := h
  refine ⟨⟨h1, h2, fun i hi => ?_⟩, fun x => ?_, by simpa using hs⟩
  · have e : (w'.setRow g c).heap[i]? = w'.heap[i]? := by
      simp only [World.setRow, Array.getElem?_modify]
      rw [if_neg (by omega)]
    rw [e]
    exact h3 i hi
  · rw [← hf x]
    simp only [World.frozen?, World.setRow, Array.getElem?_modify]
    by_cases e : g = x.block
    · rw [if_pos e]
      cases w'.heap[x.block]? with
      | none => rfl
      | some o => cases o <;> rfl
    · rw [if_neg e]

/-! ### The rows -/
/-- The cells of an id. -/
def Id16 (ids : Array Value) : Prop := ids.size = 16 ∧ ids.all (·.oneCell') = true
/-- The cells of a Pointer. -/
def ptr (ids : Array Value) (l i : Int) (s : ByteArray) (v : Int) : Array Value :=
  ids ++ #[.int .u64 0, .int .u64 0, .pointer none, .int .u16 0, .int .i64 l, .int .u64 i, .string s, .int .u64 v]
theorem ptr_size {ids : Array Value} (h : Id16 ids) (l i : Int) (s : ByteArray) (v : Int) : (ptr ids l i s v).size = 24 := by
  simp [ptr, h.1]
theorem ptr_one {ids : Array Value} (h : Id16 ids) (l i : Int) (s : ByteArray) (v : Int) : (ptr ids l i s v).all (·.oneCell') = true := by
  unfold ptr
  rw [Array.all_append, h.2]
  simp [Value.oneCell']
theorem ptr_21 {ids : Array Value} (h : Id16 ids) (l i : Int) (s : ByteArray) (v : Int) : (ptr ids l i s v)[21]? = some (.int .u64 i) := by
  simp [ptr, h.1]
theorem ptr_22 {ids : Array Value} (h : Id16 ids) (l i : Int) (s : ByteArray) (v : Int) : (ptr ids l i s v)[22]? = some (.string s) := by
  simp [ptr, h.1]
theorem ptr_23 {ids : Array Value} (h : Id16 ids) (l i : Int) (s : ByteArray) (v : Int) : (ptr ids l i s v)[23]? = some (.int .u64 v) := by
  simp [ptr, h.1]
theorem ptr_set {ids : Array Value} (h : Id16 ids) (l i : Int) (s s' : ByteArray) (v v' : Int) :
    ((ptr ids l i s v).setIfInBounds 22 (.string s')).setIfInBounds 23 (.int .u64 v') = ptr ids l i s' v' := by
  obtain ⟨h, _⟩ := h
  apply Array.ext_getElem?
  intro j
  simp only [ptr, Array.getElem?_setIfInBounds, Array.getElem?_append, Array.size_append, h]
  by_cases e23 : 23 = j
  · subst e23; simp [h]
  · by_cases e22 : 22 = j
    · subst e22; simp
    · rw [if_neg e23, if_neg e22]
      by_cases hj : j < 16
      · rw [if_pos hj, if_pos hj]
      · rw [if_neg hj, if_neg hj]
        by_cases h6 : j - 16 < 6
        · obtain ⟨k, rfl⟩ : ∃ k, j = 16 + k := ⟨j - 16, by omega⟩
          have : k = 0 ∨ k = 1 ∨ k = 2 ∨ k = 3 ∨ k = 4 ∨ k = 5 := by omega
          rcases this with rfl | rfl | rfl | rfl | rfl | rfl <;> rfl
        · have h8 : 8 ≤ j - 16 := by omega
          rw [Array.getElem?_eq_none (by simpa using h8), Array.getElem?_eq_none (by simpa using h8)]

theorem info38 : (Trym.prog.info? 38).map (·.size) = some 24 := by kernel_rfl
theorem info22 : (Trym.prog.info? 22).map (·.size) = some 16 := by kernel_rfl

theorem list16 (l : List Value) (h : l.length = 16) : ∃ c0 c1 c2 c3 c4 c5 c6 c7 c8 c9 c10 c11 c12 c13 c14 c15, l = [c0, c1, c2, c3, c4, c5, c6, c7, c8, c9, c10, c11, c12, c13, c14, c15] := by
  match l, h with
  | [c0, c1, c2, c3, c4, c5, c6, c7, c8, c9, c10, c11, c12, c13, c14, c15], _ => exact ⟨_, _, _, _, _, _, _, _, _, _, _, _, _, _, _, _, rfl⟩
theorem built38 {ids : Array Value} (hI : Id16 ids) (l i : Int) (s : ByteArray) (v : Int) :
    Trym.prog.built 38 [(0, .agg ids), (2, .int .i64 l), (3, .int .u64 i), (4, .string s), (5, .int .u64 v)] = some (ptr ids l i s v) := by
  obtain ⟨h, _⟩ := hI
  obtain ⟨c⟩ := ids
  obtain ⟨c0, c1, c2, c3, c4, c5, c6, c7, c8, c9, c10, c11, c12, c13, c14, c15, rfl⟩ := list16 c h
  kernel_rfl

section
variable {ops : Array Oper} {rest : List Oper} {o : Oper} {a : Act} {w : World} {Q : Exit → Act → World → Prop}
/-- A whole Pointer is loaded. -/
theorem ld38 (x : Operand) (ho : o.op = .load 38 x) (hw : Region.wanted o (yielded ops a.tmps) = true) {g : Nat} (hx : a.eval x = .pointer (some ⟨g, 0, none⟩)) {c : Array Value} (hA : At w g c 38) (hs : c.size = 24)
    (h : wpList Trym.prog ops Q rest (a.put o.dst (.agg c)) w) : wpList Trym.prog ops Q (o :: rest) a w :=
  BigFrame.wpList_want hw fun _ hK => wp_load_row 38 x ho g hx 38 c (0, 0) _ hA Trym.underlying38 rfl (by rw [info38, hs]) (hK _ _ h)
/-- A whole id is loaded. -/
theorem ld22 (x : Operand) (ho : o.op = .load 22 x) (hw : Region.wanted o (yielded ops a.tmps) = true) {g : Nat} (hx : a.eval x = .pointer (some ⟨g, 0, none⟩)) {c : Array Value} (hA : At w g c 22) (hs : c.size = 16)
    (h : wpList Trym.prog ops Q rest (a.put o.dst (.agg c)) w) : wpList Trym.prog ops Q (o :: rest) a w :=
  BigFrame.wpList_want hw fun _ hK => wp_load_row 22 x ho g hx 22 c (0, 0) _ hA Trym.underlying22 rfl (by rw [info22, hs]) (hK _ _ h)
/-- A whole Pointer is stored. -/
theorem st38 (x y : Operand) (ho : o.op = .store 38 x y) (hgd : o.guard = none) {g : Nat} (hx : a.eval x = .pointer (some ⟨g, 0, none⟩)) {c : Array Value} (hy : a.eval y = .agg c)
    {old : Array Value} (hA : At w g old 38) (hold : old.size = 24) (hs : c.size = 24) (h1 : c.all (·.oneCell') = true)
    (h : wpList Trym.prog ops Q rest (a.put o.dst undef) (w.setRow g c)) : wpList Trym.prog ops Q (o :: rest) a w :=
  wpList_store_row hgd 38 x y ho g c hx hy 38 old hA (by rw [info38, hs]) (by omega) h1 h
/-- A whole Pointer is stored into the block that was made last. -/
theorem st38n (x y : Operand) {old : Array Value} (ho : o.op = .store 38 x y) (hgd : o.guard = none) {n : Nat} (hx : a.eval x = .pointer (some ⟨n, 0, none⟩)) {c : Array Value} (hy : a.eval y = .agg c)
    (hn : w.heap.size = n) (hold : old.size = 24) (hs : c.size = 24) (h1 : c.all (·.oneCell') = true)
    (h : wpList Trym.prog ops Q rest (a.put o.dst undef) (w.alloc (.cells c 38))) : wpList Trym.prog ops Q (o :: rest) a (w.alloc (.cells old 38)) := by
  subst hn
  exact st38 x y ho hgd hx hy (At.new w old 38) hold hs h1 (by rw [World.setRow_alloc_new]; exact h)
/-- A Pointer is built of its parts. -/
theorem bld38 (x0 x1 x2 x3 x4 : Operand) (ho : o.op = .build 38 #[(0, x0), (2, x1), (3, x2), (4, x3), (5, x4)]) (hgd : o.guard = none) {ids : Array Value} {l i : Int} {s : ByteArray} {v : Int}
    (e0 : a.eval x0 = .agg ids) (e1 : a.eval x1 = .int .i64 l) (e2 : a.eval x2 = .int .u64 i) (e3 : a.eval x3 = .string s) (e4 : a.eval x4 = .int .u64 v) (hI : Id16 ids)
    (h : wpList Trym.prog ops Q rest (a.put o.dst (.agg (ptr ids l i s v))) w) : wpList Trym.prog ops Q (o :: rest) a w := by
  have hb := built38 hI l i s v
  have hm : ((#[(0, x0), (2, x1), (3, x2), (4, x3), (5, x4)] : Array (Nat × Operand)).map fun (i, x) => (i, a.eval x)).toList = [(0, .agg ids), (2, .int .i64 l), (3, .int .u64 i), (4, .string s), (5, .int .u64 v)] := by
    simp [e0, e1, e2, e3, e4]
  exact wpList_build hgd 38 _ ho (by rw [hm, hb]; rfl) (by rw [hm, hb]; exact h)
end
theorem size_alloc (w : World) (x : Obj) : (w.alloc x).heap.size = w.heap.size + 1 := by show (w.heap.push x).size = _; simp
/-- A function hands back a Pointer that lies in a cell. -/
theorem res38 {fn : Func} {p : Tmp} (h : fn.results = #[.cell p 38]) {R : Ending → World → Prop} {a : Act} {w : World} {g : Nat} {c : Array Value} (hA : At w g c 38) (hs : c.size = 24)
    (hp : a.tmps.getD p undef = .pointer (some ⟨g, 0, none⟩)) (hd : a.defers = []) (hR : R (.returned (.agg c)) w) : bodyPost Trym.prog fn R .ret a w :=
  bodyPost_ret (results_cell_row h a.tmps w g 38 c (0, 0) _ hp hA Trym.underlying38 rfl (by rw [info38, hs])) hd hR

/-- The zero Pointer, as 'alloc' lays it. -/
def zero38 : Array Value := #[.int .u8 0, .int .u8 0, .int .u8 0, .int .u8 0, .int .u8 0, .int .u8 0, .int .u8 0, .int .u8 0, .int .u8 0, .int .u8 0, .int .u8 0, .int .u8 0, .int .u8 0, .int .u8 0, .int .u8 0, .int .u8 0, .int .u64 0, .int .u64 0, .pointer none, .int .u16 0, .int .i64 0, .int .u64 0, .string ⟨#[]⟩, .int .u64 0]
end Go.Proofs.Qxb6613794aMods
