/-
  SEAT b6613794aM: THE WALK OF THE LAW FnStalerAfterWithInfo (function 3).
-/
import Derived.Test.Qxb6613794aModsCalls
import Derived.Test.Qxb6613794aModsInfo
namespace Go.Proofs.Qxb6613794aMods
open Go.RowKit

/-- zzBytes_FnStalerAfterWithInfo. -/
theorem zz9_no (ids : Array Value) (l i : Int) (s : ByteArray) (v : Int) (s' : ByteArray) (w : World) (hs : s.size ≤ maxLen) (hs' : s'.size ≤ maxLen) (h : 1048576 < s.size + s'.size) :
    Calls Trym.prog 9 #[.agg ids, .int .i64 l, .int .u64 i, .string s, .int .u64 v, .string s'] w fun e w' => e = .returned (.bool false) ∧ Grown w w' := by
  unfold maxLen at hs hs'
  by_cases h1 : 1048576 < s.size
  · go_enter Trym.func9, Trym.ntmps9
    go_wp2
    go_ret
    exact ⟨rfl, (Grown.refl w).alloc _ _⟩
  by_cases h2 : 1048576 < s'.size
  · go_enter Trym.func9, Trym.ntmps9
    go_wp2
    go_ret
    exact ⟨rfl, (Grown.refl w).alloc _ _⟩
  · go_enter Trym.func9, Trym.ntmps9
    go_wp2
    go_ret
    exact ⟨rfl, (Grown.refl w).alloc _ _⟩
theorem zz9_yes (ids : Array Value) (l i : Int) (s : ByteArray) (v : Int) (s' : ByteArray) (w : World) (h : s.size + s'.size ≤ 1048576) :
    Calls Trym.prog 9 #[.agg ids, .int .i64 l, .int .u64 i, .string s, .int .u64 v, .string s'] w fun e w' => e = .returned (.bool true) ∧ Grown w w' := by
  go_enter Trym.func9, Trym.ntmps9
  go_wp2
  go_ret
  exact ⟨rfl, (Grown.refl w).alloc _ _⟩

/-! ### The plain laws -/
theorem wrap_next {v : Int} (v0 : 0 ≤ v) (v1 : v ≤ 18446744073709551615) : IntKind.u64.wrap (v + 1) = if v = 18446744073709551615 then 0 else v + 1 := by
  simp only [IntKind.wrap, IntKind.signed, IntKind.bits, Bool.false_and, Bool.false_eq_true, if_false]
  by_cases e : v = 18446744073709551615
  · rw [if_pos e]; omega
  · rw [if_neg e]; omega
theorem stal_fwd {v : Int} (i : Int) (v0 : 0 ≤ v) (v1 : v ≤ 18446744073709551615) : stal i v i (IntKind.u64.wrap (v + 1)) = (v != 18446744073709551615) := by
  rw [wrap_next v0 v1, Bool.eq_iff_iff]
  simp [stal]
  split <;> omega
theorem stal_back {v : Int} (i : Int) (v0 : 0 ≤ v) (v1 : v ≤ 18446744073709551615) : stal i (IntKind.u64.wrap (v + 1)) i v = (v == 18446744073709551615) := by
  rw [wrap_next v0 v1, Bool.eq_iff_iff]
  simp [stal]
  split <;> omega
theorem stal_self (i v : Int) : stal i v i v = false := by simp [stal]

set_option maxHeartbeats 1000000 in
theorem law3 {ids : Array Value} (hI : Id16 ids) (l i : Int) (s : ByteArray) (v : Int) (s' : ByteArray) (w : World) (hs : s.size ≤ maxLen) (hs' : s'.size ≤ maxLen) (v0 : 0 ≤ v) (v1 : v ≤ 18446744073709551615) :
    Calls Trym.prog 3 #[.agg ids, .int .i64 l, .int .u64 i, .string s, .int .u64 v, .string s'] w fun e w' => e = .returned (.bool true) ∧ Grown w w' := by
  have hi := hI.1
  have a0 := At.new w ids 22
  have g0 := (Grown.refl w).alloc ids 22
  by_cases hn : 1048576 < s.size + s'.size
  · go_enter Trym.func3, Trym.ntmps3
    go_wp2_with (first | (refine ld22 _ rfl rfl rfl a0 hi ?_))
    refine (zz9_no ids l i s v s' _ hs hs' hn).mono ?_
    rintro e w1 ⟨rfl, hg⟩
    have g1 := grown_trans g0 hg
    clear g0 hg a0
    go_wp2_with fail
    go_ret
    exact ⟨rfl, g1⟩
  have hn' : s.size + s'.size ≤ 1048576 := by omega
  clear hn
  by_cases c1 : 65536 < s.size
  · go_enter Trym.func3, Trym.ntmps3
    go_wp2_with (first | (refine ld22 _ rfl rfl rfl a0 hi ?_))
    refine (zz9_yes ids l i s v s' _ hn').mono ?_
    rintro e w1 ⟨rfl, hg⟩
    have g1 := grown_trans g0 hg
    clear g0 hg a0
    go_wp2_with fail
    go_ret
    exact ⟨rfl, g1⟩
  by_cases c2 : 65536 < s'.size
  · go_enter Trym.func3, Trym.ntmps3
    go_wp2_with (first | (refine ld22 _ rfl rfl rfl a0 hi ?_))
    refine (zz9_yes ids l i s v s' _ hn').mono ?_
    rintro e w1 ⟨rfl, hg⟩
    have g1 := grown_trans g0 hg
    clear g0 hg a0
    go_wp2_with fail
    go_ret
    exact ⟨rfl, g1⟩
  have zp := ptr_size hI l i s v
  have op := ptr_one hI l i s v
  have zq := ptr_size hI l i s' (IntKind.u64.wrap (v + 1))
  have oq := ptr_one hI l i s' (IntKind.u64.wrap (v + 1))
  have p21 := ptr_21 hI l i s v
  have p23 := ptr_23 hI l i s v
  have q21 := ptr_21 hI l i s' (IntKind.u64.wrap (v + 1))
  have q23 := ptr_23 hI l i s' (IntKind.u64.wrap (v + 1))
  have K10 := fun w => zzPointer_any hI l i s v w
  have K11 := fun w => zzWithInfo_any hI l i s s' v w
  have e1 := stal_fwd i v0 v1
  have e2 := stal_back i v0 v1
  have e3 := stal_self i v
  generalize hp : ptr ids l i s v = p at *
  generalize hq : ptr ids l i s' (IntKind.u64.wrap (v + 1)) = q at *
  clear hp hq
  go_enter Trym.func3, Trym.ntmps3
  go_wp2_with (first | (refine ld22 _ rfl rfl rfl a0 hi ?_))
  refine (zz9_yes ids l i s v s' _ hn').mono ?_
  rintro e w1 ⟨rfl, hg⟩
  have g1 := grown_trans g0 hg
  have a1 := a0.grown hg
  clear g0 hg a0
  go_wp2_with (first | (refine ld22 _ rfl rfl rfl a1 hi ?_))
  refine (K10 _).mono ?_
  rintro e w2 ⟨rfl, hg⟩
  have g2 := grown_trans g1 hg
  clear g1 hg a1
  have b2 := At.new w2 p 38
  go_wp2_with (first | (refine st38n _ _ rfl rfl rfl rfl rfl rfl zp op ?_) | (refine ld38 _ rfl rfl rfl b2 zp ?_))
  refine (K11 _).mono ?_
  rintro e w3 ⟨rfl, hg⟩
  have g3 := grown_trans (g2.alloc p 38) hg
  have b3 := (b2.grown hg).old (.cells q 38)
  have c3 := At.new w3 q 38
  clear g2 hg b2
  have K12 := fun w => zzStaler_any zp zq p21 p23 q21 q23 w
  have K12' := fun w => zzStaler_any zq zp q21 q23 p21 p23 w
  have K12s := fun w => zzStaler_any zp zp p21 p23 p21 p23 w
  rw [e1] at K12
  rw [e2] at K12'
  rw [e3] at K12s
  clear e1 e2 e3 K10 K11 p21 p23 q21 q23
  go_wp2_with (first | (refine st38n _ _ rfl rfl rfl rfl rfl rfl zq oq ?_) | (refine ld38 _ rfl rfl rfl b3 zp ?_) | (refine ld38 _ rfl rfl rfl c3 zq ?_))
  refine (K12 _).mono ?_
  rintro e w4 ⟨rfl, hg⟩
  have g4 := grown_trans (g3.alloc q 38) hg
  have b4 := b3.grown hg
  have c4 := c3.grown hg
  clear g3 hg b3 c3
  go_wp2_with (first | (refine ld38 _ rfl rfl rfl b4 zp ?_) | (refine ld38 _ rfl rfl rfl c4 zq ?_))
  refine (K12' _).mono ?_
  rintro e w5 ⟨rfl, hg⟩
  have g5 := grown_trans g4 hg
  have b5 := b4.grown hg
  clear g4 hg b4 c4
  go_wp2_with (first | (refine ld38 _ rfl rfl rfl b5 zp ?_))
  refine (K12s _).mono ?_
  rintro e w6 ⟨rfl, hg⟩
  have g6 := grown_trans g5 hg
  clear g5 hg b5
  go_wp2_with fail
  go_ret
  exact ⟨rfl, g6⟩
end Go.Proofs.Qxb6613794aMods
