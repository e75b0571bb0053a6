/-
  SEAT b6613794aM: THE WALK OF THE LAW FnNewerAfterWithInfo (function 6).
-/
import Derived.Test.Qxb6613794aModsCalls
import Derived.Test.Qxb6613794aModsInfo
namespace Go.Proofs.Qxb6613794aMods
open Go.RowKit

/-- zzBytes_FnNewerAfterWithInfo. -/
theorem zz16_no (ids jds : Array Value) (l i : Int) (s : ByteArray) (v : Int) (s' : ByteArray) (m j : Int) (t : ByteArray) (u : Int) (w : World) (hs : s.size ≤ maxLen) (hs' : s'.size ≤ maxLen) (ht : t.size ≤ maxLen) (h : 1048576 < s.size + s'.size + t.size) :
    Calls Trym.prog 16 #[.agg ids, .int .i64 l, .int .u64 i, .string s, .int .u64 v, .string s', .agg jds, .int .i64 m, .int .u64 j, .string t, .int .u64 u] w fun e w' => e = .returned (.bool false) ∧ Grown w w' := by
  unfold maxLen at hs hs' ht
  by_cases h1 : 1048576 < s.size
  · go_enter Trym.func16, Trym.ntmps16
    go_wp2
    go_ret
    exact ⟨rfl, ((Grown.refl w).alloc _ _).alloc _ _⟩
  by_cases h2 : 1048576 < s'.size
  · go_enter Trym.func16, Trym.ntmps16
    go_wp2
    go_ret
    exact ⟨rfl, ((Grown.refl w).alloc _ _).alloc _ _⟩
  by_cases h3 : 1048576 < s.size + s'.size
  · go_enter Trym.func16, Trym.ntmps16
    go_wp2
    go_ret
    exact ⟨rfl, ((Grown.refl w).alloc _ _).alloc _ _⟩
  by_cases h4 : 1048576 < t.size
  · go_enter Trym.func16, Trym.ntmps16
    go_wp2
    go_ret
    exact ⟨rfl, ((Grown.refl w).alloc _ _).alloc _ _⟩
  · go_enter Trym.func16, Trym.ntmps16
    go_wp2
    go_ret
    exact ⟨rfl, ((Grown.refl w).alloc _ _).alloc _ _⟩
theorem zz16_yes (ids jds : Array Value) (l i : Int) (s : ByteArray) (v : Int) (s' : ByteArray) (m j : Int) (t : ByteArray) (u : Int) (w : World) (h : s.size + s'.size + t.size ≤ 1048576) :
    Calls Trym.prog 16 #[.agg ids, .int .i64 l, .int .u64 i, .string s, .int .u64 v, .string s', .agg jds, .int .i64 m, .int .u64 j, .string t, .int .u64 u] w fun e w' => e = .returned (.bool true) ∧ Grown w w' := by
  go_enter Trym.func16, Trym.ntmps16
  go_wp2
  go_ret
  exact ⟨rfl, ((Grown.refl w).alloc _ _).alloc _ _⟩

/-! ### The plain laws -/
theorem wrap_succ {v : Int} (v0 : 0 ≤ v) (v1 : v ≤ 18446744073709551615) : IntKind.u64.wrap (v + 1) = if v = 18446744073709551615 then 0 else v + 1 := by
  simp only [IntKind.wrap, IntKind.signed, IntKind.bits, Bool.false_and, Bool.false_eq_true, if_false]
  by_cases e : v = 18446744073709551615
  · rw [if_pos e]; omega
  · rw [if_neg e]; omega
theorem newr_fwd {v : Int} (i : Int) (v0 : 0 ≤ v) (v1 : v ≤ 18446744073709551615) : newr i (IntKind.u64.wrap (v + 1)) i v = (v != 18446744073709551615) := by
  rw [wrap_succ v0 v1, Bool.eq_iff_iff]
  simp [newr, stal]
  split <;> omega
theorem newr_back {v : Int} (i : Int) (v0 : 0 ≤ v) (v1 : v ≤ 18446744073709551615) : newr i v i (IntKind.u64.wrap (v + 1)) = (v == 18446744073709551615) := by
  rw [wrap_succ v0 v1, Bool.eq_iff_iff]
  simp [newr, stal]
  split <;> omega
theorem newr_next {v : Int} (i j u : Int) (v0 : 0 ≤ v) (v1 : v ≤ 18446744073709551615) (hv : v ≠ 18446744073709551615) (h : newr i v j u = true) : newr i (IntKind.u64.wrap (v + 1)) j u = true := by
  rw [wrap_succ v0 v1, if_neg hv]
  simp [newr, stal] at h ⊢
  omega

set_option maxHeartbeats 2000000 in
theorem law6 {ids jds : Array Value} (hI : Id16 ids) (hJ : Id16 jds) (l i : Int) (s : ByteArray) (v : Int) (s' : ByteArray) (m j : Int) (t : ByteArray) (u : Int) (w : World) (hs : s.size ≤ maxLen) (hs' : s'.size ≤ maxLen) (ht : t.size ≤ maxLen) (v0 : 0 ≤ v) (v1 : v ≤ 18446744073709551615) :
    Calls Trym.prog 6 #[.agg ids, .int .i64 l, .int .u64 i, .string s, .int .u64 v, .string s', .agg jds, .int .i64 m, .int .u64 j, .string t, .int .u64 u] w fun e w' => e = .returned (.bool true) ∧ Grown w w' := by
  have hi := hI.1
  have hj := hJ.1
  have a0 := (At.new w ids 22).old (.cells jds 22)
  have d0 := At.new1 w (.cells ids 22) jds 22
  have g0 := ((Grown.refl w).alloc ids 22).alloc jds 22
  by_cases hn : 1048576 < s.size + s'.size + t.size
  · go_enter Trym.func6, Trym.ntmps6
    go_wp2_with (first | (refine ld22 _ rfl rfl rfl a0 hi ?_) | (refine ld22 _ rfl rfl rfl d0 hj ?_))
    refine (zz16_no ids jds l i s v s' m j t u _ hs hs' ht hn).mono ?_
    rintro e w1 ⟨rfl, hg⟩
    have g1 := grown_trans g0 hg
    clear g0 hg a0 d0
    go_wp2_with fail
    go_ret
    exact ⟨rfl, g1⟩
  have hn' : s.size + s'.size + t.size ≤ 1048576 := by omega
  clear hn
  by_cases c1 : 65536 < s.size
  · go_enter Trym.func6, Trym.ntmps6
    go_wp2_with (first | (refine ld22 _ rfl rfl rfl a0 hi ?_) | (refine ld22 _ rfl rfl rfl d0 hj ?_))
    refine (zz16_yes ids jds l i s v s' m j t u _ hn').mono ?_
    rintro e w1 ⟨rfl, hg⟩
    have g1 := grown_trans g0 hg
    clear g0 hg a0 d0
    go_wp2_with fail
    go_ret
    exact ⟨rfl, g1⟩
  by_cases c2 : 65536 < s'.size
  · go_enter Trym.func6, Trym.ntmps6
    go_wp2_with (first | (refine ld22 _ rfl rfl rfl a0 hi ?_) | (refine ld22 _ rfl rfl rfl d0 hj ?_))
    refine (zz16_yes ids jds l i s v s' m j t u _ hn').mono ?_
    rintro e w1 ⟨rfl, hg⟩
    have g1 := grown_trans g0 hg
    clear g0 hg a0 d0
    go_wp2_with fail
    go_ret
    exact ⟨rfl, g1⟩
  by_cases c3 : 65536 < t.size
  · go_enter Trym.func6, Trym.ntmps6
    go_wp2_with (first | (refine ld22 _ rfl rfl rfl a0 hi ?_) | (refine ld22 _ rfl rfl rfl d0 hj ?_))
    refine (zz16_yes ids jds l i s v s' m j t u _ hn').mono ?_
    rintro e w1 ⟨rfl, hg⟩
    have g1 := grown_trans g0 hg
    clear g0 hg a0 d0
    go_wp2_with fail
    go_ret
    exact ⟨rfl, g1⟩
  have zp := ptr_size hI l i s v
  have op := ptr_one hI l i s v
  have zo := ptr_size hJ m j t u
  have oo := ptr_one hJ m j t u
  have zq := ptr_size hI l i s' (IntKind.u64.wrap (v + 1))
  have oq := ptr_one hI l i s' (IntKind.u64.wrap (v + 1))
  have p21 := ptr_21 hI l i s v
  have p23 := ptr_23 hI l i s v
  have o21 := ptr_21 hJ m j t u
  have o23 := ptr_23 hJ m j t u
  have q21 := ptr_21 hI l i s' (IntKind.u64.wrap (v + 1))
  have q23 := ptr_23 hI l i s' (IntKind.u64.wrap (v + 1))
  have K10 := fun w => zzPointer_any hI l i s v w
  have K10' := fun w => zzPointer_any hJ m j t u w
  have K11 := fun w => zzWithInfo_any hI l i s s' v w
  generalize hp : ptr ids l i s v = p at *
  generalize ho : ptr jds m j t u = o at *
  generalize hq : ptr ids l i s' (IntKind.u64.wrap (v + 1)) = q at *
  clear hp ho hq
  have N1 := fun w => zzNewer_any zq zp q21 q23 p21 p23 w
  have N2 := fun w => zzNewer_any zp zq p21 p23 q21 q23 w
  have N3 := fun w => zzNewer_any zp zo p21 p23 o21 o23 w
  have N4 := fun w => zzNewer_any zq zo q21 q23 o21 o23 w
  rw [newr_fwd i v0 v1] at N1
  rw [newr_back i v0 v1] at N2
  have hnx := newr_next (v := v) i j u v0 v1
  clear p21 p23 o21 o23 q21 q23
  generalize newr i (IntKind.u64.wrap (v + 1)) j u = nq at *
  generalize newr i v j u = np at *
  have HX : Hid (v ≠ 18446744073709551615 → np = true → nq = true) := hnx
  clear hnx
  go_enter Trym.func6, Trym.ntmps6
  go_wp2_with (first | (refine ld22 _ rfl rfl rfl a0 hi ?_) | (refine ld22 _ rfl rfl rfl d0 hj ?_))
  refine (zz16_yes ids jds l i s v s' m j t u _ hn').mono ?_
  rintro e w1 ⟨rfl, hg⟩
  have g1 := grown_trans g0 hg
  have a1 := a0.grown hg
  have d1 := d0.grown hg
  clear g0 hg a0 d0
  go_wp2_with (first | (refine ld22 _ rfl rfl rfl a1 hi ?_))
  refine (K10 _).mono ?_
  rintro e w2 ⟨rfl, hg⟩
  have g2 := grown_trans g1 hg
  have d2 := (d1.grown hg).old (.cells p 38)
  have b2 := At.new w2 p 38
  clear g1 hg a1 d1 K10
  go_wp2_with (first | (refine st38n _ _ rfl rfl rfl rfl rfl rfl zp op ?_) | (refine ld22 _ rfl rfl rfl d2 hj ?_))
  refine (K10' _).mono ?_
  rintro e w3 ⟨rfl, hg⟩
  have g3 := grown_trans (g2.alloc p 38) hg
  have b3 := (b2.grown hg).old (.cells o 38)
  have c3 := At.new w3 o 38
  clear g2 hg b2 d2 K10'
  go_wp2_with (first | (refine st38n _ _ rfl rfl rfl rfl rfl rfl zo oo ?_) | (refine ld38 _ rfl rfl rfl b3 zp ?_))
  refine (K11 _).mono ?_
  rintro e w4 ⟨rfl, hg⟩
  have g4 := grown_trans (g3.alloc o 38) hg
  have b4 := (b3.grown hg).old (.cells q 38)
  have c4 := (c3.grown hg).old (.cells q 38)
  have d4 := At.new w4 q 38
  clear g3 hg b3 c3 K11
  by_cases x1 : v = 18446744073709551615
  · have t1 : (v != 18446744073709551615) = false := by simp [x1]
    have t2 : (v == 18446744073709551615) = true := by simp [x1]
    rw [t1] at N1
    rw [t2] at N2
    clear x1 N3 N4 HX
    go_wp2_with (first | (refine st38n _ _ rfl rfl rfl rfl rfl rfl zq oq ?_) | (refine ld38 _ rfl rfl rfl b4 zp ?_) | (refine ld38 _ rfl rfl rfl c4 zo ?_) | (refine ld38 _ rfl rfl rfl d4 zq ?_))
    refine (N1 _).mono ?_
    rintro e w5 ⟨rfl, hg⟩
    have g5 := grown_trans (g4.alloc q 38) hg
    have b5 := b4.grown hg
    have c5 := c4.grown hg
    have d5 := d4.grown hg
    clear g4 hg b4 c4 d4 N1
    go_wp2_with (first | (refine ld38 _ rfl rfl rfl b5 zp ?_) | (refine ld38 _ rfl rfl rfl c5 zo ?_) | (refine ld38 _ rfl rfl rfl d5 zq ?_))
    refine (N2 _).mono ?_
    rintro e w6 ⟨rfl, hg⟩
    have g6 := grown_trans g5 hg
    have b6 := b5.grown hg
    have c6 := c5.grown hg
    have d6 := d5.grown hg
    clear g5 hg b5 c5 d5 N2
    go_wp2_with fail
    go_ret
    exact ⟨rfl, g6⟩
  · have t1 : (v != 18446744073709551615) = true := by simp [x1]
    have t2 : (v == 18446744073709551615) = false := by simp [x1]
    rw [t1] at N1
    rw [t2] at N2
    by_cases x2 : np = true
    · have x3 := HX.out x1 x2
      rw [x2] at N3
      rw [x3] at N4
      clear x1 x2 x3 HX
      go_wp2_with (first | (refine st38n _ _ rfl rfl rfl rfl rfl rfl zq oq ?_) | (refine ld38 _ rfl rfl rfl b4 zp ?_) | (refine ld38 _ rfl rfl rfl c4 zo ?_) | (refine ld38 _ rfl rfl rfl d4 zq ?_))
      refine (N1 _).mono ?_
      rintro e w5 ⟨rfl, hg⟩
      have g5 := grown_trans (g4.alloc q 38) hg
      have b5 := b4.grown hg
      have c5 := c4.grown hg
      have d5 := d4.grown hg
      clear g4 hg b4 c4 d4 N1
      go_wp2_with (first | (refine ld38 _ rfl rfl rfl b5 zp ?_) | (refine ld38 _ rfl rfl rfl c5 zo ?_) | (refine ld38 _ rfl rfl rfl d5 zq ?_))
      refine (N2 _).mono ?_
      rintro e w6 ⟨rfl, hg⟩
      have g6 := grown_trans g5 hg
      have b6 := b5.grown hg
      have c6 := c5.grown hg
      have d6 := d5.grown hg
      clear g5 hg b5 c5 d5 N2
      go_wp2_with (first | (refine ld38 _ rfl rfl rfl b6 zp ?_) | (refine ld38 _ rfl rfl rfl c6 zo ?_) | (refine ld38 _ rfl rfl rfl d6 zq ?_))
      refine (N3 _).mono ?_
      rintro e w7 ⟨rfl, hg⟩
      have g7 := grown_trans g6 hg
      have c7 := c6.grown hg
      have d7 := d6.grown hg
      clear g6 hg b6 c6 d6 N3
      go_wp2_with (first | (refine ld38 _ rfl rfl rfl c7 zo ?_) | (refine ld38 _ rfl rfl rfl d7 zq ?_))
      refine (N4 _).mono ?_
      rintro e w8 ⟨rfl, hg⟩
      have g8 := grown_trans g7 hg
      clear g7 hg c7 d7 N4
      go_wp2_with fail
      go_ret
      exact ⟨rfl, g8⟩
    · have x3 : np = false := by simpa using x2
      rw [x3] at N3
      clear x1 x2 x3 HX N4
      go_wp2_with (first | (refine st38n _ _ rfl rfl rfl rfl rfl rfl zq oq ?_) | (refine ld38 _ rfl rfl rfl b4 zp ?_) | (refine ld38 _ rfl rfl rfl c4 zo ?_) | (refine ld38 _ rfl rfl rfl d4 zq ?_))
      refine (N1 _).mono ?_
      rintro e w5 ⟨rfl, hg⟩
      have g5 := grown_trans (g4.alloc q 38) hg
      have b5 := b4.grown hg
      have c5 := c4.grown hg
      have d5 := d4.grown hg
      clear g4 hg b4 c4 d4 N1
      go_wp2_with (first | (refine ld38 _ rfl rfl rfl b5 zp ?_) | (refine ld38 _ rfl rfl rfl c5 zo ?_) | (refine ld38 _ rfl rfl rfl d5 zq ?_))
      refine (N2 _).mono ?_
      rintro e w6 ⟨rfl, hg⟩
      have g6 := grown_trans g5 hg
      have b6 := b5.grown hg
      have c6 := c5.grown hg
      have d6 := d5.grown hg
      clear g5 hg b5 c5 d5 N2
      go_wp2_with (first | (refine ld38 _ rfl rfl rfl b6 zp ?_) | (refine ld38 _ rfl rfl rfl c6 zo ?_) | (refine ld38 _ rfl rfl rfl d6 zq ?_))
      refine (N3 _).mono ?_
      rintro e w7 ⟨rfl, hg⟩
      have g7 := grown_trans g6 hg
      clear g6 hg b6 c6 d6 N3
      go_wp2_with fail
      go_ret
      exact ⟨rfl, g7⟩
end Go.Proofs.Qxb6613794aMods
