/-
  SEAT b6613794aM: THE WALK OF THE LAW FnStalerOneWayWithinARun (function 4).
-/
import Derived.Test.Qxb6613794aModsCalls
import Derived.Test.Qxb6613794aModsInfo
namespace Go.Proofs.Qxb6613794aMods
open Go.RowKit

/-- zzBytes_FnStalerOneWayWithinARun. -/
theorem zz13_no (ids jds : Array Value) (l i : Int) (s : ByteArray) (v : Int) (m j : Int) (t : ByteArray) (u : Int) (w : World) (hs : s.size ≤ maxLen) (ht : t.size ≤ maxLen) (h : 1048576 < s.size + t.size) :
    Calls Trym.prog 13 #[.agg ids, .int .i64 l, .int .u64 i, .string s, .int .u64 v, .agg jds, .int .i64 m, .int .u64 j, .string t, .int .u64 u] w fun e w' => e = .returned (.bool false) ∧ Grown w w' := by
  unfold maxLen at hs ht
  by_cases h1 : 1048576 < s.size
  · go_enter Trym.func13, Trym.ntmps13
    go_wp2
    go_ret
    exact ⟨rfl, ((Grown.refl w).alloc _ _).alloc _ _⟩
  by_cases h2 : 1048576 < t.size
  · go_enter Trym.func13, Trym.ntmps13
    go_wp2
    go_ret
    exact ⟨rfl, ((Grown.refl w).alloc _ _).alloc _ _⟩
  · go_enter Trym.func13, Trym.ntmps13
    go_wp2
    go_ret
    exact ⟨rfl, ((Grown.refl w).alloc _ _).alloc _ _⟩
theorem zz13_yes (ids jds : Array Value) (l i : Int) (s : ByteArray) (v : Int) (m j : Int) (t : ByteArray) (u : Int) (w : World) (h : s.size + t.size ≤ 1048576) :
    Calls Trym.prog 13 #[.agg ids, .int .i64 l, .int .u64 i, .string s, .int .u64 v, .agg jds, .int .i64 m, .int .u64 j, .string t, .int .u64 u] w fun e w' => e = .returned (.bool true) ∧ Grown w w' := by
  go_enter Trym.func13, Trym.ntmps13
  go_wp2
  go_ret
  exact ⟨rfl, ((Grown.refl w).alloc _ _).alloc _ _⟩

set_option maxHeartbeats 2000000 in
theorem law4 {ids jds : Array Value} (hI : Id16 ids) (hJ : Id16 jds) (l i : Int) (s : ByteArray) (v : Int) (m j : Int) (t : ByteArray) (u : Int) (w : World) (hs : s.size ≤ maxLen) (ht : t.size ≤ maxLen) :
    Calls Trym.prog 4 #[.agg ids, .int .i64 l, .int .u64 i, .string s, .int .u64 v, .agg jds, .int .i64 m, .int .u64 j, .string t, .int .u64 u] w fun e w' => e = .returned (.bool true) ∧ Grown w w' := by
  have hi := hI.1
  have hj := hJ.1
  have a0 := (At.new w ids 22).old (.cells jds 22)
  have d0 := At.new1 w (.cells ids 22) jds 22
  have g0 := ((Grown.refl w).alloc ids 22).alloc jds 22
  by_cases hn : 1048576 < s.size + t.size
  · go_enter Trym.func4, Trym.ntmps4
    go_wp2_with (first | (refine ld22 _ rfl rfl rfl a0 hi ?_) | (refine ld22 _ rfl rfl rfl d0 hj ?_))
    refine (zz13_no ids jds l i s v m j t u _ hs ht hn).mono ?_
    rintro e w1 ⟨rfl, hg⟩
    have g1 := grown_trans g0 hg
    clear g0 hg a0 d0
    go_wp2_with fail
    go_ret
    exact ⟨rfl, g1⟩
  have hn' : s.size + t.size ≤ 1048576 := by omega
  clear hn
  by_cases c1 : 65536 < s.size
  · go_enter Trym.func4, Trym.ntmps4
    go_wp2_with (first | (refine ld22 _ rfl rfl rfl a0 hi ?_) | (refine ld22 _ rfl rfl rfl d0 hj ?_))
    refine (zz13_yes ids jds l i s v m j t u _ hn').mono ?_
    rintro e w1 ⟨rfl, hg⟩
    have g1 := grown_trans g0 hg
    clear g0 hg a0 d0
    go_wp2_with fail
    go_ret
    exact ⟨rfl, g1⟩
  by_cases c2 : 65536 < t.size
  · go_enter Trym.func4, Trym.ntmps4
    go_wp2_with (first | (refine ld22 _ rfl rfl rfl a0 hi ?_) | (refine ld22 _ rfl rfl rfl d0 hj ?_))
    refine (zz13_yes ids jds l i s v m j t u _ hn').mono ?_
    rintro e w1 ⟨rfl, hg⟩
    have g1 := grown_trans g0 hg
    clear g0 hg a0 d0
    go_wp2_with fail
    go_ret
    exact ⟨rfl, g1⟩
  have zp := ptr_size hI l i s v
  have op := ptr_one hI l i s v
  have zo := ptr_size hJ m j t u
  have oo := ptr_one hJ m j t u
  have p21 := ptr_21 hI l i s v
  have p23 := ptr_23 hI l i s v
  have o21 := ptr_21 hJ m j t u
  have o23 := ptr_23 hJ m j t u
  have K10 := fun w => zzPointer_any hI l i s v w
  have K10' := fun w => zzPointer_any hJ m j t u w
  generalize hp : ptr ids l i s v = p at *
  generalize hq : ptr jds m j t u = o at *
  clear hp hq
  have K12 := fun w => zzStaler_any zp zo p21 p23 o21 o23 w
  have K12' := fun w => zzStaler_any zo zp o21 o23 p21 p23 w
  have K14 := fun w => zzNewer_any zo zp o21 o23 p21 p23 w
  have K14' := fun w => zzNewer_any zp zo p21 p23 o21 o23 w
  clear p21 p23 o21 o23
  go_enter Trym.func4, Trym.ntmps4
  go_wp2_with (first | (refine ld22 _ rfl rfl rfl a0 hi ?_) | (refine ld22 _ rfl rfl rfl d0 hj ?_))
  refine (zz13_yes ids jds l i s v m j t u _ hn').mono ?_
  rintro e w1 ⟨rfl, hg⟩
  have g1 := grown_trans g0 hg
  have a1 := a0.grown hg
  have d1 := d0.grown hg
  clear g0 hg a0 d0
  go_wp2_with (first | (refine ld22 _ rfl rfl rfl a1 hi ?_))
  refine (K10 _).mono ?_
  rintro e w2 ⟨rfl, hg⟩
  have g2 := grown_trans g1 hg
  have d2 := (d1.grown hg).old (.cells p 38)
  have b2 := At.new w2 p 38
  clear g1 hg a1 d1
  go_wp2_with (first | (refine st38n _ _ rfl rfl rfl rfl rfl rfl zp op ?_) | (refine ld22 _ rfl rfl rfl d2 hj ?_))
  refine (K10' _).mono ?_
  rintro e w3 ⟨rfl, hg⟩
  have g3 := grown_trans (g2.alloc p 38) hg
  have b3 := (b2.grown hg).old (.cells o 38)
  have c3 := At.new w3 o 38
  clear g2 hg b2 d2 K10 K10'
  by_cases x1 : i = j
  · subst x1
    have t1 : (i == i) = true := by simp
    by_cases x2 : v < u
    · have f1 : stal i v i u = true := by simp [stal, x2]
      have f2 : stal i u i v = false := by simp [stal]; omega
      have f3 : newr i u i v = true := by simp [newr, f1]
      have f4 : newr i v i u = false := by simp [newr, f2]
      have t2 : (v != u) = true := by simp; omega
      rw [f1] at K12
      rw [f2] at K12'
      rw [f3] at K14
      rw [f4] at K14'
      clear f1 f2 f3 f4 x2
      go_wp2_with (first | (refine st38n _ _ rfl rfl rfl rfl rfl rfl zo oo ?_) | (refine ld38 _ rfl rfl rfl b3 zp ?_) | (refine ld38 _ rfl rfl rfl c3 zo ?_))
      refine (K12 _).mono ?_
      rintro e w4 ⟨rfl, hg⟩
      have g4 := grown_trans (g3.alloc o 38) hg
      have b4 := b3.grown hg
      have c4 := c3.grown hg
      clear g3 hg b3 c3 K12
      go_wp2_with (first | (refine ld38 _ rfl rfl rfl b4 zp ?_) | (refine ld38 _ rfl rfl rfl c4 zo ?_))
      refine (K12' _).mono ?_
      rintro e w5 ⟨rfl, hg⟩
      have g5 := grown_trans g4 hg
      have b5 := b4.grown hg
      have c5 := c4.grown hg
      clear g4 hg b4 c4 K12'
      go_wp2_with (first | (refine ld38 _ rfl rfl rfl b5 zp ?_) | (refine ld38 _ rfl rfl rfl c5 zo ?_))
      refine (K14 _).mono ?_
      rintro e w6 ⟨rfl, hg⟩
      have g6 := grown_trans g5 hg
      have b6 := b5.grown hg
      have c6 := c5.grown hg
      clear g5 hg b5 c5 K14
      go_wp2_with (first | (refine ld38 _ rfl rfl rfl b6 zp ?_) | (refine ld38 _ rfl rfl rfl c6 zo ?_))
      refine (K14' _).mono ?_
      rintro e w7 ⟨rfl, hg⟩
      have g7 := grown_trans g6 hg
      clear g6 hg b6 c6 K14'
      go_wp2_with fail
      go_ret
      exact ⟨rfl, g7⟩
    · by_cases x3 : u < v
      · have f1 : stal i v i u = false := by simp [stal]; omega
        have f2 : stal i u i v = true := by simp [stal, x3]
        have t2 : (v != u) = true := by simp; omega
        rw [f1] at K12
        rw [f2] at K12'
        clear f1 f2 K14 K14' x2 x3
        go_wp2_with (first | (refine st38n _ _ rfl rfl rfl rfl rfl rfl zo oo ?_) | (refine ld38 _ rfl rfl rfl b3 zp ?_) | (refine ld38 _ rfl rfl rfl c3 zo ?_))
        refine (K12 _).mono ?_
        rintro e w4 ⟨rfl, hg⟩
        have g4 := grown_trans (g3.alloc o 38) hg
        have b4 := b3.grown hg
        have c4 := c3.grown hg
        clear g3 hg b3 c3 K12
        go_wp2_with (first | (refine ld38 _ rfl rfl rfl b4 zp ?_) | (refine ld38 _ rfl rfl rfl c4 zo ?_))
        refine (K12' _).mono ?_
        rintro e w5 ⟨rfl, hg⟩
        have g5 := grown_trans g4 hg
        clear g4 hg b4 c4 K12'
        go_wp2_with fail
        go_ret
        exact ⟨rfl, g5⟩
      · obtain rfl : v = u := by omega
        have f1 : stal i v i v = false := by simp [stal]
        have f2 : stal i v i v = false := f1
        have t2 : (v != v) = false := by simp
        rw [f1] at K12
        rw [f2] at K12'
        clear f1 f2 K14 K14' x2 x3
        go_wp2_with (first | (refine st38n _ _ rfl rfl rfl rfl rfl rfl zo oo ?_) | (refine ld38 _ rfl rfl rfl b3 zp ?_) | (refine ld38 _ rfl rfl rfl c3 zo ?_))
        refine (K12 _).mono ?_
        rintro e w4 ⟨rfl, hg⟩
        have g4 := grown_trans (g3.alloc o 38) hg
        have b4 := b3.grown hg
        have c4 := c3.grown hg
        clear g3 hg b3 c3 K12
        go_wp2_with (first | (refine ld38 _ rfl rfl rfl b4 zp ?_) | (refine ld38 _ rfl rfl rfl c4 zo ?_))
        refine (K12' _).mono ?_
        rintro e w5 ⟨rfl, hg⟩
        have g5 := grown_trans g4 hg
        clear g4 hg b4 c4 K12'
        go_wp2_with fail
        go_ret
        exact ⟨rfl, g5⟩
  · have f1 : stal i v j u = false := by simp [stal, x1]
    have f2 : stal j u i v = false := by simp [stal]; intro h; exact absurd h.symm x1
    have t1 : (i == j) = false := by simp [x1]
    rw [f1] at K12
    rw [f2] at K12'
    clear f1 f2 K14 K14' x1
    go_wp2_with (first | (refine st38n _ _ rfl rfl rfl rfl rfl rfl zo oo ?_) | (refine ld38 _ rfl rfl rfl b3 zp ?_) | (refine ld38 _ rfl rfl rfl c3 zo ?_))
    refine (K12 _).mono ?_
    rintro e w4 ⟨rfl, hg⟩
    have g4 := grown_trans (g3.alloc o 38) hg
    have b4 := b3.grown hg
    have c4 := c3.grown hg
    clear g3 hg b3 c3 K12
    go_wp2_with (first | (refine ld38 _ rfl rfl rfl b4 zp ?_) | (refine ld38 _ rfl rfl rfl c4 zo ?_))
    refine (K12' _).mono ?_
    rintro e w5 ⟨rfl, hg⟩
    have g5 := grown_trans g4 hg
    clear g4 hg b4 c4 K12'
    go_wp2_with fail
    go_ret
    exact ⟨rfl, g5⟩
end Go.Proofs.Qxb6613794aMods
