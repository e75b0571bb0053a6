/-
  THE WALK OF THE LAW FnCutKeyRoundTrip (function 7).
-/
import Derived.Test.Qxb6601032aModsCut
import Derived.Test.Qxb6601032aModsPlain5
namespace Go.Proofs.Qxb6601032aMods
open Go.RowKit Pl

theorem grown_drewN {W w' : World} (h : Grown W w') (n : Nat) : Grown W (w'.drewN n) := h

/-- ZZcutKey at a text whose cut is known. -/
theorem cut_call {s k r : ByteArray} {b : Bool} (hT : Cut s k r b) (hs : s.size ≤ 2097153) (w : World) :
    Calls Trym.prog 14 #[.string s] w fun e w' => e = .returned (.tuple #[.string k, .string r, .bool b]) ∧ Grown w w' := by
  refine (ZZcutKey_any s w (by unfold maxLen; omega)).mono ?_
  rintro e w' ⟨k', r', b', rfl, hq, n, rfl⟩
  obtain ⟨rfl, rfl, rfl⟩ := hq.unique hT
  exact ⟨rfl, grown_drewN (Grown.refl w) n⟩

/-- zzBytes_FnCutKeyRoundTrip. -/
theorem zz16_no (a b : ByteArray) (w : World) (ha : a.size ≤ maxLen) (hb : b.size ≤ maxLen) (h : 1048576 < a.size + b.size) :
    Calls Trym.prog 16 #[.string a, .string b] w fun e w' => e = .returned (.bool false) ∧ w' = w := by
  unfold maxLen at ha hb
  by_cases h1 : 1048576 < a.size
  · go_enter Trym.func16, Trym.ntmps16
    go_wp2
    go_ret
    exact ⟨rfl, rfl⟩
  by_cases h2 : 1048576 < b.size
  · go_enter Trym.func16, Trym.ntmps16
    go_wp2
    go_ret
    exact ⟨rfl, rfl⟩
  · go_enter Trym.func16, Trym.ntmps16
    go_wp2
    go_ret
    exact ⟨rfl, rfl⟩
theorem zz16_yes (a b : ByteArray) (w : World) (h : a.size + b.size ≤ 1048576) :
    Calls Trym.prog 16 #[.string a, .string b] w fun e w' => e = .returned (.bool true) ∧ w' = w := by
  go_enter Trym.func16, Trym.ntmps16
  go_wp2
  go_ret
  exact ⟨rfl, rfl⟩

set_option maxHeartbeats 1000000 in
theorem trip_law (a b : ByteArray) (w : World) (ha : a.size ≤ maxLen) (hb : b.size ≤ maxLen) :
    Calls Trym.prog 7 #[.string a, .string b] w fun e w' => e = .returned (.bool true) ∧ Grown w w' := by
  by_cases hn : 1048576 < a.size + b.size
  · go_enter Trym.func7, Trym.ntmps7
    go_wp2_with fail
    refine (zz16_no a b _ ha hb hn).mono ?_
    rintro e w' ⟨rfl, rfl⟩
    go_wp2_with fail
    go_ret
    exact ⟨rfl, Grown.refl _⟩
  have hn' : a.size + b.size ≤ 1048576 := by omega
  clear hn
  by_cases h1 : 524288 < a.size
  · go_enter Trym.func7, Trym.ntmps7
    go_wp2_with fail
    refine (zz16_yes a b _ hn').mono ?_
    rintro e w' ⟨rfl, rfl⟩
    go_wp2_with fail
    go_ret
    exact ⟨rfl, Grown.refl _⟩
  by_cases h2 : 524288 < b.size
  · go_enter Trym.func7, Trym.ntmps7
    go_wp2_with fail
    refine (zz16_yes a b _ hn').mono ?_
    rintro e w' ⟨rfl, rfl⟩
    go_wp2_with fail
    go_ret
    exact ⟨rfl, Grown.refl _⟩
  by_cases h3 : a.size = 0
  · have n3 := toList_nil h3
    clear h3
    go_enter Trym.func7, Trym.ntmps7
    go_wp2_with fail
    refine (zz16_yes a b _ hn').mono ?_
    rintro e w' ⟨rfl, rfl⟩
    go_wp2_with fail
    go_ret
    exact ⟨rfl, Grown.refl _⟩
  have n3 := toList_isEmpty h3
  go_enter Trym.func7, Trym.ntmps7
  go_wp2_with fail
  refine (zz16_yes a b _ hn').mono ?_
  rintro e w' ⟨rfl, rfl⟩
  go_wp2_with fail
  go_loop [5] (fun i => ∃ k : Nat, k ≤ a.size ∧ i = .int .i64 k ∧ AllW a k) (fun i => a.size - (intOf i).toNat)
  case atStart => exact ⟨0, Nat.zero_le _, rfl, allW0 a⟩
  case round =>
    obtain ⟨k, hk, rfl, hD⟩ := hrel
    by_cases hlt : k < a.size
    · have hbt := byt_at hlt
      by_cases hw : wd a[k].toNat = true
      · go_wp2_with (go_at_call 17; refine (keyByte_any _ _).mono ?_; rintro e w' ⟨rfl, rfl⟩)
        go_round
        case rel => exact ⟨k + 1, by omega, by go_num, allW_step hD (by rw [hbt]; exact hw)⟩
        case measure => simp [intOf]; omega
      · have hw' : wd a[k].toNat = false := by simpa using hw
        go_wp2_with (go_at_call 17; refine (keyByte_any _ _).mono ?_; rintro e w' ⟨rfl, rfl⟩)
        go_ret
        exact ⟨rfl, Grown.refl _⟩
    · obtain rfl : k = a.size := by omega
      have hsz := joined_size a b
      by_cases c1 : b.size = 0
      · have m1 := toList_nil c1
        by_cases c2 : a.size ≤ 128
        · have hC := fun w => cut_call (round_yes hD (by omega) c2 (r := b) (fun h => by omega)) (by omega) w
          clear hD hsz c1
          go_wp2_with fail
          refine (hC _).mono ?_
          rintro e w' ⟨rfl, hg⟩
          go_wp2_with fail
          go_ret
          exact ⟨rfl, hg⟩
        · have hC := fun w => cut_call (round_no hD (by omega) (r := b)) (by omega) w
          clear hD hsz c1
          go_wp2_with fail
          refine (hC _).mono ?_
          rintro e w' ⟨rfl, hg⟩
          go_wp2_with fail
          go_ret
          exact ⟨rfl, hg⟩
      · have m1 := toList_isEmpty c1
        have hpos : 0 < b.size := by omega
        have hbt := byt_at hpos
        by_cases c3 : (b[0]'hpos).toNat = 32
        · have e3 : (((b[0]'hpos).toNat : Int) != 32) = false := by simp [c3]
          have f3 : byt b 0 = 32 := by omega
          clear c3 hbt
          by_cases c2 : a.size ≤ 128
          · have hC := fun w => cut_call (round_yes hD (by omega) c2 (r := b) (fun h => f3)) (by omega) w
            clear hD hsz c1
            go_wp2_with fail
            refine (hC _).mono ?_
            rintro e w' ⟨rfl, hg⟩
            go_wp2_with fail
            go_ret
            exact ⟨rfl, hg⟩
          · have hC := fun w => cut_call (round_no hD (by omega) (r := b)) (by omega) w
            clear hD hsz c1
            go_wp2_with fail
            refine (hC _).mono ?_
            rintro e w' ⟨rfl, hg⟩
            go_wp2_with fail
            go_ret
            exact ⟨rfl, hg⟩
        · have e3 : (((b[0]'hpos).toNat : Int) != 32) = true := by simp; omega
          clear c3 hbt
          go_wp2_with fail
          go_ret
          exact ⟨rfl, Grown.refl _⟩
end Go.Proofs.Qxb6601032aMods
