/-
  THE WALK OF figureTag (function 18) AND OF ITS SHIM (function 9).
-/
import Derived.Test.Qxb6601032aModsRows
import Derived.Test.Qxb6601032aModsPlain
import Derived.WalkKit
import Derived.WalkSpells
import Derived.RowKit3
namespace Go.Proofs.Qxb6601032aMods
open Go.RowKit Pl

set_option maxHeartbeats 1000000 in
theorem figureTag_any (s : ByteArray) (w : World) (hs : s.size ≤ maxLen) :
    Calls Trym.prog 18 #[.string s] w fun e w' => ∃ r, e = .returned (.string r) ∧ Tag s r ∧ w' = w := by
  unfold maxLen at hs
  by_cases h0 : s.size = 0
  · have hnil := toList_nil h0
    have hT := tag_short h0
    clear h0
    go_enter Trym.func18, Trym.ntmps18
    go_wp2
    go_ret
    exact ⟨_, rfl, hT, rfl⟩
  have hne := toList_isEmpty h0
  by_cases h3 : 300 < s.size
  · have hT := tag_long h3
    go_enter Trym.func18, Trym.ntmps18
    go_wp2
    go_ret
    exact ⟨_, rfl, hT, rfl⟩
  go_enter Trym.func18, Trym.ntmps18
  go_wp2
  go_loop [3, 4] (fun p i => ∃ k : Nat, k ≤ s.size ∧ i = .int .i64 k ∧ ∃ q : Int, p = .int .i64 q ∧ -1 ≤ q ∧ q ≤ 300 ∧ Scan s k q) (fun _ i => s.size - (intOf i).toNat)
  case atStart => exact ⟨0, Nat.zero_le _, rfl, -1, rfl, by omega, by omega, scan0 s⟩
  case round =>
    obtain ⟨k, hk, rfl, q, rfl, hq, hq', hsc⟩ := hrel
    by_cases hlt : k < s.size
    · have hb := byt_at hlt
      go_wp2
      case roundEnd =>
        go_round
        case rel => exact ⟨k + 1, by omega, by go_num, q, rfl, by omega, by omega, scan_digit hsc (by omega) (by omega)⟩
        case measure => simp [intOf]; omega
      rotate_left 1
      case roundEnd =>
        go_round
        case rel => exact ⟨k + 1, by omega, by go_num, k, rfl, by omega, by omega, scan_point hsc (by omega) (by omega) (by omega) (by omega)⟩
        case measure => simp [intOf]; omega
      all_goals
        go_ret
        exact ⟨_, rfl, scan_bad hsc hlt (by omega) (by omega), rfl⟩
    · obtain rfl : k = s.size := by omega
      have hpos : 0 < s.size := by omega
      have hb := byt_at hpos
      by_cases hp : 0 ≤ q
      · have hT := scan_float hsc hp (by omega)
        go_wp2
        go_ret
        exact ⟨_, rfl, hT, rfl⟩
      by_cases h18 : s.size ≤ 18
      · by_cases hz : (s[0]'hpos).toNat = 48
        · by_cases h1 : s.size = 1
          · have hT := scan_int hsc (by omega) (by omega) h18 (by omega)
            have he := eq_zero_yes h1 (by omega)
            have hz' : (((s[0]'hpos).toNat : Int) != 48) = false := by simp [hz]
            clear h1 hz
            go_wp2
            go_ret
            exact ⟨_, rfl, hT, rfl⟩
          · have hT := scan_none hsc (by omega) (by omega)
            have he : (s.toList == [48]) = false := by simpa using eq_zero_no h1
            have hz' : (((s[0]'hpos).toNat : Int) != 48) = false := by simp [hz]
            clear h1 hz
            go_wp2
            go_ret
            exact ⟨_, rfl, hT, rfl⟩
        · have hT := scan_int hsc (by omega) (by omega) h18 (by omega)
          have hz' : (((s[0]'hpos).toNat : Int) != 48) = true := by simp; omega
          go_wp2
          go_ret
          exact ⟨_, rfl, hT, rfl⟩
      · have hT := scan_none hsc (by omega) (by omega)
        go_wp2
        go_ret
        exact ⟨_, rfl, hT, rfl⟩

/-- The shim. -/
theorem ZZfigureTag_any (s : ByteArray) (w : World) (hs : s.size ≤ maxLen) :
    Calls Trym.prog 9 #[.string s] w fun e w' => ∃ r, e = .returned (.string r) ∧ Tag s r ∧ w' = w := by
  go_enter Trym.func9, Trym.ntmps9
  go_wp2_with (go_at_call 18; refine (figureTag_any s _ hs).mono ?_; rintro e w' ⟨r, rfl, hT, rfl⟩)
  go_ret
  exact ⟨_, rfl, hT, rfl⟩
end Go.Proofs.Qxb6601032aMods
