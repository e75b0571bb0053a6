/-
  THE WALKS OF b1CutKeyModel (15), zzBytes (13) AND OF THE LAW FnCutKeyMatchesModel (6).
-/
import Derived.Test.Qxb6601032aModsCut
namespace Go.Proofs.Qxb6601032aMods
open Go.RowKit Pl

set_option maxHeartbeats 1000000 in
theorem cutModel_any (s : ByteArray) (w : World) (hs : s.size ≤ maxLen) :
    Calls Trym.prog 15 #[.string s] w fun e w' => CutPost s w e w' := by
  unfold maxLen at hs
  go_enter Trym.func15, Trym.ntmps15
  go_wp2
  go_loop [5, 6] (fun p i => p = .int .i64 (-1) ∧ ∃ k : Nat, k ≤ s.size ∧ i = .int .i64 k ∧ NoCol s k) (fun _ i => s.size - (intOf i).toNat)
  case atStart => exact ⟨rfl, 0, Nat.zero_le _, rfl, noCol0 s⟩
  case round =>
    obtain ⟨rfl, k, hk, rfl, hD⟩ := hrel
    by_cases hlt : k < s.size
    · have hb := byt_at hlt
      by_cases h58 : s[k].toNat = 58
      · have e58 : ((s[k].toNat : Int) == 58) = true := by simp [h58]
        have f58 : byt s k = 58 := by omega
        clear h58 hb
        by_cases c1 : k < 1
        · have hT := col_none hD f58 (fun h => by omega)
          obtain rfl : k = 0 := by omega
          go_wp2
          go_ret3
          exact ⟨_, _, _, rfl, hT, 0, rfl⟩
        by_cases c2 : 128 < k
        · have hT := col_none hD f58 (fun h => by omega)
          go_wp2
          go_ret3
          exact ⟨_, _, _, rfl, hT, 0, rfl⟩
        go_wp2
        go_loop [7] (fun i => ∃ m : Nat, m ≤ k ∧ i = .int .i64 m ∧ AllW s m) (fun i => k - (intOf i).toNat)
        case atStart => exact ⟨0, Nat.zero_le _, rfl, allW0 s⟩
        case round =>
          obtain ⟨m, hm, rfl, hA⟩ := hrel
          by_cases hmk : m < k
          · have hms : m < s.size := by omega
            have hbm := byt_at hms
            by_cases hw : wd s[m].toNat = true
            · go_wp2_with (go_at_call 17; refine (keyByte_any _ _).mono ?_; rintro e w' ⟨rfl, rfl⟩)
              go_round
              case rel => exact ⟨m + 1, by omega, by go_num, allW_step hA (by rw [hbm]; exact hw)⟩
              case measure => simp [intOf]; omega
            · have hw' : wd s[m].toNat = false := by simpa using hw
              have hT := col_none hD f58 (fun h => hw (by rw [← hbm]; exact h.2.2.1 m hmk))
              clear hw
              go_wp2_with (go_at_call 17; refine (keyByte_any _ _).mono ?_; rintro e w' ⟨rfl, rfl⟩)
              go_ret3
              exact ⟨_, _, _, rfl, hT, 0, rfl⟩
          · obtain rfl : m = k := by omega
            by_cases c5 : m + 1 < s.size
            · have hb5 := byt_at c5
              by_cases c6 : s[m + 1].toNat = 32
              · have e6 : ((s[m + 1].toNat : Int) != 32) = false := by simp [c6]
                have hT := cut_some hA (by omega) (by omega) hlt f58 (fun _ => by omega)
                clear c6 hb5 hA hD
                go_wp2
                go_quiet (fail)
                go_wp2
                go_ret3
                exact ⟨_, _, _, rfl, hT, _, rfl⟩
              · have e6 : ((s[m + 1].toNat : Int) != 32) = true := by simp; omega
                have hT := col_none hD f58 (fun h => by have := h.2.2.2 c5; omega)
                clear c6 hb5 hA hD
                go_wp2
                go_ret3
                exact ⟨_, _, _, rfl, hT, 0, rfl⟩
            · have hT := cut_some hA (by omega) (by omega) hlt f58 (fun h => by omega)
              clear hA hD
              go_wp2
              go_quiet (fail)
              go_wp2
              go_ret3
              exact ⟨_, _, _, rfl, hT, _, rfl⟩
      · have e58 : ((s[k].toNat : Int) == 58) = false := by simp; omega
        go_wp2
        go_round
        case rel => exact ⟨rfl, k + 1, by omega, by go_num, noCol_step hD (by omega)⟩
        case measure => simp [intOf]; omega
    · obtain rfl : k = s.size := by omega
      have hT := noCol_none hD
      clear hD
      go_wp2
      go_ret3
      exact ⟨_, _, _, rfl, hT, 0, rfl⟩

theorem grown_drewN' {W w' : World} (h : Grown W w') (n : Nat) : Grown W (w'.drewN n) := h

/-- The law: cutKey and the model give one answer. -/
theorem cut_law (s : ByteArray) (w : World) (hs : s.size ≤ maxLen) :
    Calls Trym.prog 6 #[.string s] w fun e w' => e = .returned (.bool true) ∧ Grown w w' := by
  have hs' := hs
  unfold maxLen at hs'
  by_cases hb : 1048576 < s.size
  · go_enter Trym.func6, Trym.ntmps6
    go_wp2
    go_ret
    exact ⟨rfl, Grown.refl _⟩
  · go_enter Trym.func6, Trym.ntmps6
    go_wp2_with (go_at_call 13; go_in)
    refine (ZZcutKey_any s _ hs).mono ?_
    rintro e w' ⟨k, r, b, rfl, hr, n, rfl⟩
    go_wp2_with fail
    refine (cutModel_any s _ hs).mono ?_
    rintro e w' ⟨k', r', b', rfl, hq, n', rfl⟩
    obtain ⟨rfl, rfl, rfl⟩ := hr.unique hq
    go_wp2_with fail
    go_ret
    exact ⟨rfl, grown_drewN' (grown_drewN' (Grown.refl w) n) n'⟩
end Go.Proofs.Qxb6601032aMods
