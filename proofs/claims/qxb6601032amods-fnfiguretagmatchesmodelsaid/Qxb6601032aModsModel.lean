/-
  THE WALKS OF b1AllDigits (19), b1FigureModel (10), zzBytes (8) AND OF THE LAW FnFigureTagMatchesModel (3).
-/
import Derived.Test.Qxb6601032aModsFig
import Derived.Test.Qxb6601032aModsPlain3
namespace Go.Proofs.Qxb6601032aMods
open Go.RowKit Pl

set_option maxHeartbeats 400000 in
/-- b1AllDigits. -/
theorem allDigits_any (s : ByteArray) (w : World) (hs : s.size ≤ maxLen) :
    Calls Trym.prog 19 #[.string s] w fun e w' => ((AllD s s.size ∧ e = .returned (.bool true)) ∨ (¬ AllD s s.size ∧ e = .returned (.bool false))) ∧ w' = w := by
  unfold maxLen at hs
  go_enter Trym.func19, Trym.ntmps19
  go_wp2
  go_loop [3] (fun i => ∃ k : Nat, k ≤ s.size ∧ i = .int .i64 k ∧ AllD s k) (fun i => s.size - (intOf i).toNat)
  case atStart => exact ⟨0, Nat.zero_le _, rfl, allD0 s⟩
  case round =>
    obtain ⟨k, hk, rfl, hD⟩ := hrel
    by_cases hlt : k < s.size
    · have hb := byt_at hlt
      go_wp2
      case roundEnd =>
        go_round
        case rel => exact ⟨k + 1, by omega, by go_num, allD_step hD (by omega) (by omega)⟩
        case measure => simp [intOf]; omega
      all_goals
        go_ret
        exact ⟨.inr ⟨allD_bad hlt (by omega), rfl⟩, rfl⟩
    · obtain rfl : k = s.size := by omega
      go_wp2
      go_ret
      exact ⟨rfl, rfl⟩

theorem allDigits_yes {s : ByteArray} (h : AllD s s.size) (w : World) (hs : s.size ≤ maxLen) :
    Calls Trym.prog 19 #[.string s] w fun e w' => e = .returned (.bool true) ∧ w' = w := by
  refine (allDigits_any s w hs).mono ?_
  rintro e w' ⟨h1 | h1, hw⟩
  · exact ⟨h1.2, hw⟩
  · exact absurd h h1.1
theorem allDigits_no {s : ByteArray} (h : ¬ AllD s s.size) (w : World) (hs : s.size ≤ maxLen) :
    Calls Trym.prog 19 #[.string s] w fun e w' => e = .returned (.bool false) ∧ w' = w := by
  refine (allDigits_any s w hs).mono ?_
  rintro e w' ⟨h1 | h1, hw⟩
  · exact absurd h1.1 h
  · exact ⟨h1.2, hw⟩

set_option maxHeartbeats 1000000 in
/-- b1FigureModel. -/
theorem figureModel_any (s : ByteArray) (w : World) (hs : s.size ≤ maxLen) :
    Calls Trym.prog 10 #[.string s] w fun e w' => ∃ r, e = .returned (.string r) ∧ Tag s r ∧ w' = w := by
  unfold maxLen at hs
  by_cases h0 : s.size = 0
  · have hT := tag_short h0
    have h0' : ((s.size : Int) == 0) = true := by simp [h0]
    clear h0
    go_enter Trym.func10, Trym.ntmps10
    go_wp2
    go_ret
    exact ⟨_, rfl, hT, rfl⟩
  have h0' : ((s.size : Int) == 0) = false := by simp [h0]
  by_cases h3 : 300 < s.size
  · have hT := tag_long h3
    go_enter Trym.func10, Trym.ntmps10
    go_wp2
    go_ret
    exact ⟨_, rfl, hT, rfl⟩
  have hpos : 0 < s.size := by omega
  have hb0 := byt_at hpos
  go_enter Trym.func10, Trym.ntmps10
  go_wp2
  go_loop [3, 4] (fun p i => p = .int .i64 (-1) ∧ ∃ k : Nat, k ≤ s.size ∧ i = .int .i64 k ∧ NoDot s k) (fun _ i => s.size - (intOf i).toNat)
  case atStart => exact ⟨rfl, 0, Nat.zero_le _, rfl, noDot0 s⟩
  case round =>
    obtain ⟨rfl, k, hk, rfl, hD⟩ := hrel
    by_cases hlt : k < s.size
    · have hb := byt_at hlt
      by_cases h46 : s[k].toNat = 46
      · have e46 : ((s[k].toNat : Int) == 46) = true := by simp [h46]
        have f46 : byt s k = 46 := by omega
        have sp := size_pre s k (by omega)
        have sq := size_post s (k + 1)
        clear h46 hb
        by_cases c1 : (s.extract 0 k).size = 0
        · have hT := model_nofloat hD hlt f46 (fun h => h.1 c1)
          have n1 := toList_nil c1
          clear sp sq c1
          go_wp2
          go_ret
          exact ⟨_, rfl, hT, rfl⟩
        have n1 := toList_isEmpty c1
        by_cases c2 : (s.extract (k + 1) s.size).size = 0
        · have hT := model_nofloat hD hlt f46 (fun h => h.2.1 c2)
          have n2 := toList_nil c2
          clear sp sq c1 c2
          go_wp2
          go_ret
          exact ⟨_, rfl, hT, rfl⟩
        have n2 := toList_isEmpty c2
        by_cases c3 : AllD (s.extract 0 k) (s.extract 0 k).size
        · by_cases c4 : AllD (s.extract (k + 1) s.size) (s.extract (k + 1) s.size).size
          · have hT := model_float (by omega) hlt f46 c1 c2 c3 c4
            have k1 := fun w => allDigits_yes c3 w (by unfold maxLen; omega)
            have k2 := fun w => allDigits_yes c4 w (by unfold maxLen; omega)
            clear sp sq c1 c2 c3 c4
            go_wp2_with fail
            refine (k1 _).mono ?_
            rintro e w' ⟨rfl, rfl⟩
            go_wp2_with fail
            refine (k2 _).mono ?_
            rintro e w' ⟨rfl, rfl⟩
            go_wp2_with fail
            go_ret
            exact ⟨_, rfl, hT, rfl⟩
          · have hT := model_nofloat hD hlt f46 (fun h => c4 h.2.2.2)
            have k1 := fun w => allDigits_yes c3 w (by unfold maxLen; omega)
            have k2 := fun w => allDigits_no c4 w (by unfold maxLen; omega)
            clear sp sq c1 c2 c3 c4
            go_wp2_with fail
            refine (k1 _).mono ?_
            rintro e w' ⟨rfl, rfl⟩
            go_wp2_with fail
            refine (k2 _).mono ?_
            rintro e w' ⟨rfl, rfl⟩
            go_wp2_with fail
            go_ret
            exact ⟨_, rfl, hT, rfl⟩
        · have hT := model_nofloat hD hlt f46 (fun h => c3 h.2.2.1)
          have k1 := fun w => allDigits_no c3 w (by unfold maxLen; omega)
          clear sp sq c1 c2 c3
          go_wp2_with fail
          refine (k1 _).mono ?_
          rintro e w' ⟨rfl, rfl⟩
          go_wp2_with fail
          go_ret
          exact ⟨_, rfl, hT, rfl⟩
      · have e46 : ((s[k].toNat : Int) == 46) = false := by simp; omega
        go_wp2
        go_round
        case rel => exact ⟨rfl, k + 1, by omega, by go_num, noDot_step hD (by omega)⟩
        case measure => simp [intOf]; omega
    · obtain rfl : k = s.size := by omega
      by_cases c1 : AllD s s.size
      · have k1 := fun w => allDigits_yes c1 w (by unfold maxLen; omega)
        by_cases c2 : 18 < s.size
        · have hT := model_nodot_bad hD (fun h => by omega)
          clear c1
          go_wp2_with fail
          refine (k1 _).mono ?_
          rintro e w' ⟨rfl, rfl⟩
          go_wp2_with fail
          go_ret
          exact ⟨_, rfl, hT, rfl⟩
        by_cases c3 : 1 < s.size
        · by_cases c4 : (s[0]'hpos).toNat = 48
          · have hT := model_lead hD c3 (by omega)
            have e48 : (((s[0]'hpos).toNat : Int) == 48) = true := by simp [c4]
            clear c1 c4
            go_wp2_with fail
            refine (k1 _).mono ?_
            rintro e w' ⟨rfl, rfl⟩
            go_wp2_with fail
            go_ret
            exact ⟨_, rfl, hT, rfl⟩
          · have hT := model_int c1 hpos (by omega) (by omega)
            have e48 : (((s[0]'hpos).toNat : Int) == 48) = false := by simp; omega
            clear c1 c4
            go_wp2_with fail
            refine (k1 _).mono ?_
            rintro e w' ⟨rfl, rfl⟩
            go_wp2_with fail
            go_ret
            exact ⟨_, rfl, hT, rfl⟩
        · have hT := model_int c1 hpos (by omega) (by omega)
          clear c1
          go_wp2_with fail
          refine (k1 _).mono ?_
          rintro e w' ⟨rfl, rfl⟩
          go_wp2_with fail
          go_ret
          exact ⟨_, rfl, hT, rfl⟩
      · have k1 := fun w => allDigits_no c1 w (by unfold maxLen; omega)
        have hT := model_nodot_bad hD (fun h => c1 h.1)
        clear c1
        go_wp2_with fail
        refine (k1 _).mono ?_
        rintro e w' ⟨rfl, rfl⟩
        go_wp2_with fail
        go_ret
        exact ⟨_, rfl, hT, rfl⟩

/-- The law: figureTag and the model give one tag. -/
theorem matches_law (s : ByteArray) (w : World) (hs : s.size ≤ maxLen) :
    Calls Trym.prog 3 #[.string s] w fun e w' => e = .returned (.bool true) ∧ w' = w := by
  have hs' := hs
  unfold maxLen at hs'
  by_cases hb : 1048576 < s.size
  · go_enter Trym.func3, Trym.ntmps3
    go_wp2
    go_ret
    exact ⟨rfl, rfl⟩
  · go_enter Trym.func3, Trym.ntmps3
    go_wp2_with (go_at_call 8; go_in)
    refine (ZZfigureTag_any s _ hs).mono ?_
    rintro e w' ⟨r, rfl, hr, rfl⟩
    go_wp2_with fail
    refine (figureModel_any s _ hs).mono ?_
    rintro e w' ⟨q, rfl, hq, rfl⟩
    obtain rfl := hr.unique hq
    go_wp2_with fail
    go_ret
    exact ⟨rfl, rfl⟩
end Go.Proofs.Qxb6601032aMods
