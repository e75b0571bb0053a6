/-
  THE WALKS OF isWordByte (21), b1KeyByte (17), cutKey (20), ZZcutKey (14).
-/
import Derived.Test.Qxb6601032aModsRows
import Derived.Test.Qxb6601032aModsPlain4
import Derived.WalkKit
import Derived.WalkSpells
import Derived.RowKit3
import Derived.RegionTactic
import Derived.Deep.QuietTactic
import Derived.BigQuiet
namespace Go.Proofs.Qxb6601032aMods
open Go.RowKit Pl

theorem ret_bool {a b : Bool} (h : a = b) : Ending.returned (.bool a) = .returned (.bool b) := by rw [h]

theorem isWord_any (c : Nat) (w : World) :
    Calls Trym.prog 21 #[.int .u8 (c : Int)] w fun e w' => e = .returned (.bool (wd c)) ∧ w' = w := by
  go_enter Trym.func21, Trym.ntmps21
  go_wp2
  all_goals
    go_ret
    refine ⟨ret_bool ?_, rfl⟩
    rw [Bool.eq_iff_iff, wd_iff]
    simp
    omega
theorem keyByte_any (c : Nat) (w : World) :
    Calls Trym.prog 17 #[.int .u8 (c : Int)] w fun e w' => e = .returned (.bool (wd c)) ∧ w' = w := by
  go_enter Trym.func17, Trym.ntmps17
  go_wp2
  all_goals
    go_ret
    refine ⟨ret_bool ?_, rfl⟩
    rw [Bool.eq_iff_iff, wd_iff]
    simp
    omega

/-- What comes back of cutKey: the answer, and a world in which at most draws were made. -/
def CutPost (s : ByteArray) (w : World) (e : Ending) (w' : World) : Prop :=
  ∃ k r b, e = .returned (.tuple #[.string k, .string r, .bool b]) ∧ Cut s k r b ∧ ∃ n, w' = w.drewN n

set_option maxHeartbeats 1000000 in
theorem cutKey_any (s : ByteArray) (w : World) (hs : s.size ≤ maxLen) :
    Calls Trym.prog 20 #[.string s] w fun e w' => CutPost s w e w' := by
  unfold maxLen at hs
  go_enter Trym.func20, Trym.ntmps20
  go_wp2
  go_loop [5] (fun i => ∃ k : Nat, k ≤ s.size ∧ i = .int .i64 k ∧ AllW s k) (fun i => s.size - (intOf i).toNat)
  case atStart => exact ⟨0, Nat.zero_le _, rfl, allW0 s⟩
  case round =>
    obtain ⟨k, hk, rfl, hD⟩ := hrel
    by_cases hlt : k < s.size
    · have hb := byt_at hlt
      by_cases hw : wd s[k].toNat = true
      · go_wp2_with (go_at_call 21; refine (isWord_any _ _).mono ?_; rintro e w' ⟨rfl, rfl⟩)
        go_round
        case rel => exact ⟨k + 1, by omega, by go_num, allW_step hD (by rw [hb]; exact hw)⟩
        case measure => simp [intOf]; omega
      · have hw' : wd s[k].toNat = false := by simpa using hw
        have hS : Stop s k := ⟨hD, hk, fun _ => by rw [hb]; exact hw'⟩
        clear hD hw
        by_cases c1 : k = 0
        · have hT := stop_none hS (fun h => by omega)
          clear hS
          subst c1
          go_wp2_with (go_at_call 21; refine (isWord_any _ _).mono ?_; rintro e w' ⟨rfl, rfl⟩)
          go_ret3
          exact ⟨_, _, _, rfl, hT, 0, rfl⟩
        have e1 : ((k : Int) == 0) = false := by simp; omega
        by_cases c2 : 128 < k
        · have hT := stop_none hS (fun h => by omega)
          clear hS
          go_wp2_with (go_at_call 21; refine (isWord_any _ _).mono ?_; rintro e w' ⟨rfl, rfl⟩)
          go_ret3
          exact ⟨_, _, _, rfl, hT, 0, rfl⟩
        have e3 : ((k : Int) == (s.size : Int)) = false := by simp; omega
        by_cases c4 : s[k].toNat = 58
        · have f4 : byt s k = 58 := by omega
          have e4 : ((s[k].toNat : Int) != 58) = false := by simp [c4]
          clear c4
          by_cases c5 : k + 1 < s.size
          · have hb5 := byt_at c5
            by_cases c6 : s[k + 1].toNat = 32
            · have e6 : ((s[k + 1].toNat : Int) != 32) = false := by simp [c6]
              have hT := cut_some hS.1 (by omega) (by omega) hlt f4 (fun _ => by omega)
              clear hS c6
              go_wp2_with (go_at_call 21; refine (isWord_any _ _).mono ?_; rintro e w' ⟨rfl, rfl⟩)
              go_quiet (fail)
              go_wp2
              go_ret3
              exact ⟨_, _, _, rfl, hT, _, rfl⟩
            · have e6 : ((s[k + 1].toNat : Int) != 32) = true := by simp; omega
              have hT := stop_none hS (fun h => by have := h.2.2.2.2 c5; omega)
              clear hS c6
              go_wp2_with (go_at_call 21; refine (isWord_any _ _).mono ?_; rintro e w' ⟨rfl, rfl⟩)
              go_ret3
              exact ⟨_, _, _, rfl, hT, 0, rfl⟩
          · have hT := cut_some hS.1 (by omega) (by omega) hlt f4 (fun h => by omega)
            clear hS
            go_wp2_with (go_at_call 21; refine (isWord_any _ _).mono ?_; rintro e w' ⟨rfl, rfl⟩)
            go_quiet (fail)
            go_wp2
            go_ret3
            exact ⟨_, _, _, rfl, hT, _, rfl⟩
        · have e4 : ((s[k].toNat : Int) != 58) = true := by simp; omega
          have hT := stop_none hS (fun h => by omega)
          clear hS c4
          go_wp2_with (go_at_call 21; refine (isWord_any _ _).mono ?_; rintro e w' ⟨rfl, rfl⟩)
          go_ret3
          exact ⟨_, _, _, rfl, hT, 0, rfl⟩
    · obtain rfl : k = s.size := by omega
      have hT := stop_none (s := s) (k := s.size) ⟨hD, Nat.le_refl _, fun h => by omega⟩ (fun h => by omega)
      clear hD
      by_cases c1 : s.size = 0
      · have e1 : ((s.size : Int) == 0) = true := by simp [c1]
        clear c1
        go_wp2
        go_ret3
        exact ⟨_, _, _, rfl, hT, 0, rfl⟩
      · have e1 : ((s.size : Int) == 0) = false := by simp [c1]
        by_cases c2 : 128 < s.size
        · go_wp2
          go_ret3
          exact ⟨_, _, _, rfl, hT, 0, rfl⟩
        · go_wp2
          go_ret3
          exact ⟨_, _, _, rfl, hT, 0, rfl⟩

/-- The shim. -/
theorem ZZcutKey_any (s : ByteArray) (w : World) (hs : s.size ≤ maxLen) :
    Calls Trym.prog 14 #[.string s] w fun e w' => CutPost s w e w' := by
  go_enter Trym.func14, Trym.ntmps14
  go_wp2_with fail
  refine (cutKey_any s _ hs).mono ?_
  rintro e w' ⟨k, r, b, rfl, hT, n, rfl⟩
  go_wp2_with fail
  go_ret3
  exact ⟨_, _, _, rfl, hT, n, rfl⟩
end Go.Proofs.Qxb6601032aMods
