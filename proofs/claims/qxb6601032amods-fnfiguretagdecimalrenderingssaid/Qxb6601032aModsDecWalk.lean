/-
  THE WALK OF THE LAW FnFigureTagDecimalRenderings (function 4).
-/
import Derived.Test.Qxb6601032aModsFig
import Derived.Test.Qxb6601032aModsUtoa
namespace Go.Proofs.Qxb6601032aMods
open Go.RowKit Pl

theorem grown_trans {a b c : World} (h : Grown a b) (h' : Grown b c) : Grown a c := by
  obtain ⟨⟨h1, h2, h3⟩, hf, hs⟩ := h
  obtain ⟨⟨k1, k2, k3⟩, kf, ks⟩ := h'
  exact ⟨World.keptBut_trans ⟨h1, h2, h3⟩ (by
    refine ⟨k1, k2, fun i hi => k3 i hi⟩), fun x => (kf x).trans (hf x), Nat.le_trans hs ks⟩

/-- ZZfigureTag at a text whose tag is known. -/
theorem tag_call {s r : ByteArray} (hT : Tag s r) (hs : s.size ≤ 400) (w : World) :
    Calls Trym.prog 9 #[.string s] w fun e w' => e = .returned (.string r) ∧ w' = w := by
  refine (ZZfigureTag_any s w (by unfold maxLen; omega)).mono ?_
  rintro e w' ⟨q, rfl, hq, rfl⟩
  rw [hq.unique hT]
  exact ⟨rfl, rfl⟩

theorem size1 (b : UInt8) : (ByteArray.mk #[b]).size = 1 := rfl

set_option maxHeartbeats 1000000 in
theorem decimal_law (a0 a1 : Int) (b0 : 0 ≤ a0) (b0' : a0 ≤ 18446744073709551615) (b1 : 0 ≤ a1) (b1' : a1 ≤ 18446744073709551615) (w : World) :
    Calls Trym.prog 4 #[.int .u64 a0, .int .u64 a1] w fun e w' => e = .returned (.bool true) ∧ Grown w w' := by
  by_cases hlt : a0 < 1000000000000000000
  · by_cases hz : 0 < a0
    · go_enter Trym.func4, Trym.ntmps4
      go_wp2_with fail
      refine (utoa_any a0 _ b0 (by omega)).mono ?_
      rintro e w1 ⟨s, rfl, hs, g1⟩
      go_wp2_with fail
      refine (utoa_any a1 _ b1 (by omega)).mono ?_
      rintro e w2 ⟨t, rfl, ht, g2⟩
      have hg := grown_trans g1 g2
      clear g1 g2
      have es := hs.2.1
      have et := ht.2.1
      go_wp2_with fail
      refine (tag_call (r := ⟨#[33, 33, 105, 110, 116]⟩) (tag_num_lt hs (by omega)) (by omega) _).mono ?_
      rintro e w3 ⟨rfl, rfl⟩
      go_wp2_with fail
      refine (tag_call (r := ⟨#[33, 33, 102, 108, 111, 97, 116]⟩) (tag_dotted hs ht) (by rw [size_app, size_app, size1]; omega) _).mono ?_
      rintro e w3 ⟨rfl, rfl⟩
      go_wp2_with fail
      refine (tag_call (r := ⟨#[]⟩) (tag_minus s) (by rw [size_app, size1]; omega) _).mono ?_
      rintro e w3 ⟨rfl, rfl⟩
      go_wp2_with fail
      refine (tag_call (r := ⟨#[]⟩) (tag_plus s) (by rw [size_app, size1]; omega) _).mono ?_
      rintro e w3 ⟨rfl, rfl⟩
      go_wp2_with fail
      refine (tag_call (r := ⟨#[]⟩) (tag_led hs) (by rw [size_app, size1]; omega) _).mono ?_
      rintro e w3 ⟨rfl, rfl⟩
      go_wp2_with fail
      go_ret
      exact ⟨rfl, hg⟩
    · obtain rfl : a0 = 0 := by omega
      go_enter Trym.func4, Trym.ntmps4
      go_wp2_with fail
      refine (utoa_any 0 _ (by omega) (by omega)).mono ?_
      rintro e w1 ⟨s, rfl, hs, g1⟩
      go_wp2_with fail
      refine (utoa_any a1 _ b1 (by omega)).mono ?_
      rintro e w2 ⟨t, rfl, ht, g2⟩
      have hg := grown_trans g1 g2
      clear g1 g2
      have es := hs.2.1
      have et := ht.2.1
      go_wp2_with fail
      refine (tag_call (r := ⟨#[33, 33, 105, 110, 116]⟩) (tag_num_lt hs (by omega)) (by omega) _).mono ?_
      rintro e w3 ⟨rfl, rfl⟩
      go_wp2_with fail
      refine (tag_call (r := ⟨#[33, 33, 102, 108, 111, 97, 116]⟩) (tag_dotted hs ht) (by rw [size_app, size_app, size1]; omega) _).mono ?_
      rintro e w3 ⟨rfl, rfl⟩
      go_wp2_with fail
      refine (tag_call (r := ⟨#[]⟩) (tag_minus s) (by rw [size_app, size1]; omega) _).mono ?_
      rintro e w3 ⟨rfl, rfl⟩
      go_wp2_with fail
      refine (tag_call (r := ⟨#[]⟩) (tag_plus s) (by rw [size_app, size1]; omega) _).mono ?_
      rintro e w3 ⟨rfl, rfl⟩
      go_wp2_with fail
      go_ret
      exact ⟨rfl, hg⟩
  · have hz : 0 < a0 := by omega
    go_enter Trym.func4, Trym.ntmps4
    go_wp2_with fail
    refine (utoa_any a0 _ b0 (by omega)).mono ?_
    rintro e w1 ⟨s, rfl, hs, g1⟩
    go_wp2_with fail
    refine (utoa_any a1 _ b1 (by omega)).mono ?_
    rintro e w2 ⟨t, rfl, ht, g2⟩
    have hg := grown_trans g1 g2
    clear g1 g2
    have es := hs.2.1
    have et := ht.2.1
    go_wp2_with fail
    refine (tag_call (r := ⟨#[]⟩) (tag_num_ge hs (by omega)) (by omega) _).mono ?_
    rintro e w3 ⟨rfl, rfl⟩
    go_wp2_with fail
    refine (tag_call (r := ⟨#[33, 33, 102, 108, 111, 97, 116]⟩) (tag_dotted hs ht) (by rw [size_app, size_app, size1]; omega) _).mono ?_
    rintro e w3 ⟨rfl, rfl⟩
    go_wp2_with fail
    refine (tag_call (r := ⟨#[]⟩) (tag_minus s) (by rw [size_app, size1]; omega) _).mono ?_
    rintro e w3 ⟨rfl, rfl⟩
    go_wp2_with fail
    refine (tag_call (r := ⟨#[]⟩) (tag_plus s) (by rw [size_app, size1]; omega) _).mono ?_
    rintro e w3 ⟨rfl, rfl⟩
    go_wp2_with fail
    refine (tag_call (r := ⟨#[]⟩) (tag_led hs) (by rw [size_app, size1]; omega) _).mono ?_
    rintro e w3 ⟨rfl, rfl⟩
    go_wp2_with fail
    go_ret
    exact ⟨rfl, hg⟩
end Go.Proofs.Qxb6601032aMods
