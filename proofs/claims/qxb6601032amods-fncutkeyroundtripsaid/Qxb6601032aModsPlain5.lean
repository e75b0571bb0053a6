/-
  THE PLAIN MATHEMATICS OF THE ROUND TRIP: a key, a colon and a rest are cut back. No Go in sight.
-/
import Derived.Test.Qxb6601032aModsPlain4
namespace Go.Proofs.Qxb6601032aMods.Pl

theorem size_cat (a b : ByteArray) : (a ++ b).size = a.size + b.size := ByteArray.size_append
theorem byt_catL (a b : ByteArray) (j : Nat) (h : j < a.size) : byt (a ++ b) j = byt a j := by
  rw [byt_at h, byt_at (by rw [size_cat]; omega)]
  rw [ByteArray.getElem_append_left h]
theorem byt_catR (a b : ByteArray) (j : Nat) (h : j < b.size) : byt (a ++ b) (a.size + j) = byt b j := by
  rw [byt_at h, byt_at (by rw [size_cat]; omega)]
  rw [ByteArray.getElem_append_right (by omega)]
  simp
theorem size58 : (ByteArray.mk #[58]).size = 1 := rfl
theorem byt58 : byt (ByteArray.mk #[58]) 0 = 58 := rfl

theorem joined_size (k r : ByteArray) : (k ++ ⟨#[58]⟩ ++ r).size = k.size + 1 + r.size := by rw [size_cat, size_cat, size58]
theorem joined_key (k r : ByteArray) (j : Nat) (h : j < k.size) : byt (k ++ ⟨#[58]⟩ ++ r) j = byt k j := by
  rw [byt_catL _ _ _ (by rw [size_cat, size58]; omega), byt_catL _ _ _ h]
theorem joined_colon (k r : ByteArray) : byt (k ++ ⟨#[58]⟩ ++ r) k.size = 58 := by
  rw [byt_catL _ _ _ (by rw [size_cat, size58]; omega)]
  have := byt_catR k ⟨#[58]⟩ 0 (by rw [size58]; omega)
  rw [Nat.add_zero] at this
  rw [this, byt58]
theorem joined_rest (k r : ByteArray) (h : 0 < r.size) : byt (k ++ ⟨#[58]⟩ ++ r) (k.size + 1) = byt r 0 := by
  have := byt_catR (k ++ ⟨#[58]⟩) r 0 h
  rw [Nat.add_zero, size_cat, size58] at this
  exact this
theorem joined_extL (k r : ByteArray) : (k ++ ⟨#[58]⟩ ++ r).extract 0 k.size = k := by
  apply ByteArray.ext
  simp [ByteArray.data_extract, ByteArray.data_append]
theorem joined_extR (k r : ByteArray) : (k ++ ⟨#[58]⟩ ++ r).extract (k.size + 1) (k ++ ⟨#[58]⟩ ++ r).size = r := by
  rw [joined_size]
  apply ByteArray.ext
  have e : k.size + 1 + r.size - (k.size + 1) = r.data.size := by show _ = r.size; omega
  simp only [ByteArray.data_extract, ByteArray.data_append, Array.extract_append]
  have e1 : k.data.extract (k.size + 1) (k.size + 1 + r.size) = #[] := Array.extract_eq_empty_of_le (by show min _ k.size ≤ _; omega)
  have e2 : r.data.extract 0 r.size = r.data := Array.extract_size
  simp [e, e1, e2]
theorem joined_allW {k r : ByteArray} (h : AllW k k.size) : AllW (k ++ ⟨#[58]⟩ ++ r) k.size := fun j hj => by
  rw [joined_key k r j hj]; exact h j hj

theorem round_yes {k r : ByteArray} (h : AllW k k.size) (h0 : 0 < k.size) (h1 : k.size ≤ 128) (hr : 0 < r.size → byt r 0 = 32) : Cut (k ++ ⟨#[58]⟩ ++ r) k r true := by
  have := cut_some (joined_allW (r := r) h) h0 h1 (by rw [joined_size]; omega) (joined_colon k r) (fun hl => by
    rw [joined_size] at hl
    rw [joined_rest k r (by omega)]
    exact hr (by omega))
  rwa [joined_extL, joined_extR] at this
theorem round_no {k r : ByteArray} (h : AllW k k.size) (h1 : 128 < k.size) : Cut (k ++ ⟨#[58]⟩ ++ r) ⟨#[]⟩ ⟨#[]⟩ false :=
  stop_none (k := k.size) ⟨joined_allW h, by rw [joined_size]; omega, fun _ => by rw [joined_colon]; exact wd_colon⟩ (fun hh => by omega)
end Go.Proofs.Qxb6601032aMods.Pl
