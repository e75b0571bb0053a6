/-
  THE PLAIN MATHEMATICS OF THE FOUR LAWS OF SEAT b6601032aM: no Go in sight.
-/
import Derived.WalkKit
namespace Go.Proofs.Qxb6601032aMods.Pl

/-- The byte at place k as a number; behind the end: 0. -/
def byt (s : ByteArray) (k : Nat) : Nat := if h : k < s.size then s[k].toNat else 0
theorem byt_at {s : ByteArray} {k : Nat} (h : k < s.size) : byt s k = s[k].toNat := by simp [byt, h]

/-- Digit. -/
def Dg (c : Nat) : Prop := 48 ≤ c ∧ c ≤ 57

/-- The form of a float: one point, digits before it and behind it, at most 300 bytes. -/
def FloatP (s : ByteArray) : Prop := s.size ≤ 300 ∧ ∃ p, 0 < p ∧ p + 1 < s.size ∧ byt s p = 46 ∧ ∀ j, j < s.size → j ≠ p → Dg (byt s j)
/-- The form of a whole number: one to eighteen digits, no zero ahead of others. -/
def IntP (s : ByteArray) : Prop := 0 < s.size ∧ s.size ≤ 18 ∧ (∀ j, j < s.size → Dg (byt s j)) ∧ (byt s 0 ≠ 48 ∨ s.size = 1)

def tInt : ByteArray := ⟨#[33, 33, 105, 110, 116]⟩
def tFloat : ByteArray := ⟨#[33, 33, 102, 108, 111, 97, 116]⟩
def tNone : ByteArray := ⟨#[]⟩

/-- What the tag of s is. -/
def Tag (s r : ByteArray) : Prop := (FloatP s ∧ r = tFloat) ∨ (IntP s ∧ r = tInt) ∨ (¬ FloatP s ∧ ¬ IntP s ∧ r = tNone)

theorem float_int {s : ByteArray} (hf : FloatP s) (hi : IntP s) : False := by
  obtain ⟨_, p, _, h2, h3, _⟩ := hf
  have := hi.2.2.1 p (by omega)
  unfold Dg at this
  omega

theorem Tag.unique {s r q : ByteArray} (h : Tag s r) (h' : Tag s q) : r = q := by
  rcases h with ⟨a, rfl⟩ | ⟨a, rfl⟩ | ⟨a, b, rfl⟩ <;> rcases h' with ⟨c, rfl⟩ | ⟨c, rfl⟩ | ⟨c, d, rfl⟩
  all_goals first | rfl | contradiction | exact (float_int ‹_› ‹_›).elim

/-- Where figureTag's loop stands at k: no point yet (p = -1), or the one point at p. -/
def Scan (s : ByteArray) (k : Nat) (p : Int) : Prop :=
  (p = -1 ∧ ∀ j, j < k → Dg (byt s j)) ∨ (∃ q : Nat, p = q ∧ 0 < q ∧ q < k ∧ q + 1 < s.size ∧ byt s q = 46 ∧ ∀ j, j < k → j ≠ q → Dg (byt s j))

theorem scan0 (s : ByteArray) : Scan s 0 (-1) := .inl ⟨rfl, fun j h => by omega⟩
theorem scan_le {s : ByteArray} {k : Nat} {p : Int} (h : Scan s k p) : -1 ≤ p := by
  rcases h with ⟨rfl, _⟩ | ⟨q, rfl, _⟩ <;> omega
theorem scan_digit {s : ByteArray} {k : Nat} {p : Int} (h : Scan s k p) (h1 : 48 ≤ byt s k) (h2 : byt s k ≤ 57) : Scan s (k + 1) p := by
  rcases h with ⟨rfl, h⟩ | ⟨q, rfl, a, b, c, d, h⟩
  · refine .inl ⟨rfl, fun j hj => ?_⟩
    by_cases e : j = k
    · subst e; exact ⟨h1, h2⟩
    · exact h j (by omega)
  · refine .inr ⟨q, rfl, a, by omega, c, d, fun j hj hq => ?_⟩
    by_cases e : j = k
    · subst e; exact ⟨h1, h2⟩
    · exact h j (by omega) hq
theorem scan_point {s : ByteArray} {k : Nat} {p : Int} (h : Scan s k p) (hp : p < 0) (h0 : 0 < k) (h1 : k + 1 < s.size) (h2 : byt s k = 46) : Scan s (k + 1) k := by
  rcases h with ⟨rfl, h⟩ | ⟨q, rfl, _⟩
  · exact .inr ⟨k, rfl, h0, by omega, h1, h2, fun j hj hq => h j (by omega)⟩
  · omega
/-- A byte that is no digit, and no first inner point: the answer is nothing. -/
theorem scan_bad {s : ByteArray} {k : Nat} {p : Int} (h : Scan s k p) (hk : k < s.size) (h1 : ¬ (48 ≤ byt s k ∧ byt s k ≤ 57)) (h2 : ¬ (byt s k = 46 ∧ p < 0 ∧ 0 < k ∧ k + 1 < s.size)) : Tag s tNone := by
  refine .inr (.inr ⟨?_, ?_, rfl⟩)
  · rintro ⟨_, q, a, b, c, d⟩
    by_cases e : k = q
    · subst e
      rcases h with ⟨rfl, h⟩ | ⟨q', rfl, a', b', c', d', h⟩
      · omega
      · have := d q' (by omega) (by omega)
        unfold Dg at this; omega
    · exact h1 (d k hk e)
  · intro hi
    exact h1 (hi.2.2.1 k hk)
theorem scan_float {s : ByteArray} {p : Int} (h : Scan s s.size p) (hp : 0 ≤ p) (hs : s.size ≤ 300) : Tag s tFloat := by
  rcases h with ⟨rfl, h⟩ | ⟨q, rfl, a, b, c, d, h⟩
  · omega
  · exact .inl ⟨⟨hs, q, a, c, d, h⟩, rfl⟩
theorem scan_int {s : ByteArray} {p : Int} (h : Scan s s.size p) (hp : p < 0) (h0 : 0 < s.size) (h18 : s.size ≤ 18) (hz : byt s 0 ≠ 48 ∨ s.size = 1) : Tag s tInt := by
  rcases h with ⟨rfl, h⟩ | ⟨q, rfl, _⟩
  · exact .inr (.inl ⟨⟨h0, h18, h, hz⟩, rfl⟩)
  · omega
theorem scan_none {s : ByteArray} {p : Int} (h : Scan s s.size p) (hp : p < 0) (hz : ¬ (s.size ≤ 18 ∧ (byt s 0 ≠ 48 ∨ s.size = 1))) : Tag s tNone := by
  rcases h with ⟨rfl, h⟩ | ⟨q, rfl, _⟩
  · refine .inr (.inr ⟨?_, ?_, rfl⟩)
    · rintro ⟨_, q, a, b, c, d⟩
      have := h q (by omega)
      unfold Dg at this; omega
    · intro hi
      exact hz ⟨hi.2.1, hi.2.2.2⟩
  · omega
theorem tag_short {s : ByteArray} (h : s.size = 0) : Tag s tNone :=
  .inr (.inr ⟨fun ⟨_, p, _, h2, _⟩ => by omega, fun hi => by have := hi.1; omega, rfl⟩)
theorem tag_long {s : ByteArray} (h : 300 < s.size) : Tag s tNone :=
  .inr (.inr ⟨fun ⟨h1, _⟩ => by omega, fun hi => by have := hi.2.1; omega, rfl⟩)

/-! ### Strings as the walk compares them -/
theorem toList_length (s : ByteArray) : s.toList.length = s.size := by rw [ByteArray.toList_eq]; simp
theorem toList_nil {s : ByteArray} (h : s.size = 0) : s.toList = [] := by
  have := toList_length s; rw [h] at this; exact List.eq_nil_of_length_eq_zero this
theorem toList_ne {s : ByteArray} (h : s.size ≠ 0) : ¬ s.toList = [] := by
  intro e; have := toList_length s; rw [e] at this; simp at this; omega
theorem toList_isEmpty {s : ByteArray} (h : s.size ≠ 0) : s.toList.isEmpty = false := by
  have := toList_ne h; cases hl : s.toList
  · exact absurd hl this
  · rfl
theorem toList_getElem (s : ByteArray) (k : Nat) (h : k < s.size) : s.toList[k]? = some s[k] := by
  rw [ByteArray.toList_eq, List.getElem?_eq_getElem (by simpa using h)]; simp; rfl
theorem byt_toList (s : ByteArray) (k : Nat) (h : k < s.size) : ∃ c, s.toList[k]? = some c ∧ c.toNat = byt s k :=
  ⟨s[k], toList_getElem s k h, (byt_at h).symm⟩
theorem eq_zero_yes {s : ByteArray} (h : s.size = 1) (h0 : byt s 0 = 48) : s.toList = [48] := by
  obtain ⟨c, hc, hb⟩ := byt_toList s 0 (by omega)
  have hl := toList_length s
  rw [h] at hl
  obtain ⟨a, ha⟩ := List.length_eq_one_iff.1 hl
  rw [ha] at hc ⊢
  simp at hc
  subst hc
  rw [h0] at hb
  have : a = 48 := UInt8.toNat_inj.1 hb
  rw [this]
theorem eq_zero_no {s : ByteArray} (h : s.size ≠ 1) : ¬ s.toList = [48] := by
  intro e
  have := toList_length s
  rw [e] at this
  simp at this
  omega
end Go.Proofs.Qxb6601032aMods.Pl
