/-
  THE PLAIN MATHEMATICS OF cutKey: no Go in sight.
-/
import Derived.Test.Qxb6601032aModsPlain
namespace Go.Proofs.Qxb6601032aMods.Pl

/-- A letter, a digit or an underscore. -/
def wd (c : Nat) : Bool := (97 ≤ c && c ≤ 122) || (65 ≤ c && c ≤ 90) || (48 ≤ c && c ≤ 57) || c == 95
theorem wd_iff (c : Nat) : wd c = true ↔ (97 ≤ c ∧ c ≤ 122) ∨ (65 ≤ c ∧ c ≤ 90) ∨ (48 ≤ c ∧ c ≤ 57) ∨ c = 95 := by
  simp [wd, or_assoc]
theorem wd_colon : wd 58 = false := by decide

/-- The first k bytes are word bytes. -/
def AllW (s : ByteArray) (k : Nat) : Prop := ∀ j, j < k → wd (byt s j) = true
theorem allW0 (s : ByteArray) : AllW s 0 := fun j h => by omega
theorem allW_step {s : ByteArray} {k : Nat} (h : AllW s k) (a : wd (byt s k) = true) : AllW s (k + 1) := fun j hj => by
  by_cases e : j = k
  · subst e; exact a
  · exact h j (by omega)

/-- The text opens with a key of i bytes and its colon. -/
def CutP (s : ByteArray) (i : Nat) : Prop := 0 < i ∧ i ≤ 128 ∧ i < s.size ∧ AllW s i ∧ byt s i = 58 ∧ (i + 1 < s.size → byt s (i + 1) = 32)
/-- What cutKey answers. -/
def Cut (s k r : ByteArray) (b : Bool) : Prop :=
  (∃ i, CutP s i ∧ k = s.extract 0 i ∧ r = s.extract (i + 1) s.size ∧ b = true) ∨ ((∀ i, ¬ CutP s i) ∧ k = ⟨#[]⟩ ∧ r = ⟨#[]⟩ ∧ b = false)

theorem cutP_unique {s : ByteArray} {i j : Nat} (h : CutP s i) (h' : CutP s j) : i = j := by
  obtain ⟨_, _, _, a, b, _⟩ := h
  obtain ⟨_, _, _, c, d, _⟩ := h'
  by_cases e : i < j
  · have := c i e; rw [b, wd_colon] at this; cases this
  · by_cases e' : j < i
    · have := a j e'; rw [d, wd_colon] at this; cases this
    · omega
theorem Cut.unique {s k r k' r' : ByteArray} {b b' : Bool} (h : Cut s k r b) (h' : Cut s k' r' b') : k = k' ∧ r = r' ∧ b = b' := by
  rcases h with ⟨i, h, rfl, rfl, rfl⟩ | ⟨h, rfl, rfl, rfl⟩ <;> rcases h' with ⟨j, h', rfl, rfl, rfl⟩ | ⟨h', rfl, rfl, rfl⟩
  · obtain rfl := cutP_unique h h'
    exact ⟨rfl, rfl, rfl⟩
  · exact absurd h (h' i)
  · exact absurd h' (h j)
  · exact ⟨rfl, rfl, rfl⟩

/-- Where cutKey's loop ends: the first byte that is no word byte, or the end. -/
def Stop (s : ByteArray) (k : Nat) : Prop := AllW s k ∧ k ≤ s.size ∧ (k < s.size → wd (byt s k) = false)
theorem stop_at {s : ByteArray} {k i : Nat} (h : Stop s k) (h' : CutP s i) : i = k := by
  obtain ⟨a, b, c⟩ := h
  obtain ⟨_, _, e, f, g, _⟩ := h'
  by_cases x : i < k
  · have := a i x; rw [g, wd_colon] at this; cases this
  · by_cases y : k < i
    · have := f k y; rw [c (by omega)] at this; cases this
    · omega
theorem stop_none {s : ByteArray} {k : Nat} (h : Stop s k) (h' : ¬ (0 < k ∧ k ≤ 128 ∧ k < s.size ∧ byt s k = 58 ∧ (k + 1 < s.size → byt s (k + 1) = 32))) : Cut s ⟨#[]⟩ ⟨#[]⟩ false :=
  .inr ⟨fun i hi => by
    obtain rfl := stop_at h hi
    obtain ⟨a, b, c, _, e, f⟩ := hi
    exact h' ⟨a, b, c, e, f⟩, rfl, rfl, rfl⟩
theorem cut_some {s : ByteArray} {k : Nat} (h : AllW s k) (a : 0 < k) (b : k ≤ 128) (c : k < s.size) (d : byt s k = 58) (e : k + 1 < s.size → byt s (k + 1) = 32) : Cut s (s.extract 0 k) (s.extract (k + 1) s.size) true :=
  .inl ⟨k, ⟨a, b, c, h, d, e⟩, rfl, rfl, rfl⟩

/-- No colon among the first k bytes. -/
def NoCol (s : ByteArray) (k : Nat) : Prop := ∀ j, j < k → byt s j ≠ 58
theorem noCol0 (s : ByteArray) : NoCol s 0 := fun j h => by omega
theorem noCol_step {s : ByteArray} {k : Nat} (h : NoCol s k) (a : byt s k ≠ 58) : NoCol s (k + 1) := fun j hj => by
  by_cases e : j = k
  · subst e; exact a
  · exact h j (by omega)
theorem noCol_none {s : ByteArray} (h : NoCol s s.size) : Cut s ⟨#[]⟩ ⟨#[]⟩ false :=
  .inr ⟨fun i hi => h i hi.2.2.1 hi.2.2.2.2.1, rfl, rfl, rfl⟩
theorem col_at {s : ByteArray} {k i : Nat} (h : NoCol s k) (hk : byt s k = 58) (h' : CutP s i) : i = k := by
  obtain ⟨_, _, e, f, g, _⟩ := h'
  by_cases x : i < k
  · exact absurd g (h i x)
  · by_cases y : k < i
    · have := f k y; rw [hk, wd_colon] at this; cases this
    · omega
theorem col_none {s : ByteArray} {k : Nat} (h : NoCol s k) (hk : byt s k = 58) (h' : ¬ (0 < k ∧ k ≤ 128 ∧ AllW s k ∧ (k + 1 < s.size → byt s (k + 1) = 32))) : Cut s ⟨#[]⟩ ⟨#[]⟩ false :=
  .inr ⟨fun i hi => by
    obtain rfl := col_at h hk hi
    obtain ⟨a, b, _, d, _, f⟩ := hi
    exact h' ⟨a, b, d, f⟩, rfl, rfl, rfl⟩
end Go.Proofs.Qxb6601032aMods.Pl
