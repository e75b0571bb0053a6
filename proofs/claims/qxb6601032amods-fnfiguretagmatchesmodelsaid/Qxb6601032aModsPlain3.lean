/-
  THE PLAIN MATHEMATICS OF b1FigureModel: the text cut at its first point. No Go in sight.
-/
import Derived.Test.Qxb6601032aModsPlain
namespace Go.Proofs.Qxb6601032aMods.Pl

/-- The first k bytes are digits. -/
def AllD (s : ByteArray) (k : Nat) : Prop := ∀ j, j < k → Dg (byt s j)
theorem allD0 (s : ByteArray) : AllD s 0 := fun j h => by omega
theorem allD_step {s : ByteArray} {k : Nat} (h : AllD s k) (a : 48 ≤ byt s k) (b : byt s k ≤ 57) : AllD s (k + 1) := fun j hj => by
  by_cases e : j = k
  · subst e; exact ⟨a, b⟩
  · exact h j (by omega)
theorem allD_bad {s : ByteArray} {k : Nat} (hk : k < s.size) (h : ¬ (48 ≤ byt s k ∧ byt s k ≤ 57)) : ¬ AllD s s.size := fun e => h (e k hk)

/-- No point among the first k bytes. -/
def NoDot (s : ByteArray) (k : Nat) : Prop := ∀ j, j < k → byt s j ≠ 46
theorem noDot0 (s : ByteArray) : NoDot s 0 := fun j h => by omega
theorem noDot_step {s : ByteArray} {k : Nat} (h : NoDot s k) (a : byt s k ≠ 46) : NoDot s (k + 1) := fun j hj => by
  by_cases e : j = k
  · subst e; exact a
  · exact h j (by omega)

theorem size_pre (s : ByteArray) (k : Nat) (h : k ≤ s.size) : (s.extract 0 k).size = k := by simp [ByteArray.size_extract]; omega
theorem size_post (s : ByteArray) (k : Nat) : (s.extract k s.size).size = s.size - k := by simp [ByteArray.size_extract]
theorem byt_pre (s : ByteArray) (k j : Nat) (h : k ≤ s.size) (hj : j < k) : byt (s.extract 0 k) j = byt s j := by
  rw [byt_at (by rw [size_pre s k h]; exact hj), byt_at (by omega)]
  rw [ByteArray.getElem_extract]
  simp
theorem byt_post (s : ByteArray) (k j : Nat) (hj : j < s.size - k) : byt (s.extract k s.size) j = byt s (k + j) := by
  rw [byt_at (by rw [size_post]; exact hj), byt_at (by omega)]
  rw [ByteArray.getElem_extract]

theorem model_nodot_bad {s : ByteArray} (h : NoDot s s.size) (hd : ¬ (AllD s s.size ∧ s.size ≤ 18)) : Tag s tNone := by
  refine .inr (.inr ⟨?_, ?_, rfl⟩)
  · rintro ⟨_, p, _, h2, h3, _⟩
    exact h p (by omega) h3
  · intro hi
    exact hd ⟨hi.2.2.1, hi.2.1⟩
theorem model_lead {s : ByteArray} (h : NoDot s s.size) (h1 : 1 < s.size) (hz : byt s 0 = 48) : Tag s tNone := by
  refine .inr (.inr ⟨?_, ?_, rfl⟩)
  · rintro ⟨_, p, _, h2, h3, _⟩
    exact h p (by omega) h3
  · intro hi
    rcases hi.2.2.2 with e | e
    · exact e hz
    · omega
theorem model_int {s : ByteArray} (hd : AllD s s.size) (h0 : 0 < s.size) (h18 : s.size ≤ 18) (hz : ¬ (1 < s.size ∧ byt s 0 = 48)) : Tag s tInt :=
  .inr (.inl ⟨⟨h0, h18, hd, by omega⟩, rfl⟩)
/-- The text with its first point at k. -/
theorem model_float {s : ByteArray} {k : Nat} (hs : s.size ≤ 300) (hk : k < s.size) (h46 : byt s k = 46)
    (h0 : (s.extract 0 k).size ≠ 0) (h1 : (s.extract (k + 1) s.size).size ≠ 0) (hw : AllD (s.extract 0 k) (s.extract 0 k).size) (hf : AllD (s.extract (k + 1) s.size) (s.extract (k + 1) s.size).size) : Tag s tFloat := by
  rw [size_pre s k (by omega)] at h0 hw
  rw [size_post] at h1 hf
  refine .inl ⟨⟨hs, k, by omega, by omega, h46, fun j hj hne => ?_⟩, rfl⟩
  by_cases hjk : j < k
  · have := hw j hjk
    rwa [byt_pre s k j (by omega) hjk] at this
  · have := hf (j - (k + 1)) (by omega)
    rw [byt_post s (k + 1) _ (by omega)] at this
    have e : k + 1 + (j - (k + 1)) = j := by omega
    rwa [e] at this
theorem model_nofloat {s : ByteArray} {k : Nat} (hn : NoDot s k) (hk : k < s.size) (h46 : byt s k = 46)
    (h : ¬ ((s.extract 0 k).size ≠ 0 ∧ (s.extract (k + 1) s.size).size ≠ 0 ∧ AllD (s.extract 0 k) (s.extract 0 k).size ∧ AllD (s.extract (k + 1) s.size) (s.extract (k + 1) s.size).size)) : Tag s tNone := by
  rw [size_pre s k (by omega), size_post] at h
  refine .inr (.inr ⟨?_, ?_, rfl⟩)
  · rintro ⟨_, p, h1, h2, h3, h4⟩
    have hp : p = k := by
      by_cases e : p < k
      · exact absurd h3 (hn p e)
      · by_cases e' : p = k
        · exact e'
        · have := h4 k hk (by omega)
          unfold Dg at this; omega
    subst hp
    refine h ⟨by omega, by omega, fun j hj => ?_, fun j hj => ?_⟩
    · rw [byt_pre s p j (by omega) hj]
      exact h4 j (by omega) (by omega)
    · rw [byt_post s (p + 1) j hj]
      exact h4 _ (by omega) (by omega)
  · intro hi
    have := hi.2.2.1 k hk
    unfold Dg at this; omega
end Go.Proofs.Qxb6601032aMods.Pl
