/-
  THE PLAIN MATHEMATICS OF b1Utoa: the decimal digits of a number, laid from the right. No Go in sight.
-/
import Derived.Test.Qxb6601032aModsPlain
namespace Go.Proofs.Qxb6601032aMods.Pl

/-- Where b1Utoa's loop stands: the digits from place c on are laid; d is what is left. -/
def Dec (n c d : Nat) (l : List UInt8) : Prop :=
  c ≤ 20 ∧ l.length = 20 ∧ d = n / 10 ^ (20 - c) ∧ (∀ j x, c ≤ j → l[j]? = some x → Dg x.toNat) ∧ (c < 20 → 0 < n / 10 ^ (19 - c)) ∧ (c < 20 → d = 0 → ∀ x, l[c]? = some x → x.toNat ≠ 48)

theorem dec0 (n : Nat) : Dec n 20 n (List.replicate 20 0) := by
  refine ⟨Nat.le_refl _, rfl, by simp, fun j x hj hx => ?_, fun h => by omega, fun h => by omega⟩
  have := (List.getElem?_eq_some_iff.1 hx).1
  simp at this
  omega
theorem dec_room {n c d : Nat} {l : List UInt8} (h : Dec n c d l) (hn : n < 18446744073709551616) (hd : 0 < d) : 0 < c := by
  obtain ⟨h1, h2, h3, h4, h5, h6⟩ := h
  by_cases e : c = 0
  · subst e
    have : n / 10 ^ (20 - 0) = 0 := Nat.div_eq_of_lt (by simp; omega)
    omega
  · omega
theorem dec_step {n c d : Nat} {l : List UInt8} (h : Dec n (c + 1) d l) (hd : 0 < d) : Dec n c (d / 10) (l.set c (UInt8.ofNat (48 + d % 10))) := by
  obtain ⟨h1, h2, h3, h4, h5, h6⟩ := h
  have ec : 20 - c = (20 - (c + 1)) + 1 := by omega
  have e19 : 19 - c = 20 - (c + 1) := by omega
  have ev : (UInt8.ofNat (48 + d % 10)).toNat = 48 + d % 10 := by simp; omega
  refine ⟨by omega, by simp [h2], ?_, ?_, ?_, ?_⟩
  · rw [h3, ec, Nat.pow_succ, Nat.div_div_eq_div_mul]
  · intro j x hj hx
    rw [List.getElem?_set] at hx
    by_cases e : c = j
    · subst e
      rw [if_pos rfl] at hx
      split at hx
      · cases hx
        rw [ev]; unfold Dg; omega
      · cases hx
    · rw [if_neg e] at hx
      exact h4 j x (by omega) hx
  · intro _
    rw [e19, ← h3]; exact hd
  · intro _ hz x hx
    rw [List.getElem?_set, if_pos rfl] at hx
    split at hx
    · cases hx
      rw [ev]; omega
    · cases hx
theorem dec_some {n c : Nat} {l : List UInt8} (h : Dec n c 0 l) (hn : 0 < n) : c < 20 := by
  obtain ⟨h1, h2, h3, h4, h5, h6⟩ := h
  by_cases e : c = 20
  · subst e; simp at h3; omega
  · omega

/-- What is asked of a decimal rendering r of n. -/
def Num (n : Nat) (r : ByteArray) : Prop :=
  0 < r.size ∧ r.size ≤ 20 ∧ (∀ j, j < r.size → Dg (byt r j)) ∧ (r.size ≤ 18 ↔ n < 1000000000000000000) ∧ (0 < n → byt r 0 ≠ 48) ∧ (n = 0 → r.size = 1)

theorem byt_mk (l : List UInt8) (j : Nat) (x : UInt8) (h : l[j]? = some x) : byt ⟨l.toArray⟩ j = x.toNat := by
  obtain ⟨hj, e⟩ := List.getElem?_eq_some_iff.1 h
  have hs : j < (ByteArray.mk l.toArray).size := by simpa [ByteArray.size] using hj
  rw [byt_at hs]
  show (l.toArray[j]).toNat = _
  simp [e]
theorem size_mk (l : List UInt8) : (ByteArray.mk l.toArray).size = l.length := by simp [ByteArray.size]

theorem num_dec {n c : Nat} {l : List UInt8} (h : Dec n c 0 l) (hn : 0 < n) : Num n ⟨(l.drop c).toArray⟩ := by
  have hc := dec_some h hn
  obtain ⟨h1, h2, h3, h4, h5, h6⟩ := h
  have hlt : n < 10 ^ (20 - c) := by
    have := (Nat.div_eq_zero_iff_lt (Nat.pow_pos (n := 20 - c) (by omega : 0 < 10))).1 h3.symm
    exact this
  have hge : 10 ^ (19 - c) ≤ n := by
    have := h5 hc
    exact (Nat.div_pos_iff.1 this).2
  have hlen : (l.drop c).length = 20 - c := by simp [h2]
  refine ⟨by rw [size_mk]; omega, by rw [size_mk]; omega, ?_, ?_, ?_, fun e => by omega⟩
  · intro j hj
    rw [size_mk] at hj
    have hx : (l.drop c)[j]? = some (l.drop c)[j] := List.getElem?_eq_getElem hj
    rw [byt_mk _ _ _ hx]
    rw [List.getElem?_drop] at hx
    exact h4 (c + j) _ (by omega) hx
  · rw [size_mk, hlen]
    constructor
    · intro h18
      have : 10 ^ (20 - c) ≤ 10 ^ 18 := Nat.pow_le_pow_right (by omega) h18
      have e : (10 : Nat) ^ 18 = 1000000000000000000 := by decide
      omega
    · intro hlt'
      by_cases h18 : 20 - c ≤ 18
      · exact h18
      · have : 10 ^ 18 ≤ 10 ^ (19 - c) := Nat.pow_le_pow_right (by omega) (by omega)
        have e : (10 : Nat) ^ 18 = 1000000000000000000 := by decide
        omega
  · intro _
    have h0 : 0 < (l.drop c).length := by omega
    have hx : (l.drop c)[0]? = some (l.drop c)[0] := List.getElem?_eq_getElem h0
    rw [byt_mk _ _ _ hx]
    rw [List.getElem?_drop] at hx
    exact h6 hc rfl _ hx
theorem num_zero : Num 0 ⟨#[48]⟩ := by
  have hs : (ByteArray.mk #[48]).size = 1 := rfl
  refine ⟨by rw [hs]; omega, by rw [hs]; omega, ?_, ?_, fun h => by omega, fun _ => hs⟩
  · intro j hj
    rw [hs] at hj
    obtain rfl : j = 0 := by omega
    have : byt ⟨#[48]⟩ 0 = 48 := rfl
    rw [this]; unfold Dg; omega
  · rw [hs]; constructor <;> intro _ <;> omega

/-! ### What the tag of such texts is -/
theorem digits_no_float {r : ByteArray} (h : ∀ j, j < r.size → Dg (byt r j)) : ¬ FloatP r := by
  rintro ⟨_, p, _, h2, h3, _⟩
  have := h p (by omega)
  unfold Dg at this; omega
theorem tag_num_lt {n : Nat} {r : ByteArray} (h : Num n r) (hn : n < 1000000000000000000) : Tag r tInt := by
  obtain ⟨h1, h2, h3, h4, h5, h6⟩ := h
  refine .inr (.inl ⟨⟨h1, h4.2 hn, h3, ?_⟩, rfl⟩)
  by_cases e : n = 0
  · exact .inr (h6 e)
  · exact .inl (h5 (by omega))
theorem tag_num_ge {n : Nat} {r : ByteArray} (h : Num n r) (hn : ¬ n < 1000000000000000000) : Tag r tNone := by
  obtain ⟨h1, h2, h3, h4, h5, h6⟩ := h
  exact .inr (.inr ⟨digits_no_float h3, fun hi => hn (h4.1 hi.2.1), rfl⟩)

theorem size_app (a b : ByteArray) : (a ++ b).size = a.size + b.size := ByteArray.size_append
theorem byt_left (a b : ByteArray) (j : Nat) (h : j < a.size) : byt (a ++ b) j = byt a j := by
  rw [byt_at h, byt_at (by rw [size_app]; omega)]
  rw [ByteArray.getElem_append_left h]
theorem byt_right (a b : ByteArray) (j : Nat) (h : j < b.size) : byt (a ++ b) (a.size + j) = byt b j := by
  rw [byt_at h, byt_at (by rw [size_app]; omega)]
  rw [ByteArray.getElem_append_right (by omega)]
  simp

theorem tag_dotted {n m : Nat} {r t : ByteArray} (hr : Num n r) (ht : Num m t) : Tag (r ++ ⟨#[46]⟩ ++ t) tFloat := by
  obtain ⟨r1, r2, r3, _⟩ := hr
  obtain ⟨t1, t2, t3, _⟩ := ht
  have s1 : (ByteArray.mk #[46]).size = 1 := rfl
  have sz : (r ++ ⟨#[46]⟩ ++ t).size = r.size + 1 + t.size := by rw [size_app, size_app, s1]
  have e46 : byt (ByteArray.mk #[46]) 0 = 46 := rfl
  refine .inl ⟨⟨by omega, r.size, r1, by omega, ?_, ?_⟩, rfl⟩
  · rw [byt_left _ _ _ (by rw [size_app, s1]; omega)]
    have := byt_right r ⟨#[46]⟩ 0 (by rw [s1]; omega)
    rw [Nat.add_zero] at this
    rw [this, e46]
  · intro j hj hne
    by_cases h : j < r.size
    · rw [byt_left _ _ _ (by rw [size_app, s1]; omega), byt_left _ _ _ h]
      exact r3 j h
    · obtain ⟨k, rfl⟩ : ∃ k, j = (r ++ ⟨#[46]⟩ : ByteArray).size + k := ⟨j - (r.size + 1), by rw [size_app, s1]; omega⟩
      rw [size_app, s1] at hj
      rw [byt_right _ _ _ (by omega)]
      exact t3 k (by omega)
/-- A byte that is neither digit nor point ahead of a text. -/
theorem tag_ahead (c : ByteArray) (r : ByteArray) (hc : c.size = 1) (hd : ¬ Dg (byt c 0)) : Tag (c ++ r) tNone := by
  have e : byt (c ++ r) 0 = byt c 0 := byt_left _ _ _ (by omega)
  refine .inr (.inr ⟨?_, ?_, rfl⟩)
  · rintro ⟨_, p, h1, _, _, h4⟩
    have := h4 0 (by rw [size_app]; omega) (by omega)
    rw [e] at this
    exact hd this
  · intro hi
    have := hi.2.2.1 0 hi.1
    rw [e] at this
    exact hd this
theorem tag_minus (r : ByteArray) : Tag (⟨#[45]⟩ ++ r) tNone := tag_ahead _ r rfl (by have : byt ⟨#[45]⟩ 0 = 45 := rfl; rw [this]; unfold Dg; omega)
theorem tag_plus (r : ByteArray) : Tag (⟨#[43]⟩ ++ r) tNone := tag_ahead _ r rfl (by have : byt ⟨#[43]⟩ 0 = 43 := rfl; rw [this]; unfold Dg; omega)
theorem tag_led {n : Nat} {r : ByteArray} (h : Num n r) : Tag (⟨#[48]⟩ ++ r) tNone := by
  obtain ⟨h1, h2, h3, h4, h5, h6⟩ := h
  have s1 : (ByteArray.mk #[48]).size = 1 := rfl
  have e48 : byt (ByteArray.mk #[48]) 0 = 48 := rfl
  have sz : ((ByteArray.mk #[48]) ++ r).size = 1 + r.size := by rw [size_app, s1]
  have e0 : byt (⟨#[48]⟩ ++ r) 0 = 48 := by rw [byt_left _ _ _ (by omega), e48]
  refine .inr (.inr ⟨digits_no_float ?_, ?_, rfl⟩)
  · intro j hj
    by_cases h : j = 0
    · subst h; rw [e0]; unfold Dg; omega
    · obtain ⟨k, rfl⟩ : ∃ k, j = (ByteArray.mk #[48]).size + k := ⟨j - 1, by omega⟩
      rw [byt_right _ _ _ (by omega)]
      exact h3 k (by omega)
  · intro hi
    rcases hi.2.2.2 with h | h
    · exact h e0
    · omega
end Go.Proofs.Qxb6601032aMods.Pl
