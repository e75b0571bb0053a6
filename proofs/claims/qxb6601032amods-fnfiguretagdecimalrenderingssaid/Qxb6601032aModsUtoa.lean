/-
  THE WALK OF b1Utoa (function 11).
-/
import Derived.Test.Qxb6601032aModsRows
import Derived.Test.Qxb6601032aModsPlain2
import Derived.WalkKit
import Derived.WalkSpells
import Derived.RowKit3
import Derived.Laws.IdiomStrings
namespace Go.Proofs.Qxb6601032aMods
open Go.RowKit Pl

def blk (l : List UInt8) : Array Value := (l.map fun b => Value.int .u8 (b.toNat : Int)).toArray
theorem blk_at (l : List UInt8) (j : Nat) (h : j < l.length) : (blk l)[j]? = some (.int .u8 (l[j].toNat : Int)) := by
  simp [blk, h]
theorem blk_set (l : List UInt8) (j d : Nat) : (blk l).setIfInBounds j (.int .u8 (48 + (d : Int) % 10)) = blk (l.set j (UInt8.ofNat (48 + d % 10))) := by
  have e : ((UInt8.ofNat (48 + d % 10)).toNat : Int) = 48 + (d : Int) % 10 := by simp; omega
  unfold blk
  rw [List.map_set, List.setIfInBounds_toArray, e]

theorem arrLen33 : Trym.prog.arrayLen 33 = 20 := by kernel_rfl
theorem under33 : Trym.prog.underlying 33 = some (.array (Trym.prog.arrayLen 33) (Trym.prog.elem 33)) := by kernel_rfl
theorem size33 (w : World) : (sizeOf (Trym.prog.elem 33)).run Trym.prog w = .ok 1 w := by kernel_rfl

theorem slice33 (b c : Nat) (hc : c < 20) (w : World) :
    (Instr.sliceAt 33 (.pointer (some ⟨b, 0, none⟩)) (some (.int .i64 (c : Int))) none none).run Trym.prog w = .ok (.slice (some ⟨b, c, none⟩) (20 - c) (20 - c)) w := by
  rw [run_sliceAt_array_l w 33 ⟨b, 0, none⟩ under33 .i64 (c : Int) (by omega) (by rw [arrLen33]; omega), size33]
  have e : ((c : Int)).toNat = c := by omega
  have hne : ¬ 20 = c := by omega
  simp only [Result.andThen, slicedAt, arrLen33, e, if_neg hne, Addr.add, Nat.mul_one]
  by_cases hz : c = 0 <;> simp [hz]

theorem back28 (w : World) (l : List UInt8) (c : Nat) (hl : l.length = 20) :
    (convert 28 9 (.slice (some ⟨w.heap.size, c, none⟩) (20 - c) (20 - c))).run Trym.prog (w.alloc (.cells (blk l) 33)) = .ok (.string ⟨(l.drop c).toArray⟩) (w.alloc (.cells (blk l) 33)) := by
  have h := run_convert_bytes_back (P := Trym.prog) (w.alloc (.cells (blk l) 33)) 28 9 5 ⟨w.heap.size, c, none⟩ (20 - c) (l.drop c) Trym.underlying28 Trym.underlying5 Trym.underlying9 (fun j hj => by
    have hj' : c + j < l.length := by simp at hj; omega
    have := blk_at l (c + j) hj'
    have ea : (⟨w.heap.size, c, none⟩ : Addr).add j = ⟨w.heap.size, c + j, none⟩ := by by_cases hz : j = 0 <;> simp [Addr.add, hz]
    rw [ea]
    simp [go_sem, this])
  rw [List.length_drop, hl] at h
  exact h

set_option maxHeartbeats 1000000 in
theorem utoa_pos (n : Nat) (w : World) (h0 : 0 < n) (hn : n < 18446744073709551616) :
    Calls Trym.prog 11 #[.int .u64 n] w fun e w' => ∃ r, e = .returned (.string r) ∧ Num n r ∧ Grown w w' := by
  have hn0 : ((n : Int) == 0) = false := by simp; omega
  go_enter Trym.func11, Trym.ntmps11
  go_wp2
  go_loopw [0, 4] (fun t i wr => ∃ c d : Nat, c ≤ 20 ∧ i = .int .i64 c ∧ t = .int .u64 d ∧ d < 18446744073709551616 ∧ ∃ l : List UInt8, l.length = 20 ∧ Dec n c d l ∧ wr = w.alloc (.cells (blk l) 33)) (fun t _ _ => (intOf t).toNat)
  case atStart => exact ⟨20, n, by omega, rfl, rfl, hn, List.replicate 20 0, rfl, dec0 n, rfl⟩
  case round =>
    obtain ⟨c, d, hc, rfl, rfl, hd, l, hl, hD, rfl⟩ := hrel
    by_cases hz : d = 0
    · subst hz
      have hsl := slice33 w.heap.size c (dec_some hD h0)
      have hbk := back28 w l c hl
      go_wp2
      go_ret
      exact ⟨_, rfl, num_dec hD h0, (Grown.refl w).alloc _ _⟩
    · have hd0 : 0 < d := by omega
      obtain ⟨c', rfl⟩ : ∃ c', c = c' + 1 := ⟨c - 1, by have := dec_room hD hn hd0; omega⟩
      have hcell := blk_at l c' (by omega)
      have hD' := dec_step hD hd0
      go_wp2
      go_roundw
      case rel => exact ⟨c', d / 10, by omega, rfl, by go_num, by omega, _, hD'.2.1, hD', by rw [blk_set]⟩
      case measure => simp [intOf]; omega

theorem utoa_any (n : Int) (w : World) (h0 : 0 ≤ n) (hn : n < 18446744073709551616) :
    Calls Trym.prog 11 #[.int .u64 n] w fun e w' => ∃ r, e = .returned (.string r) ∧ Num n.toNat r ∧ Grown w w' := by
  obtain ⟨k, rfl⟩ := Int.eq_ofNat_of_zero_le h0
  by_cases hk : k = 0
  · subst hk
    go_enter Trym.func11, Trym.ntmps11
    go_wp2
    go_ret
    exact ⟨_, rfl, num_zero, Grown.refl w⟩
  · exact utoa_pos k w (by omega) (by omega)
end Go.Proofs.Qxb6601032aMods
