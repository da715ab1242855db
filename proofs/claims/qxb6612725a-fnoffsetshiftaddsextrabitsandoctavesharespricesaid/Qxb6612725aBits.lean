import Derived.Test.Qxb6612725aLen
import Derived.Test.Qxb6612725aRows
import Derived.WalkKit
import Derived.RowKit
import Derived.Deep.MidRow
import Derived.Deep.WholeRow
import Derived.BigQuiet
namespace Go.Proofs.Qxb6612725a
open Go.RowKit

theorem bitLen_log (n : Nat) (h : n ≠ 0) (hn : n < 2 ^ 64) : Lib.bitLen n = n.log2 + 1 := by
  have h1 := Nat.log2_self_le h
  have h2 : n < 2 ^ (n.log2 + 1) := Nat.lt_log2_self
  rw [Lib.bitLen_shift n.log2 n h1 hn]
  have e : n / 2 ^ n.log2 = 1 := by
    have hp : 0 < 2 ^ n.log2 := Nat.two_pow_pos _
    refine Nat.le_antisymm (Nat.le_of_lt_succ ((Nat.div_lt_iff_lt_mul hp).2 ?_)) ((Nat.le_div_iff_mul_le hp).2 (by omega))
    rw [Nat.pow_succ] at h2; omega
  rw [e]
  rfl

theorem log_le (n : Nat) (h : n ≠ 0) (hn : n ≤ 4294967295) : n.log2 ≤ 31 := by
  have := (Nat.log2_lt h).2 (show n < 2 ^ 32 by omega)
  omega

theorem highBit_any (n : Nat) (w : World) (h0 : n ≠ 0) (h1 : n ≤ 4294967295) :
    Calls Try.prog 12 #[.int .u32 n] w fun e w' => e = .returned (.int .u64 (n.log2)) ∧ w' = w := by
  have hl := log_le n h0 h1
  have hb := bitLen_log n h0 (by omega)
  go_enter Try.func12, Try.ntmps12
  go_wp2_with (go_at_call 13; refine (bits_Len32 n _ (by omega) (by omega)).mono ?_; rintro e w' ⟨rfl, rfl⟩)
  go_ret
  simp

theorem ofCode_any (n : Nat) (w : World) (h0 : n ≠ 0) (h1 : n ≤ 4294967295) :
    Calls Try.prog 10 #[.int .u32 n] w fun e w' => e = .returned (.int .u8 (n.log2)) ∧ w' = w := by
  have hl := log_le n h0 h1
  go_enter Try.func10, Try.ntmps10
  go_wp2_with (go_at_call 12; refine (highBit_any n _ h0 h1).mono ?_; rintro e w' ⟨rfl, rfl⟩)
  go_ret
  simp

theorem bucket_step (n k : Nat) (h0 : n ≠ 0) (hz : ¬ (n : Int) / 2 ^ (k + 1) = 0) : k + 1 ≤ n.log2 := by
  have hz' : n / 2 ^ (k + 1) ≠ 0 := fun e => hz (by exact_mod_cast e)
  refine (Nat.le_log2 h0).2 ?_
  have hp : 0 < 2 ^ (k + 1) := Nat.two_pow_pos _
  by_cases h : 2 ^ (k + 1) ≤ n
  · exact h
  · exact absurd (Nat.div_eq_of_lt (by omega)) hz'
theorem bucket_end (n k : Nat) (h0 : n ≠ 0) (hk : k ≤ n.log2) (hz : (n : Int) / 2 ^ (k + 1) = 0) : k = n.log2 := by
  have hz' : n / 2 ^ (k + 1) = 0 := by exact_mod_cast hz
  have hp : 0 < 2 ^ (k + 1) := Nat.two_pow_pos _
  have h : n < 2 ^ (k + 1) := (Nat.div_eq_zero_iff_lt hp).1 hz'
  have := (Nat.log2_lt h0).2 h
  omega

theorem bucket_any (n : Nat) (w : World) (h0 : n ≠ 0) (h1 : n ≤ 4294967295) :
    Calls Try.prog 7 #[.int .u32 n] w fun e w' => e = .returned (.int .u64 (n.log2)) ∧ w' = w := by
  have hl := log_le n h0 h1
  go_enter Try.func7, Try.ntmps7
  go_wp2
  go_loop [3] (fun i => ∃ k : Nat, k ≤ n.log2 ∧ i = .int .u64 k) (fun i => n.log2 - (intOf i).toNat)
  case atStart => exact ⟨0, by omega, rfl⟩
  case round =>
    obtain ⟨k, hk, rfl⟩ := hrel
    by_cases hlt : k < 31
    · by_cases hz : (n : Int) / 2 ^ (k + 1) = 0
      · have hke : k = n.log2 := bucket_end n k h0 hk hz
        subst hke
        go_wp2
        go_ret
        simp
      · have hk1 := bucket_step n k h0 hz
        go_wp2
        exact ⟨⟨k + 1, by omega, by go_num⟩, by simp [intOf]; omega⟩
    · have hke : k = n.log2 := by omega
      subst hke
      go_wp2
      go_ret
      simp
end Go.Proofs.Qxb6612725a
