import Derived.Test.Qxb6612680aRows
import Derived.WalkKit
import Derived.WalkSpells
import Derived.WalkLawsBesides
namespace Go.Proofs.Qxb6612680a
open Go.RowKit

theorem and_mask (n : Int) (h0 : 0 ≤ n) (h1 : n < 1000000000) : bits .and .u64 n 1073741823 = n := by
  rw [u64_and n 1073741823 h0 (by omega) (by omega) (by omega)]
  rw [show (1073741823 : Int).toNat = 1073741823 from rfl, nat_mask30]
  omega
theorem and_high (n : Int) (h0 : 0 ≤ n) (h1 : n < 1000000000) : bits .and .u64 n 9223372036854775808 = 0 := by
  rw [u64_and n 9223372036854775808 h0 (by omega) (by omega) (by omega)]
  rw [show (9223372036854775808 : Int).toNat = 2 ^ 63 from rfl, nat_bit]
  have : n.toNat / 2 ^ 63 = 0 := Nat.div_eq_of_lt (by omega)
  rw [this]; rfl
theorem andNot_mask (n : Int) (h0 : 0 ≤ n) (h1 : n < 1000000000) : bits .andNot .u64 n 1073741823 = 0 := by
  rw [u64_andNot n 1073741823 h0 (by omega) (by omega) (by omega)]
  rw [show (18446744073709551615 - (1073741823 : Int).toNat) = (2 ^ 34 - 1) <<< 30 from rfl]
  have : n.toNat &&& ((2 ^ 34 - 1) <<< 30) = 0 := by
    apply Nat.eq_of_testBit_eq
    intro i
    rw [Nat.testBit_and, Nat.testBit_shiftLeft, Nat.zero_testBit]
    by_cases hi : 30 ≤ i
    · have : n.toNat.testBit i = false := Nat.testBit_lt_two_pow (Nat.lt_of_lt_of_le (show n.toNat < 2 ^ 30 by omega) (Nat.pow_le_pow_right (by omega) hi))
      simp [this]
    · simp [hi]
  rw [this]; rfl
theorem or_zero (n : Int) (h0 : 0 ≤ n) (h1 : n < 1000000000) : bits .or .u64 0 n = n := by
  rw [u64_or 0 n (by omega) (by omega) (by omega) (by omega)]
  simp; omega
theorem and_two (n m : Int) (h0 : 0 ≤ n) (h1 : n < 1000000000) (k0 : 0 ≤ m) (k1 : m < 1000000000) : 0 ≤ bits .and .u64 n m ∧ bits .and .u64 n m < 1000000000 := by
  rw [u64_and n m h0 (by omega) (by omega) (by omega)]
  have : n.toNat &&& m.toNat ≤ n.toNat := Nat.and_le_left
  omega

theorem nsec_any (b : Nat) (n : Int) (w : World) (h0 : 0 ≤ n) (h1 : n < 1000000000) (hc : w.cell? ⟨b, 0, none⟩ = some (.int .u64 n)) :
    Calls Try.prog 34 #[.pointer (some ⟨b, 0, none⟩)] w fun e w' => e = .returned (.int .i32 n) ∧ w' = w := by
  have hb := and_mask n h0 h1
  go_enter Try.func34, Try.ntmps34
  go_wp2
  go_ret
  exact ⟨by simp, rfl⟩

theorem sec_any (b : Nat) (n s : Int) (w : World) (h0 : 0 ≤ n) (h1 : n < 1000000000) (hc : w.cell? ⟨b, 0, none⟩ = some (.int .u64 n)) (hs : w.cell? ⟨b, 1, none⟩ = some (.int .i64 s)) :
    Calls Try.prog 39 #[.pointer (some ⟨b, 0, none⟩)] w fun e w' => e = .returned (.int .i64 s) ∧ w' = w := by
  have hb := and_high n h0 h1
  go_enter Try.func39, Try.ntmps39
  go_wp2
  go_ret
  exact ⟨rfl, rfl⟩

theorem addSec_any (b : Nat) (n s d : Int) (w : World) (h0 : 0 ≤ n) (h1 : n < 1000000000) (hc : w.cell? ⟨b, 0, none⟩ = some (.int .u64 n)) (hs : w.cell? ⟨b, 1, none⟩ = some (.int .i64 s))
    (hf : w.frozen? ⟨b, 1, none⟩ = false) (s0 : -1000000000000 ≤ s) (s1 : s ≤ 1000000000000) (d0 : -1000000000000 ≤ d) (d1 : d ≤ 1000000000000) :
    Calls Try.prog 37 #[.pointer (some ⟨b, 0, none⟩), .int .i64 d] w fun e w' => e = .returned (.tuple #[]) ∧ w' = w.setCell ⟨b, 1, none⟩ (.int .i64 (s + d)) := by
  have hb := and_high n h0 h1
  have e1 : (decide (s < s + d) == decide (0 < d)) = true := by
    have : s < s + d ↔ 0 < d := by omega
    simp [this]
  go_enter Try.func37, Try.ntmps37
  go_wp2
  go_end0
  exact ⟨rfl, rfl⟩

theorem tq (d : Int) : (0 ≤ d ∧ d.tdiv 1000000000 = d / 1000000000 ∧ d.tmod 1000000000 = d % 1000000000) ∨ (d < 0 ∧ d.tdiv 1000000000 = -((-d) / 1000000000) ∧ d.tmod 1000000000 = -((-d) % 1000000000)) := by
  by_cases h : 0 ≤ d
  · exact .inl ⟨h, Int.tdiv_eq_ediv_of_nonneg h, Int.tmod_eq_emod_of_nonneg h⟩
  · refine .inr ⟨by omega, ?_, ?_⟩
    · rw [← Int.tdiv_eq_ediv_of_nonneg (by omega), Int.neg_tdiv, Int.neg_neg]
    · rw [← Int.tmod_eq_emod_of_nonneg (by omega), Int.neg_tmod, Int.neg_neg]

/-- A Time without a monotonic reading: s seconds, n nanoseconds. -/
theorem add_any (s n d : Int) (w : World) (h0 : 0 ≤ n) (h1 : n < 1000000000) (s0 : -100000000000 ≤ s) (s1 : s ≤ 100000000000) (d0 : -9223372036854775808 ≤ d) (d1 : d ≤ 9223372036854775807) :
    Calls Try.prog 30 #[.agg #[.int .u64 n, .int .i64 s, .pointer none], .int .i64 d] w fun e w' => e = .returned (.agg #[.int .u64 ((n + d) % 1000000000), .int .i64 (s + (n + d) / 1000000000), .pointer none]) ∧ Below w.heap.size w w' := by
  have hq := tq d
  have q1 : d.tdiv 1000000000 ≤ 10000000000 := by omega
  have q0 : -10000000000 ≤ d.tdiv 1000000000 := by omega
  have r1 : d.tmod 1000000000 < 1000000000 := by omega
  have r0 : -1000000000 < d.tmod 1000000000 := by omega
  have b1 := andNot_mask n h0 h1
  by_cases c1 : 1000000000 ≤ n + d.tmod 1000000000
  · skip
    have E1 : Hid ((n + d) % 1000000000 = n + d.tmod 1000000000 - 1000000000) := by show _ = _; omega
    have E2 : Hid ((n + d) / 1000000000 = d.tdiv 1000000000 + 1) := by show _ = _; omega
    have HQ : Hid _ := hq; clear hq
    have b2 := or_zero (n + d.tmod 1000000000 - 1000000000) (by omega) (by omega)
    have b3 := and_high (n + d.tmod 1000000000 - 1000000000) (by omega) (by omega)
    go_enter Try.func30, Try.ntmps30
    go_wp2_with (first | (go_at_call 34; refine (nsec_any _ n _ h0 h1 (by simp [go_sem])).mono ?_; rintro e w' ⟨rfl, rfl⟩) | (go_at_call 37; refine (addSec_any _ (n + d.tmod 1000000000 - 1000000000) s _ _ (by omega) (by omega) (by simp [go_sem]) (by simp [go_sem]) (by simp [go_sem]) (by omega) (by omega) (by omega) (by omega)).mono ?_; rintro e w' ⟨rfl, rfl⟩))
    refine bodyPost_ret (v := .agg #[.int .u64 (n + d.tmod 1000000000 - 1000000000), .int .i64 (s + (d.tdiv 1000000000 + 1)), .pointer none]) (by simp [results, Try.results30, go_sem]) rfl ⟨by rw [E1.out, E2.out], ((Below.refl _ _).alloc (Nat.le_refl _) _).alloc (by simp) _⟩
  by_cases c2 : n + d.tmod 1000000000 < 0
  · skip
    have E1 : Hid ((n + d) % 1000000000 = n + d.tmod 1000000000 + 1000000000) := by show _ = _; omega
    have E2 : Hid ((n + d) / 1000000000 = d.tdiv 1000000000 - 1) := by show _ = _; omega
    have HQ : Hid _ := hq; clear hq
    have b2 := or_zero (n + d.tmod 1000000000 + 1000000000) (by omega) (by omega)
    have b3 := and_high (n + d.tmod 1000000000 + 1000000000) (by omega) (by omega)
    go_enter Try.func30, Try.ntmps30
    go_wp2_with (first | (go_at_call 34; refine (nsec_any _ n _ h0 h1 (by simp [go_sem])).mono ?_; rintro e w' ⟨rfl, rfl⟩) | (go_at_call 37; refine (addSec_any _ (n + d.tmod 1000000000 + 1000000000) s _ _ (by omega) (by omega) (by simp [go_sem]) (by simp [go_sem]) (by simp [go_sem]) (by omega) (by omega) (by omega) (by omega)).mono ?_; rintro e w' ⟨rfl, rfl⟩))
    refine bodyPost_ret (v := .agg #[.int .u64 (n + d.tmod 1000000000 + 1000000000), .int .i64 (s + (d.tdiv 1000000000 - 1)), .pointer none]) (by simp [results, Try.results30, go_sem]) rfl ⟨by rw [E1.out, E2.out], ((Below.refl _ _).alloc (Nat.le_refl _) _).alloc (by simp) _⟩
  · skip
    have E1 : Hid ((n + d) % 1000000000 = n + d.tmod 1000000000) := by show _ = _; omega
    have E2 : Hid ((n + d) / 1000000000 = d.tdiv 1000000000) := by show _ = _; omega
    have HQ : Hid _ := hq; clear hq
    have b2 := or_zero (n + d.tmod 1000000000) (by omega) (by omega)
    have b3 := and_high (n + d.tmod 1000000000) (by omega) (by omega)
    go_enter Try.func30, Try.ntmps30
    go_wp2_with (first | (go_at_call 34; refine (nsec_any _ n _ h0 h1 (by simp [go_sem])).mono ?_; rintro e w' ⟨rfl, rfl⟩) | (go_at_call 37; refine (addSec_any _ (n + d.tmod 1000000000) s _ _ (by omega) (by omega) (by simp [go_sem]) (by simp [go_sem]) (by simp [go_sem]) (by omega) (by omega) (by omega) (by omega)).mono ?_; rintro e w' ⟨rfl, rfl⟩))
    refine bodyPost_ret (v := .agg #[.int .u64 (n + d.tmod 1000000000), .int .i64 (s + (d.tdiv 1000000000)), .pointer none]) (by simp [results, Try.results30, go_sem]) rfl ⟨by rw [E1.out, E2.out], ((Below.refl _ _).alloc (Nat.le_refl _) _).alloc (by simp) _⟩


theorem before_any (s n t m : Int) (w : World) (h0 : 0 ≤ n) (h1 : n < 1000000000) (k0 : 0 ≤ m) (k1 : m < 1000000000) :
    Calls Try.prog 31 #[.agg #[.int .u64 n, .int .i64 s, .pointer none], .agg #[.int .u64 m, .int .i64 t, .pointer none]] w fun e w' => e = .returned (.bool (decide (s * 1000000000 + n < t * 1000000000 + m))) ∧ Below w.heap.size w w' := by
  have hb := and_two n m h0 h1 k0 k1
  have b1 := and_high (bits .and .u64 n m) hb.1 hb.2
  have b2 := and_high n h0 h1
  have b3 := and_high m k0 k1
  have b4 := and_mask n h0 h1
  have b5 := and_mask m k0 k1
  by_cases c1 : s < t
  · have E : Hid (decide (s * 1000000000 + n < t * 1000000000 + m) = true) := by show _ = _; simp; omega
    go_enter Try.func31, Try.ntmps31
    go_wp2
    go_ret
    exact ⟨by rw [E.out]; rfl, ((Below.refl _ _).alloc (Nat.le_refl _) _).alloc (by simp) _⟩
  by_cases c2 : s = t
  · subst c2
    go_enter Try.func31, Try.ntmps31
    go_wp2
    go_ret
    exact ⟨rfl, ((Below.refl _ _).alloc (Nat.le_refl _) _).alloc (by simp) _⟩
  · have E : Hid (decide (s * 1000000000 + n < t * 1000000000 + m) = false) := by show _ = _; simp; omega
    have c3 : (s == t) = false := by simpa using c2
    go_enter Try.func31, Try.ntmps31
    go_wp2
    go_ret
    exact ⟨by rw [E.out]; rfl, ((Below.refl _ _).alloc (Nat.le_refl _) _).alloc (by simp) _⟩

/-- A Time of T nanoseconds after the zero Time. -/
def tmv (T : Int) : Value := .agg #[.int .u64 (T % 1000000000), .int .i64 (T / 1000000000), .pointer none]

theorem add_tm (T d : Int) (w : World) (s0 : -100000000000000000000 ≤ T) (s1 : T ≤ 100000000000000000000) (d0 : -9223372036854775808 ≤ d) (d1 : d ≤ 9223372036854775807) :
    Calls Try.prog 30 #[tmv T, .int .i64 d] w fun e w' => e = .returned (tmv (T + d)) ∧ Below w.heap.size w w' := by
  refine (add_any (T / 1000000000) (T % 1000000000) d w (by omega) (by omega) (by omega) (by omega) d0 d1).mono ?_
  rintro e w' ⟨rfl, hb⟩
  refine ⟨?_, hb⟩
  have e1 : (T % 1000000000 + d) % 1000000000 = (T + d) % 1000000000 := by omega
  have e2 : T / 1000000000 + (T % 1000000000 + d) / 1000000000 = (T + d) / 1000000000 := by omega
  rw [e1, e2]; rfl

theorem before_tm (T U : Int) (w : World) :
    Calls Try.prog 31 #[tmv T, tmv U] w fun e w' => e = .returned (.bool (decide (T < U))) ∧ Below w.heap.size w w' := by
  refine (before_any (T / 1000000000) (T % 1000000000) (U / 1000000000) (U % 1000000000) w (by omega) (by omega) (by omega) (by omega)).mono ?_
  rintro e w' ⟨rfl, hb⟩
  refine ⟨?_, hb⟩
  have : T / 1000000000 * 1000000000 + T % 1000000000 < U / 1000000000 * 1000000000 + U % 1000000000 ↔ T < U := by omega
  simp [this]

theorem bcell {W w1 : World} (hb : Below W.heap.size W w1) : (∀ b o, b < W.heap.size → w1.cell? ⟨b, o, none⟩ = W.cell? ⟨b, o, none⟩) ∧ (∀ b o, b < W.heap.size → w1.frozen? ⟨b, o, none⟩ = W.frozen? ⟨b, o, none⟩) :=
  ⟨fun b o h => hb.cell (p := ⟨b, o, none⟩) h, fun b o h => hb.frozen (p := ⟨b, o, none⟩) h⟩

theorem at_tm (d : Int) (w : World) (d0 : -9223372036854775808 ≤ d) (d1 : d ≤ 9223372036854775807) :
    Calls Try.prog 22 #[.int .i64 d] w fun e w' => e = .returned (tmv d) ∧ Below w.heap.size w w' := by
  go_enter Try.func22, Try.ntmps22
  go_wp2_with (go_at_call 30; refine (add_any 0 0 d _ (by omega) (by omega) (by omega) (by omega) d0 d1).mono ?_; rintro e w' ⟨rfl, hb⟩; obtain ⟨hc, hf⟩ := bcell hb)
  refine bodyPost_ret (v := tmv d) (by simp [results, Try.results22, go_sem, tmv, hc]) rfl ⟨rfl, ?_⟩
  exact (((((Below.refl _ _).alloc (Nat.le_refl _) _).trans (hb.mono (by simp))).setCell (Nat.le_refl _) _).setCell (Nat.le_refl _) _).setCell (Nat.le_refl _) _
end Go.Proofs.Qxb6612680a
