import Derived.Test.Qxb6612725aPrice
import Derived.Below
import Derived.WalkSmall
import Derived.Laws.BitsAllLaws
namespace Go.Proofs.Qxb6612725a
open Go.RowKit

theorem shift_ok (n s : Nat) (h0 : n ≠ 0) (h : (n : Int) * 2 ^ s % 4294967296 / 2 ^ s = n) :
    ∃ m : Nat, (n : Int) * 2 ^ s % 4294967296 = m ∧ (m : Int) / 2 ^ s = n ∧ m ≠ 0 ∧ m ≤ 4294967295 ∧ m.log2 = n.log2 + s ∧ n.log2 + s ≤ 31 := by
  have e : (n : Int) * 2 ^ s % 4294967296 = ((n * 2 ^ s % 4294967296 : Nat) : Int) := by rw [Int.natCast_emod, Int.natCast_mul, Int.natCast_pow]; rfl
  have hp : 0 < 2 ^ s := Nat.two_pow_pos s
  have h' : n * 2 ^ s % 4294967296 / 2 ^ s = n := by
    rw [e] at h
    exact_mod_cast h
  have hle : n * 2 ^ s ≤ n * 2 ^ s % 4294967296 := by
    have := (Nat.le_div_iff_mul_le hp).1 (Nat.le_of_eq h'.symm)
    exact this
  have hm : n * 2 ^ s % 4294967296 = n * 2 ^ s := Nat.le_antisymm (Nat.mod_le _ _) hle
  have hlt : n * 2 ^ s < 4294967296 := by rw [← hm]; exact Nat.mod_lt _ (by decide)
  have hne : n * 2 ^ s ≠ 0 := Nat.ne_of_gt (Nat.mul_pos (Nat.pos_of_ne_zero h0) hp)
  have hlog : (n * 2 ^ s).log2 = n.log2 + s := by
    refine (Nat.log2_eq_iff hne).2 ⟨?_, ?_⟩
    · rw [Nat.pow_add]; exact Nat.mul_le_mul_right _ (Nat.log2_self_le h0)
    · rw [show n.log2 + s + 1 = (n.log2 + 1) + s by omega, Nat.pow_add]
      exact Nat.mul_lt_mul_of_pos_right Nat.lt_log2_self hp
  refine ⟨n * 2 ^ s, by rw [e, hm], ?_, hne, by omega, hlog, ?_⟩
  · rw [hm] at h'
    exact_mod_cast h'
  · have := log_le (n * 2 ^ s) hne (by omega)
    omega

theorem octave (u n : Nat) (hu : u ≠ 0) (hn : n ≠ 0) (h1 : u ^^^ n < u) (h2 : u ^^^ n < n) : u.log2 = n.log2 := by
  have key : ∀ a b : Nat, a ≠ 0 → b ≠ 0 → a.log2 < b.log2 → a ^^^ b < a → False := fun a b ha hb hlt h => by
    have hb1 : b.testBit b.log2 = true := Nat.testBit_log2 hb
    have ha1 : a.testBit b.log2 = false := Nat.testBit_lt_two_pow ((Nat.log2_lt ha).1 hlt)
    have hx : (a ^^^ b).testBit b.log2 = true := by rw [Nat.testBit_xor, ha1, hb1]; rfl
    have hge := Nat.ge_two_pow_of_testBit hx
    have := (Nat.log2_lt ha).1 hlt
    omega
  rcases Nat.lt_trichotomy u.log2 n.log2 with h | h | h
  · exact (key u n hu hn h h1).elim
  · exact h
  · exact (key n u hn hu h (by rw [Nat.xor_comm]; exact h2)).elim

theorem price_eq (a b r s : Int) : (wrap32 (wrap32 (b + (r + s) * 256) - wrap32 (a + r * 256)) == wrap32 (wrap32 (b - a) + s * 256)) = true := by
  simp only [wrap32, beq_iff_eq]
  omega

theorem cell_pc (w : World) (cs : List Value) (T : Nat → Int) (hcs : cs.length = 32) (hT : ∀ i, i < 32 → cs[i]? = some (.int .i32 (T i))) (t : TypeId) (i : Nat) (hi : i < 32) : (w.alloc (.cells (pc cs.toArray) t)).cell? ⟨w.heap.size, 345 + i, none⟩ = some (.int .i32 (T i)) := by
  rw [cell_of_row _ _ (345 + i) (pc cs.toArray) t (0, 0) (heap_alloc_last w _), pc_get cs hcs i hi]
  exact hT i hi

theorem cell_of (w : World) (cs : List Value) (T : Nat → Int) (hT : ∀ i, i < 32 → cs[i]? = some (.int .i32 (T i))) (i : Nat) (hi : i < 32) : (((w.alloc (.cells cs.toArray 27)).alloc (.cells cs.toArray 27)).alloc (.cells (pc cs.toArray) 37)).cell? ⟨w.heap.size, i, none⟩ = some (.int .i32 (T i)) := by
  rw [World.cell?_alloc_lt _ _ _ (by simp; omega), World.cell?_alloc_lt _ _ _ (by simp)]
  have := range_new w cs 27 i _ (hT i hi)
  simpa using this

set_option maxRecDepth 100000 in
set_option maxHeartbeats 2000000 in
theorem law_walk (cs : List Value) (T : Nat → Int) (n s u : Nat) (w : World) (hcs : cs.length = 32) (hT : ∀ i, i < 32 → cs[i]? = some (.int .i32 (T i))) (hB : ∀ i, i < 32 → -2147483648 ≤ T i ∧ T i ≤ 2147483647)
    (hn : n ≤ 4294967295) (hs : s ≤ 18446744073709551615) (hu : u ≤ 4294967295) :
    Calls Try.prog 5 #[.agg cs.toArray, .int .u32 n, .int .u64 s, .int .u32 u] w fun e w' => e = .returned (.bool true) ∧ Below w.heap.size w w' := by
  have HT : Hid _ := hT
  have HB : Hid _ := hB
  clear hT hB
  have hbel : Below w.heap.size w (w.alloc (.cells cs.toArray 27)) := (Below.refl _ w).alloc (Nat.le_refl _) _
  have hi : (Try.prog.info? 27).map (·.size) = some cs.length := by rw [hcs]; exact info27
  have hr := range_new w cs 27
  go_enter Try.func5, Try.ntmps5
  by_cases h0 : n = 0
  · subst h0
    go_wp2_with fail
    go_ret
    exact ⟨rfl, hbel⟩
  by_cases h1 : (31 : Int) < s
  · go_wp2_with fail
    go_ret
    exact ⟨rfl, hbel⟩
  by_cases h2 : (n : Int) * 2 ^ s % 4294967296 / 2 ^ s = n
  case neg =>
    go_wp2_with fail
    go_ret
    exact ⟨rfl, hbel⟩
  obtain ⟨m, hm, hms, hm0, hm1, hmlog, hl31⟩ := shift_ok n s h0 h2
  clear h2
  have HLOG : Hid _ := hmlog
  clear hmlog
  have hc2 := fun i hi => cell_pc ((w.alloc (.cells cs.toArray 27)).alloc (.cells cs.toArray 27)) cs T hcs HT.out 37 i hi
  simp only [World.size_alloc] at hc2
  have HC : Hid _ := hc2
  clear hc2
  have hb3 : Below w.heap.size w (((w.alloc (.cells cs.toArray 27)).alloc (.cells cs.toArray 27)).alloc (.cells (pc cs.toArray) 37)) := (hbel.alloc (by simp) _).alloc (by simp; omega) _
  by_cases hu0 : u = 0
  · subst hu0
    go_wp2_with (first | (go_at_call 7; refine (bucket_any n _ h0 hn).mono ?_; rintro e w' ⟨rfl, rfl⟩) | (refine wpList_load_mid rfl 27 _ rfl w.heap.size 0 rfl cs _ hr Try.underlying27 rfl hi ?_) | (go_at_call 8; refine (newPrices_any cs hcs _).mono ?_; rintro e w' ⟨rfl, rfl⟩) | (go_at_call 9; refine (zzOffset_any _ n T _ h0 hn HC.out HB.out).mono ?_; rintro e w' ⟨rfl, rfl⟩) | (go_at_call 9; refine (zzOffset_any _ m T _ hm0 hm1 HC.out HB.out).mono ?_; rintro e w' ⟨rfl, rfl⟩))
    rw [HLOG.out]
    have hcA : (((w.alloc (.cells cs.toArray 27)).alloc (.cells cs.toArray 27)).alloc (.cells (pc cs.toArray) 37)).cell? ⟨w.heap.size, n.log2, none⟩ = some (.int .i32 (T n.log2)) := cell_of w cs T HT.out n.log2 (by omega)
    have hcB : (((w.alloc (.cells cs.toArray 27)).alloc (.cells cs.toArray 27)).alloc (.cells (pc cs.toArray) 37)).cell? ⟨w.heap.size, n.log2 + s, none⟩ = some (.int .i32 (T (n.log2 + s))) := cell_of w cs T HT.out (n.log2 + s) (by omega)
    have hpr := price_eq (T n.log2) (T (n.log2 + s)) n.log2 s
    go_quiet (fail)
    go_wp2_with fail
    go_ret
    exact ⟨rfl, below_drewN hb3 _⟩
  have hx : bits .xor .u32 (u : Int) (n : Int) = ((u ^^^ n : Nat) : Int) := u32_xor_nat u n (by omega) (by omega)
  by_cases c1 : u ^^^ n < u
  · by_cases c2 : u ^^^ n < n
    · have hlog := octave u n hu0 h0 c1 c2
      have HU9 : Hid _ := fun (w : World) b hT => zzOffset_any b u T w hu0 hu hT HB.out
      rw [hlog] at HU9
      clear hlog
      go_wp2_with (first | (go_at_call 7; refine (bucket_any n _ h0 hn).mono ?_; rintro e w' ⟨rfl, rfl⟩) | (refine wpList_load_mid rfl 27 _ rfl w.heap.size 0 rfl cs _ hr Try.underlying27 rfl hi ?_) | (go_at_call 8; refine (newPrices_any cs hcs _).mono ?_; rintro e w' ⟨rfl, rfl⟩) | (go_at_call 9; refine (zzOffset_any _ n T _ h0 hn HC.out HB.out).mono ?_; rintro e w' ⟨rfl, rfl⟩) | (go_at_call 9; refine (zzOffset_any _ m T _ hm0 hm1 HC.out HB.out).mono ?_; rintro e w' ⟨rfl, rfl⟩) | (go_at_call 9; refine (HU9.out _ _ HC.out).mono ?_; rintro e w' ⟨rfl, rfl⟩))
      rw [HLOG.out]
      have hcA := cell_of w cs T HT.out n.log2 (by omega)
      have hcB := cell_of w cs T HT.out (n.log2 + s) (by omega)
      have hpr := price_eq (T n.log2) (T (n.log2 + s)) n.log2 s
      go_quiet (fail)
      go_wp2_with fail
      go_ret
      exact ⟨rfl, below_drewN hb3 _⟩
    · go_wp2_with (first | (go_at_call 7; refine (bucket_any n _ h0 hn).mono ?_; rintro e w' ⟨rfl, rfl⟩) | (refine wpList_load_mid rfl 27 _ rfl w.heap.size 0 rfl cs _ hr Try.underlying27 rfl hi ?_) | (go_at_call 8; refine (newPrices_any cs hcs _).mono ?_; rintro e w' ⟨rfl, rfl⟩) | (go_at_call 9; refine (zzOffset_any _ n T _ h0 hn HC.out HB.out).mono ?_; rintro e w' ⟨rfl, rfl⟩) | (go_at_call 9; refine (zzOffset_any _ m T _ hm0 hm1 HC.out HB.out).mono ?_; rintro e w' ⟨rfl, rfl⟩))
      rw [HLOG.out]
      have hcA := cell_of w cs T HT.out n.log2 (by omega)
      have hcB := cell_of w cs T HT.out (n.log2 + s) (by omega)
      have hpr := price_eq (T n.log2) (T (n.log2 + s)) n.log2 s
      go_quiet (fail)
      go_wp2_with fail
      go_ret
      exact ⟨rfl, below_drewN hb3 _⟩
  · go_wp2_with (first | (go_at_call 7; refine (bucket_any n _ h0 hn).mono ?_; rintro e w' ⟨rfl, rfl⟩) | (refine wpList_load_mid rfl 27 _ rfl w.heap.size 0 rfl cs _ hr Try.underlying27 rfl hi ?_) | (go_at_call 8; refine (newPrices_any cs hcs _).mono ?_; rintro e w' ⟨rfl, rfl⟩) | (go_at_call 9; refine (zzOffset_any _ n T _ h0 hn HC.out HB.out).mono ?_; rintro e w' ⟨rfl, rfl⟩) | (go_at_call 9; refine (zzOffset_any _ m T _ hm0 hm1 HC.out HB.out).mono ?_; rintro e w' ⟨rfl, rfl⟩))
    rw [HLOG.out]
    have hcA := cell_of w cs T HT.out n.log2 (by omega)
    have hcB := cell_of w cs T HT.out (n.log2 + s) (by omega)
    have hpr := price_eq (T n.log2) (T (n.log2 + s)) n.log2 s
    go_quiet (fail)
    go_wp2_with fail
    go_ret
    exact ⟨rfl, below_drewN hb3 _⟩
end Go.Proofs.Qxb6612725a
