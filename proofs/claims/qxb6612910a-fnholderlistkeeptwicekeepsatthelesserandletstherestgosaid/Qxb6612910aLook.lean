import Derived.Test.Qxb6612910aBase
import Derived.Lib.Builder
namespace Go.Proofs.Qxb6612910a
open Go.RowKit

theorem neq_same (q : Nat) (W : World) : (binOp .neq 76 (.pointer (some ⟨q, 0, none⟩)) (.pointer (some ⟨q, 0, none⟩))).run Try.prog W = .ok (.bool false) W := by
  have h : (Try.prog.info? 89).isSome = true := by kernel_rfl
  obtain ⟨j, hj⟩ := Option.isSome_iff_exists.1 h
  exact Lib.run_neq_ptr_same (P := Try.prog) W ⟨q, 0, none⟩ Try.underlying76 hj

set_option maxRecDepth 100000 in
theorem same_any (g g' n c c' : Nat) (xs ys : List (Option Nat)) (ps : List Nat) (w : World) (hn : n ≤ 65536) (hx : Row w g xs) (hy : Row w g' ys) (hl : ps.length = n) (ex : xs.take n = ps.map some) (ey : ys.take n = ps.map some) :
    Calls Try.prog 21 #[.slice (some ⟨g, 0, none⟩) n c, .slice (some ⟨g', 0, none⟩) n c'] w fun e w' => e = .returned (.bool true) ∧ ∃ m, w' = w.drewN m := by
  have HX : Hid (Row w g xs) := hx
  have HY : Hid (Row w g' ys) := hy
  have EX : Hid (xs.take n = ps.map some) := ex
  have EY : Hid (ys.take n = ps.map some) := ey
  clear hx hy ex ey
  go_enter Try.func21, Try.ntmps21
  go_wp2
  go_loopw [5] (fun i W => ∃ (k m : Nat), k ≤ n ∧ i = .int .i64 k ∧ W = w.drewN m) (fun i _ => n - (intOf i).toNat)
  case atStart => exact ⟨0, 0, Nat.zero_le _, rfl, rfl⟩
  case round =>
    obtain ⟨k, m, hk, rfl, rfl⟩ := hrel
    by_cases hlt : k < n
    · have hx1 : xs[k]? = some (some ps[k]) := by
        have := congrArg (fun l => l[k]?) EX.out
        simpa [List.getElem?_take, hlt, List.getElem?_eq_getElem (show k < ps.length by omega)] using this
      have hy1 : ys[k]? = some (some ps[k]) := by
        have := congrArg (fun l => l[k]?) EY.out
        simpa [List.getElem?_take, hlt, List.getElem?_eq_getElem (show k < ps.length by omega)] using this
      obtain ⟨cx, _⟩ := HX.out.cell hx1
      obtain ⟨cy, _⟩ := HY.out.cell hy1
      have cx' : w.cell? ⟨g, k, none⟩ = some (.pointer (some ⟨ps[k], 0, none⟩)) := cx
      have cy' : w.cell? ⟨g', k, none⟩ = some (.pointer (some ⟨ps[k], 0, none⟩)) := cy
      generalize ps[k] = q at cx' cy'
      clear cx cy hx1 hy1
      have hq := neq_same q
      go_wp2
      go_quiet (fail)
      go_wp2
      exact ⟨⟨k + 1, _, by omega, by go_num, rfl⟩, by simp [intOf]; omega⟩
    · go_wp2
      go_ret
      exact ⟨rfl, m, rfl⟩

set_option maxRecDepth 100000 in
theorem rest_any (g n c k0 : Nat) (xs : List (Option Nat)) (w : World) (hn : n ≤ 65536) (hk : k0 ≤ n) (hx : Row w g xs) (hl : xs.length = n) (hz : ∀ i, k0 ≤ i → i < n → xs[i]? = some none) :
    Calls Try.prog 24 #[.slice (some ⟨g, 0, none⟩) n c, .int .i64 k0] w fun e w' => e = .returned (.bool true) ∧ w' = w := by
  have HX : Hid (Row w g xs) := hx
  have HZ : Hid (∀ i, k0 ≤ i → i < n → xs[i]? = some none) := hz
  clear hx hz
  go_enter Try.func24, Try.ntmps24
  go_wp2
  go_loop [5] (fun i => ∃ k : Nat, k0 ≤ k ∧ k ≤ n ∧ i = .int .i64 k) (fun i => n - (intOf i).toNat)
  case atStart => exact ⟨k0, Nat.le_refl _, hk, rfl⟩
  case round =>
    obtain ⟨k, hk0, hkn, rfl⟩ := hrel
    by_cases hlt : k < n
    · obtain ⟨cx, _⟩ := HX.out.cell (HZ.out k hk0 hlt)
      have cx' : w.cell? ⟨g, k, none⟩ = some (.pointer none) := cx
      clear cx
      go_wp2
      exact ⟨⟨k + 1, by omega, by omega, by go_num⟩, by simp [intOf]; omega⟩
    · go_wp2
      go_ret
      exact ⟨rfl, rfl⟩

theorem hold_cells {W : World} {h : Nat} {s r : Value} (hh : W.heap[h]? = some (.cells (holdCells s r) 86)) : W.cell? ⟨h, 2, none⟩ = some s ∧ W.cell? ⟨h, 3, none⟩ = some r ∧ W.frozen? ⟨h, 2, none⟩ = false ∧ W.frozen? ⟨h, 3, none⟩ = false := by
  simp [World.cell?, World.frozen?, hh, holdCells]
theorem sorted_any (h : Nat) (g n c : Nat) (r : Value) (w : World) (hh : w.heap[h]? = some (.cells (holdCells (.slice (some ⟨g, 0, none⟩) n c) r) 86)) : Calls Try.prog 22 #[.pointer (some ⟨h, 0, none⟩)] w fun e w' => e = .returned (.slice (some ⟨g, 0, none⟩) n c) ∧ w' = w := by
  obtain ⟨c1, _⟩ := hold_cells hh
  go_enter Try.func22, Try.ntmps22
  go_wp2
  go_ret
  simp
theorem recent_any (h : Nat) (g n c : Nat) (s : Value) (w : World) (hh : w.heap[h]? = some (.cells (holdCells s (.slice (some ⟨g, 0, none⟩) n c)) 86)) : Calls Try.prog 23 #[.pointer (some ⟨h, 0, none⟩)] w fun e w' => e = .returned (.slice (some ⟨g, 0, none⟩) n c) ∧ w' = w := by
  obtain ⟨_, c1, _⟩ := hold_cells hh
  go_enter Try.func23, Try.ntmps23
  go_wp2
  go_ret
  simp
end Go.Proofs.Qxb6612910a
