import Derived.Test.Qxb6612680aPut
import Derived.Deep.Cut
namespace Go.Proofs.Qxb6612680a
open Go.RowKit

theorem add_ag (T d : Int) (w : World) (s0 : -100000000000000000000 ≤ T) (s1 : T ≤ 100000000000000000000) (d0 : -9223372036854775808 ≤ d) (d1 : d ≤ 9223372036854775807) :
    Calls Try.prog 30 #[.agg #[.int .u64 (T % 1000000000), .int .i64 (T / 1000000000), .pointer none], .int .i64 d] w fun e w' => e = .returned (.agg #[.int .u64 ((T + d) % 1000000000), .int .i64 ((T + d) / 1000000000), .pointer none]) ∧ Below w.heap.size w w' := add_tm T d w s0 s1 d0 d1

theorem entryAt {w : World} {eb : Nat} {u : ByteArray} {cr us : Int} {ch : Nat} (h : w.heap[eb]? = some (.cells (entryCells u cr us ch) 66)) :
    w.cell? ⟨eb, 6, none⟩ = some (.int .u64 (cr % 1000000000)) ∧ w.cell? ⟨eb, 7, none⟩ = some (.int .i64 (cr / 1000000000)) ∧ w.cell? ⟨eb, 8, none⟩ = some (.pointer none) ∧
    w.cell? ⟨eb, 9, none⟩ = some (.int .u64 (us % 1000000000)) ∧ w.cell? ⟨eb, 10, none⟩ = some (.int .i64 (us / 1000000000)) ∧ w.cell? ⟨eb, 11, none⟩ = some (.pointer none) := by
  simp [World.cell?, h, entryCells]
theorem storeAt {w : World} {sb bm : Nat} {idle age : Int} (hs : w.heap[sb]? = some (.cells (storeCells idle age bm) 78)) : w.cell? ⟨sb, 0, none⟩ = some (.int .i64 idle) ∧ w.cell? ⟨sb, 1, none⟩ = some (.int .i64 age) := by
  simp [World.cell?, hs, storeCells]

/-- What the statement in 'endOf' reads. -/
def EndS (sb eb : Nat) (idle age cr us : Int) (w : World) : Prop :=
  w.cell? ⟨eb, 6, none⟩ = some (.int .u64 (cr % 1000000000)) ∧ w.cell? ⟨eb, 7, none⟩ = some (.int .i64 (cr / 1000000000)) ∧ w.cell? ⟨eb, 8, none⟩ = some (.pointer none) ∧
    w.cell? ⟨eb, 9, none⟩ = some (.int .u64 (us % 1000000000)) ∧ w.cell? ⟨eb, 10, none⟩ = some (.int .i64 (us / 1000000000)) ∧ w.cell? ⟨eb, 11, none⟩ = some (.pointer none) ∧
    w.cell? ⟨sb, 0, none⟩ = some (.int .i64 idle) ∧ w.cell? ⟨sb, 1, none⟩ = some (.int .i64 age)
theorem EndS.kept {sb eb : Nat} {idle age cr us : Int} {w w' : World} (h : EndS sb eb idle age cr us w) (k : Below w.heap.size w w') : EndS sb eb idle age cr us w' := by
  obtain ⟨h1, h2, h3, h4, h5, h6, h7, h8⟩ := h
  have l1 : eb < w.heap.size := World.block_lt_of_cell? w _ h1
  have l2 : sb < w.heap.size := World.block_lt_of_cell? w _ h7
  refine ⟨?_, ?_, ?_, ?_, ?_, ?_, ?_, ?_⟩
  · rw [k.cell (p := ⟨eb, 6, none⟩) l1]; exact h1
  · rw [k.cell (p := ⟨eb, 7, none⟩) l1]; exact h2
  · rw [k.cell (p := ⟨eb, 8, none⟩) l1]; exact h3
  · rw [k.cell (p := ⟨eb, 9, none⟩) l1]; exact h4
  · rw [k.cell (p := ⟨eb, 10, none⟩) l1]; exact h5
  · rw [k.cell (p := ⟨eb, 11, none⟩) l1]; exact h6
  · rw [k.cell (p := ⟨sb, 0, none⟩) l2]; exact h7
  · rw [k.cell (p := ⟨sb, 1, none⟩) l2]; exact h8
theorem EndS.start {w : World} {sb bm eb ch : Nat} {u : ByteArray} {idle age cr us : Int} (hs : w.heap[sb]? = some (.cells (storeCells idle age bm) 78)) (he : w.heap[eb]? = some (.cells (entryCells u cr us ch) 66)) : EndS sb eb idle age cr us w := by
  obtain ⟨h1, h2, h3, h4, h5, h6⟩ := entryAt he
  obtain ⟨h7, h8⟩ := storeAt hs
  exact ⟨h1, h2, h3, h4, h5, h6, h7, h8⟩

theorem before_ag (T U : Int) (w : World) :
    Calls Try.prog 31 #[.agg #[.int .u64 (T % 1000000000), .int .i64 (T / 1000000000), .pointer none], .agg #[.int .u64 (U % 1000000000), .int .i64 (U / 1000000000), .pointer none]] w fun e w' => e = .returned (.bool (decide (T < U))) ∧ Below w.heap.size w w' := before_tm T U w
theorem EndS.set {sb eb : Nat} {idle age cr us : Int} {w : World} (h : EndS sb eb idle age cr us w) {b o : Nat} (k1 : eb ≠ b) (k2 : sb ≠ b) (v : Value) : EndS sb eb idle age cr us (w.setCell ⟨b, o, none⟩ v) := by
  obtain ⟨h1, h2, h3, h4, h5, h6, h7, h8⟩ := h
  refine ⟨?_, ?_, ?_, ?_, ?_, ?_, ?_, ?_⟩ <;> (rw [World.cell?_setCell_far _ _ _ _ (by first | exact fun e => k1 e.symm | exact fun e => k2 e.symm)]; assumption)

set_option maxRecDepth 100000 in
set_option maxHeartbeats 4000000 in
set_option linter.unusedSimpArgs false in
theorem endOf_any (sb eb bm ch : Nat) (idle age cr us : Int) (u : ByteArray) (w : World) (hs : w.heap[sb]? = some (.cells (storeCells idle age bm) 78)) (he : w.heap[eb]? = some (.cells (entryCells u cr us ch) 66))
    (i0 : -9223372036854775808 ≤ idle) (i1 : idle ≤ 9223372036854775807) (a0 : -9223372036854775808 ≤ age) (a1 : age ≤ 9223372036854775807)
    (c0 : -9223372036854775808 ≤ cr) (c1 : cr ≤ 9223372036854775807) (u0 : -9223372036854775808 ≤ us) (u1 : us ≤ 9223372036854775807) :
    Calls Try.prog 21 #[.pointer (some ⟨sb, 0, none⟩), .pointer (some ⟨eb, 0, none⟩)] w fun e w' => e = .returned (tmv (if us + idle < cr + age then us + idle else cr + age)) ∧ Below w.heap.size w w' := by
  have hst := (EndS.start hs he).kept ((Below.refl _ w).alloc (Nat.le_refl _) (.cells #[.int .u64 0, .int .i64 0, .pointer none] 50))
  have hlt1 : sb < w.heap.size := (Array.getElem?_eq_some_iff.1 hs).1
  have hlt2 : eb < w.heap.size := (Array.getElem?_eq_some_iff.1 he).1
  go_enter Try.func21, Try.ntmps21
  go_wp2
  go_cut [5, 6] from 7 (fun t5 t6 wc => ∃ b5 b6, t5 = .pointer (some ⟨b5, 0, none⟩) ∧ t6 = .pointer (some ⟨b6, 0, none⟩) ∧
    (wc.cell? ⟨b5, 0, none⟩ = some (.int .u64 ((us + idle) % 1000000000)) ∧ wc.cell? ⟨b5, 1, none⟩ = some (.int .i64 ((us + idle) / 1000000000)) ∧ wc.cell? ⟨b5, 2, none⟩ = some (.pointer none)) ∧
    (wc.cell? ⟨b6, 0, none⟩ = some (.int .u64 ((cr + age) % 1000000000)) ∧ wc.cell? ⟨b6, 1, none⟩ = some (.int .i64 ((cr + age) / 1000000000)) ∧ wc.cell? ⟨b6, 2, none⟩ = some (.pointer none)) ∧
    Below (w.alloc (.cells #[.int .u64 0, .int .i64 0, .pointer none] 50)).heap.size (w.alloc (.cells #[.int .u64 0, .int .i64 0, .pointer none] 50)) wc)
  case first =>
    go_region_held3 (fun w' => w'.cell? ⟨eb, 6, none⟩ = some (.int .u64 (cr % 1000000000)) ∧ w'.cell? ⟨eb, 7, none⟩ = some (.int .i64 (cr / 1000000000)) ∧ w'.cell? ⟨eb, 8, none⟩ = some (.pointer none) ∧
      w'.cell? ⟨eb, 9, none⟩ = some (.int .u64 (us % 1000000000)) ∧ w'.cell? ⟨eb, 10, none⟩ = some (.int .i64 (us / 1000000000)) ∧ w'.cell? ⟨eb, 11, none⟩ = some (.pointer none) ∧
      w'.cell? ⟨sb, 0, none⟩ = some (.int .i64 idle) ∧ w'.cell? ⟨sb, 1, none⟩ = some (.int .i64 age)) (exact EndS.kept hst (by repeat (first | (with_reducible exact Below.refl _ _) | (with_reducible refine Below.setCell ?_ ?_ _; rotate_left; (try simp only [World.size_alloc, World.size_drew]); omega) | (with_reducible refine Below.alloc ?_ ?_ _; rotate_left; (try simp only [World.size_alloc, World.size_drew, World.size_setCell]); omega) | (with_reducible refine Below.drew ?_) | (with_reducible refine Below.trans ?_ (Below.mono (by assumption) ?_); rotate_left; (try simp only [World.size_alloc, World.size_drew, World.size_setCell]); omega)))) ((go_at_call 30; refine (add_ag _ _ _ (by omega) (by omega) (by omega) (by omega)).mono ?_; rintro e w1 ⟨rfl, hb1⟩; obtain ⟨hc1, hf1⟩ := bcell hb1; have hz1 := hb1.size; (try simp only [World.size_alloc, World.size_drew] at hz1); (try have hz2 := Nat.lt_of_succ_le hz1); (try have hz3 := Nat.lt_of_succ_lt hz2); (try have q1 : w.heap.size + 1 < w1.heap.size := by omega); (try have q2 : w.heap.size + 1 + 1 < w1.heap.size := by omega)))
    all_goals (go_wp2_with fail; go_meet; refine ⟨_, _, rfl, rfl, ?_, ?_, (by repeat (first | (with_reducible exact Below.refl _ _) | (with_reducible refine Below.setCell ?_ ?_ _; rotate_left; (try simp only [World.size_alloc, World.size_drew]); omega) | (with_reducible refine Below.alloc ?_ ?_ _; rotate_left; (try simp only [World.size_alloc, World.size_drew, World.size_setCell]); omega) | (with_reducible refine Below.drew ?_) | (with_reducible refine Below.trans ?_ (Below.mono (by assumption) ?_); rotate_left; (try simp only [World.size_alloc, World.size_drew, World.size_setCell]); omega)))⟩)
    all_goals (simp (maxDischargeDepth := 8) [go_sem, hc1, *])
  case rest =>
    obtain ⟨b5, b6, rfl, rfl, ⟨p1, p2, p3⟩, ⟨q1, q2, q3⟩, hb⟩ := hcut
    obtain ⟨hc, hf⟩ := bcell hb
    have l5 : b5 < wc.heap.size := World.block_lt_of_cell? wc _ p1
    have l6 : b6 < wc.heap.size := World.block_lt_of_cell? wc _ q1
    have l4 : w.heap.size < wc.heap.size := by have := hb.size; simp only [World.size_alloc] at this; omega
    by_cases hlt : us + idle < cr + age
    · have hd : decide (us + idle < cr + age) = true := by simpa using hlt
      go_wp2_with (go_at_call 31; refine (before_ag _ _ _).mono ?_; rintro e w2 ⟨rfl, hb2⟩; obtain ⟨hc2, hf2⟩ := bcell hb2)
      refine bodyPost_ret (v := tmv (us + idle)) (by simp [results, Try.results21, go_sem, tmv, hc, hc2, *]) rfl ⟨rfl, ?_⟩
      exact (((((Below.refl _ w).alloc (Nat.le_refl _) _).trans (hb.mono (by simp))).trans (hb2.mono (by omega))).setCell (Nat.le_refl _) _).setCell (Nat.le_refl _) _ |>.setCell (Nat.le_refl _) _
    · have hd : decide (us + idle < cr + age) = false := by simpa using hlt
      go_wp2_with (go_at_call 31; refine (before_ag _ _ _).mono ?_; rintro e w2 ⟨rfl, hb2⟩; obtain ⟨hc2, hf2⟩ := bcell hb2)
      refine bodyPost_ret (v := tmv (cr + age)) (by simp [results, Try.results21, go_sem, tmv, hc, hc2, *]) rfl ⟨rfl, ?_⟩
      exact (((((Below.refl _ w).alloc (Nat.le_refl _) _).trans (hb.mono (by simp))).trans (hb2.mono (by omega))).setCell (Nat.le_refl _) _).setCell (Nat.le_refl _) _ |>.setCell (Nat.le_refl _) _
end Go.Proofs.Qxb6612680a
