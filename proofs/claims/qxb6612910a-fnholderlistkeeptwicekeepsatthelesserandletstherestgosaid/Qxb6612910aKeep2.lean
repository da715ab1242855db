import Derived.Test.Qxb6612910aKeep
namespace Go.Proofs.Qxb6612910a
open Go.RowKit

/-- One of the holder list's two rows. -/
structure Side (W : World) (g h cap : Nat) (ps : List Nat) (zs : List Int) (rest : List (Option Nat)) : Prop where
  row : Row W g (ps.map some ++ rest)
  len : ps.length + rest.length = cap
  zlen : zs.length = ps.length
  small : cap ≤ 65536
  rels : RelsAt W ps zs
  apart : ∀ p ∈ ps, p ≠ g ∧ p ≠ h
theorem Side.kept {W W' : World} {g h cap : Nat} {ps : List Nat} {zs : List Int} {rest : List (Option Nat)} (s : Side W g h cap ps zs rest) {X : Nat → Prop} (k : Kept X W W') (hg : ¬ X g) (hp : ∀ p ∈ ps, ¬ X p) : Side W' g h cap ps zs rest :=
  ⟨s.row.kept k hg, s.len, s.zlen, s.small, s.rels.kept k hp, s.apart⟩

theorem Side.drew {W : World} {g h cap : Nat} {ps : List Nat} {zs : List Int} {rest : List (Option Nat)} (s : Side W g h cap ps zs rest) (m : Nat) : Side (W.drewN m) g h cap ps zs rest :=
  ⟨⟨s.row.row⟩, s.len, s.zlen, s.small, s.rels, s.apart⟩
/-- The kept ones and their times. -/
def keptZ (u : Int) (ps : List Nat) (zs : List Int) : List Int := ((ps.zip zs).filter fun x => upTo u x.2).map (·.2)
theorem keptOf_mem {u : Int} {ps : List Nat} {zs : List Int} {p : Nat} (h : p ∈ keptOf u ps zs) : p ∈ ps := by
  unfold keptOf at h
  rw [List.mem_map] at h
  obtain ⟨x, hx, rfl⟩ := h
  exact (List.of_mem_zip ((List.mem_filter.1 hx).1)).1
theorem kept_rels {W : World} {u : Int} {ps : List Nat} {zs : List Int} (h : RelsAt W ps zs) : RelsAt W (keptOf u ps zs) (keptZ u ps zs) := fun j p z hp hz => by
  unfold keptOf at hp
  unfold keptZ at hz
  rw [List.getElem?_map, Option.map_eq_some_iff] at hp hz
  obtain ⟨x, hx, rfl⟩ := hp
  obtain ⟨y, hy, rfl⟩ := hz
  rw [hx] at hy
  cases hy
  have hm : x ∈ ps.zip zs := (List.mem_filter.1 (List.mem_of_getElem? hx)).1
  obtain ⟨i, hi⟩ := List.getElem?_of_mem hm
  rw [List.getElem?_zip_eq_some] at hi
  exact h i _ _ hi.1 hi.2
theorem kept_zlen (u : Int) (ps : List Nat) (zs : List Int) : (keptZ u ps zs).length = (keptOf u ps zs).length := by simp [keptZ, keptOf]
/-- The side behind keepIn. -/
theorem Side.keep {W W' : World} {g h cap : Nat} {ps : List Nat} {zs : List Int} {rest : List (Option Nat)} (s : Side W g h cap ps zs rest) {u : Int} {X : Nat → Prop} (k : Kept X W W') (hp : ∀ p ∈ ps, ¬ X p) (hr : Row W' g ((keptOf u ps zs).map some ++ List.replicate (ps.length - (keptOf u ps zs).length) none ++ rest)) :
    Side W' g h cap (keptOf u ps zs) (keptZ u ps zs) (List.replicate (ps.length - (keptOf u ps zs).length) none ++ rest) := by
  have hle := keptOf_le u ps zs
  have := s.len
  exact ⟨by rw [← List.append_assoc]; exact hr, by simp; omega, kept_zlen u ps zs, s.small, (kept_rels s.rels).kept k (fun p hpm => hp p (keptOf_mem hpm)), fun p hpm => s.apart p (keptOf_mem hpm)⟩

theorem Kept.wider {X Y : Nat → Prop} {a b : World} (h : Kept X a b) (hx : ∀ i, X i → Y i) : Kept Y a b := ⟨h.os, h.tape, h.output, h.size, fun k hk hn => h.block k hk (fun e => hn (hx k e))⟩
theorem hold_set2 {W : World} {h : Nat} {s r : Value} (hh : W.heap[h]? = some (.cells (holdCells s r) 86)) (v : Value) : (W.setCell ⟨h, 2, none⟩ v).heap[h]? = some (.cells (holdCells v r) 86) := by
  rw [heap_setCell_same W h 2 _ 86 _ hh]; simp [holdCells]
theorem hold_set3 {W : World} {h : Nat} {s r : Value} (hh : W.heap[h]? = some (.cells (holdCells s r) 86)) (v : Value) : (W.setCell ⟨h, 3, none⟩ v).heap[h]? = some (.cells (holdCells s v) 86) := by
  rw [heap_setCell_same W h 3 _ 86 _ hh]; simp [holdCells]

set_option maxRecDepth 100000 in
set_option maxHeartbeats 2000000 in
theorem keep_any (h g1 g2 t c1 c2 : Nat) (u : Int) (ps1 ps2 : List Nat) (zs1 zs2 : List Int) (r1 r2 : List (Option Nat)) (w : World)
    (hh : w.heap[h]? = some (.cells (holdCells (.slice (some ⟨g1, 0, none⟩) ps1.length c1) (.slice (some ⟨g2, 0, none⟩) ps2.length c2)) 86)) (hS1 : Side w g1 h c1 ps1 zs1 r1) (hS2 : Side w g2 h c2 ps2 zs2 r2)
    (hu : w.cell? ⟨t, 0, none⟩ = some (.int .i64 u)) (ht1 : t ≠ g1) (ht2 : t ≠ g2) (hth : t ≠ h) (h12 : g1 ≠ g2) (h1h : g1 ≠ h) (h2h : g2 ≠ h) (hx1 : ∀ p ∈ ps1, p ≠ g2) (hx2 : ∀ p ∈ ps2, p ≠ g1) :
    Calls Try.prog 36 #[.pointer (some ⟨h, 0, none⟩), .func (.func 37) #[] #[.pointer (some ⟨t, 0, none⟩)]] w fun e w' => e = .returned (.bool (decide (0 < (keptOf u ps1 zs1).length + (keptOf u ps2 zs2).length))) ∧
      Kept (fun i => i = g1 ∨ i = g2 ∨ i = h) w w' ∧ w'.heap[h]? = some (.cells (holdCells (.slice (some ⟨g1, 0, none⟩) (keptOf u ps1 zs1).length c1) (.slice (some ⟨g2, 0, none⟩) (keptOf u ps2 zs2).length c2)) 86) ∧
      Side w' g1 h c1 (keptOf u ps1 zs1) (keptZ u ps1 zs1) (List.replicate (ps1.length - (keptOf u ps1 zs1).length) none ++ r1) ∧ Side w' g2 h c2 (keptOf u ps2 zs2) (keptZ u ps2 zs2) (List.replicate (ps2.length - (keptOf u ps2 zs2).length) none ++ r2) := by
  obtain ⟨d2, d3, f2, f3⟩ := hold_cells hh
  have hl1 := hS1.len
  have hl2 := hS2.len
  have hm1 := hS1.small
  have hm2 := hS2.small
  go_enter Try.func36, Try.ntmps36
  go_wp2_with fail
  refine (keepIn_any g1 ps1.length c1 t u zs1 ps1 r1 w (by omega) rfl hS1.zlen hl1 hS1.row hS1.rels hu ht1 (fun p hp => (hS1.apart p hp).1)).mono ?_
  rintro e W1 ⟨rfl, k1, hR1⟩
  have hhl : h < w.heap.size := (Array.getElem?_eq_some_iff.1 hh).1
  have hh1 := (k1.block h hhl (fun e => h1h e.symm)).trans hh
  obtain ⟨d21, d31, f21, f31⟩ := hold_cells hh1
  have hle1 := keptOf_le u ps1 zs1
  have hle2 := keptOf_le u ps2 zs2
  generalize hq1 : keptOf u ps1 zs1 = q1 at hR1 hle1
  have hh2 := hold_set2 hh1 (.slice (some ⟨g1, 0, none⟩) q1.length c1)
  have k2 : Kept (fun i => i = g1 ∨ i = g2 ∨ i = h) w (W1.setCell ⟨h, 2, none⟩ (.slice (some ⟨g1, 0, none⟩) q1.length c1)) := Kept.set (k1.wider (fun i hi => .inl hi)) (.inl (.inr (.inr rfl))) _ _
  have kS : Kept (fun i => i = g1 ∨ i = h) w (W1.setCell ⟨h, 2, none⟩ (.slice (some ⟨g1, 0, none⟩) q1.length c1)) := Kept.set (k1.wider (fun i hi => .inl hi)) (.inl (.inr rfl)) _ _
  have hS2' := hS2.kept kS (fun e => e.elim (fun e => h12 e.symm) h2h) (fun p hp e => e.elim (hx2 p hp) (hS2.apart p hp).2)
  have htl : t < w.heap.size := cell_lt hu
  have hu2 : (W1.setCell ⟨h, 2, none⟩ (.slice (some ⟨g1, 0, none⟩) q1.length c1)).cell? ⟨t, 0, none⟩ = some (.int .i64 u) := by
    rw [World.cell?_of_block (w := w) (a := ⟨t, 0, none⟩) (kS.block t htl (fun e => e.elim ht1 hth))]; exact hu
  have hR1' : Row (W1.setCell ⟨h, 2, none⟩ (.slice (some ⟨g1, 0, none⟩) q1.length c1)) g1 (q1.map some ++ List.replicate (ps1.length - q1.length) none ++ r1) := hR1.kept (Kept.set (Kept.refl (fun i => i = h) _) (.inl rfl) _ _) h1h
  obtain ⟨d22, d32, f22, f32⟩ := hold_cells hh2
  go_wp2_with fail
  refine (keepIn_any g2 ps2.length c2 t u zs2 ps2 r2 _ (by omega) rfl hS2.zlen hl2 hS2'.row hS2'.rels hu2 ht2 (fun p hp => (hS2.apart p hp).1)).mono ?_
  rintro e W2 ⟨rfl, k3, hR2⟩
  generalize hq2 : keptOf u ps2 zs2 = q2 at hR2 hle2
  have hh3 := (k3.block h (by simpa [World.setCell] using Nat.lt_of_lt_of_le hhl k1.size) (fun e => h2h e.symm)).trans hh2
  obtain ⟨d23, d33, f23, f33⟩ := hold_cells hh3
  have hh4 := hold_set3 hh3 (.slice (some ⟨g2, 0, none⟩) q2.length c2)
  obtain ⟨d24, d34, _, _⟩ := hold_cells hh4
  have HQ1 : Hid (keptOf u ps1 zs1 = q1) := hq1
  have HQ2 : Hid (keptOf u ps2 zs2 = q2) := hq2
  have k4 : Kept (fun i => i = g1 ∨ i = g2 ∨ i = h) w (W2.setCell ⟨h, 3, none⟩ (.slice (some ⟨g2, 0, none⟩) q2.length c2)) := Kept.set (k2.trans (k3.wider (fun i hi => .inr (.inl hi)))) (.inl (.inr (.inr rfl))) _ _
  have kh : Kept (fun i => i = h) W2 (W2.setCell ⟨h, 3, none⟩ (.slice (some ⟨g2, 0, none⟩) q2.length c2)) := Kept.set (Kept.refl (fun i => i = h) _) (.inl rfl) _ _
  have hRf1 := (hR1'.kept k3 h12).kept kh h1h
  have hRf2 := hR2.kept kh h2h
  have HK4 : Hid (Kept (fun i => i = g1 ∨ i = g2 ∨ i = h) w (W2.setCell ⟨h, 3, none⟩ (.slice (some ⟨g2, 0, none⟩) q2.length c2))) := k4
  clear hq1 hq2 k4 kh k1 k2 k3 kS hR1 hR1' hR2 hS2' hu2 hu hh hh1 hh2 hh3 d2 d3 f2 f3 d21 d31 f21 f31 d22 d32 f22 f32 d23
  go_wp2_with fail
  go_quiet (fail)
  go_wp2_with fail
  go_ret
  have hf1 := hS1.keep (u := u) (W' := W2.setCell ⟨h, 3, none⟩ (.slice (some ⟨g2, 0, none⟩) q2.length c2)) HK4.out (fun p hp e => e.elim (hS1.apart p hp).1 (fun e => e.elim (hx1 p hp) (hS1.apart p hp).2)) (by rw [HQ1.out]; exact hRf1)
  have hf2 := hS2.keep (u := u) (W' := W2.setCell ⟨h, 3, none⟩ (.slice (some ⟨g2, 0, none⟩) q2.length c2)) HK4.out (fun p hp e => e.elim (hx2 p hp) (fun e => e.elim (hS2.apart p hp).1 (hS2.apart p hp).2)) (by rw [HQ2.out]; exact hRf2)
  rw [HQ1.out, HQ2.out]
  rw [HQ1.out] at hf1
  rw [HQ2.out] at hf2
  refine ⟨?_, HK4.out.drewN _, hh4, hf1.drew _, hf2.drew _⟩
  have hd : decide ((0 : Int) < (q1.length : Int) + (q2.length : Int)) = decide (0 < q1.length + q2.length) := by rw [decide_eq_decide]; omega
  exact congrArg (fun b => Ending.returned (Value.bool b)) hd

/-- The holder list and its two rows. -/
structure List2 (W : World) (h g1 g2 c1 c2 : Nat) (ps1 ps2 : List Nat) (zs1 zs2 : List Int) (r1 r2 : List (Option Nat)) : Prop where
  hold : W.heap[h]? = some (.cells (holdCells (.slice (some ⟨g1, 0, none⟩) ps1.length c1) (.slice (some ⟨g2, 0, none⟩) ps2.length c2)) 86)
  s1 : Side W g1 h c1 ps1 zs1 r1
  s2 : Side W g2 h c2 ps2 zs2 r2
  h12 : g1 ≠ g2
  h1h : g1 ≠ h
  h2h : g2 ≠ h
  x1 : ∀ p ∈ ps1, p ≠ g2
  x2 : ∀ p ∈ ps2, p ≠ g1

set_option maxRecDepth 100000 in
theorem keepUpTo_any (h g1 g2 c1 c2 : Nat) (u : Int) (ps1 ps2 : List Nat) (zs1 zs2 : List Int) (r1 r2 : List (Option Nat)) (w : World) (hL : List2 w h g1 g2 c1 c2 ps1 ps2 zs1 zs2 r1 r2) :
    Calls Try.prog 18 #[.pointer (some ⟨h, 0, none⟩), .int .i64 u] w fun e w' => e = .returned (.bool (decide (0 < (keptOf u ps1 zs1).length + (keptOf u ps2 zs2).length))) ∧
      Kept (fun i => i = g1 ∨ i = g2 ∨ i = h) w w' ∧ List2 w' h g1 g2 c1 c2 (keptOf u ps1 zs1) (keptOf u ps2 zs2) (keptZ u ps1 zs1) (keptZ u ps2 zs2) (List.replicate (ps1.length - (keptOf u ps1 zs1).length) none ++ r1) (List.replicate (ps2.length - (keptOf u ps2 zs2).length) none ++ r2) := by
  have hb : Below w.heap.size w (w.alloc (.cells #[.int .i64 u] 2)) := (Below.refl _ w).alloc (Nat.le_refl _) _
  have kb : Kept (fun _ => False) w (w.alloc (.cells #[.int .i64 u] 2)) := Kept.of_below hb _
  have l1 := hL.s1.row.lt
  have l2 := hL.s2.row.lt
  have lh : h < w.heap.size := (Array.getElem?_eq_some_iff.1 hL.hold).1
  have hc : (w.alloc (.cells #[.int .i64 u] 2)).cell? ⟨w.heap.size, 0, none⟩ = some (.int .i64 u) := cell_one_new w _ 2 0 _ rfl
  have call := keep_any h g1 g2 w.heap.size c1 c2 u ps1 ps2 zs1 zs2 r1 r2 (w.alloc (.cells #[.int .i64 u] 2)) ((hb.block h lh).trans hL.hold) (hL.s1.kept kb (fun e => e) (fun _ _ e => e)) (hL.s2.kept kb (fun e => e) (fun _ _ e => e)) hc (by omega) (by omega) (by omega) hL.h12 hL.h1h hL.h2h hL.x1 hL.x2
  go_enter Try.func18, Try.ntmps18
  go_wp2_with fail
  refine call.mono ?_
  rintro e W ⟨rfl, k, hh, s1, s2⟩
  clear call
  go_wp2_with fail
  go_ret
  refine ⟨rfl, ⟨k.os, k.tape, k.output, Nat.le_trans hb.size k.size, fun i hi hx => (k.block i (by simp; omega) hx).trans (hb.block i hi)⟩, hh, s1, s2, hL.h12, hL.h1h, hL.h2h, fun p hp => hL.x1 p (keptOf_mem hp), fun p hp => hL.x2 p (keptOf_mem hp)⟩
end Go.Proofs.Qxb6612910a
