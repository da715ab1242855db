import Derived.Test.Qxb6612910aRels
namespace Go.Proofs.Qxb6612910a
open Go.RowKit

structure News (W : World) (ad : Addr) (xs : List Value) : Prop where
  news : ∀ (j : Nat) u, xs[j]? = some u → W.cell? (ad.add j) = some u
theorem info76 : (Try.prog.info? 76).map (·.size) = some 1 := by kernel_rfl

set_option maxRecDepth 100000 in
theorem clone_any (g n c : Nat) (xs : List (Option Nat)) (w : World) (hn : n ≤ 65536) (hl : xs.length = n) (hR : Row w g xs) : Calls Try.prog 16 #[.slice (some ⟨g, 0, none⟩) n c] w fun e w' => e = .returned (.slice (some ⟨w.heap.size, 0, none⟩) n n) ∧ Row w' w.heap.size xs ∧ Below w.heap.size w w' := by
  have hmk := mk_run n hn
  have hcur := heap_alloc_last w (.cells (nilRow n) 76)
  have hR1 : Row (w.alloc (.cells (nilRow n) 76)) g xs := hR.below ((Below.refl _ w).alloc (Nat.le_refl _) _)
  have hsrc : ∀ (j : Nat) v, (xs.map pv)[j]? = some v → (w.alloc (.cells (nilRow n) 76)).cell? ((⟨g, 0, none⟩ : Addr).add j) = some v := fun j v hv => by
    rw [List.getElem?_map, Option.map_eq_some_iff] at hv
    obtain ⟨x, hx, rfl⟩ := hv
    have h1 := (hR1.cell hx).1
    have e : (⟨g, 0, none⟩ : Addr).add j = ⟨g, j, none⟩ := by unfold Addr.add; split <;> simp_all
    rw [e]; exact h1
  have HS : News (w.alloc (.cells (nilRow n) 76)) ⟨g, 0, none⟩ (xs.map pv) := ⟨hsrc⟩
  have HC : Hid ((w.alloc (.cells (nilRow n) 76)).heap[w.heap.size]? = some (.cells (nilRow n) 76)) := hcur
  clear hcur hsrc hR hR1
  go_enter Try.func16, Try.ntmps16
  go_wp2_with (first | (refine wpList_copy_own rfl _ _ 47 47 rfl 76 Try.underlying47 info76 w.heap.size 0 n n ⟨g, 0, none⟩ n c rfl rfl _ 76 HC.out (xs.map pv) (by simp [hl]) HS.news (by simp [hl, nilRow]) (fun v hv => by rw [List.mem_map] at hv; obtain ⟨x, _, rfl⟩ := hv; rfl) ?_))
  go_ret
  have hd : (nilRow n).toList.drop n = [] := List.drop_eq_nil_of_le (by simp [nilRow])
  refine ⟨rfl, ⟨?_⟩, below_setRow ((Below.refl _ w).alloc (Nat.le_refl _) _) (Nat.le_refl _) _⟩
  rw [hd, List.append_nil]
  exact setRow_heap _ _ _ _ _ _ HC.out

/-- The kept ones' row, of the call's own. -/
structure Own (W : World) (N m cap : Nat) (xs : List Value) : Prop where
  own : W.ownsRow N 76 1 (.slice (some ⟨N, 0, none⟩) m cap) m xs
/-- Those of ps whose times are at most u. -/
def keptOf (u : Int) (ps : List Nat) (zs : List Int) : List Nat := ((ps.zip zs).filter fun x => upTo u x.2).map (·.1)
theorem keptOf_step {u : Int} {ps : List Nat} {zs : List Int} {k p : Nat} {z : Int} (hp : ps[k]? = some p) (hz : zs[k]? = some z) : keptOf u (ps.take (k + 1)) (zs.take (k + 1)) = keptOf u (ps.take k) (zs.take k) ++ (if z ≤ u then [p] else []) := by
  have hk : k < ps.length := (List.getElem?_eq_some_iff.1 hp).1
  have hk2 : k < zs.length := (List.getElem?_eq_some_iff.1 hz).1
  unfold keptOf
  rw [take_succ_of hp, take_succ_of hz, List.zip_append (by simp; omega), List.filter_append, List.map_append]
  congr 1
  by_cases h : z ≤ u <;> simp [upTo, h]
theorem keptOf_le (u : Int) (ps : List Nat) (zs : List Int) : (keptOf u ps zs).length ≤ ps.length := by
  unfold keptOf
  rw [List.length_map]
  exact Nat.le_trans (List.length_filter_le _ _) (by simp; omega)

set_option maxRecDepth 100000 in
set_option maxHeartbeats 1000000 in
theorem kept_any (a : Option Addr) (n c g cap : Nat) (u : Int) (zs : List Int) (ps : List Nat) (w : World) (hn : n ≤ 65536) (hZ : IntsAt w a n zs) (hl : ps.length = n) (hR : Row w g (ps.map some)) :
    Calls Try.prog 19 #[.slice a n c, .slice (some ⟨g, 0, none⟩) n cap, .int .i64 u] w fun e w' => e = .returned (.slice (some ⟨w.heap.size, 0, none⟩) (keptOf u ps zs).length n) ∧ Below w.heap.size w w' ∧ Own w' w.heap.size (keptOf u ps zs).length n ((keptOf u ps zs).map fun p => pv (some p)) := by
  have HZ : Hid (IntsAt w a n zs) := hZ
  have HR : Hid (Row w g (ps.map some)) := hR
  clear hZ hR
  have hi : (Try.prog.info? 76).map (fun i => (i.zero, i.size, i.bytes)) = some (some (.pointer none), 1, 8) := by kernel_rfl
  obtain ⟨i7, hi7, hz7, hs7, hb7⟩ := info_parts hi
  clear hi
  obtain ⟨w1, hmk, hown1, hg1⟩ := run_make_own (P := Try.prog) w w.heap.size 47 76 i7 (.pointer none) 1 Try.underlying47 hi7 hz7 hs7 .i64 .i64 n (by rw [hb7]; omega) (by unfold maxLen; omega) (Nat.le_refl _)
  have hB1 : Below w.heap.size w w1 := (Below.refl _ w).grown hg1 (Nat.le_refl _) (fun _ h => by cases h)
  have HO1 : Own w1 w.heap.size 0 n [] := ⟨hown1⟩
  have hlt : w.heap.size < w1.heap.size := by
    obtain ⟨_, h⟩ := hown1
    rcases h with ⟨h0, _⟩ | ⟨g', cap', cur, hv, hbg, hg, _⟩
    · cases h0
    · cases hv; exact (Array.getElem?_eq_some_iff.1 hg).1
  clear hown1 hg1
  go_enter Try.func19, Try.ntmps19
  go_wp2_with fail
  clear hmk
  go_loopw [7, 8] (fun s i W => ∃ k : Nat, k ≤ n ∧ i = .int .i64 k ∧ s = .slice (some ⟨w.heap.size, 0, none⟩) (keptOf u (ps.take k) (zs.take k)).length n ∧ Own W w.heap.size (keptOf u (ps.take k) (zs.take k)).length n ((keptOf u (ps.take k) (zs.take k)).map fun p => pv (some p)) ∧ Below w.heap.size w W) (fun _ i _ => n - (intOf i).toNat)
  case atStart => exact ⟨0, Nat.zero_le _, rfl, rfl, HO1, hB1⟩
  case round =>
    rename World => W
    clear HO1 hB1
    obtain ⟨k, hk, rfl, rfl, hO, hB⟩ := hrel
    have hle : (keptOf u (ps.take k) (zs.take k)).length ≤ k := Nat.le_trans (keptOf_le _ _ _) (by simp; omega)
    by_cases hlt2 : k < n
    · obtain ⟨b, o, z, rfl, hb, hcell, hget⟩ := HZ.out.get hlt2
      have hc1 : W.cell? ⟨b, o + k, none⟩ = some (.int .i64 z) := by rw [hB.cell (p := ⟨b, o + k, none⟩) hb]; exact hcell
      have hpk : ps[k]? = some (ps[k]'(by omega)) := List.getElem?_eq_getElem _
      generalize ps[k]'(by omega) = p at hpk
      have hst := keptOf_step (u := u) hpk hget
      have hcp : W.cell? ⟨g, k, none⟩ = some (.pointer (some ⟨p, 0, none⟩)) := by
        rw [hB.cell (p := ⟨g, k, none⟩) HR.out.lt]
        exact (HR.out.cell (x := some p) (by simp [hpk])).1
      clear hget hcell hpk
      generalize keptOf u (ps.take k) (zs.take k) = ks at hst hO hle
      by_cases hu : z ≤ u
      · rw [if_pos hu] at hst
        have HST : Hid _ := hst
        clear hst
        go_wp2_with (first | (refine wpList_append_own_spare _ rfl _ _ 47 rfl w.heap.size 76 i7 1 Try.underlying47 hi7 hs7 w.heap.size ks.length n _ rfl (hO.own.alloc _) ⟨W.heap.size, 0, none⟩ 1 1 [pv (some p)] rfl rfl (cell_one_new _ _ _) (fun v hv => by simp at hv; rw [hv]; rfl) (by omega) ?_; intro W2 hown2 hg2))
        refine ⟨⟨k + 1, by omega, by go_num, by rw [HST.out]; simp, ?_, (hB.alloc hB.size _).grown hg2 (by simp; have := hB.size; omega) (fun _ h => by cases h; exact Nat.le_refl _)⟩, by simp [intOf]; omega⟩
        rw [HST.out]
        refine ⟨?_⟩
        simpa using hown2
      · rw [if_neg hu, List.append_nil] at hst
        have HST : Hid _ := hst
        clear hst
        go_wp2_with fail
        exact ⟨⟨k + 1, by omega, by go_num, by rw [HST.out], by rw [HST.out]; exact hO, hB⟩, by simp [intOf]; omega⟩
    · have e1 : ps.take k = ps := List.take_of_length_le (by omega)
      have e2 : zs.take k = zs := List.take_of_length_le (by have := HZ.out.1; omega)
      rw [e1, e2] at hO ⊢
      clear e1 e2 hle
      go_wp2_with fail
      go_ret
      exact ⟨rfl, hB, hO⟩
end Go.Proofs.Qxb6612910a
