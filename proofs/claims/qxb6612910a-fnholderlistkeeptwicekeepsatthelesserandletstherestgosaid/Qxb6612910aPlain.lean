import Derived.Test.Qxb6612910aKeep2
namespace Go.Proofs.Qxb6612910a
open Go.RowKit

theorem zip_parts {α β : Type} : ∀ l : List (α × β), (l.map (·.1)).zip (l.map (·.2)) = l
  | [] => rfl
  | x :: l => by simp [zip_parts l]
theorem kept_twice (a b m : Int) (hm : ∀ z, upTo m z = (upTo a z && upTo b z)) (ps : List Nat) (zs : List Int) : keptOf b (keptOf a ps zs) (keptZ a ps zs) = keptOf m ps zs := by
  unfold keptOf keptZ
  rw [zip_parts, List.filter_filter]
  congr 1
  refine List.filter_congr fun x _ => ?_
  rw [hm]
  cases upTo a x.2 <;> cases upTo b x.2 <;> rfl
theorem kept_count (u : Int) : ∀ (ps : List Nat) (zs : List Int), zs.length = ps.length → (zs.filter (upTo u)).length = (keptOf u ps zs).length
  | [], [], _ => rfl
  | [], z :: zs, h => by simp at h
  | p :: ps, [], h => by simp at h
  | p :: ps, z :: zs, h => by
    have ih := kept_count u ps zs (by simpa using h)
    unfold keptOf at ih ⊢
    simp only [List.zip_cons_cons, List.filter_cons]
    cases upTo u z <;> simpa using ih
theorem upTo_min (a b : Int) (z : Int) : upTo (if b < a then b else a) z = (upTo a z && upTo b z) := by
  unfold upTo
  rw [← Bool.decide_and]
  rw [decide_eq_decide]
  split <;> omega

/-- These pointers stand in block g from its start. -/
def Ptrs (W : World) (g : Nat) (ps : List Nat) : Prop := ∀ (i p : Nat), ps[i]? = some p → W.cell? ⟨g, i, none⟩ = some (.pointer (some ⟨p, 0, none⟩))
theorem Row.ptrs {W : World} {g : Nat} {ps : List Nat} {rest : List (Option Nat)} (h : Row W g (ps.map some ++ rest)) : Ptrs W g ps := fun i p hp => by
  have hi : i < ps.length := (List.getElem?_eq_some_iff.1 hp).1
  exact (h.cell (x := some p) (by rw [List.getElem?_append_left (by simpa using hi)]; simp [hp])).1
theorem Own.ptrs {W : World} {N m cap : Nat} {ks : List Nat} (h : Own W N m cap (ks.map fun p => pv (some p))) : Ptrs W N ks := fun i p hp => by
  obtain ⟨hl, h⟩ := h.own
  rcases h with ⟨h0, _⟩ | ⟨g', cap', cur, hv, hbg, hg, hnc, hcm, hcs, htake⟩
  · cases h0
  · cases hv
    have h1 : (ks.map fun p => pv (some p))[i]? = some (pv (some p)) := by simp [hp]
    rw [← htake, List.getElem?_take] at h1
    split at h1
    · simpa [World.cell?, hg, pv] using h1
    · cases h1
theorem Ptrs.kept {W W' : World} {g : Nat} {ps : List Nat} (h : Ptrs W g ps) (e : W'.heap[g]? = W.heap[g]?) : Ptrs W' g ps := fun i p hp => by
  rw [World.cell?_of_block (w := W) (a := ⟨g, i, none⟩) e]; exact h i p hp

set_option maxRecDepth 100000 in
theorem same2_any (g g' n c c' : Nat) (ps : List Nat) (w : World) (hn : n ≤ 65536) (hx : Ptrs w g ps) (hy : Ptrs w g' ps) (hl : ps.length = n) (m0 : Nat) :
    Calls Try.prog 21 #[.slice (some ⟨g, 0, none⟩) n c, .slice (some ⟨g', 0, none⟩) n c'] (w.drewN m0) fun e w' => e = .returned (.bool true) ∧ ∃ m, w' = w.drewN m := by
  have HX : Hid (Ptrs w g ps) := hx
  have HY : Hid (Ptrs w g' ps) := hy
  clear hx hy
  go_enter Try.func21, Try.ntmps21
  go_wp2
  go_loopw [5] (fun i W => ∃ (k m : Nat), k ≤ n ∧ i = .int .i64 k ∧ W = w.drewN m) (fun i _ => n - (intOf i).toNat)
  case atStart => exact ⟨0, m0, Nat.zero_le _, rfl, rfl⟩
  case round =>
    obtain ⟨k, m, hk, rfl, rfl⟩ := hrel
    by_cases hlt : k < n
    · have hpk : ps[k]? = some (ps[k]'(by omega)) := List.getElem?_eq_getElem _
      have cx' := HX.out k _ hpk
      have cy' := HY.out k _ hpk
      generalize ps[k]'(by omega) = q at cx' cy'
      clear hpk
      have hq := neq_same q
      go_wp2
      go_quiet (fail)
      go_wp2
      exact ⟨⟨k + 1, _, by omega, by go_num, rfl⟩, by simp [intOf]; omega⟩
    · go_wp2
      go_ret
      exact ⟨rfl, m, rfl⟩
end Go.Proofs.Qxb6612910a
