import Derived.Test.Qxb6612910aIn
namespace Go.Proofs.Qxb6612910a
open Go.RowKit

theorem Kept.drewN {X : Nat → Prop} {a b : World} (h : Kept X a b) (m : Nat) : Kept X a (b.drewN m) := ⟨h.os, h.tape, h.output, h.size, h.block⟩
theorem cell_lt {w : World} {a : Addr} {v : Value} (h : w.cell? a = some v) : a.block < w.heap.size := by
  unfold World.cell? at h
  split at h
  · rename_i hc; exact (Array.getElem?_eq_some_iff.1 hc).1
  · cases h
theorem clear_none (a : Option Addr) (c : Nat) (ty : TypeId) (W : World) : (Builtin.clear_ #[47] ty #[.slice a 0 c]).run Try.prog W = .ok (.tuple #[]) W := by
  cases a <;> simp [Builtin.clear_, run_underlying Try.underlying47]
theorem zero76 (w : World) : (zeroValue 76).run Try.prog w = .ok (.pointer none) w := by kernel_rfl
theorem clear_some (W : World) (g j m c : Nat) (xs : List (Option Nat)) (hR : Row W g xs) (hm : 0 < m) (hl : j + m ≤ xs.length) (ty : TypeId) : (Builtin.clear_ #[47] ty #[.slice (some ⟨g, j, none⟩) m c]).run Try.prog W = .ok (.tuple #[]) (W.setCells g j (List.replicate m (pv none))) :=
  Lib.run_clear_slice W 47 76 ty (.pointer none) Try.underlying47 zero76 rfl rfl g j m c hm (fun q hq => by
    rw [(hR.cell (List.getElem?_eq_getElem (show j + q < xs.length by omega))).1]; rfl) (fun q hq => (hR.cell (List.getElem?_eq_getElem (show j + q < xs.length by omega))).2)
theorem rel_cell {W : World} {p : Nat} {z : Int} (h : W.heap[p]? = some (.cells (relCells z) 89)) : W.cell? ⟨p, 4, none⟩ = some (.int .i64 z) := by simp [World.cell?, h, relCells]

set_option maxRecDepth 100000 in
theorem lit_any (p t : Nat) (z u : Int) (w : World) (hz : w.cell? ⟨p, 4, none⟩ = some (.int .i64 z)) (hu : w.cell? ⟨t, 0, none⟩ = some (.int .i64 u)) :
    Calls Try.prog 37 #[.pointer (some ⟨p, 0, none⟩), .pointer (some ⟨t, 0, none⟩)] w fun e w' => e = .returned (.bool (decide (z ≤ u))) ∧ ∃ m, w' = w.drewN m := by
  go_enter Try.func37, Try.ntmps37
  go_wp2
  go_quiet (fail)
  go_wp2
  go_ret
  exact ⟨rfl, _, rfl⟩

set_option maxRecDepth 100000 in
set_option maxHeartbeats 2000000 in
theorem keepIn_any (g n cap t : Nat) (u : Int) (zs : List Int) (ps : List Nat) (rest : List (Option Nat)) (w : World) (hn : n ≤ 65536) (hl : ps.length = n) (hzl : zs.length = n) (hc : n + rest.length = cap) (hR : Row w g (ps.map some ++ rest)) (hZ : RelsAt w ps zs) (hu : w.cell? ⟨t, 0, none⟩ = some (.int .i64 u)) (htg : t ≠ g) (hpg : ∀ p ∈ ps, p ≠ g) :
    Calls Try.prog 39 #[.slice (some ⟨g, 0, none⟩) n cap, .func (.func 37) #[] #[.pointer (some ⟨t, 0, none⟩)]] w fun e w' => e = .returned (.slice (some ⟨g, 0, none⟩) (keptOf u ps zs).length cap) ∧ Kept (fun i => i = g) w w' ∧ Row w' g ((keptOf u ps zs).map some ++ List.replicate (n - (keptOf u ps zs).length) none ++ rest) := by
  have HR : Hid (Row w g (ps.map some ++ rest)) := hR
  have HZ : Hid (RelsAt w ps zs) := hZ
  have HP : Hid (∀ p ∈ ps, p ≠ g) := hpg
  have HU : Hid (w.cell? ⟨t, 0, none⟩ = some (.int .i64 u)) := hu
  have hgl := hR.lt
  have htl : t < w.heap.size := cell_lt hu
  clear hR hZ hpg hu
  go_enter Try.func39, Try.ntmps39
  go_wp2_with fail
  go_loopw [5, 7, 12] (fun s _ i W => ∃ k : Nat, k ≤ n ∧ i = .int .i64 k ∧ s = .slice (some ⟨g, 0, none⟩) (keptOf u (ps.take k) (zs.take k)).length cap ∧ Row W g ((keptOf u (ps.take k) (zs.take k)).map some ++ (ps.map some ++ rest).drop (keptOf u (ps.take k) (zs.take k)).length) ∧ Kept (fun i => i = g) w W) (fun _ _ i _ => n - (intOf i).toNat)
  case atStart => exact ⟨0, Nat.zero_le _, rfl, rfl, HR.out, Kept.refl _ _⟩
  case round =>
    rename World => W
    obtain ⟨k, hk, rfl, rfl, hR, hK⟩ := hrel
    have hle : (keptOf u (ps.take k) (zs.take k)).length ≤ k := Nat.le_trans (keptOf_le _ _ _) (by simp; omega)
    by_cases hlt : k < n
    · have hpk : ps[k]? = some (ps[k]'(by omega)) := List.getElem?_eq_getElem _
      generalize ps[k]'(by omega) = p at hpk
      have hzk : zs[k]? = some (zs[k]'(by omega)) := List.getElem?_eq_getElem _
      generalize zs[k]'(by omega) = z at hzk
      have hst := keptOf_step (u := u) hpk hzk
      generalize keptOf u (ps.take k) (zs.take k) = ks at hst hR hle
      have hix : (ks.map some ++ (ps.map some ++ rest).drop ks.length)[k]? = some (some p) := by
        rw [List.getElem?_append_right (by simp; omega), List.getElem?_drop, List.length_map, show ks.length + (k - ks.length) = k by omega, List.getElem?_append_left (by simp; omega)]
        simp [hpk]
      have hcp : W.cell? ⟨g, k, none⟩ = some (.pointer (some ⟨p, 0, none⟩)) := (hR.cell hix).1
      have hpm : p ∈ ps := List.mem_of_getElem? hpk
      have hrel := HZ.out k p z hpk hzk
      have hcz : W.cell? ⟨p, 4, none⟩ = some (.int .i64 z) := rel_cell ((hK.block p (Array.getElem?_eq_some_iff.1 hrel).1 (HP.out p hpm)).trans hrel)
      have hcu : W.cell? ⟨t, 0, none⟩ = some (.int .i64 u) := by rw [World.cell?_of_block (w := w) (a := ⟨t, 0, none⟩) (hK.block t htl htg)]; exact HU.out
      clear hix hrel hpm hpk hzk
      have HST : Hid (keptOf u (ps.take (k + 1)) (zs.take (k + 1)) = ks ++ if z ≤ u then [p] else []) := hst
      clear hst
      go_wp2_with fail
      refine (lit_any p t z u W hcz hcu).mono ?_
      rintro e W1 ⟨rfl, m, rfl⟩
      have hLl : (ps.map some ++ rest).length = cap := by simp; omega
      by_cases hzu : z ≤ u
      · have HST1 : Hid (keptOf u (ps.take (k + 1)) (zs.take (k + 1)) = ks ++ [p]) := by show _ = _; rw [HST.out, if_pos hzu]
        clear HST
        have hRa : Row ((W.drewN m).alloc (.cells #[.pointer (some ⟨p, 0, none⟩)] 76)) g (ks.map some ++ (ps.map some ++ rest).drop ks.length) := Row.below (W := W.drewN m) ⟨hR.row⟩ ((Below.refl _ _).alloc (Nat.le_refl _) _)
        have hca : ((W.drewN m).alloc (.cells #[.pointer (some ⟨p, 0, none⟩)] 76)).cell? ⟨W.heap.size, 0, none⟩ = some (pv (some p)) := cell_one_new (W.drewN m) _ 76 0 _ rfl
        have hKa : Kept (fun i => i = g) w ((W.drewN m).alloc (.cells #[.pointer (some ⟨p, 0, none⟩)] 76)) := Kept.alloc (Kept.drewN hK m) _
        have HRA : Hid (Row ((W.drewN m).alloc (.cells #[.pointer (some ⟨p, 0, none⟩)] 76)) g (ks.map some ++ (ps.map some ++ rest).drop ks.length)) := hRa
        have HCA : Hid (((W.drewN m).alloc (.cells #[.pointer (some ⟨p, 0, none⟩)] 76)).cell? ⟨W.heap.size, 0, none⟩ = some (pv (some p))) := hca
        clear hRa hca
        go_wp2_with (first | (refine wpList_append_in rfl _ _ rfl g ks.length cap _ rfl HRA.out W.heap.size rfl p HCA.out (by omega) (by simp; omega) ?_; intro W2 hR2 hK2))
        rw [set_kept ks _ p (by omega)] at hR2
        refine ⟨⟨k + 1, by omega, by go_num, by rw [HST1.out]; simp, ?_, hKa.trans hK2⟩, by simp [intOf]; omega⟩
        rw [HST1.out]
        simpa using hR2
      · have HST1 : Hid (keptOf u (ps.take (k + 1)) (zs.take (k + 1)) = ks) := by show _ = _; rw [HST.out, if_neg hzu, List.append_nil]
        clear HST
        go_wp2_with fail
        exact ⟨⟨k + 1, by omega, by go_num, by rw [HST1.out], by rw [HST1.out]; exact ⟨hR.row⟩, Kept.drewN hK m⟩, by simp [intOf]; omega⟩
    · have e1 : ps.take k = ps := List.take_of_length_le (by omega)
      have e2 : zs.take k = zs := List.take_of_length_le (by omega)
      rw [e1, e2] at hR hle ⊢
      clear e1 e2
      obtain ⟨ks, hks⟩ : ∃ ks, keptOf u ps zs = ks := ⟨_, rfl⟩
      rw [hks] at hR hle ⊢
      have HKS : Hid (keptOf u ps zs = ks) := hks
      clear hks
      have hdr : ((ps.map some ++ rest).drop ks.length).drop (n - ks.length) = rest := by
        rw [List.drop_drop, show ks.length + (n - ks.length) = (ps.map (some : Nat → Option Nat)).length by simp; omega, List.drop_left]
      by_cases hjn : ks.length = n
      · have hclr := clear_none
        rw [hjn] at hR hdr ⊢
        rw [Nat.sub_self, List.drop_zero] at hdr
        rw [hdr] at hR
        go_wp2_with fail
        all_goals (
          go_ret
          refine ⟨by rw [HKS.out, hjn]; rfl, hK, ?_⟩
          rw [HKS.out, hjn, Nat.sub_self]
          simpa using hR)
      · have hne : ¬ cap = ks.length := by omega
        have hsm := Row.setMany (g := g) (n - ks.length) ks.length _ W hR
        have hsn := setN_eq (n - ks.length) (ks.map some) ((ps.map some ++ rest).drop ks.length) (by simp; omega)
        rw [List.length_map, hdr] at hsn
        rw [hsn] at hsm
        have hclr := clear_some W g ks.length (n - ks.length) (cap - ks.length) _ hR (by omega) (by simp; omega)
        have HSM : Hid _ := hsm
        clear hsm hsn hdr hR
        go_wp2_with fail
        go_ret
        refine ⟨by rw [HKS.out]; rfl, hK.trans HSM.out.2, ?_⟩
        rw [HKS.out]
        exact HSM.out.1
end Go.Proofs.Qxb6612910a
