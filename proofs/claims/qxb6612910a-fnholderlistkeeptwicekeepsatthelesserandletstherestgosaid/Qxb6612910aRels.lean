import Derived.Test.Qxb6612910aLook
namespace Go.Proofs.Qxb6612910a
open Go.RowKit

theorem Row.set {W : World} {g : Nat} {xs : List (Option Nat)} (h : Row W g xs) (i : Nat) (x : Option Nat) : Row (W.setCell ⟨g, i, none⟩ (pv x)) g (xs.set i x) := by
  refine ⟨?_⟩
  rw [heap_setCell_same W g i _ 76 _ h.row]
  congr 1
  simp [List.map_set]

theorem nils_eq (n : Nat) : madeCells #[.pointer none] n = ((List.replicate n (none : Option Nat)).map pv).toArray := by
  apply Array.ext
  · simp [madeCells]
  · intro i h1 h2
    simp [madeCells, pv, Nat.mod_one]
/-- The cells that 'make([]*T, n)' lays. -/
def nilRow (n : Nat) : Array Value := ((List.replicate n (none : Option Nat)).map pv).toArray
theorem mk_run (n : Nat) (hn : n ≤ 65536) (W : World) : (Instr.makeSlice 47 (.int .i64 n) (.int .i64 n)).run Try.prog W = .ok (.slice (some ⟨W.heap.size, 0, none⟩) n n) (W.alloc (.cells (nilRow n) 76)) := by
  have hz : (Try.prog.info? 76).map (fun i => (i.zero, i.size, i.bytes)) = some (some (.pointer none), 1, 8) := by kernel_rfl
  obtain ⟨i, hi, hz0, hz1, hz2⟩ := info_parts hz
  have := run_make (P := Try.prog) W 47 76 i (.pointer none) Try.underlying47 hi hz0 .i64 .i64 n n (by omega) (Int.le_refl _) (by rw [hz2]; omega) (by omega)
  unfold nilRow
  rw [this, hz1, ← nils_eq]
  simp [Value.cells]

/-- Block ps[j] bears the time zs[j]. -/
def RelsAt (W : World) (ps : List Nat) (zs : List Int) : Prop := ∀ (j p : Nat) (z : Int), ps[j]? = some p → zs[j]? = some z → W.heap[p]? = some (.cells (relCells z) 89)
theorem RelsAt.kept {W W' : World} {ps : List Nat} {zs : List Int} (h : RelsAt W ps zs) {X : Nat → Prop} (k : Kept X W W') (hx : ∀ p ∈ ps, ¬ X p) : RelsAt W' ps zs := fun j p z hp hz => by
  have h1 := h j p z hp hz
  exact (k.block p (Array.getElem?_eq_some_iff.1 h1).1 (hx p (List.mem_of_getElem? hp))).trans h1
theorem Kept.set {X : Nat → Prop} {a b : World} (h : Kept X a b) {g : Nat} (hg : X g ∨ a.heap.size ≤ g) (i : Nat) (v : Value) : Kept X a (b.setCell ⟨g, i, none⟩ v) :=
  ⟨h.os, h.tape, h.output, Nat.le_trans h.size (by simp [World.setCell]), fun k hk hx => by
    have hne : k ≠ g := fun e => by
      rcases hg with hg | hg
      · exact hx (by rw [e]; exact hg)
      · omega
    rw [Below.heap_setCell _ _ _ _ (fun e => hne e)]
    exact h.block k hk hx⟩

theorem RelsAt.push {W : World} {ps : List Nat} {zs : List Int} {z : Int} (h : RelsAt W ps zs) (hz : zs[ps.length]? = some z) : RelsAt (W.alloc (.cells (relCells z) 89)) (ps ++ [W.heap.size]) zs := fun j p z' hp hz' => by
  rcases Nat.lt_or_ge j ps.length with hj | hj
  · rw [List.getElem?_append_left hj] at hp
    have h1 := h j p z' hp hz'
    rw [Below.heap_alloc _ _ _ (Array.getElem?_eq_some_iff.1 h1).1]
    exact h1
  · have hj0 : j = ps.length := by
      have := (List.getElem?_eq_some_iff.1 hp).1
      simp at this; omega
    subst hj0
    simp at hp
    subst hp
    rw [hz] at hz'
    cases hz'
    exact heap_alloc_last W _

theorem set_mid (ps : List Nat) (m i : Nat) (p : Nat) (h : ps.length = i) : (ps.map some ++ List.replicate (m + 1) (none : Option Nat)).set i (some p) = (ps ++ [p]).map some ++ List.replicate m none := by
  subst h
  rw [List.set_append_right _ _ (by simp)]
  simp [List.replicate_succ]

set_option maxRecDepth 100000 in
theorem rels_any (a : Option Addr) (n c : Nat) (zs : List Int) (w : World) (hn : n ≤ 65536) (hZ : IntsAt w a n zs) : Calls Try.prog 15 #[.slice a n c] w fun e w' => e = .returned (.slice (some ⟨w.heap.size, 0, none⟩) n n) ∧ ∃ ps : List Nat, ps.length = n ∧ (∀ p ∈ ps, w.heap.size < p) ∧ Row w' w.heap.size (ps.map some) ∧ RelsAt w' ps zs ∧ Below w.heap.size w w' := by
  have HZ : Hid (IntsAt w a n zs) := hZ
  clear hZ
  have hmk := mk_run n hn
  go_enter Try.func15, Try.ntmps15
  go_wp2_with fail
  go_loopw [4] (fun i W => ∃ (k : Nat) (ps : List Nat), k ≤ n ∧ i = .int .i64 k ∧ ps.length = k ∧ Hid (∀ p ∈ ps, w.heap.size < p) ∧ Row W w.heap.size (ps.map some ++ List.replicate (n - k) none) ∧ Hid (RelsAt W ps zs) ∧ Below w.heap.size w W) (fun i _ => n - (intOf i).toNat)
  case atStart => exact ⟨0, [], Nat.zero_le _, rfl, rfl, fun p hp => by simp at hp, ⟨by simpa [nilRow] using heap_alloc_last w (.cells (nilRow n) 76)⟩, fun j p z hp => by simp at hp, (Below.refl _ w).alloc (Nat.le_refl _) _⟩
  case round =>
    rename World => W
    obtain ⟨k, ps, hk, rfl, hl, HP, hR, HR, hB⟩ := hrel
    clear hmk
    by_cases hlt : k < n
    · obtain ⟨b, o, z, rfl, hb, hcell, hget⟩ := HZ.out.get hlt
      have hc1 : W.cell? ⟨b, o + k, none⟩ = some (.int .i64 z) := by rw [hB.cell (p := ⟨b, o + k, none⟩) hb]; exact hcell
      have HG : Hid _ := hget
      clear hget hcell
      have hR2 : Row (W.alloc (.cells (relCells z) 89)) w.heap.size (ps.map some ++ List.replicate (n - k) none) := hR.below ((Below.refl _ W).alloc (Nat.le_refl _) _)
      have hix : (ps.map some ++ List.replicate (n - k) (none : Option Nat))[k]? = some none := by
        rw [List.getElem?_append_right (by simp; omega), List.getElem?_replicate, if_pos (by simp; omega)]
      obtain ⟨cx, fx⟩ := hR2.cell hix
      clear hix
      go_wp2_with (go_at_call 35; refine (newRel_any z _).mono ?_; rintro e w' ⟨rfl, rfl⟩)
      have hk1 : Kept (fun i => i = w.heap.size) (W.alloc (.cells (relCells z) 89)) ((W.alloc (.cells (relCells z) 89)).setCell ⟨w.heap.size, k, none⟩ (pv (some W.heap.size))) := Kept.set (Kept.refl (fun i => i = w.heap.size) _) (.inl rfl) _ _
      have hlt2 : w.heap.size < W.heap.size := hR.lt
      refine ⟨⟨k + 1, ps ++ [W.heap.size], by omega, by go_num, by simp [hl], fun p hp => ?_, ?_, (HR.out.push (by rw [hl]; exact HG.out)).kept hk1 (fun p hp => ?_), (hB.alloc hB.size _).setCell (Nat.le_refl _) _⟩, by simp [intOf]; omega⟩
      · rcases List.mem_append.1 hp with h | h
        · exact HP.out p h
        · simp at h; omega
      · have h2 := hR2.set k (some W.heap.size)
        rw [show n - k = (n - (k + 1)) + 1 by omega, set_mid ps _ k _ hl] at h2
        exact h2
      · rcases List.mem_append.1 hp with h | h
        · have := HP.out p h; omega
        · simp at h; omega
    · have hkn : k = n := by omega
      have HL : Hid (ps.length = n) := by show _ = _; omega
      have hR' : Row W w.heap.size (ps.map some) := by rw [hkn] at hR; simpa using hR
      clear hR hl hkn
      go_wp2
      go_ret
      exact ⟨rfl, ps, HL.out, HP.out, hR', HR.out, hB⟩
end Go.Proofs.Qxb6612910a
