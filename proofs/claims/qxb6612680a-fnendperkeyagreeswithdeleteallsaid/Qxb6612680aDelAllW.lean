import Derived.Test.Qxb6612680aDelAll
namespace Go.Proofs.Qxb6612680a
open Go.RowKit Go.MuLone

/-- Where 'DeleteAll''s loop stands. -/
structure DelRel (sb bm r n N0 : Nat) (idle age : Int) (name : ByteArray) (D : DataW Unit) (g : Lit → Option (ByteArray × Nat × Nat)) (w wr : World) (left : Lit → Bool) (cnt : Nat) (D' : DataW Unit) : Prop where
  ranges : wr.ranges Try.prog 79 ptrElem bm r n D' left cnt
  has : ∀ k, Maps.has D' k = (Maps.has D k && (left k || !nmB g name k))
  at_ : ∀ k, Maps.has D' k = true → D'.atKey k .nil = D.atKey k .nil
  chan : ∀ k u eb ch, g k = some (u, eb, ch) → (left k = true ∨ (u.toList == name.toList) = false) → wr.heap[ch]? = some (.chan 0 #[] false 0 0 false)
  kept : Kept (DelX sb bm g name) w wr
  store : wr.heap[sb]? = some (.cells (storeCells1 idle age bm) 78)

section
variable {sb bm n N0 : Nat} {idle age : Int} {name : ByteArray} {D : DataW Unit} {g : Lit → Option (ByteArray × Nat × Nat)} {w wr : World} {left : Lit → Bool} {cnt : Nat} {D' : DataW Unit}

/-- The session at a key that is still to come. -/
theorem DelRel.at_key (h : DelRel sb bm w.heap.size n N0 idle age name D g w wr left cnt D') (he : EntsOk N0 D g w) {kl : Lit} (hl : left kl = true) {eb : Nat} (heb : D'.atKey kl .nil = .lit (.int .i64 eb)) :
    ∃ u ch, g kl = some (u, eb, ch) := by
  have h1 := left_has h.ranges hl
  have h2 := h.at_ kl h1
  have h3 := h.has kl
  rw [h1] at h3
  have h4 : (g kl).isSome = true := by
    rw [← he.has kl]
    cases h5 : Maps.has D kl
    · rw [h5] at h3; simp at h3
    · rfl
  obtain ⟨⟨u, eb', ch⟩, hgk⟩ := Option.isSome_iff_exists.1 h4
  have h6 := he.at_ kl u eb' ch hgk
  rw [← h2, heb] at h6
  injection h6 with h6
  injection h6 with _ h6
  have : eb = eb' := by omega
  subst this
  exact ⟨u, ch, hgk⟩

/-- What was there, and is none of the blocks that may turn, is there behind the step. -/
theorem DelRel.mid (h : DelRel sb bm w.heap.size n N0 idle age name D g w wr left cnt D') {w1 : World} (hg1 : wr.grownBy w1 (some w.heap.size)) :
    (∀ k, k < w.heap.size → ¬ DelX sb bm g name k → w1.heap[k]? = w.heap[k]?) ∧ (∀ k, k < w.heap.size → w1.heap[k]? = wr.heap[k]?) := by
  have hz := h.kept.size
  have h2 : ∀ k, k < w.heap.size → w1.heap[k]? = wr.heap[k]? := fun k hk => hg1.block k (by omega) (fun e => by injection e with e; omega)
  exact ⟨fun k hk hx => (h2 k hk).trans (h.kept.block k hk hx), h2⟩

theorem not_x_entry (he : EntsOk N0 D g w) (hs : w.heap[sb]? = some (.cells (storeCells idle age bm) 78)) (hm : w.ownsMap Try.prog 79 ptrElem bm n D) {k : Lit} {u : ByteArray} {eb ch : Nat} (hgk : g k = some (u, eb, ch)) : ¬ DelX sb bm g name eb := by
  have h0 := he.entry k u eb ch hgk
  rintro (e | e | ⟨k', u', eb', hg', _⟩)
  · rw [e, hs] at h0
    exact absurd (Obj.cells.inj (Option.some.inj h0)).2.1 (by decide)
  · obtain ⟨es, clock, hb, _⟩ := hm
    rw [e, hb] at h0; cases h0
  · rw [he.chan k' u' eb' eb hg'] at h0; cases h0

theorem DelRel.stay (h : DelRel sb bm w.heap.size n N0 idle age name D g w wr left cnt D') (hs : w.heap[sb]? = some (.cells (storeCells idle age bm) 78)) {w1 : World} (hg1 : wr.grownBy w1 (some w.heap.size)) {kl : Lit} (hkl : WideAt.IsKeyLit kl) {cnt1 : Nat}
    (hrg1 : w1.ranges Try.prog 79 ptrElem bm w.heap.size n D' (fun z => left z && !z.sameKey kl) cnt1) (hl : left kl = true) {u : ByteArray} {eb ch : Nat} (hgk : g kl = some (u, eb, ch)) (hn : (u.toList == name.toList) = false) (he : EntsOk N0 D g w) (o : Obj) :
    DelRel sb bm w.heap.size n N0 idle age name D g w (w1.alloc o) (fun z => left z && !z.sameKey kl) cnt1 D' := by
  obtain ⟨m1, m2⟩ := h.mid hg1
  have hz := h.kept.size
  have hz1 := hg1.size
  have al : ∀ k, k < w.heap.size → (w1.alloc o).heap[k]? = w1.heap[k]? := fun k hk => Below.heap_alloc _ _ _ (by omega)
  have l1 : sb < w.heap.size := (Array.getElem?_eq_some_iff.1 hs).1
  have hnm : nmB g name kl = false := by simp [nmB, hgk, hn]
  refine ⟨hrg1.alloc o, fun k => ?_, h.at_, fun k u' eb' ch' hg' hor => ?_, ⟨hg1.os.trans h.kept.os, hg1.tape.trans h.kept.tape, hg1.output.trans h.kept.output, by simp; omega, fun k hk hx => (al k hk).trans (m1 k hk hx)⟩, (al sb l1).trans ((m2 sb l1).trans h.store)⟩
  · rw [h.has k]
    by_cases e : k = kl
    · subst e
      rw [hl, hnm, WideAt.sameKey_self hkl]; simp
    · rw [Maps.sameKey_ne e]; simp
  · have hc := he.chan k u' eb' ch' hg'
    have hlt : ch' < w.heap.size := (Array.getElem?_eq_some_iff.1 hc).1
    rw [al ch' hlt, m2 ch' hlt]
    refine h.chan k u' eb' ch' hg' ?_
    rcases hor with hor | hor
    · left; simp at hor; exact hor.1
    · exact .inr hor

theorem DelRel.struck (h : DelRel sb bm w.heap.size n N0 idle age name D g w wr left cnt D') (hs : w.heap[sb]? = some (.cells (storeCells idle age bm) 78)) (hm : w.ownsMap Try.prog 79 ptrElem bm n D) {w1 : World} (hg1 : wr.grownBy w1 (some w.heap.size)) {kl : Lit} {cs : List Value} (hkey : keyOf Try.prog 79 (.agg cs.toArray) = some kl) {cnt1 : Nat}
    (hrg1 : w1.ranges Try.prog 79 ptrElem bm w.heap.size n D' (fun z => left z && !z.sameKey kl) cnt1) (hl : left kl = true) {u : ByteArray} {eb ch : Nat} (hgk : g kl = some (u, eb, ch)) (hn : (u.toList == name.toList) = true) (he : EntsOk N0 D g w) (o : Obj) :
    ∃ cnt2, cnt2 ≤ cnt1 ∧ DelRel sb bm w.heap.size n N0 idle age name D g w (endW Try.prog (w1.alloc o) bm ch cs) (fun z => left z && !z.sameKey kl) cnt2 (D'.del kl) := by
  obtain ⟨m1, m2⟩ := h.mid hg1
  have hz := h.kept.size
  have hz1 := hg1.size
  have hkl := klaw.key hkey
  have al : ∀ k, k < w.heap.size → (w1.alloc o).heap[k]? = w1.heap[k]? := fun k hk => Below.heap_alloc _ _ _ (by omega)
  have l1 : sb < w.heap.size := (Array.getElem?_eq_some_iff.1 hs).1
  have l2 := hm.lt
  have hc := he.chan kl u eb ch hgk
  have l3 : ch < w.heap.size := (Array.getElem?_eq_some_iff.1 hc).1
  have hne1 : sb ≠ ch := fun e => by rw [e, hc] at hs; cases hs
  have hne2 : bm ≠ sb := fun e => by
    obtain ⟨es, clock, hb, _⟩ := hm
    rw [e, hs] at hb; cases hb
  have hc1 : (w1.alloc o).heap[ch]? = some (.chan 0 #[] false 0 0 false) := (al ch l3).trans ((m2 ch l3).trans (h.chan kl u eb ch hgk (.inl hl)))
  obtain ⟨cnt2, hr2, hle, hk2⟩ := end_ranges (hrg1.alloc o) hkey hc1
  rw [Maps.strike_twice] at hr2
  have hzo : (w1.alloc o).heap.size = w1.heap.size + 1 := by simp
  have hnm : nmB g name kl = true := by simp [nmB, hgk, hn]
  refine ⟨cnt2, hle, hr2, fun k => ?_, fun k hk => ?_, fun k u' eb' ch' hg' hor => ?_, ⟨hk2.os.trans (hg1.os.trans h.kept.os), hk2.tape.trans (hg1.tape.trans h.kept.tape), hk2.output.trans (hg1.output.trans h.kept.output), by have := hk2.size; omega, fun k hk hx => ?_⟩, ?_⟩
  · by_cases e : k = kl
    · subst e
      rw [Maps.has_del_same, hnm, WideAt.sameKey_self hkl]; simp
    · rw [Maps.has_del_other e, h.has k, Maps.sameKey_ne e]; simp
  · by_cases e : k = kl
    · subst e; rw [Maps.has_del_same] at hk; cases hk
    · rw [Maps.has_del_other e] at hk
      rw [Maps.atKey_del_other e]
      exact h.at_ k hk
  · have hc' := he.chan k u' eb' ch' hg'
    have hlt : ch' < w.heap.size := (Array.getElem?_eq_some_iff.1 hc').1
    have hkk : k ≠ kl := fun e => by
      subst e
      rw [hgk] at hg'
      injection hg' with hg'
      rcases hor with hor | hor
      · simp [WideAt.sameKey_self hkl] at hor
      · have : u = u' := congrArg Prod.fst hg'
        rw [← this, hn] at hor; cases hor
    have hcc : ch' ≠ ch := fun e => by
      subst e
      exact hkk (he.inj k kl u' eb' ch' u eb hg' hgk)
    rw [hk2.block ch' (by omega) (fun h => h.elim (fun e => by obtain ⟨es, clock, hb, _⟩ := hm; rw [e, hb] at hc'; cases hc') hcc), al ch' hlt, m2 ch' hlt]
    refine h.chan k u' eb' ch' hg' ?_
    rcases hor with hor | hor
    · left; simp at hor; exact hor.1
    · exact .inr hor
  · rw [hk2.block k (by omega) (fun h => h.elim (fun e => hx (.inr (.inl e))) (fun e => hx (.inr (.inr ⟨kl, u, eb, by rw [e]; exact hgk, hn⟩)))), al k hk]
    exact m1 k hk hx
  · rw [hk2.block sb (by omega) (fun h => h.elim (fun e => hne2 e.symm) hne1), al sb l1, m2 sb l1]
    exact h.store
end

set_option maxRecDepth 100000 in
set_option maxHeartbeats 2000000 in
theorem delAll_any (sb bm n N0 : Nat) (idle age : Int) (name : ByteArray) (D : DataW Unit) (g : Lit → Option (ByteArray × Nat × Nat)) (w : World)
    (hs : w.heap[sb]? = some (.cells (storeCells idle age bm) 78)) (hm : w.ownsMap Try.prog 79 ptrElem bm n D) (he : EntsOk N0 D g w) :
    Calls Try.prog 19 #[.pointer (some ⟨sb, 0, none⟩), .string name] w fun e w' => e = .returned (.tuple #[]) ∧ Kept (DelX sb bm g name) w w' ∧ w'.heap[sb]? = some (.cells (storeCells idle age bm) 78) ∧
      ∃ D', w'.ownsMap Try.prog 79 ptrElem bm n D' ∧ (∀ k, Maps.has D' k = (Maps.has D k && !nmB g name k)) ∧ ∀ k, Maps.has D' k = true → D'.atKey k .nil = D.atKey k .nil := by
  have c4 : w.cell? ⟨sb, 4, none⟩ = some (.int .i32 0) := by simp [World.cell?, hs, storeCells]
  have f4 : w.frozen? ⟨sb, 4, none⟩ = false := by simp [World.frozen?, hs]
  have hne : bm ≠ sb := fun e => by
    obtain ⟨es, clock, hb, _⟩ := hm
    rw [e, hs] at hb; cases hb
  have hm1 := hm.setCell (a := ⟨sb, 4, none⟩) hne (.int .i32 1)
  have hs1 : (w.setCell ⟨sb, 4, none⟩ (.int .i32 1)).heap[sb]? = some (.cells (storeCells1 idle age bm) 78) := heap_setCell_same w sb 4 _ 78 _ hs
  have c7 : (w.setCell ⟨sb, 4, none⟩ (.int .i32 1)).cell? ⟨sb, 7, none⟩ = some (.map (some bm)) := by simp [World.cell?, hs1, storeCells1]
  go_enter_defers Try.func19, Try.ntmps19
  go_wp2_with (first
    | (go_at_call 28; refine (lock_free Try.muLib ⟨sb, 4, none⟩ _ c4 f4).mono ?_; rintro e w' ⟨rfl, rfl⟩)
    | (at_range; refine wpList_range_own _ rfl _ 76 rfl 79 32 klaw Try.underlying76 _ bm n _ rfl hm1 ?_; intro w0 hrg0 hg0 hs0))
  go_frame
  have hsz0 : (w.setCell ⟨sb, 4, none⟩ (.int .i32 1)).heap.size = w.heap.size := by simp
  rw [hsz0] at hrg0 hs0
  simp only [World.size_setCell]
  have HR0 : Hid (DelRel sb bm w.heap.size n N0 idle age name D g w w0 (Maps.has D) (Maps.size D) D) := by
    have l1 : sb < w.heap.size := (Array.getElem?_eq_some_iff.1 hs).1
    have kk : ∀ k, k < w.heap.size → k ≠ sb → w0.heap[k]? = w.heap[k]? := fun k hk hks =>
      (hg0.block k (by rw [hsz0]; exact hk) (by simp)).trans (Below.heap_setCell _ _ _ _ hks)
    refine ⟨hrg0, fun k => by cases Maps.has D k <;> simp, fun k _ => rfl, fun k u eb ch hgk _ => ?_, ⟨hg0.os, hg0.tape, hg0.output, by omega, fun k hk hx => kk k hk (fun e => hx (.inl e))⟩, (hg0.block sb (by rw [hsz0]; exact l1) (by simp)).trans hs1⟩
    have hc := he.chan k u eb ch hgk
    rw [kk ch (Array.getElem?_eq_some_iff.1 hc).1 (fun e => by rw [e, hs] at hc; cases hc)]
    exact hc
  clear hrg0 hg0 hs0 hm1
  go_loopw [5] (fun _ wr => ∃ left cnt D', DelRel sb bm w.heap.size n N0 idle age name D g w wr left cnt D') (fun _ wr => wr.rangeLeft bm w.heap.size)
  case atStart => exact ⟨_, _, _, HR0.out⟩
  case round =>
    obtain ⟨left, cnt, D', hR⟩ := hrel
    have HP : Hid (∀ kl, left kl = true → ∃ eb : Nat, D'.atKey kl .nil = .lit (.int .i64 eb)) := fun kl hl => by
      have h1 := left_has hR.ranges hl
      have h2 := hR.at_ kl h1
      have h3 := hR.has kl
      rw [h1] at h3
      have h4 : (g kl).isSome = true := by
        rw [← he.has kl]
        cases h5 : Maps.has D kl
        · rw [h5] at h3; simp at h3
        · rfl
      obtain ⟨⟨u, eb, ch⟩, hgk⟩ := Option.isSome_iff_exists.1 h4
      exact ⟨eb, by rw [h2]; exact he.at_ kl u eb ch hgk⟩
    go_wp2_with (first
      | (at_next; refine wpList_next_ent _ rfl _ rfl bm w.heap.size n D' left cnt rfl hR.ranges HP.out ?_ ?_))
    · intro hl0
      have d4 : wr.cell? ⟨sb, 4, none⟩ = some (.int .i32 1) := by simp [World.cell?, hR.store, storeCells1]
      have g4 : wr.frozen? ⟨sb, 4, none⟩ = false := by simp [World.frozen?, hR.store]
      go_wp2_with fail
      refine leaves_cons (f := 29) (args := #[.pointer (some ⟨sb, 4, none⟩)]) (by simp) (by simp [go_sem]) ?_
      refine (unlock_deferred Try.muLib ⟨sb, 4, none⟩ .returning _ d4 g4).mono ?_
      rintro e u' w'' ⟨rfl, rfl, rfl⟩
      have hsb := heap_setCell_same wr sb 4 _ 78 (.int .i32 0) hR.store
      have hk2 : Kept (DelX sb bm g name) w (wr.setCell ⟨sb, 4, none⟩ (.int .i32 0)) :=
        ⟨hR.kept.os, hR.kept.tape, hR.kept.output, by simpa using hR.kept.size, fun k hk hx => (Below.heap_setCell _ _ _ _ (fun e => hx (.inl e))).trans (hR.kept.block k hk hx)⟩
      refine ⟨_, results_none rfl _ _ _, rfl, hk2, hsb, D', hR.ranges.owns.setCell hne _, fun k => ?_, hR.at_⟩
      rw [hR.has k, hl0 k]; simp
    · intro cs eb kl w1 cnt1 hcs hkey hlk heb hrg1 hlt hg1 hs1' hen
      clear hs1'
      obtain ⟨u, ch, hgk⟩ := hR.at_key he hlk heb
      obtain ⟨m1, m2⟩ := hR.mid hg1
      have l5 : eb < w.heap.size := (Array.getElem?_eq_some_iff.1 (he.entry kl u eb ch hgk)).1
      have hz := hR.kept.size
      have hz1 := hg1.size
      have l6 : eb < w1.heap.size := by omega
      have e0 : w1.heap[eb]? = some (.cells (entryCells u 0 0 ch) 66) := (m1 eb l5 (not_x_entry he hs hm hgk)).trans (he.entry kl u eb ch hgk)
      have e1 : (w1.alloc (.cells cs.toArray 79)).cell? ⟨eb, 0, none⟩ = some (.string u) := by
        rw [World.cell?_alloc_lt _ _ _ l6]; simp [World.cell?, e0, entryCells]
      have hi79 : (Try.prog.info? 79).map (·.size) = some cs.toArray.size := by rw [List.size_toArray, hcs]; exact info79
      have hi79' : (Try.prog.info? 79).map (·.size) = some cs.length := by rw [hcs]; exact info79
      have hone := key_cells hkey
      have rr := range_new w1 cs 79
      have HK : Hid _ := hkey
      have HA : Hid _ := heb
      have HL : Hid _ := hlk
      have HG : Hid _ := hgk
      clear hkey heb hlk hgk m1 m2 e0
      rcases Bool.eq_false_or_eq_true (u.toList == name.toList) with hn | hn
      · go_wp2_with (first | (refine wpList_store_new w1 rfl 79 _ _ rfl _ cs.toArray rfl rfl hi79 (by simp [hcs]) hone ?_) | (refine wpList_load_mid rfl 79 _ rfl w1.heap.size 0 rfl cs _ rr Try.underlying79 rfl hi79' ?_))
        have l1 : sb < w.heap.size := (Array.getElem?_eq_some_iff.1 hs).1
        have l3 : ch < w.heap.size := (Array.getElem?_eq_some_iff.1 (he.chan kl u eb ch HG.out)).1
        have x7 : (w1.alloc (.cells cs.toArray 79)).cell? ⟨sb, 7, none⟩ = some (.map (some bm)) := by
          rw [World.cell?_alloc_lt _ _ _ (show sb < w1.heap.size by omega)]
          simp [World.cell?, (hR.mid hg1).2 sb l1, hR.store, storeCells1]
        have xe : (w1.alloc (.cells cs.toArray 79)).heap[eb]? = some (.cells (entryCells u 0 0 ch) 66) := (Below.heap_alloc _ _ _ l6).trans (((hR.mid hg1).1 eb l5 (not_x_entry he hs hm HG.out)).trans (he.entry kl u eb ch HG.out))
        have xc : (w1.alloc (.cells cs.toArray 79)).heap[ch]? = some (.chan 0 #[] false 0 0 false) := (Below.heap_alloc _ _ _ (by omega)).trans (((hR.mid hg1).2 ch l3).trans (hR.chan kl u eb ch HG.out (.inl HL.out)))
        refine (end_raw sb bm n eb ch 0 0 u cs kl D' _ x7 (hrg1.alloc _).owns hcs HK.out (left_has hR.ranges HL.out) HA.out xe xc).mono ?_
        rintro e w2 ⟨rfl, hw2⟩
        obtain ⟨cnt2, hle, hR2⟩ := hR.struck hs hm hg1 HK.out hrg1 HL.out HG.out hn he (.cells cs.toArray 79)
        rw [← hw2] at hR2
        clear hw2 x7 xe xc
        have HR2 : Hid _ := hR2
        go_wp2_with fail
        exact ⟨⟨_, _, _, HR2.out⟩, by rw [HR2.out.ranges.left_eq, hR.ranges.left_eq]; omega⟩
      · go_wp2_with (first | (refine wpList_store_new w1 rfl 79 _ _ rfl _ cs.toArray rfl rfl hi79 (by simp [hcs]) hone ?_))
        have hR2 := hR.stay hs hg1 (klaw.key HK.out) hrg1 HL.out HG.out hn he (.cells cs.toArray 79)
        exact ⟨⟨_, _, _, hR2⟩, by rw [hR2.ranges.left_eq, hR.ranges.left_eq]; exact hlt⟩
end Go.Proofs.Qxb6612680a
