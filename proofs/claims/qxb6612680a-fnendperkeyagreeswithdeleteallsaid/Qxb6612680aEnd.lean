import Derived.Test.Qxb6612680aEndOf
import Derived.Conc.LoneSelect
namespace Go.Proofs.Qxb6612680a
open Go.RowKit
open Go.ChangeMaps (setBlock heap_setBlock_same heap_setBlock_other)

/-- What a delete leaves. -/
def delW (P : Program) (w : World) (bm : Nat) (key : Value) : World :=
  match (Builtin.delete_ #[76, 79] 0 #[.map (some bm), key]).run P w with
  | .ok _ w' => w'
  | .halt _ w' => w'
theorem del_run {w : World} {bm : Nat} (h : MapOk w bm) {key : Value} {kl : Lit} (hk : keyOf Try.prog 79 key = some kl) :
    ∃ es clock, (∀ ty, (Builtin.delete_ #[76, 79] ty #[.map (some bm), key]).run Try.prog w = .ok (.tuple #[]) (setBlock w bm (.map es clock))) ∧ ∀ e ∈ es.toList, ∃ l, keyOf Try.prog 79 e.key = some l := by
  obtain ⟨es, clock, hb, hkeys⟩ := h
  rcases klaw.find w hk es.toList hkeys with ⟨h1, h2⟩ | ⟨j, e0, h1, h2, h3⟩
  · refine ⟨es, clock, fun ty => ?_, hkeys⟩
    simp [Builtin.delete_, run_underlying Try.underlying76, MapKept.run_getObj_map hb, klaw.check w _ hk, h1, MapKept.run_setObj_map _ hb, Result.andThen, setBlock]
  · refine ⟨es.eraseIdxIfInBounds j, clock, fun ty => ?_, ?_⟩
    · simp [Builtin.delete_, run_underlying Try.underlying76, MapKept.run_getObj_map hb, klaw.check w _ hk, h1, MapKept.run_setObj_map _ hb, Result.andThen, setBlock]
    · intro x hx
      refine hkeys x ?_
      rw [Array.eraseIdxIfInBounds] at hx
      split at hx
      · rw [Array.toList_eraseIdx] at hx
        exact List.mem_of_mem_eraseIdx hx
      · exact hx
theorem del_eq {w : World} {bm : Nat} (h : MapOk w bm) {key : Value} {kl : Lit} (hk : keyOf Try.prog 79 key = some kl) (ty : TypeId) :
    (Builtin.delete_ #[76, 79] ty #[.map (some bm), key]).run Try.prog w = .ok (.tuple #[]) (delW Try.prog w bm key) := by
  obtain ⟨es, clock, h1, _⟩ := del_run h hk
  unfold delW
  rw [h1 ty, h1 0]
theorem del_ok {w : World} {bm : Nat} (h : MapOk w bm) {key : Value} {kl : Lit} (hk : keyOf Try.prog 79 key = some kl) :
    MapOk (delW Try.prog w bm key) bm ∧ Kept (fun i => i = bm) w (delW Try.prog w bm key) := by
  obtain ⟨es, clock, h1, h2⟩ := del_run h hk
  obtain ⟨es0, clock0, hb, _⟩ := h
  unfold delW
  rw [h1 0]
  exact ⟨⟨es, clock, heap_setBlock_same hb _, h2⟩, rfl, rfl, rfl, by simp [setBlock], fun k _ hk => heap_setBlock_other hb _ hk⟩
set_option maxRecDepth 100000 in
theorem del_owns {w : World} {bm n : Nat} {D : DataW Unit} (h : w.ownsMap Try.prog 79 ptrElem bm n D) {key : Value} {kl : Lit} (hk : keyOf Try.prog 79 key = some kl) :
    (delW Try.prog w bm key).ownsMap Try.prog 79 ptrElem bm n (D.del kl) := by
  obtain ⟨w', h1, h2, _⟩ := h.drop klaw Try.underlying76 hk 0
  have := del_eq (MapOk.of_owns h) hk 0
  have e := h1.symm.trans this
  injection e with _ e
  rw [← e]
  exact h2
set_option maxRecDepth 100000 in
theorem PutCore.del {sb bm N : Nat} {cs : List Value} {w : World} {kl : Lit} (h : PutCore sb bm N cs w) (hc : 0 < cs.length) (h1 : bm ≠ sb) (h2 : bm ≠ N) {key : Value} (hk : keyOf Try.prog 79 key = some kl) : PutCore sb bm N cs (delW Try.prog w bm key) := by
  obtain ⟨m, k⟩ := del_ok h.map hk
  have k2 := k.block N (rangeAt_lt h.box hc) (fun e => h2 e.symm)
  have k1 := k.block sb (World.block_lt_of_cell? w _ h.store) (fun e => h1 e.symm)
  exact ⟨by rw [World.cell?_of_block (w := w) (a := ⟨sb, 7, none⟩) k1]; exact h.store, rangeAt_kept h.box k2, m⟩

/-- A channel closed. -/
def shutW (w : World) (ch : Nat) : World := setBlock w ch (.chan 0 #[] true 0 0 false)
theorem close_run {w : World} {ch : Nat} (h : w.heap[ch]? = some (.chan 0 #[] false 0 0 false)) (ts : Array TypeId) (ty : TypeId) :
    (Builtin.close_ ts ty #[.chan (some ch)]).run Try.prog w = .ok (.tuple #[]) (shutW w ch) := by
  exact run_close_open ts ty h
theorem shut_kept {w : World} {ch : Nat} (h : w.heap[ch]? = some (.chan 0 #[] false 0 0 false)) : Kept (fun i => i = ch) w (shutW w ch) ∧ (shutW w ch).heap[ch]? = some (.chan 0 #[] true 0 0 false) := by
  have hlt : ch < w.heap.size := (Array.getElem?_eq_some_iff.1 h).1
  exact ⟨⟨rfl, rfl, rfl, by simp [shutW, setBlock], fun k _ hk => by simp [shutW, setBlock, Array.getElem?_setIfInBounds_ne (Ne.symm hk)]⟩, by simp [shutW, setBlock, hlt]⟩

theorem start79 {sb bm n : Nat} {idle age : Int} {cs : List Value} {D : DataW Unit} {w : World} (hs : w.heap[sb]? = some (.cells (storeCells idle age bm) 78))
    (hm : w.ownsMap Try.prog 79 ptrElem bm n D) : PutCore sb bm w.heap.size cs (w.alloc (.cells cs.toArray 79)) :=
  ⟨by rw [World.cell?_alloc_lt _ _ _ (Array.getElem?_eq_some_iff.1 hs).1]; exact storeCell hs, range_new w cs 79, (MapOk.of_owns hm).kept (Below.heap_alloc _ _ _ hm.lt)⟩
theorem PutCore.at {sb bm N : Nat} {cs : List Value} {w w' : World} (h : PutCore sb bm N cs w) (h1 : w'.heap[sb]? = w.heap[sb]?) (h2 : w'.heap[N]? = w.heap[N]?) (h3 : w'.heap[bm]? = w.heap[bm]?) : PutCore sb bm N cs w' :=
  ⟨by rw [World.cell?_of_block (w := w) (a := ⟨sb, 7, none⟩) h1]; exact h.store, rangeAt_kept h.box h2, h.map.kept h3⟩

set_option maxRecDepth 100000 in
set_option maxHeartbeats 1000000 in
/-- 'end' where the key is not there. -/
theorem end_none (sb bm n : Nat) (idle age : Int) (cs : List Value) (kl : Lit) (D : DataW Unit) (w : World) (hs : w.heap[sb]? = some (.cells (storeCells idle age bm) 78))
    (hm : w.ownsMap Try.prog 79 ptrElem bm n D) (hcs : cs.length = 32) (hk : keyOf Try.prog 79 (.agg cs.toArray) = some kl) (hn : Maps.has D kl = false) :
    Calls Try.prog 27 #[.pointer (some ⟨sb, 0, none⟩), .agg cs.toArray] w fun e w' => e = .returned (.tuple #[]) ∧ Below w.heap.size w w' := by
  have hst := start79 (cs := cs) hs hm
  have hl := look_at2 (w := (w.alloc (.cells cs.toArray 79)).drew) (hm.alloc (.cells cs.toArray 79)).drew hk
  rw [hn] at hl
  have hi : (Try.prog.info? 79).map (·.size) = some cs.length := by rw [hcs]; exact info79
  have hu := Try.underlying79
  go_enter Try.func27, Try.ntmps27
  go_wp2
  go_region_held3 (fun w' => w'.cell? ⟨sb, 7, none⟩ = some (.map (some bm)) ∧ w'.rangeAt w.heap.size 0 cs ∧ (Instr.lookup 76 (.map (some bm)) (.agg cs.toArray) true).run Try.prog w' = .ok (.tuple #[ptrOf (D.atKey kl .nil), .bool false]) w') (exact ⟨hst.store, (World.rangeAt_drew _ _ _ _).2 hst.box, hl⟩) (fail)
  go_wp2
  go_end0
  exact ⟨rfl, ((Below.refl _ _).alloc (Nat.le_refl _) _).drew⟩

set_option maxRecDepth 100000 in
set_option maxHeartbeats 1000000 in
/-- 'end' where the key is there. -/
theorem end_some (sb bm n eb ch : Nat) (idle age cr us : Int) (u : ByteArray) (cs : List Value) (kl : Lit) (D : DataW Unit) (w : World) (hs : w.heap[sb]? = some (.cells (storeCells idle age bm) 78))
    (hm : w.ownsMap Try.prog 79 ptrElem bm n D) (hcs : cs.length = 32) (hk : keyOf Try.prog 79 (.agg cs.toArray) = some kl) (hn : Maps.has D kl = true) (ha : D.atKey kl .nil = .lit (.int .i64 eb))
    (he : w.heap[eb]? = some (.cells (entryCells u cr us ch) 66)) (hch : w.heap[ch]? = some (.chan 0 #[] false 0 0 false)) :
    Calls Try.prog 27 #[.pointer (some ⟨sb, 0, none⟩), .agg cs.toArray] w fun e w' => e = .returned (.tuple #[]) ∧ Kept (fun i => i = bm ∨ i = ch) w w' ∧ w'.heap[ch]? = some (.chan 0 #[] true 0 0 false) ∧ w'.ownsMap Try.prog 79 ptrElem bm n (D.del kl) := by
  have hst := start79 (cs := cs) hs hm
  have hl := look_at2 (w := (w.alloc (.cells cs.toArray 79)).drew) (hm.alloc (.cells cs.toArray 79)).drew hk
  rw [hn, ha] at hl
  simp only [ptrOf, Int.toNat_natCast] at hl
  have hi : (Try.prog.info? 79).map (·.size) = some cs.length := by rw [hcs]; exact info79
  have hu := Try.underlying79
  have l1 : eb < w.heap.size := (Array.getElem?_eq_some_iff.1 he).1
  have l2 : ch < w.heap.size := (Array.getElem?_eq_some_iff.1 hch).1
  have l3 : sb < w.heap.size := (Array.getElem?_eq_some_iff.1 hs).1
  have l4 := hm.lt
  have hec : (w.alloc (.cells cs.toArray 79)).cell? ⟨eb, 13, none⟩ = some (.chan (some ch)) := by
    rw [World.cell?_alloc_lt _ _ _ l1]; simp [World.cell?, he, entryCells]
  have hch1 : (w.alloc (.cells cs.toArray 79)).drew.heap[ch]? = some (.chan 0 #[] false 0 0 false) := (Below.heap_alloc _ _ _ l2).trans hch
  have hcl := fun ts ty => close_run hch1 ts ty
  have hpos : 0 < cs.length := by omega
  have hne : bm ≠ sb := fun e => by
    obtain ⟨es, clock, hb, _⟩ := hm
    rw [e, hs] at hb; cases hb
  have hne3 : bm ≠ ch := fun e => by
    obtain ⟨es, clock, hb, _⟩ := hm
    rw [e, hch] at hb; cases hb
  have hne4 : sb ≠ ch := fun e => by rw [e, hch] at hs; cases hs
  have hne2 : bm ≠ w.heap.size := by omega
  obtain ⟨hk0, hk1⟩ := shut_kept hch1
  have hsz : (w.alloc (.cells cs.toArray 79)).drew.heap.size = w.heap.size + 1 := by simp
  have hst2 : PutCore sb bm w.heap.size cs (shutW (w.alloc (.cells cs.toArray 79)).drew ch) :=
    hst.at (hk0.block sb (by omega) hne4) (hk0.block _ (by omega) (by omega)) (hk0.block bm (by omega) hne3)
  have hst3 : PutCore sb bm w.heap.size cs (shutW (w.alloc (.cells cs.toArray 79)).drew ch).drew := hst2.kept hpos (Below.refl _ _).drew
  have hst4 := hst3.del hpos hne hne2 hk
  go_enter Try.func27, Try.ntmps27
  go_wp2
  go_region_held3 (fun w' => w'.cell? ⟨sb, 7, none⟩ = some (.map (some bm)) ∧ w'.rangeAt w.heap.size 0 cs ∧ (Instr.lookup 76 (.map (some bm)) (.agg cs.toArray) true).run Try.prog w' = .ok (.tuple #[.pointer (some ⟨eb, 0, none⟩), .bool true]) w') (exact ⟨hst.store, (World.rangeAt_drew _ _ _ _).2 hst.box, hl⟩) (fail)
  go_wp2
  go_region_held3 (fun w' => w'.cell? ⟨sb, 7, none⟩ = some (.map (some bm)) ∧ w'.rangeAt w.heap.size 0 cs ∧ ∀ ty, (Builtin.delete_ #[76, 79] ty #[.map (some bm), .agg cs.toArray]).run Try.prog w' = .ok (.tuple #[]) (delW Try.prog w' bm (.agg cs.toArray))) (first | exact ⟨hst3.store, hst3.box, fun ty => del_eq hst3.map hk ty⟩ | exact ⟨hst4.store, hst4.box, fun ty => del_eq hst4.map hk ty⟩) (fail)
  go_wp2
  go_end0
  have ho : (shutW (w.alloc (.cells cs.toArray 79)).drew ch).drew.ownsMap Try.prog 79 ptrElem bm n D := owns_below hm ((hk0.block bm (by omega) hne3).trans (Below.heap_alloc _ _ _ l4))
  obtain ⟨_, hd⟩ := del_ok hst3.map hk
  refine ⟨rfl, ?_, ?_, del_owns ho hk⟩
  · have k1 : Kept (fun _ => False) w (w.alloc (.cells cs.toArray 79)).drew := Kept.of_below ((Below.refl _ _).alloc (Nat.le_refl _) _).drew _
    exact ((k1.trans hk0).trans (Y := fun i => i = bm) ⟨hd.os, hd.tape, hd.output, hd.size, hd.block⟩).mono (by simp; omega)
  · rw [hd.block ch (by show ch < (shutW _ ch).heap.size; have := hk0.size; omega) (fun e => hne3 e.symm)]
    exact hk1
end Go.Proofs.Qxb6612680a
