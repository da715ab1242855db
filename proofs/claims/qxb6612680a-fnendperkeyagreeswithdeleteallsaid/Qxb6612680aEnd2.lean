import Derived.Test.Qxb6612680aLaw1
import Derived.Test.Qxb6612680aLocks
import Derived.Maps.RangeWalk
namespace Go.Proofs.Qxb6612680a
open Go.RowKit
open Go.ChangeMaps (setBlock heap_setBlock_same heap_setBlock_other)

/-- What 'end' leaves where the key is there. -/
def endW (P : Program) (w : World) (bm ch : Nat) (cs : List Value) : World := delW P (shutW (w.alloc (.cells cs.toArray 79)).drew ch).drew bm (.agg cs.toArray)

set_option maxRecDepth 100000 in
set_option maxHeartbeats 1000000 in
/-- 'end' where the key is there: the world behind it, written out. The store's own cells are not looked at, but for the map's. -/
theorem end_raw (sb bm n eb ch : Nat) (cr us : Int) (u : ByteArray) (cs : List Value) (kl : Lit) (D : DataW Unit) (w : World) (hs : w.cell? ⟨sb, 7, none⟩ = some (.map (some bm)))
    (hm : w.ownsMap Try.prog 79 ptrElem bm n D) (hcs : cs.length = 32) (hk : keyOf Try.prog 79 (.agg cs.toArray) = some kl) (hn : Maps.has D kl = true) (ha : D.atKey kl .nil = .lit (.int .i64 eb))
    (he : w.heap[eb]? = some (.cells (entryCells u cr us ch) 66)) (hch : w.heap[ch]? = some (.chan 0 #[] false 0 0 false)) :
    Calls Try.prog 27 #[.pointer (some ⟨sb, 0, none⟩), .agg cs.toArray] w fun e w' => e = .returned (.tuple #[]) ∧ w' = endW Try.prog w bm ch cs := by
  have l1 : eb < w.heap.size := (Array.getElem?_eq_some_iff.1 he).1
  have l2 : ch < w.heap.size := (Array.getElem?_eq_some_iff.1 hch).1
  have l3 : sb < w.heap.size := World.block_lt_of_cell? w _ hs
  have l4 := hm.lt
  have hst : PutCore sb bm w.heap.size cs (w.alloc (.cells cs.toArray 79)) :=
    ⟨by rw [World.cell?_alloc_lt _ _ _ l3]; exact hs, range_new w cs 79, (MapOk.of_owns hm).kept (Below.heap_alloc _ _ _ l4)⟩
  have hl := look_at2 (w := (w.alloc (.cells cs.toArray 79)).drew) (hm.alloc (.cells cs.toArray 79)).drew hk
  rw [hn, ha] at hl
  simp only [ptrOf, Int.toNat_natCast] at hl
  have hi : (Try.prog.info? 79).map (·.size) = some cs.length := by rw [hcs]; exact info79
  have hu := Try.underlying79
  have hec : (w.alloc (.cells cs.toArray 79)).cell? ⟨eb, 13, none⟩ = some (.chan (some ch)) := by
    rw [World.cell?_alloc_lt _ _ _ l1]; simp [World.cell?, he, entryCells]
  have hch1 : (w.alloc (.cells cs.toArray 79)).drew.heap[ch]? = some (.chan 0 #[] false 0 0 false) := (Below.heap_alloc _ _ _ l2).trans hch
  have hcl := fun ts ty => close_run hch1 ts ty
  have hpos : 0 < cs.length := by omega
  have hne : bm ≠ sb := fun e => by
    obtain ⟨es, clock, hb, _⟩ := hm
    rw [← e] at hs
    simp [World.cell?, hb] at hs
  have hne3 : bm ≠ ch := fun e => by
    obtain ⟨es, clock, hb, _⟩ := hm
    rw [e, hch] at hb; cases hb
  have hne4 : sb ≠ ch := fun e => by
    rw [e] at hs
    simp [World.cell?, hch] at hs
  have hne2 : bm ≠ w.heap.size := by omega
  obtain ⟨hk0, hk1⟩ := shut_kept hch1
  have hsz : (w.alloc (.cells cs.toArray 79)).drew.heap.size = w.heap.size + 1 := by simp
  have hst2 : PutCore sb bm w.heap.size cs (shutW (w.alloc (.cells cs.toArray 79)).drew ch) :=
    hst.at (hk0.block sb (by omega) hne4) (hk0.block _ (by omega) (by omega)) (hk0.block bm (by omega) hne3)
  have hst3 : PutCore sb bm w.heap.size cs (shutW (w.alloc (.cells cs.toArray 79)).drew ch).drew := hst2.kept hpos (Below.refl _ _).drew
  have hst4 := hst3.del hpos hne hne2 hk
  go_enter Try.func27, Try.ntmps27
  go_wp2
  go_region_held3 (fun w' => w'.cell? ⟨sb, 7, none⟩ = some (.map (some bm)) ∧ w'.rangeAt w.heap.size 0 cs ∧ (Instr.lookup 76 (.map (some bm)) (.agg cs.toArray) true).run Try.prog w' = .ok (.tuple #[.pointer (some ⟨eb, 0, none⟩), .bool true]) w') (exact ⟨hst.store, (World.rangeAt_drew _ _ _ _).2 hst.box, hl⟩) (fail)
  go_wp2
  go_region_held3 (fun w' => w'.cell? ⟨sb, 7, none⟩ = some (.map (some bm)) ∧ w'.rangeAt w.heap.size 0 cs ∧ ∀ ty, (Builtin.delete_ #[76, 79] ty #[.map (some bm), .agg cs.toArray]).run Try.prog w' = .ok (.tuple #[]) (delW Try.prog w' bm (.agg cs.toArray))) (first | exact ⟨hst3.store, hst3.box, fun ty => del_eq hst3.map hk ty⟩ | exact ⟨hst4.store, hst4.box, fun ty => del_eq hst4.map hk ty⟩) (fail)
  go_wp2
  go_end0
  exact ⟨rfl, rfl⟩

theorem user_any (eb ch : Nat) (cr us : Int) (u : ByteArray) (w : World) (he : w.heap[eb]? = some (.cells (entryCells u cr us ch) 66)) :
    Calls Try.prog 17 #[.pointer (some ⟨eb, 0, none⟩)] w fun e w' => e = .returned (.string u) ∧ w' = w := by
  have hc : w.cell? ⟨eb, 0, none⟩ = some (.string u) := by simp [World.cell?, he, entryCells]
  go_enter Try.func17, Try.ntmps17
  go_wp2
  go_ret
  exact ⟨rfl, rfl⟩

set_option maxRecDepth 100000 in
theorem zend_some (sb bm n eb ch : Nat) (idle age cr us : Int) (u : ByteArray) (cs : List Value) (kl : Lit) (D : DataW Unit) (w : World) (hs : w.heap[sb]? = some (.cells (storeCells idle age bm) 78))
    (hm : w.ownsMap Try.prog 79 ptrElem bm n D) (hcs : cs.length = 32) (hk : keyOf Try.prog 79 (.agg cs.toArray) = some kl) (hn : Maps.has D kl = true) (ha : D.atKey kl .nil = .lit (.int .i64 eb))
    (he : w.heap[eb]? = some (.cells (entryCells u cr us ch) 66)) (hch : w.heap[ch]? = some (.chan 0 #[] false 0 0 false)) :
    Calls Try.prog 18 #[.pointer (some ⟨sb, 0, none⟩), .agg cs.toArray] w fun e w' => e = .returned (.tuple #[]) ∧ Kept (fun i => i = bm ∨ i = ch) w w' ∧ w'.ownsMap Try.prog 79 ptrElem bm n (D.del kl) := by
  have hi : (Try.prog.info? 30).map (·.size) = some cs.length := by rw [hcs]; exact info30
  have b1 := range_new w cs 30
  have l1 : eb < w.heap.size := (Array.getElem?_eq_some_iff.1 he).1
  have l2 : ch < w.heap.size := (Array.getElem?_eq_some_iff.1 hch).1
  have l3 : sb < w.heap.size := (Array.getElem?_eq_some_iff.1 hs).1
  have hB : Below w.heap.size w (w.alloc (.cells cs.toArray 30)) := (Below.refl _ w).alloc (Nat.le_refl _) _
  go_enter Try.func18, Try.ntmps18
  go_wp2_with (first | (refine wpList_load_mid rfl 30 _ rfl w.heap.size 0 rfl cs _ b1 Try.underlying30 rfl hi ?_) | (go_at_call 27; refine (end_some sb bm n eb ch idle age cr us u cs kl D _ ((hB.block sb l3).trans hs) (hm.alloc _) hcs hk hn ha ((hB.block eb l1).trans he) ((hB.block ch l2).trans hch)).mono ?_; rintro e w2 ⟨rfl, k1, k2, k3⟩))
  go_end0
  exact ⟨rfl, ((Kept.of_below hB (fun _ => False)).trans k1).mono (by simp), k3⟩
end Go.Proofs.Qxb6612680a
