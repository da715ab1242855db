import Derived.Test.Qxb6612680aTime
import Derived.Deep.MidRow
import Derived.Deep.WholeRow
import Derived.Maps.OwnSet
import Derived.Deep.RegionHeld3
import Derived.BigQuiet
import Derived.Deep.QuietTactic
import Derived.DeepKeys4
namespace Go.Proofs.Qxb6612680a
open Go.RowKit

/-- w' is w but for the blocks of X, and for new ones. -/
structure Kept (X : Nat → Prop) (w w' : World) : Prop where
  os : w'.os = w.os
  tape : w'.tape = w.tape
  output : w'.output = w.output
  size : w.heap.size ≤ w'.heap.size
  block : ∀ k, k < w.heap.size → ¬ X k → w'.heap[k]? = w.heap[k]?

theorem Kept.refl (X : Nat → Prop) (w : World) : Kept X w w := ⟨rfl, rfl, rfl, Nat.le_refl _, fun _ _ _ => rfl⟩
theorem Kept.trans {X Y : Nat → Prop} {a b c : World} (h : Kept X a b) (k : Kept Y b c) : Kept (fun i => X i ∨ Y i) a c :=
  ⟨k.os.trans h.os, k.tape.trans h.tape, k.output.trans h.output, Nat.le_trans h.size k.size,
    fun i hi hx => (k.block i (Nat.lt_of_lt_of_le hi h.size) (fun e => hx (.inr e))).trans (h.block i hi (fun e => hx (.inl e)))⟩
theorem Kept.mono {X Y : Nat → Prop} {a b : World} (h : Kept X a b) (hx : ∀ i, i < a.heap.size → X i → Y i) : Kept Y a b :=
  ⟨h.os, h.tape, h.output, h.size, fun i hi hy => h.block i hi (fun e => hy (hx i hi e))⟩
theorem Kept.of_below {w w' : World} (h : Below w.heap.size w w') (X : Nat → Prop) : Kept X w w' := ⟨h.os, h.tape, h.output, h.size, fun k hk _ => h.block k hk⟩
theorem Kept.below {X : Nat → Prop} {w w' : World} (h : Kept X w w') {B : Nat} (hB : B ≤ w.heap.size) (hx : ∀ k, k < B → ¬ X k) : Below B w w' :=
  ⟨h.os, h.tape, h.output, h.size, fun k hk => h.block k (by omega) (hx k hk)⟩

def entryCells (u : ByteArray) (cr us : Int) (ch : Nat) : Array Value :=
  #[.string u, .string ⟨#[109, 101, 109, 98, 101, 114]⟩, .int .u64 0, .int .u64 0, .pointer none, .int .u8 0,
    .int .u64 (cr % 1000000000), .int .i64 (cr / 1000000000), .pointer none, .int .u64 (us % 1000000000), .int .i64 (us / 1000000000), .pointer none, .int .u64 0, .chan (some ch)]
def storeCells (idle age : Int) (bm : Nat) : Array Value :=
  #[.int .i64 idle, .int .i64 age, .int .i64 1073741824, .int .i64 1073741824, .int .i32 0, .int .u32 0, .int .u64 0, .map (some bm)]

/-- How an element, a pointer to an entry, is told. -/
def ptrElem : Value → Option (DataW Unit × List MemPlace)
  | .pointer none => some (.nil, [])
  | .pointer (some ⟨b, 0, none⟩) => some (.lit (.int .i64 b), [])
  | _ => none
def ptrOf : DataW Unit → Value
  | .lit (.int .i64 b) => .pointer (some ⟨b.toNat, 0, none⟩)
  | _ => .pointer none
theorem ptrElem_inv {v : Value} {d : DataW Unit} {ps : List MemPlace} (h : ptrElem v = some (d, ps)) : v = ptrOf d := by
  unfold ptrElem at h
  split at h
  · cases h; rfl
  · cases h; simp [ptrOf]
  · cases h

theorem Try.laidOut : laidOutB Try.prog = true := by kernel_rfl
theorem Try.row79 : (79 : TypeId) < Try.prog.types.size := of_decide_eq_true (by kernel_rfl)
theorem Try.wide79 : (match Try.prog.underlying 79 with | some (.array _ _) | some (.struct _) => true | _ => false) = true := by rw [Try.underlying79]
set_option maxRecDepth 100000 in
theorem klaw : Maps.Keyed Try.prog 79 := Maps.Keyed.of_law (deep_law_laid Try.laidOut (m := 2) (by omega) Try.row79 (by kernel_rfl) Try.wide79)
theorem zero32 (w : World) : (zeroValue 32).run Try.prog w = .ok (.pointer none) w := by kernel_rfl
theorem info30 : (Try.prog.info? 30).map (·.size) = some 32 := by kernel_rfl
theorem info79 : (Try.prog.info? 79).map (·.size) = some 32 := by kernel_rfl

theorem storeCell {w : World} {sb bm : Nat} {idle age : Int} (hs : w.heap[sb]? = some (.cells (storeCells idle age bm) 78)) : w.cell? ⟨sb, 7, none⟩ = some (.map (some bm)) := by
  simp [World.cell?, hs, storeCells]
theorem look_at {w : World} {bm n : Nat} {D : DataW Unit} (hm : w.ownsMap Try.prog 79 ptrElem bm n D) {key : Value} {kl : Lit} (hk : keyOf Try.prog 79 key = some kl) :
    (Instr.lookup 76 (.map (some bm)) key false).run Try.prog w = .ok (ptrOf (D.atKey kl .nil)) w := by
  obtain ⟨v, ps, h1, h2⟩ := hm.lookup klaw Try.underlying76 (zero32 w) (zd := .nil) (zp := []) rfl hk
  rw [h1, ptrElem_inv h2]
theorem look_at2 {w : World} {bm n : Nat} {D : DataW Unit} (hm : w.ownsMap Try.prog 79 ptrElem bm n D) {key : Value} {kl : Lit} (hk : keyOf Try.prog 79 key = some kl) :
    (Instr.lookup 76 (.map (some bm)) key true).run Try.prog w = .ok (.tuple #[ptrOf (D.atKey kl .nil), .bool (Maps.has D kl)]) w := by
  obtain ⟨v, ps, h1, h2⟩ := hm.look_ok klaw Try.underlying76 (zero32 w) (zd := .nil) (zp := []) rfl hk
  rw [h1, ptrElem_inv h2]

theorem range_new (w : World) (cs : List Value) (t : TypeId) : (w.alloc (.cells cs.toArray t)).rangeAt w.heap.size 0 cs := fun j v hv => by
  rw [Nat.zero_add, cell_of_row _ _ j cs.toArray t (0, 0) (heap_alloc_last w _)]; simpa using hv

set_option maxRecDepth 100000 in
set_option maxHeartbeats 400000 in
theorem get_any (sb bm n : Nat) (idle age : Int) (cs : List Value) (kl : Lit) (D : DataW Unit) (w : World) (hs : w.heap[sb]? = some (.cells (storeCells idle age bm) 78))
    (hm : w.ownsMap Try.prog 79 ptrElem bm n D) (hcs : cs.length = 32) (hk : keyOf Try.prog 79 (.agg cs.toArray) = some kl) :
    Calls Try.prog 11 #[.pointer (some ⟨sb, 0, none⟩), .agg cs.toArray] w fun e w' => e = .returned (ptrOf (D.atKey kl .nil)) ∧ Below w.heap.size w w' := by
  have hc := storeCell hs
  have hlt : sb < w.heap.size := (Array.getElem?_eq_some_iff.1 hs).1
  have hr := range_new w cs 30
  have hl := look_at (w := (w.alloc (.cells cs.toArray 30)).drew) (hm.alloc (.cells cs.toArray 30)).drew hk
  have hc' : (w.alloc (.cells cs.toArray 30)).cell? ⟨sb, 7, none⟩ = some (.map (some bm)) := by rw [World.cell?_alloc_lt _ _ _ hlt]; exact hc
  have hi : (Try.prog.info? 30).map (·.size) = some cs.length := by rw [hcs]; exact info30
  have hu := Try.underlying30
  go_enter Try.func11, Try.ntmps11
  go_wp2
  go_region_held3 (fun w' => w'.cell? ⟨sb, 7, none⟩ = some (.map (some bm)) ∧ w'.rangeAt w.heap.size 0 cs ∧ (Instr.lookup 76 (.map (some bm)) (.agg cs.toArray) false).run Try.prog w' = .ok (ptrOf (D.atKey kl .nil)) w') (exact ⟨hc', (World.rangeAt_drew _ _ _ _).2 hr, hl⟩) (fail)
  go_wp2
  go_ret
  exact ⟨rfl, ((Below.refl _ _).alloc (Nat.le_refl _) _).drew⟩

theorem newStore_any (idle age : Int) (w : World) :
    Calls Try.prog 7 #[.int .i64 idle, .int .i64 age, .int .i64 1073741824, .int .i64 1073741824] w fun e w' => e = .returned (.pointer (some ⟨w.heap.size + 1, 0, none⟩)) ∧ w' = (w.alloc (.map #[] 0)).alloc (.cells (storeCells idle age w.heap.size) 78) := by
  have hmm := @run_makeMap Try.prog
  go_enter Try.func7, Try.ntmps7
  go_wp2
  go_ret
  exact ⟨rfl, rfl⟩

theorem len_any (sb bm n : Nat) (idle age : Int) (D : DataW Unit) (w : World) (hs : w.heap[sb]? = some (.cells (storeCells idle age bm) 78))
    (hm : w.ownsMap Try.prog 79 ptrElem bm n D) :
    Calls Try.prog 13 #[.pointer (some ⟨sb, 0, none⟩)] w fun e w' => e = .returned (.int .i64 (Maps.size D)) ∧ w' = w := by
  have hc := storeCell hs
  have hl := fun ty => hm.len Try.underlying76 ty
  go_enter Try.func13, Try.ntmps13
  go_wp2
  go_ret
  exact ⟨rfl, rfl⟩
end Go.Proofs.Qxb6612680a
