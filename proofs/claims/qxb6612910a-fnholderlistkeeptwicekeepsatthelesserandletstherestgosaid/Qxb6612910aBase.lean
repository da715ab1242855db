import Derived.Test.Qxb6612910aRows
import Derived.WalkKit
import Derived.WalkSpells
import Derived.Laws.Tables
import Derived.Below
import Derived.BigQuiet
import Derived.WalkSmall
import Derived.Deep.WholeRow
import Derived.Deep.DeepAppendRoom
import Derived.Laws.MakeOwn
import Derived.Laws.CopyOwn
import Derived.Lib.SliceRun
import Derived.Maps.AppendAt
import Derived.DataElems
namespace Go.Proofs.Qxb6612910a
open Go.RowKit

/-- w' is w but for the blocks of X, and for new ones. -/
structure Kept (X : Nat → Prop) (w w' : World) : Prop where
  os : w'.os = w.os
  tape : w'.tape = w.tape
  output : w'.output = w.output
  size : w.heap.size ≤ w'.heap.size
  block : ∀ k, k < w.heap.size → ¬ X k → w'.heap[k]? = w.heap[k]?
theorem Kept.refl (X : Nat → Prop) (w : World) : Kept X w w := ⟨rfl, rfl, rfl, Nat.le_refl _, fun _ _ _ => rfl⟩
theorem Kept.of_below {w w' : World} (h : Below w.heap.size w w') (X : Nat → Prop) : Kept X w w' := ⟨h.os, h.tape, h.output, h.size, fun k hk _ => h.block k hk⟩
theorem Kept.below {X : Nat → Prop} {w w' : World} (h : Kept X w w') {B : Nat} (hB : B ≤ w.heap.size) (hx : ∀ k, k < B → ¬ X k) : Below B w w' :=
  ⟨h.os, h.tape, h.output, h.size, fun k hk => h.block k (by omega) (hx k hk)⟩
theorem Kept.trans {X : Nat → Prop} {a b c : World} (h : Kept X a b) (k : Kept X b c) : Kept X a c :=
  ⟨k.os.trans h.os, k.tape.trans h.tape, k.output.trans h.output, Nat.le_trans h.size k.size, fun i hi hx => (k.block i (Nat.lt_of_lt_of_le hi h.size) hx).trans (h.block i hi hx)⟩
theorem Kept.alloc {X : Nat → Prop} {a b : World} (h : Kept X a b) (o : Obj) : Kept X a (b.alloc o) :=
  ⟨h.os, h.tape, h.output, Nat.le_trans h.size (by simp), fun i hi hx => by rw [Below.heap_alloc _ _ _ (by have := h.size; omega)]; exact h.block i hi hx⟩

/-- A pointer to a block's start, or nil. -/
def pv (o : Option Nat) : Value := .pointer (o.map fun b => ⟨b, 0, none⟩)
theorem pv_one (o : Option Nat) : (pv o).oneCell' = true := rfl
/-- The array in block g holds these pointers. -/
structure Row (W : World) (g : Nat) (xs : List (Option Nat)) : Prop where
  row : W.heap[g]? = some (.cells (xs.map pv).toArray 76)
theorem Row.lt {W : World} {g : Nat} {xs : List (Option Nat)} (h : Row W g xs) : g < W.heap.size := (Array.getElem?_eq_some_iff.1 h.row).1
theorem Row.kept {W W' : World} {g : Nat} {xs : List (Option Nat)} (h : Row W g xs) {X : Nat → Prop} (k : Kept X W W') (hx : ¬ X g) : Row W' g xs := ⟨(k.block g h.lt hx).trans h.row⟩
theorem Row.below {W W' : World} {g : Nat} {xs : List (Option Nat)} (h : Row W g xs) (k : Below W.heap.size W W') : Row W' g xs := ⟨(k.block g h.lt).trans h.row⟩
theorem Row.cell {W : World} {g : Nat} {xs : List (Option Nat)} (h : Row W g xs) {i : Nat} {x : Option Nat} (hx : xs[i]? = some x) : W.cell? ⟨g, i, none⟩ = some (pv x) ∧ W.frozen? ⟨g, i, none⟩ = false := by
  exact ⟨by simp [World.cell?, h.row, hx], by simp [World.frozen?, h.row]⟩

/-- The integers that came in. -/
def IntsAt (w : World) (a : Option Addr) (n : Nat) (zs : List Int) : Prop :=
  zs.length = n ∧ (n = 0 ∨ ∃ b o, a = some ⟨b, o, none⟩ ∧ b < w.heap.size ∧ ∀ i x, zs[i]? = some x → w.cell? ⟨b, o + i, none⟩ = some (.int .i64 x))
theorem IntsAt.get {w : World} {a : Option Addr} {n : Nat} {zs : List Int} (h : IntsAt w a n zs) {k : Nat} (hk : k < n) : ∃ b o x, a = some ⟨b, o, none⟩ ∧ b < w.heap.size ∧ w.cell? ⟨b, o + k, none⟩ = some (.int .i64 x) ∧ zs[k]? = some x := by
  obtain ⟨hl, h⟩ := h
  rcases h with h | ⟨b, o, ha, hb, h⟩
  · omega
  · have hk' : k < zs.length := by omega
    exact ⟨b, o, zs[k], ha, hb, h k zs[k] (List.getElem?_eq_getElem hk'), List.getElem?_eq_getElem hk'⟩
theorem IntsAt.kept {w W : World} {a : Option Addr} {n : Nat} {zs : List Int} (h : IntsAt w a n zs) (k : Below w.heap.size w W) : IntsAt W a n zs := by
  obtain ⟨hl, h⟩ := h
  rcases h with h | ⟨b, o, ha, hb, h⟩
  · exact ⟨hl, .inl h⟩
  · exact ⟨hl, .inr ⟨b, o, ha, Nat.lt_of_lt_of_le hb k.size, fun i x hx => by rw [k.cell (p := ⟨b, o + i, none⟩) hb]; exact h i x hx⟩⟩

/-- The relationships: block p bears the time z. -/
def relCells (z : Int) : Array Value := #[.string ⟨#[]⟩, .string ⟨#[]⟩, .string ⟨#[]⟩, .string ⟨#[]⟩, .int .i64 z, .int .i64 0, .pointer none]
theorem build89 (z : Int) (w : World) : (Instr.build 89 #[(2, .int .i64 z)]).run Try.prog w = .ok (.agg (relCells z)) w := run_build w 89 _ _ (by kernel_rfl)
theorem newRel_any (z : Int) (w : World) : Calls Try.prog 35 #[.int .i64 z] w fun e w' => e = .returned (.pointer (some ⟨w.heap.size, 0, none⟩)) ∧ w.alloc (.cells (relCells z) 89) = w' := by
  have h := build89 z
  go_enter Try.func35, Try.ntmps35
  go_wp2
  go_ret
  simp [relCells]

/-- The holder list's cells. -/
def holdCells (s r : Value) : Array Value := #[.int .i32 0, .int .u32 0, s, r]
theorem newList_any (a b : Option Addr) (n c m d : Nat) (w : World) : Calls Try.prog 17 #[.slice a n c, .slice b m d] w fun e w' => e = .returned (.pointer (some ⟨w.heap.size, 0, none⟩)) ∧ w.alloc (.cells (holdCells (.slice a n c) (.slice b m d)) 86) = w' := by
  have h : ∀ w, (Instr.build 86 #[(1, .slice a n c), (2, .slice b m d)]).run Try.prog w = .ok (.agg (holdCells (.slice a n c) (.slice b m d))) w := fun w => run_build w 86 _ _ (by kernel_rfl)
  go_enter Try.func17, Try.ntmps17
  go_wp2
  go_ret
  simp [holdCells]

set_option maxRecDepth 100000 in
theorem zzBytes14_any (a b : Option Addr) (n c m d : Nat) (x y : Int) (w : World) (hn : n ≤ maxLen) (hm : m ≤ maxLen) : Calls Try.prog 14 #[.slice a n c, .slice b m d, .int .i64 x, .int .i64 y] w fun e w' => (e = .returned (.bool true) ∨ e = .returned (.bool false)) ∧ w = w' := by
  unfold maxLen at hn hm
  go_enter Try.func14, Try.ntmps14
  go_wp2
  all_goals (go_ret; simp)

/-- How many are at most u. -/
def upTo (u : Int) (z : Int) : Bool := decide (z ≤ u)
theorem take_succ_of {α : Type} {l : List α} {k : Nat} {x : α} (h : l[k]? = some x) : l.take (k + 1) = l.take k ++ [x] := by
  rw [List.take_add_one, h]; rfl

set_option maxRecDepth 100000 in
theorem count_any (a : Option Addr) (n c : Nat) (u : Int) (zs : List Int) (w : World) (hn : n ≤ 65536) (hZ : IntsAt w a n zs) : Calls Try.prog 20 #[.slice a n c, .int .i64 u] w fun e w' => e = .returned (.int .i64 ((zs.filter (upTo u)).length)) ∧ w = w' := by
  have HZ : Hid (IntsAt w a n zs) := hZ
  clear hZ
  go_enter Try.func20, Try.ntmps20
  go_wp2
  go_loop [5, 6] (fun t i => ∃ k : Nat, k ≤ n ∧ i = .int .i64 k ∧ t = .int .i64 (((zs.take k).filter (upTo u)).length)) (fun _ i => n - (intOf i).toNat)
  case atStart => exact ⟨0, Nat.zero_le _, rfl, rfl⟩
  case round =>
    obtain ⟨k, hk, rfl, rfl⟩ := hrel
    have hle : ((zs.take k).filter (upTo u)).length ≤ k := Nat.le_trans (List.length_filter_le _ _) (by simp; omega)
    by_cases hlt : k < n
    · obtain ⟨b, o, z, rfl, hb, hcell, hget⟩ := HZ.out.get hlt
      have hts := take_succ_of hget
      by_cases hu : z ≤ u
      · have e : (((zs.take (k + 1)).filter (upTo u)).length : Int) = ((zs.take k).filter (upTo u)).length + 1 := by rw [hts]; simp [upTo, hu]
        have HE : Hid _ := e
        clear e hts hget
        go_wp2
        go_round
        case rel => exact ⟨k + 1, by omega, by go_num, by rw [HE.out]⟩
        case measure => simp [intOf]; omega
      · have e : (((zs.take (k + 1)).filter (upTo u)).length : Int) = ((zs.take k).filter (upTo u)).length := by rw [hts]; simp [upTo, hu]
        have HE : Hid _ := e
        clear e hts hget
        go_wp2
        go_round
        case rel => exact ⟨k + 1, by omega, by go_num, by rw [HE.out]⟩
        case measure => simp [intOf]; omega
    · have e : zs.take k = zs := List.take_of_length_le (by have := HZ.out.1; omega)
      have HE : Hid _ := e
      clear e
      go_wp2
      go_ret
      rw [HE.out]
      simp
end Go.Proofs.Qxb6612910a
