import Derived.Test.Qxb6612725aBits
import Derived.Laws.Tables
namespace Go.Proofs.Qxb6612725a
open Go.RowKit

def zero37 : Array Value := Array.replicate 377 (.int .i32 0)
/-- The cells of '&prices{of: of}'. -/
def pc (xs : Array Value) : Array Value := xs.zipIdx.foldl (fun cs (c, j) => cs.setIfInBounds (345 + j) c) zero37

set_option maxRecDepth 100000 in
theorem built37 (xs : Array Value) (h : xs.size = 32) : Try.prog.built 37 [(3, .agg xs)] = some (pc xs) := by
  have e : ∀ ps, Try.prog.built 37 ps = Instr.fill (#[(0, 256), (256, 36), (292, 53), (345, 32)][·]?) zero37 ps := fun ps => by kernel_rfl
  rw [e]
  simp [Instr.fill, Value.cells, h, pc, zero37]

theorem fold_get (off : Nat) : ∀ (l : List Value) (k : Nat) (cs : Array Value), off + k + l.length ≤ cs.size → ∀ i : Nat,
    ((l.zipIdx k).foldl (fun cs (x : Value × Nat) => cs.setIfInBounds (off + x.2) x.1) cs)[i]? = if off + k ≤ i ∧ i < off + k + l.length then l[i - (off + k)]? else cs[i]?
  | [], k, cs, h, i => by
    simp
    intro h1 h2; omega
  | c :: l, k, cs, h, i => by
    simp only [List.length_cons] at h
    rw [List.zipIdx_cons, List.foldl_cons, fold_get off l (k + 1) _ (by simp; omega) i]
    by_cases e : i = off + k
    · subst e
      simp
      rw [if_neg (by omega)]
      rw [Array.getElem?_setIfInBounds_self_of_lt (by omega)]
    · by_cases h1 : off + k ≤ i ∧ i < off + k + (c :: l).length
      · simp only [List.length_cons] at h1
        rw [if_pos (by omega), if_pos (by simp; omega)]
        have : i - (off + k) = (i - (off + (k + 1))) + 1 := by omega
        rw [this, List.getElem?_cons_succ]
      · rw [if_neg h1]
        simp only [List.length_cons] at h1
        rw [if_neg (by omega), Array.getElem?_setIfInBounds_ne (by simp; omega)]

set_option maxRecDepth 100000 in
theorem pc_get (cs : List Value) (h : cs.length = 32) (i : Nat) (hi : i < 32) : (pc cs.toArray)[345 + i]? = cs[i]? := by
  have e : pc cs.toArray = (cs.zipIdx).foldl (fun cs (x : Value × Nat) => cs.setIfInBounds (345 + x.2) x.1) zero37 := by
    unfold pc
    rw [← Array.foldl_toList]
    simp
  have hz : zero37.size = 377 := by simp [zero37]
  rw [e, fold_get 345 cs 0 zero37 (by omega) (345 + i), if_pos (by omega)]
  have e2 : 345 + i - (345 + 0) = i := by omega
  rw [e2]

theorem range_new (w : World) (cs : List Value) (t : TypeId) : (w.alloc (.cells cs.toArray t)).rangeAt w.heap.size 0 cs := fun j v hv => by
  rw [Nat.zero_add, cell_of_row _ _ j cs.toArray t (0, 0) (heap_alloc_last w _)]; simpa using hv
theorem info27 : (Try.prog.info? 27).map (·.size) = some 32 := by kernel_rfl

theorem wpList_build_one {ops : Array Oper} {rest : List Oper} {op : Oper} {a : Act} {w : World} {Q : Exit → Act → World → Prop} (hg : op.guard = none) (t : TypeId) (f : Nat) (x : Operand) (ho : op.op = .build t #[(f, x)]) (v : Value) (hx : a.eval x = v) (cells : Array Value)
    (hb : Try.prog.built t [(f, v)] = some cells) (h : wpList Try.prog ops Q rest (a.put op.dst (.agg cells)) w) : wpList Try.prog ops Q (op :: rest) a w :=
  wpList_plain hg fun _ hK => by
    unfold Oper.wp execOp
    have hb' : Try.prog.built t ((#[(f, x)] : Array (Nat × Operand)).map fun (i, x) => (i, a.eval x)).toList = some cells := by
      simpa [hx] using hb
    simp only [ho, Sem.run_bind, run_build w t _ _ hb', Result.andThen_ok]
    exact hK _ _ h

set_option maxRecDepth 100000 in
theorem newPrices_any (cs : List Value) (h : cs.length = 32) (w : World) :
    Calls Try.prog 8 #[.agg cs.toArray] w fun e w' => e = .returned (.pointer (some ⟨w.heap.size + 1, 0, none⟩)) ∧ (w.alloc (.cells cs.toArray 27)).alloc (.cells (pc cs.toArray) 37) = w' := by
  have hr := range_new w cs 27
  have hi : (Try.prog.info? 27).map (·.size) = some cs.length := by rw [h]; exact info27
  have hb : Try.prog.built 37 [(3, .agg cs.toArray)] = some (pc cs.toArray) := built37 _ (by simpa using h)
  go_enter Try.func8, Try.ntmps8
  go_wp2_with (first | (refine wpList_load_mid rfl 27 _ rfl w.heap.size 0 rfl cs _ hr Try.underlying27 rfl hi ?_) | (refine wpList_build_one rfl 37 3 _ rfl (.agg cs.toArray) rfl (pc cs.toArray) hb ?_))
  go_ret
  simp

theorem offset_any (b : Nat) (n : Nat) (T : Nat → Int) (w : World) (h0 : n ≠ 0) (h1 : n ≤ 4294967295) (hT : ∀ i, i < 32 → w.cell? ⟨b, 345 + i, none⟩ = some (.int .i32 (T i))) (hb : ∀ i, i < 32 → -2147483648 ≤ T i ∧ T i ≤ 2147483647) :
    Calls Try.prog 11 #[.pointer (some ⟨b, 0, none⟩), .int .u32 n] w fun e w' => e = .returned (.int .i32 (wrap32 (T n.log2 + n.log2 * 256))) ∧ w' = w := by
  have hl := log_le n h0 h1
  have hc := hT n.log2 (by omega)
  have hbb := hb n.log2 (by omega)
  clear hT hb
  go_enter Try.func11, Try.ntmps11
  go_wp2_with (go_at_call 10; refine (ofCode_any n _ h0 h1).mono ?_; rintro e w' ⟨rfl, rfl⟩)
  go_ret
  simp

theorem zzOffset_any (b : Nat) (n : Nat) (T : Nat → Int) (w : World) (h0 : n ≠ 0) (h1 : n ≤ 4294967295) (hT : ∀ i, i < 32 → w.cell? ⟨b, 345 + i, none⟩ = some (.int .i32 (T i))) (hb : ∀ i, i < 32 → -2147483648 ≤ T i ∧ T i ≤ 2147483647) :
    Calls Try.prog 9 #[.pointer (some ⟨b, 0, none⟩), .int .u32 n] w fun e w' => e = .returned (.int .i32 (wrap32 (T n.log2 + n.log2 * 256))) ∧ w = w' := by
  go_enter Try.func9, Try.ntmps9
  go_wp2_with (go_at_call 11; refine (offset_any b n T _ h0 h1 hT hb).mono ?_; rintro e w' ⟨rfl, rfl⟩)
  go_ret
  simp
end Go.Proofs.Qxb6612725a
