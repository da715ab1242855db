import Derived.Test.Qxb6612680aEnd2
namespace Go.Proofs.Qxb6612680a
open Go.RowKit
open Go.ChangeMaps (setBlock heap_setBlock_same heap_setBlock_other)
open Go.WideElems (Fit rd rg pl rd_key rd_val rg_of other_key)

/-- A session as the proof sees it: its user, its entry's block, its channel's block. -/
structure EntsOk (N0 : Nat) (D : DataW Unit) (g : Lit → Option (ByteArray × Nat × Nat)) (W : World) : Prop where
  has : ∀ k, Maps.has D k = (g k).isSome
  at_ : ∀ k u eb ch, g k = some (u, eb, ch) → D.atKey k .nil = .lit (.int .i64 eb)
  entry : ∀ k u eb ch, g k = some (u, eb, ch) → W.heap[eb]? = some (.cells (entryCells u 0 0 ch) 66)
  chan : ∀ k u eb ch, g k = some (u, eb, ch) → W.heap[ch]? = some (.chan 0 #[] false 0 0 false)
  eb_ge : ∀ k u eb ch, g k = some (u, eb, ch) → N0 ≤ eb
  ch_ge : ∀ k u eb ch, g k = some (u, eb, ch) → N0 ≤ ch
  inj : ∀ k k' u eb ch u' eb', g k = some (u, eb, ch) → g k' = some (u', eb', ch) → k = k'

/-- Does the session at k belong to 'name'? -/
def nmB (g : Lit → Option (ByteArray × Nat × Nat)) (name : ByteArray) (k : Lit) : Bool :=
  match g k with
  | some (u, _, _) => u.toList == name.toList
  | none => false
/-- The blocks that 'DeleteAll' may turn. -/
def DelX (sb bm : Nat) (g : Lit → Option (ByteArray × Nat × Nat)) (name : ByteArray) (i : Nat) : Prop :=
  i = sb ∨ i = bm ∨ ∃ k u eb, g k = some (u, eb, i) ∧ (u.toList == name.toList) = true

def storeCells1 (idle age : Int) (bm : Nat) : Array Value :=
  #[.int .i64 idle, .int .i64 age, .int .i64 1073741824, .int .i64 1073741824, .int .i32 1, .int .u32 0, .int .u64 0, .map (some bm)]

theorem heap_setCell_same (w : World) (b o : Nat) (c : Array Value) (t : TypeId) (v : Value) (h : w.heap[b]? = some (.cells c t)) : (w.setCell ⟨b, o, none⟩ v).heap[b]? = some (.cells (c.setIfInBounds o v) t) := by
  simp [World.setCell, Array.getElem?_modify, h]

theorem left_has {w : World} {bm r n : Nat} {D : DataW Unit} {left : Lit → Bool} {cnt : Nat} (h : w.ranges Try.prog 79 ptrElem bm r n D left cnt) {kl : Lit} (hl : left kl = true) : Maps.has D kl = true := by
  obtain ⟨es, clock, since, seen, c0, hb, F, hs, rfl, hr, _, _, _, hl2, _, _⟩ := h
  obtain ⟨x, hx, rfl⟩ := hl2 kl hl
  obtain ⟨y, hy⟩ := F.reads x hx
  exact List.any_eq_true.2 ⟨rg Try.prog 79 ptrElem x, mem_sorted.2 (List.mem_map.2 ⟨x, hx, rfl⟩), WideAt.sameKey_self (by rw [rg_of hy]; exact klaw.key (rd_key hy))⟩

theorem grown_of_kept {w w' : World} {b : Nat} (h : Kept (fun i => i = b) w w') : w.grownBy w' (some b) := ⟨h.os, h.tape, h.output, h.size, fun i hi hne => h.block i hi (fun e => hne (by rw [e]))⟩

set_option maxRecDepth 100000 in
/-- What 'end' does to a range under way. -/
theorem end_ranges {w : World} {bm r n ch : Nat} {D : DataW Unit} {left : Lit → Bool} {cnt : Nat} {cs : List Value} {kl : Lit} (h : w.ranges Try.prog 79 ptrElem bm r n D left cnt) (hk : keyOf Try.prog 79 (.agg cs.toArray) = some kl)
    (hch : w.heap[ch]? = some (.chan 0 #[] false 0 0 false)) :
    ∃ cnt', (endW Try.prog w bm ch cs).ranges Try.prog 79 ptrElem bm r n (D.del kl) (fun z => left z && !z.sameKey kl) cnt' ∧ cnt' ≤ cnt ∧ Kept (fun i => i = bm ∨ i = ch) w (endW Try.prog w bm ch cs) := by
  have l2 : ch < w.heap.size := (Array.getElem?_eq_some_iff.1 hch).1
  have hbm := h.owns.lt
  have hrl := h.lt
  have hne3 : bm ≠ ch := fun e => by
    obtain ⟨es, clock, hb, _⟩ := h.owns
    rw [e, hch] at hb; cases hb
  have hne4 : r ≠ ch := fun e => by
    obtain ⟨es, clock, since, seen, c0, _, _, _, _, hr, _⟩ := h
    rw [e, hch] at hr; cases hr
  have hch1 : (w.alloc (.cells cs.toArray 79)).drew.heap[ch]? = some (.chan 0 #[] false 0 0 false) := (Below.heap_alloc _ _ _ l2).trans hch
  obtain ⟨hk0, hk1⟩ := shut_kept hch1
  have h1 : (w.alloc (.cells cs.toArray 79)).drew.ranges Try.prog 79 ptrElem bm r n D left cnt := h.alloc _
  have h2 : (shutW (w.alloc (.cells cs.toArray 79)).drew ch).drew.ranges Try.prog 79 ptrElem bm r n D left cnt :=
    h1.kept (w' := (shutW (w.alloc (.cells cs.toArray 79)).drew ch).drew) (grown_of_kept (b := ch) ⟨hk0.os, hk0.tape, hk0.output, hk0.size, hk0.block⟩) (fun e => hne3 (by injection e)) (fun e => hne4 (by injection e))
  obtain ⟨w', cnt', hrun, hr, hle, hturn⟩ := h2.drop klaw Try.underlying76 hk 0
  have hd := del_eq (MapOk.of_owns h2.owns) hk 0
  have e := hrun.symm.trans hd
  injection e with _ e
  have e' : w' = endW Try.prog w bm ch cs := e
  subst e'
  refine ⟨cnt', hr, hle, ?_⟩
  have k1 : Kept (fun _ => False) w (w.alloc (.cells cs.toArray 79)).drew := Kept.of_below ((Below.refl _ _).alloc (Nat.le_refl _) _).drew _
  have hdk := (del_ok (MapOk.of_owns h2.owns) hk).2
  exact ((k1.trans hk0).trans (Y := fun i => i = bm) ⟨hdk.os, hdk.tape, hdk.output, hdk.size, hdk.block⟩).mono (by simp; omega)

set_option maxRecDepth 100000 in
theorem key_shape {key : Value} {kl : Lit} (h : keyOf Try.prog 79 key = some kl) : ∃ cs : List Value, key = .agg cs.toArray ∧ cs.length = 32 := by
  unfold keyOf at h
  rw [Try.underlying79] at h
  simp only at h
  split at h
  · rename_i hf
    have hf2 := (Bool.and_eq_true_iff.1 hf).2
    cases key <;> simp [Value.formed, Try.underlying79] at hf2
    rename_i xs
    refine ⟨xs.toList, by simp, ?_⟩
    have hc : Try.prog.cellsOf 79 = 32 := by kernel_rfl
    rw [hc] at hf2
    simpa using hf2
  · cases h

section
variable (w : World) {ops : Array Oper} {rest : List Oper} {o : Oper} {a : Act} {Q : Exit → Act → World → Prop}
/-- The range's step, at keys of 32 bytes and at elements that are all there. -/
theorem wpList_next_ent (hg : o.guard = none) (it : Operand) (hop : o.op = Op.next it false) (bm r n : Nat) (D : DataW Unit) (left : Lit → Bool) (cnt : Nat)
    (hit : a.eval it = .pointer (some ⟨r, 0, none⟩)) (h : w.ranges Try.prog 79 ptrElem bm r n D left cnt) (hp : ∀ kl, left kl = true → ∃ eb : Nat, D.atKey kl .nil = .lit (.int .i64 eb))
    (hDone : (∀ kl, left kl = false) → wpList Try.prog ops Q rest (a.put o.dst (.tuple #[.bool false])) w)
    (hMore : ∀ (cs : List Value) (eb : Nat) (kl : Lit) (w' : World) (cnt' : Nat), cs.length = 32 → keyOf Try.prog 79 (.agg cs.toArray) = some kl → left kl = true → D.atKey kl .nil = .lit (.int .i64 eb) →
      w'.ranges Try.prog 79 ptrElem bm r n D (fun z => left z && !z.sameKey kl) cnt' → cnt' < cnt → w.grownBy w' (some r) → w'.heap.size = w.heap.size →
      (Instr.entry (.pointer (some ⟨r, 0, none⟩))).run Try.prog w' = .ok (.tuple #[.agg cs.toArray, .pointer (some ⟨eb, 0, none⟩)]) w' → wpList Try.prog ops Q rest (a.put o.dst (.tuple #[.bool true, .agg cs.toArray, .pointer (some ⟨eb, 0, none⟩)])) w') :
    wpList Try.prog ops Q (o :: rest) a w := by
  refine wpList_plain hg fun K' hK' => ?_
  unfold Oper.wp
  rcases h.next klaw o.type with ⟨h0, hl, hrun⟩ | ⟨key, v, kl, y, w', cnt', hkey, hlk, hv, hat, hrun, hrg, hlt, hgr, hsz, hen⟩
  · simp [execOp, hop, hit, hrun, Result.andThen]
    exact hK' _ _ (hDone hl)
  · obtain ⟨cs, rfl, hcs⟩ := key_shape hkey
    obtain ⟨eb, heb⟩ := hp kl hlk
    have hv2 : v = .pointer (some ⟨eb, 0, none⟩) := by
      have := ptrElem_inv (d := y.1) (ps := y.2) hv
      rw [this, ← hat .nil, heb]
      simp [ptrOf]
    subst hv2
    simp [execOp, hop, hit, hrun, Result.andThen]
    exact hK' _ _ (hMore cs eb kl w' cnt' hcs hkey hlk heb hrg hlt hgr hsz hen)
/-- A whole array stored into the block that was made last. -/
theorem wpList_store_new (hgd : o.guard = none) (ty : TypeId) (x y : Operand) (ho : o.op = .store ty x y) (c c' : Array Value) (hx : a.eval x = .pointer (some ⟨w.heap.size, 0, none⟩)) (hy : a.eval y = .agg c')
    (hi : (Try.prog.info? ty).map (·.size) = some c'.size) (hc : c.size = c'.size) (h1 : c'.all (·.oneCell') = true)
    (h : wpList Try.prog ops Q rest (a.put o.dst undef) (w.alloc (.cells c' ty))) : wpList Try.prog ops Q (o :: rest) a (w.alloc (.cells c ty)) := by
  refine wpList_plain hgd fun K' hK' => ?_
  unfold Oper.wp
  have := run_storeAt_new (P := Try.prog) w ty c c' hi hc h1
  simp [execOp, ho, hx, hy, this, Result.andThen]
  exact hK' _ _ h
end

set_option maxRecDepth 100000 in
/-- A key's cells are bytes. -/
theorem key_cells {cs : List Value} {kl : Lit} (h : keyOf Try.prog 79 (.agg cs.toArray) = some kl) : cs.toArray.all (·.oneCell') = true := by
  have hc : Try.prog.cellsOf 79 = 32 := by kernel_rfl
  have hc5 : Try.prog.cellsOf 5 = 1 := by kernel_rfl
  unfold keyOf at h
  rw [Try.underlying79] at h
  simp only at h
  split at h
  · obtain ⟨L, hL, _⟩ := Option.map_eq_some_iff.1 h
    have hcl : (Value.agg cs.toArray).cells.toList = cs := by simp [Value.cells]
    rw [hcl] at hL
    unfold Program.keyLits at hL
    rw [Try.underlying79] at hL
    by_cases hlen : cs.length = Try.prog.cellsOf 79
    · simp only [if_pos hlen] at hL
      obtain ⟨L2, hL2, _⟩ := Option.map_eq_some_iff.1 hL
      rw [hc] at hlen
      refine all_oneCell_toArray (fun v hv => ?_)
      obtain ⟨i, hi⟩ := List.getElem?_of_mem hv
      have hi32 : i < 32 := by
        have := (List.getElem?_eq_some_iff.1 hi).1
        omega
      have hg := mapM_some_get hL2 i i (by simp [hi32])
      have hlt : i < L2.length := by
        have := mapM_some_length hL2
        simp at this; omega
      rw [hc5, Nat.mul_one, List.getElem?_eq_getElem hlt] at hg
      obtain ⟨a, ea, _⟩ := keyLits_int' Try.underlying5 hg
      have : cs[i]? = some (.int .u8 a) := by
        have h2 := congrArg (fun l => l[0]?) ea
        simpa [List.getElem?_take, List.getElem?_drop] using h2
      rw [hi] at this
      injection this with this
      rw [this]; rfl
    · simp [hlen] at hL
  · cases h
end Go.Proofs.Qxb6612680a
