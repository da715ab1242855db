import Derived.Test.Qxb6612680aBase
namespace Go.Proofs.Qxb6612680a
open Go.RowKit
open Go.ChangeMaps (setBlock heap_setBlock_same heap_setBlock_other)

/-- Block bm is a map, each of its keys a key. -/
def MapOk (w : World) (bm : Nat) : Prop := ∃ es clock, w.heap[bm]? = some (.map es clock) ∧ ∀ e ∈ es.toList, ∃ l, keyOf Try.prog 79 e.key = some l
theorem MapOk.of_owns {w : World} {bm n : Nat} {D : DataW Unit} (h : w.ownsMap Try.prog 79 ptrElem bm n D) : MapOk w bm := by
  obtain ⟨es, clock, hb, F, _, _⟩ := h
  exact ⟨es, clock, hb, F.keys⟩
theorem MapOk.lt {w : World} {bm : Nat} (h : MapOk w bm) : bm < w.heap.size := by
  obtain ⟨es, clock, hb, _⟩ := h
  exact (Array.getElem?_eq_some_iff.1 hb).1
/-- What a store into a map leaves. -/
def updW (P : Program) (w : World) (bm : Nat) (key v : Value) : World :=
  match (Instr.mapUpdate 76 (.map (some bm)) key v).run P w with
  | .ok _ w' => w'
  | .halt _ w' => w'
theorem upd_run {w : World} {bm : Nat} (h : MapOk w bm) {key : Value} {kl : Lit} (hk : keyOf Try.prog 79 key = some kl) (v : Value) :
    ∃ es clock, (Instr.mapUpdate 76 (.map (some bm)) key v).run Try.prog w = .ok () (setBlock w bm (.map es clock)) ∧ ∀ e ∈ es.toList, ∃ l, keyOf Try.prog 79 e.key = some l := by
  obtain ⟨es, clock, hb, hkeys⟩ := h
  rcases klaw.find w hk es.toList hkeys with ⟨h1, h2⟩ | ⟨j, e0, h1, h2, h3⟩
  · refine ⟨es.push ⟨key, v, clock⟩, clock + 1, ?_, ?_⟩
    · simp [Instr.mapUpdate, run_underlying Try.underlying76, MapKept.run_getObj_map hb, klaw.check w false hk, h1, MapKept.run_setObj_map _ hb, Result.andThen, setBlock]
    · intro x hx
      simp only [Array.toList_push, List.mem_append, List.mem_singleton] at hx
      rcases hx with hx | rfl
      · exact hkeys x hx
      · exact ⟨_, hk⟩
  · have hj : es[j]? = some e0 := by simpa using h2
    refine ⟨es.modify j fun e => { e with key := key, val := v }, clock, ?_, ?_⟩
    · simp [Instr.mapUpdate, run_underlying Try.underlying76, MapKept.run_getObj_map hb, klaw.check w false hk, h1, hj, h3, klaw.stays w hk, MapKept.run_setObj_map _ hb, Result.andThen, setBlock]
    · intro x hx
      obtain ⟨i, hi⟩ := List.getElem?_of_mem hx
      rw [Array.getElem?_toList, Array.getElem?_modify] at hi
      split at hi
      · obtain ⟨y, _, rfl⟩ := Option.map_eq_some_iff.1 hi
        exact ⟨_, hk⟩
      · exact hkeys x (List.mem_of_getElem? (by simpa using hi))
theorem upd_eq {w : World} {bm : Nat} (h : MapOk w bm) {key : Value} {kl : Lit} (hk : keyOf Try.prog 79 key = some kl) (v : Value) :
    (Instr.mapUpdate 76 (.map (some bm)) key v).run Try.prog w = .ok () (updW Try.prog w bm key v) := by
  obtain ⟨es, clock, h1, _⟩ := upd_run h hk v
  unfold updW
  rw [h1]
theorem upd_ok {w : World} {bm : Nat} (h : MapOk w bm) {key : Value} {kl : Lit} (hk : keyOf Try.prog 79 key = some kl) (v : Value) :
    MapOk (updW Try.prog w bm key v) bm ∧ Kept (fun i => i = bm) w (updW Try.prog w bm key v) := by
  obtain ⟨es, clock, h1, h2⟩ := upd_run h hk v
  obtain ⟨es0, clock0, hb, _⟩ := h
  unfold updW
  rw [h1]
  exact ⟨⟨es, clock, heap_setBlock_same hb _, h2⟩, rfl, rfl, rfl, by simp [setBlock], fun k _ hk => heap_setBlock_other hb _ hk⟩
set_option maxRecDepth 100000 in
theorem upd_owns {w : World} {bm n : Nat} {D : DataW Unit} (h : w.ownsMap Try.prog 79 ptrElem bm n D) (hn : n < maxLen) {key : Value} {kl : Lit} (hk : keyOf Try.prog 79 key = some kl) {b : Nat} :
    (updW Try.prog w bm key (.pointer (some ⟨b, 0, none⟩))).ownsMap Try.prog 79 ptrElem bm (n + 1) (D.put kl (.lit (.int .i64 b))) := by
  obtain ⟨w', h1, h2, _⟩ := h.update klaw Try.underlying76 hn (val := .pointer (some ⟨b, 0, none⟩)) (d := .lit (.int .i64 b)) (ps := []) hk rfl
  have := upd_eq (MapOk.of_owns h) hk (.pointer (some ⟨b, 0, none⟩))
  have e := h1.symm.trans this
  injection e with _ e
  rw [← e]
  exact h2

/-- What the statement in 'ZZPut' reads. -/
structure PutCore (sb bm N : Nat) (cs : List Value) (w : World) : Prop where
  store : w.cell? ⟨sb, 7, none⟩ = some (.map (some bm))
  box : w.rangeAt N 0 cs
  map : MapOk w bm
def PutS (sb bm N : Nat) (cs : List Value) (w : World) : Prop :=
  w.cell? ⟨sb, 7, none⟩ = some (.map (some bm)) ∧ w.rangeAt N 0 cs ∧ MapOk w bm ∧
    ∀ b, (Instr.mapUpdate 76 (.map (some bm)) (.agg cs.toArray) (.pointer (some ⟨b, 0, none⟩))).run Try.prog w = .ok () (updW Try.prog w bm (.agg cs.toArray) (.pointer (some ⟨b, 0, none⟩)))
theorem PutCore.s {sb bm N : Nat} {cs : List Value} {w : World} {kl : Lit} (hk : keyOf Try.prog 79 (.agg cs.toArray) = some kl) (h : PutCore sb bm N cs w) : PutS sb bm N cs w :=
  ⟨h.store, h.box, h.map, fun _ => upd_eq h.map hk _⟩
theorem PutS.core {sb bm N : Nat} {cs : List Value} {w : World} (h : PutS sb bm N cs w) : PutCore sb bm N cs w := ⟨h.1, h.2.1, h.2.2.1⟩
theorem MapOk.kept {w w' : World} {bm : Nat} (h : MapOk w bm) (e : w'.heap[bm]? = w.heap[bm]?) : MapOk w' bm := by
  obtain ⟨es, clock, hb, hk⟩ := h
  exact ⟨es, clock, e.trans hb, hk⟩
theorem rangeAt_lt {w : World} {N : Nat} {cs : List Value} (h : w.rangeAt N 0 cs) (hc : 0 < cs.length) : N < w.heap.size :=
  World.block_lt_of_cell? w ⟨N, 0 + 0, none⟩ (h 0 _ (List.getElem?_eq_getElem hc))
theorem rangeAt_kept {w w' : World} {N : Nat} {cs : List Value} (h : w.rangeAt N 0 cs) (e : w'.heap[N]? = w.heap[N]?) : w'.rangeAt N 0 cs := fun j v hv => by
  rw [World.cell?_of_block (w := w) (a := ⟨N, 0 + j, none⟩) e]; exact h j v hv
theorem PutCore.kept {sb bm N : Nat} {cs : List Value} {w w' : World} (h : PutCore sb bm N cs w) (hc : 0 < cs.length) (k : Below w.heap.size w w') : PutCore sb bm N cs w' :=
  ⟨by rw [k.cell (p := ⟨sb, 7, none⟩) (World.block_lt_of_cell? w _ h.store)]; exact h.store, rangeAt_kept h.box (k.block N (rangeAt_lt h.box hc)), h.map.kept (k.block bm h.map.lt)⟩
theorem PutCore.alloc {sb bm N : Nat} {cs : List Value} {w : World} (h : PutCore sb bm N cs w) (hc : 0 < cs.length) (o : Obj) : PutCore sb bm N cs (w.alloc o) :=
  h.kept hc ((Below.refl _ _).alloc (Nat.le_refl _) o)
set_option maxRecDepth 100000 in
theorem PutCore.upd {sb bm N : Nat} {cs : List Value} {w : World} {kl : Lit} (h : PutCore sb bm N cs w) (hc : 0 < cs.length) (h1 : bm ≠ sb) (h2 : bm ≠ N) {key : Value} (hk : keyOf Try.prog 79 key = some kl) (v : Value) : PutCore sb bm N cs (updW Try.prog w bm key v) := by
  obtain ⟨m, k⟩ := upd_ok h.map hk v
  have k2 := k.block N (rangeAt_lt h.box hc) (fun e => h2 e.symm)
  have k1 := k.block sb (World.block_lt_of_cell? w _ h.store) (fun e => h1 e.symm)
  exact ⟨by rw [World.cell?_of_block (w := w) (a := ⟨sb, 7, none⟩) k1]; exact h.store, rangeAt_kept h.box k2, m⟩

theorem info69 : ∃ i, Try.prog.info? 69 = some i := by
  have h : (Try.prog.info? 69).isSome = true := by kernel_rfl
  exact Option.isSome_iff_exists.1 h
theorem mkChan (w : World) : (Instr.makeChan 64 (.int .i64 0)).run Try.prog w = .ok (.chan (some w.heap.size)) (w.alloc (.chan 0 #[] false 0 0 false)) := by
  obtain ⟨i, hi⟩ := info69
  simp [Instr.makeChan, run_underlying Try.underlying64, typeInfo, hi, asInt, asIntOf, newObj, Result.andThen, go_sem]
  rfl

theorem PutCore.alloc_drew {sb bm N : Nat} {cs : List Value} {w : World} (h : PutCore sb bm N cs w.drew) (hc : 0 < cs.length) (o : Obj) : PutCore sb bm N cs (w.alloc o).drew :=
  h.kept hc ((Below.refl _ _).alloc (Nat.le_refl _) o)
theorem PutCore.start {sb bm n : Nat} {idle age : Int} {cs : List Value} {D : DataW Unit} {w : World} (hs : w.heap[sb]? = some (.cells (storeCells idle age bm) 78))
    (hm : w.ownsMap Try.prog 79 ptrElem bm n D) : PutCore sb bm w.heap.size cs (w.alloc (.cells cs.toArray 30)) :=
  ⟨by rw [World.cell?_alloc_lt _ _ _ (Array.getElem?_eq_some_iff.1 hs).1]; exact storeCell hs, range_new w cs 30, (MapOk.of_owns hm).kept (Below.heap_alloc _ _ _ hm.lt)⟩

/-- What 'ZZPut' leaves. -/
def PutPost (bm n : Nat) (cr us : Int) (u : ByteArray) (kl : Lit) (D : DataW Unit) (w w' : World) : Prop :=
  Kept (fun i => i = bm) w w' ∧ ∃ eb ch, w.heap.size ≤ eb ∧ w.heap.size ≤ ch ∧ eb ≠ ch ∧ w'.heap[eb]? = some (.cells (entryCells u cr us ch) 66) ∧ w'.heap[ch]? = some (.chan 0 #[] false 0 0 false) ∧
    w'.ownsMap Try.prog 79 ptrElem bm (n + 1) (D.put kl (.lit (.int .i64 eb)))

theorem owns_below {w w' : World} {bm n : Nat} {D : DataW Unit} (h : w.ownsMap Try.prog 79 ptrElem bm n D) (hb : w'.heap[bm]? = w.heap[bm]?) : w'.ownsMap Try.prog 79 ptrElem bm n D := by
  obtain ⟨es, clock, h1, r⟩ := h
  exact ⟨es, clock, hb.trans h1, r⟩

set_option maxRecDepth 100000 in
theorem put_end {bm n ch eb : Nat} {cr us : Int} {u : ByteArray} {kl : Lit} {D : DataW Unit} {w X : World} {key : Value} (hm : w.ownsMap Try.prog 79 ptrElem bm n D) (hn : n < maxLen) (hk : keyOf Try.prog 79 key = some kl)
    (hX : Below w.heap.size w X) (hch : X.heap[ch]? = some (.chan 0 #[] false 0 0 false)) (hle : w.heap.size ≤ ch) (heb : X.heap.size = eb) :
    PutPost bm n cr us u kl D w (updW Try.prog (X.alloc (.cells (entryCells u cr us ch) 66)) bm key (.pointer (some ⟨eb, 0, none⟩))) := by
  subst heb
  have hlt := hm.lt
  have hXs := hX.size
  have hcl : ch < X.heap.size := (Array.getElem?_eq_some_iff.1 hch).1
  have hX2 : Below w.heap.size w (X.alloc (.cells (entryCells u cr us ch) 66)) := hX.alloc hXs _
  have hm2 := owns_below hm (hX2.block bm hlt)
  have hk2 := (upd_ok (MapOk.of_owns hm2) hk (.pointer (some ⟨X.heap.size, 0, none⟩))).2
  have hsz : (X.alloc (.cells (entryCells u cr us ch) 66)).heap.size = X.heap.size + 1 := by simp
  refine ⟨((Kept.of_below hX2 (fun _ => False)).trans hk2).mono (by simp), X.heap.size, ch, hXs, hle, by omega, ?_, ?_, upd_owns hm2 hn hk⟩
  · rw [hk2.block X.heap.size (by omega) (by omega)]
    exact heap_alloc_last _ _
  · rw [hk2.block ch (by omega) (by omega), Below.heap_alloc _ _ _ hcl]
    exact hch

theorem chain1 {w wa : World} {o : Obj} (h1 : Below (w.alloc o).drew.heap.size (w.alloc o).drew wa) : Below w.heap.size w wa ∧ w.heap.size < wa.heap.size := by
  have hs := h1.size
  have e : (w.alloc o).drew.heap.size = w.heap.size + 1 := by simp
  exact ⟨(((Below.refl _ w).alloc (Nat.le_refl _) o).drew).trans (h1.mono (by omega)), by omega⟩
theorem chain2 {w wa wb : World} (h1 : Below w.heap.size w wa ∧ w.heap.size < wa.heap.size) (h2 : Below wa.heap.size wa wb) : Below w.heap.size w wb ∧ w.heap.size < wb.heap.size :=
  ⟨h1.1.trans (h2.mono (by omega)), by have := h2.size; omega⟩
theorem chain3 {w wa : World} (h1 : Below w.heap.size w wa ∧ w.heap.size < wa.heap.size) (o : Obj) : Below w.heap.size w (wa.alloc o) ∧ w.heap.size < (wa.alloc o).heap.size :=
  chain2 h1 ((Below.refl _ _).alloc (Nat.le_refl _) o)

theorem chain1b {w wa : World} {o c : Obj} (h1 : Below ((w.alloc o).alloc c).drew.heap.size ((w.alloc o).alloc c).drew wa) : (Below w.heap.size w wa ∧ w.heap.size < wa.heap.size) ∧ wa.heap[w.heap.size + 1]? = some c ∧ w.heap.size + 1 < wa.heap.size := by
  have hs := h1.size
  have e : ((w.alloc o).alloc c).drew.heap.size = w.heap.size + 2 := by simp
  refine ⟨⟨((((Below.refl _ w).alloc (Nat.le_refl _) o).alloc (by simp) c).drew).trans (h1.mono (by omega)), by omega⟩, ?_, by omega⟩
  rw [h1.block _ (by omega)]
  have := heap_alloc_last (w.alloc o) c
  rw [World.size_alloc] at this
  exact this

theorem at_ag (d : Int) (w : World) (d0 : -9223372036854775808 ≤ d) (d1 : d ≤ 9223372036854775807) :
    Calls Try.prog 22 #[.int .i64 d] w fun e w' => e = .returned (.agg #[.int .u64 (d % 1000000000), .int .i64 (d / 1000000000), .pointer none]) ∧ Below w.heap.size w w' := at_tm d w d0 d1

set_option maxRecDepth 100000 in
set_option maxHeartbeats 1000000 in
theorem put_any (sb bm n : Nat) (idle age cr us : Int) (u : ByteArray) (cs : List Value) (kl : Lit) (D : DataW Unit) (w : World) (hs : w.heap[sb]? = some (.cells (storeCells idle age bm) 78))
    (hm : w.ownsMap Try.prog 79 ptrElem bm n D) (hn : n < maxLen) (hcs : cs.length = 32) (hk : keyOf Try.prog 79 (.agg cs.toArray) = some kl)
    (c0 : -9223372036854775808 ≤ cr) (c1 : cr ≤ 9223372036854775807) (u0 : -9223372036854775808 ≤ us) (u1 : us ≤ 9223372036854775807) :
    Calls Try.prog 10 #[.pointer (some ⟨sb, 0, none⟩), .agg cs.toArray, .string u, .string ⟨#[109, 101, 109, 98, 101, 114]⟩, .int .i64 cr, .int .i64 us] w fun e w' => e = .returned (.tuple #[]) ∧ PutPost bm n cr us u kl D w w' := by
  have hne : bm ≠ sb := fun e => by
    obtain ⟨es, clock, hb, _⟩ := hm
    rw [e, hs] at hb; cases hb
  have hlt := hm.lt
  have hmc := mkChan
  have hi : (Try.prog.info? 30).map (·.size) = some cs.length := by rw [hcs]; exact info30
  have hu := Try.underlying30
  have hst := (PutCore.start (cs := cs) hs hm).kept (by omega) (Below.refl _ _).drew
  have hpos : 0 < cs.length := by omega
  have hne2 : bm ≠ w.heap.size := by omega
  go_enter Try.func10, Try.ntmps10
  go_wp2
  go_region_held3 (fun w' => w'.cell? ⟨sb, 7, none⟩ = some (.map (some bm)) ∧ w'.rangeAt w.heap.size 0 cs ∧ MapOk w' bm ∧ ∀ b, (Instr.mapUpdate 76 (.map (some bm)) (.agg cs.toArray) (.pointer (some ⟨b, 0, none⟩))).run Try.prog w' = .ok () (updW Try.prog w' bm (.agg cs.toArray) (.pointer (some ⟨b, 0, none⟩)))) (first | exact hst.s hk | exact ((PutS.core (by assumption)).kept hpos hb1).s hk | exact ((PutS.core (by assumption)).alloc hpos _).s hk | exact ((PutS.core (by assumption)).alloc_drew hpos _).s hk | exact ((PutS.core (by assumption)).upd hpos hne hne2 hk _).s hk) ((go_at_call 22; refine (at_ag _ _ (by first | exact c0 | exact u0) (by first | exact c1 | exact u1)).mono ?_; rintro e w1 ⟨rfl, hb1⟩))
  all_goals go_end0
  · have h := chain2 (chain1 (by assumption)) hb1
    exact ⟨rfl, put_end hm hn hk (X := w1.alloc (.chan 0 #[] false 0 0 false)) (chain3 h _).1 (heap_alloc_last _ _) (Nat.le_of_lt h.2) (by simp)⟩
  · have h0 := chain1 (by assumption)
    have h := chain2 (chain3 h0 _) hb1
    exact ⟨rfl, put_end hm hn hk (X := w1) h.1 ((hb1.block _ (by simp)).trans (heap_alloc_last _ _)) (Nat.le_of_lt h0.2) rfl⟩
  · have h0 := chain1b (by assumption)
    have h := chain2 h0.1 hb1
    exact ⟨rfl, put_end hm hn hk (X := w1) h.1 ((hb1.block _ h0.2.2).trans h0.2.1) (by omega) rfl⟩
end Go.Proofs.Qxb6612680a
