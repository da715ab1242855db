import Derived.Test.Qxb6612680aLive
import Derived.WideKeyArr2
import Derived.LaidEqlPtr
namespace Go.Proofs.Qxb6612680a
open Go.RowKit

theorem guard30 : Try.prog.eqGuardType Try.prog.depth 30 = false := by kernel_rfl
theorem Try.wide30 : (match Try.prog.underlying 30 with | some (.array _ _) | some (.struct _) => true | _ => false) = true := by rw [Try.underlying30]
theorem Try.row30 : (30 : TypeId) < Try.prog.types.size := of_decide_eq_true (by kernel_rfl)
set_option maxRecDepth 100000 in
theorem klaw30 : Maps.Keyed Try.prog 30 := Maps.Keyed.of_law (deep_law_laid Try.laidOut (m := 2) (by omega) Try.row30 (by kernel_rfl) Try.wide30)
theorem key30 : Try.prog.keyTypeAt 2 30 = true := by kernel_rfl

/-- A key: 32 bytes. -/
structure KeyOk (cs : List Value) (kl : Lit) : Prop where
  len : cs.length = 32
  k30 : keyOf Try.prog 30 (.agg cs.toArray) = some kl
  k79 : keyOf Try.prog 79 (.agg cs.toArray) = some kl

set_option maxRecDepth 100000 in
theorem eq_yes {kc mc : List Value} {kl : Lit} (hk : KeyOk kc kl) (hm : KeyOk mc kl) (w : World) : (Op.equalIn 10000 30 (.agg kc.toArray) (.agg mc.toArray)).run Try.prog w = .ok true w := by
  show (Op.equal 30 (.agg kc.toArray) (.agg mc.toArray)).run Try.prog w = .ok true w
  obtain ⟨r, h1, h2⟩ := run_equal_deep w (m := 2) (by omega) key30 Try.wide30 hk.k30 hm.k30
  rw [h1, h2.2 rfl]
set_option maxRecDepth 100000 in
theorem eq_no {kc mc : List Value} {kl ml : Lit} (hk : KeyOk kc kl) (hm : KeyOk mc ml) (hne : kl ≠ ml) (w : World) : (Op.equalIn 10000 30 (.agg kc.toArray) (.agg mc.toArray)).run Try.prog w = .ok false w := by
  show (Op.equal 30 (.agg kc.toArray) (.agg mc.toArray)).run Try.prog w = .ok false w
  obtain ⟨r, h1, h2⟩ := run_equal_deep w (m := 2) (by omega) key30 Try.wide30 hk.k30 hm.k30
  rw [h1]
  cases r
  · rfl
  · exact absurd (h2.1 rfl) hne

theorem range_block {w : World} {b : Nat} {cs : List Value} {t : TypeId} (h : w.heap[b]? = some (.cells cs.toArray t)) : w.rangeAt b 0 cs := fun j v hv => by
  rw [Nat.zero_add, cell_of_row _ _ j cs.toArray t (0, 0) h]; simpa using hv

set_option maxRecDepth 100000 in
set_option maxHeartbeats 1000000 in
theorem law_eq (idle age cr us t1 t2 : Int) (kc mc : List Value) (kl : Lit) (w : World) (hk : KeyOk kc kl) (hm : KeyOk mc kl) :
    Calls Try.prog 4 #[.int .i64 idle, .int .i64 age, .int .i64 cr, .int .i64 us, .int .i64 t1, .int .i64 t2, .agg kc.toArray, .agg mc.toArray] w fun e w' => e = .returned (.bool true) ∧ Below w.heap.size w w' := by
  have hg := guard30
  have he := eq_yes hk hm
  have hi1 : (Try.prog.info? 30).map (·.size) = some kc.length := by rw [hk.len]; exact info30
  have hi2 : (Try.prog.info? 30).map (·.size) = some mc.length := by rw [hm.len]; exact info30
  have b1 : ((w.alloc (.cells kc.toArray 30)).alloc (.cells mc.toArray 30)).rangeAt w.heap.size 0 kc := World.rangeAt_alloc (range_new w kc 30) _
  have b2 : ((w.alloc (.cells kc.toArray 30)).alloc (.cells mc.toArray 30)).rangeAt (w.heap.size + 1) 0 mc := by
    have := range_new (w.alloc (.cells kc.toArray 30)) mc 30
    rw [World.size_alloc] at this; exact this
  go_enter Try.func4, Try.ntmps4
  go_wp2_with (first | (refine wpList_load_mid rfl 30 _ rfl w.heap.size 0 rfl kc _ b1 Try.underlying30 rfl hi1 ?_) | (refine wpList_load_mid rfl 30 _ rfl (w.heap.size + 1) 0 rfl mc _ b2 Try.underlying30 rfl hi2 ?_))
  go_ret
  exact ⟨rfl, ((Below.refl _ _).alloc (Nat.le_refl _) _).alloc (by simp) _⟩

/-- Where the law stands, behind its 'ZZPut'. -/
structure LawSt (N eb ch n : Nat) (kc mc : List Value) (idle age cr us : Int) (D : DataW Unit) (shut : Bool) (w W : World) : Prop where
  below : Below N w W
  size : N + 4 ≤ W.heap.size
  box1 : W.heap[N]? = some (.cells kc.toArray 30)
  box2 : W.heap[N + 1]? = some (.cells mc.toArray 30)
  store : W.heap[N + 3]? = some (.cells (storeCells idle age (N + 2)) 78)
  map : W.ownsMap Try.prog 79 ptrElem (N + 2) n D
  entry : W.heap[eb]? = some (.cells (entryCells ⟨#[109, 101, 109, 98, 101, 114]⟩ cr us ch) 66)
  chan : W.heap[ch]? = some (.chan 0 #[] shut 0 0 false)
  heb : N + 4 ≤ eb
  hch : N + 4 ≤ ch

section
variable {N eb ch n : Nat} {kc mc : List Value} {idle age cr us : Int} {D : DataW Unit} {shut : Bool} {w W W' : World}
theorem LawSt.kept (h : LawSt N eb ch n kc mc idle age cr us D shut w W) (k : Below W.heap.size W W') : LawSt N eb ch n kc mc idle age cr us D shut w W' := by
  have s := h.size
  have l1 : eb < W.heap.size := (Array.getElem?_eq_some_iff.1 h.entry).1
  have l2 : ch < W.heap.size := (Array.getElem?_eq_some_iff.1 h.chan).1
  exact ⟨h.below.trans (k.mono (by omega)), Nat.le_trans s k.size, (k.block _ (by omega)).trans h.box1, (k.block _ (by omega)).trans h.box2, (k.block _ (by omega)).trans h.store,
    owns_below h.map (k.block _ (by omega)), (k.block _ l1).trans h.entry, (k.block _ l2).trans h.chan, h.heb, h.hch⟩
theorem LawSt.turn (h : LawSt N eb ch n kc mc idle age cr us D shut w W) {D' : DataW Unit} {shut' : Bool} (k : Kept (fun i => i = N + 2 ∨ i = ch) W W') (hc : W'.heap[ch]? = some (.chan 0 #[] shut' 0 0 false)) (hm : W'.ownsMap Try.prog 79 ptrElem (N + 2) n D') :
    LawSt N eb ch n kc mc idle age cr us D' shut' w W' := by
  have s := h.size
  have a := h.heb
  have b := h.hch
  have l1 : eb < W.heap.size := (Array.getElem?_eq_some_iff.1 h.entry).1
  have hne : eb ≠ ch := fun e => by have h1 := h.entry; rw [e, h.chan] at h1; cases h1
  exact ⟨h.below.trans (k.below (by omega) (by omega)), Nat.le_trans s k.size, (k.block _ (by omega) (by omega)).trans h.box1, (k.block _ (by omega) (by omega)).trans h.box2, (k.block _ (by omega) (by omega)).trans h.store,
    hm, (k.block _ l1 (by omega)).trans h.entry, hc, h.heb, h.hch⟩
end
end Go.Proofs.Qxb6612680a
