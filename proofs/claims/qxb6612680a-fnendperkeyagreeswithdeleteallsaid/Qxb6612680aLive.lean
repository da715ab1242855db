import Derived.Test.Qxb6612680aEnded
namespace Go.Proofs.Qxb6612680a
open Go.RowKit

theorem wrap_over (x : Int) (h : 9223372036854775807 < x) (h' : x < 18446744073709551616) : wrap64 x = x - 18446744073709551616 := by
  rw [wrap64]; omega
theorem wrap_under (x : Int) (h : x < -9223372036854775808) (h' : -18446744073709551616 ≤ x) : wrap64 x = x + 18446744073709551616 := by
  rw [wrap64]; omega

set_option maxHeartbeats 400000 in
theorem ltSum_any (a b c : Int) (w : World) (a0 : -9223372036854775808 ≤ a) (a1 : a ≤ 9223372036854775807) (b0 : -9223372036854775808 ≤ b) (b1 : b ≤ 9223372036854775807) (c0 : -9223372036854775808 ≤ c) (c1 : c ≤ 9223372036854775807) :
    Calls Try.prog 26 #[.int .i64 a, .int .i64 b, .int .i64 c] w fun e w' => e = .returned (.bool (decide (a < b + c))) ∧ w' = w := by
  by_cases h1 : 9223372036854775807 < b + c
  · have E : Hid (decide (a < b + c) = true) := by show _ = _; simp; omega
    have hw := wrap_over (b + c) h1 (by omega)
    have hc : 0 < c := by omega
    have hl : b + c - 18446744073709551616 < b := by omega
    go_enter Try.func26, Try.ntmps26
    go_wp2
    go_ret
    exact ⟨by rw [E.out]; rfl, rfl⟩
  by_cases h2 : b + c < -9223372036854775808
  · have E : Hid (decide (a < b + c) = false) := by show _ = _; simp; omega
    have hw := wrap_under (b + c) h2 (by omega)
    have hc : c < 0 := by omega
    have hl : b < b + c + 18446744073709551616 := by omega
    go_enter Try.func26, Try.ntmps26
    go_wp2
    go_ret
    exact ⟨by rw [E.out]; rfl, rfl⟩
  · have h3 : -9223372036854775808 ≤ b + c := by omega
    have h4 : b + c ≤ 9223372036854775807 := by omega
    by_cases hc : 0 < c
    · go_enter Try.func26, Try.ntmps26
      go_wp2
      go_ret
      exact ⟨rfl, rfl⟩
    by_cases hc' : c < 0
    · go_enter Try.func26, Try.ntmps26
      go_wp2
      go_ret
      exact ⟨rfl, rfl⟩
    · go_enter Try.func26, Try.ntmps26
      go_wp2
      go_ret
      exact ⟨rfl, rfl⟩

def liveB (now cr us idle age : Int) : Bool := decide (now < us + idle) && decide (now < cr + age)

set_option maxHeartbeats 400000 in
theorem liveAt_any (now cr us idle age : Int) (w : World) (n0 : -9223372036854775808 ≤ now) (n1 : now ≤ 9223372036854775807) (c0 : -9223372036854775808 ≤ cr) (c1 : cr ≤ 9223372036854775807) (u0 : -9223372036854775808 ≤ us) (u1 : us ≤ 9223372036854775807)
    (i0 : -9223372036854775808 ≤ idle) (i1 : idle ≤ 9223372036854775807) (a0 : -9223372036854775808 ≤ age) (a1 : age ≤ 9223372036854775807) :
    Calls Try.prog 15 #[.int .i64 now, .int .i64 cr, .int .i64 us, .int .i64 idle, .int .i64 age] w fun e w' => e = .returned (.bool (liveB now cr us idle age)) ∧ w' = w := by
  by_cases h : now < us + idle
  · have E : Hid (liveB now cr us idle age = decide (now < cr + age)) := by show _ = _; simp [liveB, h]
    go_enter Try.func15, Try.ntmps15
    go_wp2_with (go_at_call 26; refine (ltSum_any _ _ _ _ (by omega) (by omega) (by omega) (by omega) (by omega) (by omega)).mono ?_; rintro e w' ⟨rfl, rfl⟩)
    go_ret
    exact ⟨by rw [E.out]; rfl, rfl⟩
  · have E : Hid (liveB now cr us idle age = false) := by show _ = _; simp [liveB, h]
    have hd : decide (now < us + idle) = false := by simpa using h
    go_enter Try.func15, Try.ntmps15
    go_wp2_with (go_at_call 26; refine (ltSum_any _ _ _ _ (by omega) (by omega) (by omega) (by omega) (by omega) (by omega)).mono ?_; rintro e w' ⟨rfl, rfl⟩)
    go_ret
    exact ⟨by rw [E.out]; rfl, rfl⟩

theorem endOf_ag (sb eb bm ch : Nat) (idle age cr us : Int) (u : ByteArray) (w : World) (hs : w.heap[sb]? = some (.cells (storeCells idle age bm) 78)) (he : w.heap[eb]? = some (.cells (entryCells u cr us ch) 66))
    (i0 : -9223372036854775808 ≤ idle) (i1 : idle ≤ 9223372036854775807) (a0 : -9223372036854775808 ≤ age) (a1 : age ≤ 9223372036854775807)
    (c0 : -9223372036854775808 ≤ cr) (c1 : cr ≤ 9223372036854775807) (u0 : -9223372036854775808 ≤ us) (u1 : us ≤ 9223372036854775807) (E : Int) (hE : E = if us + idle < cr + age then us + idle else cr + age) :
    Calls Try.prog 21 #[.pointer (some ⟨sb, 0, none⟩), .pointer (some ⟨eb, 0, none⟩)] w fun e w' => e = .returned (.agg #[.int .u64 (E % 1000000000), .int .i64 (E / 1000000000), .pointer none]) ∧ Below w.heap.size w w' := by
  subst hE
  exact endOf_any sb eb bm ch idle age cr us u w hs he i0 i1 a0 a1 c0 c1 u0 u1

theorem below2 {w a b c : World} (h1 : Below w.heap.size w a) (h2 : Below a.heap.size a b) (h3 : Below b.heap.size b c) : Below w.heap.size w c := by
  have s1 := h1.size
  have s2 := h2.size
  exact (h1.trans (h2.mono s1)).trans (h3.mono (by omega))
theorem below12 {a b c : World} (h2 : Below a.heap.size a b) (h3 : Below b.heap.size b c) : Below a.heap.size a c := h2.trans (h3.mono h2.size)
/-- A Time in a variable. -/
def BoxS (N : Nat) (T : Int) (w : World) : Prop := w.cell? ⟨N, 0, none⟩ = some (.int .u64 (T % 1000000000)) ∧ w.cell? ⟨N, 1, none⟩ = some (.int .i64 (T / 1000000000)) ∧ w.cell? ⟨N, 2, none⟩ = some (.pointer none)
theorem BoxS.kept {N : Nat} {T : Int} {w w' : World} (h : BoxS N T w) (k : Below w.heap.size w w') : BoxS N T w' := by
  obtain ⟨h1, h2, h3⟩ := h
  have l1 : N < w.heap.size := World.block_lt_of_cell? w _ h1
  exact ⟨by rw [k.cell (p := ⟨N, 0, none⟩) l1]; exact h1, by rw [k.cell (p := ⟨N, 1, none⟩) l1]; exact h2, by rw [k.cell (p := ⟨N, 2, none⟩) l1]; exact h3⟩

set_option maxRecDepth 100000 in
set_option maxHeartbeats 1000000 in
theorem live_none (sb bm n : Nat) (idle age now : Int) (cs : List Value) (kl : Lit) (D : DataW Unit) (w : World) (hs : w.heap[sb]? = some (.cells (storeCells idle age bm) 78))
    (hm : w.ownsMap Try.prog 79 ptrElem bm n D) (hcs : cs.length = 32) (hk : keyOf Try.prog 79 (.agg cs.toArray) = some kl) (hn : Maps.has D kl = false) :
    Calls Try.prog 25 #[.pointer (some ⟨sb, 0, none⟩), .agg cs.toArray, .agg #[.int .u64 (now % 1000000000), .int .i64 (now / 1000000000), .pointer none]] w fun e w' => e = .returned (.pointer none) ∧ Below w.heap.size w w' := by
  have hst := (start79 (cs := cs) hs hm).alloc (by omega) (.cells #[.int .u64 (now % 1000000000), .int .i64 (now / 1000000000), .pointer none] 50)
  have hl := look_at2 (w := ((w.alloc (.cells cs.toArray 79)).alloc (.cells #[.int .u64 (now % 1000000000), .int .i64 (now / 1000000000), .pointer none] 50)).drew) ((hm.alloc (.cells cs.toArray 79)).alloc _).drew hk
  rw [hn] at hl
  have hi : (Try.prog.info? 79).map (·.size) = some cs.length := by rw [hcs]; exact info79
  have hu := Try.underlying79
  go_enter Try.func25, Try.ntmps25
  go_wp2
  go_region_held3 (fun w' => w'.cell? ⟨sb, 7, none⟩ = some (.map (some bm)) ∧ w'.rangeAt w.heap.size 0 cs ∧ (Instr.lookup 76 (.map (some bm)) (.agg cs.toArray) true).run Try.prog w' = .ok (.tuple #[ptrOf (D.atKey kl .nil), .bool false]) w') (exact ⟨hst.store, (World.rangeAt_drew _ _ _ _).2 hst.box, hl⟩) (fail)
  go_wp2
  go_ret
  exact ⟨rfl, (((Below.refl _ _).alloc (Nat.le_refl _) _).alloc (by simp) _).drew⟩

set_option maxRecDepth 100000 in
set_option maxHeartbeats 2000000 in
theorem live_some (sb bm n eb ch : Nat) (idle age cr us now : Int) (u : ByteArray) (cs : List Value) (kl : Lit) (D : DataW Unit) (w : World) (hs : w.heap[sb]? = some (.cells (storeCells idle age bm) 78))
    (hm : w.ownsMap Try.prog 79 ptrElem bm n D) (hcs : cs.length = 32) (hk : keyOf Try.prog 79 (.agg cs.toArray) = some kl) (hn : Maps.has D kl = true) (ha : D.atKey kl .nil = .lit (.int .i64 eb))
    (he : w.heap[eb]? = some (.cells (entryCells u cr us ch) 66))
    (i0 : -9223372036854775808 ≤ idle) (i1 : idle ≤ 9223372036854775807) (a0 : -9223372036854775808 ≤ age) (a1 : age ≤ 9223372036854775807)
    (c0 : -9223372036854775808 ≤ cr) (c1 : cr ≤ 9223372036854775807) (u0 : -9223372036854775808 ≤ us) (u1 : us ≤ 9223372036854775807) (hlive : liveB now cr us idle age = true) :
    Calls Try.prog 25 #[.pointer (some ⟨sb, 0, none⟩), .agg cs.toArray, .agg #[.int .u64 (now % 1000000000), .int .i64 (now / 1000000000), .pointer none]] w fun e w' => e = .returned (.pointer (some ⟨eb, 0, none⟩)) ∧ Below w.heap.size w w' := by
  obtain ⟨E, hE⟩ : ∃ E : Int, E = if us + idle < cr + age then us + idle else cr + age := ⟨_, rfl⟩
  have hd : decide (now < E) = true := by
    simp [liveB] at hlive ⊢
    split at hE <;> omega
  have hst := (start79 (cs := cs) hs hm).alloc (by omega) (.cells #[.int .u64 (now % 1000000000), .int .i64 (now / 1000000000), .pointer none] 50)
  have hl := look_at2 (w := ((w.alloc (.cells cs.toArray 79)).alloc (.cells #[.int .u64 (now % 1000000000), .int .i64 (now / 1000000000), .pointer none] 50)).drew) ((hm.alloc (.cells cs.toArray 79)).alloc _).drew hk
  rw [hn, ha] at hl
  simp only [ptrOf, Int.toNat_natCast] at hl
  have hi : (Try.prog.info? 79).map (·.size) = some cs.length := by rw [hcs]; exact info79
  have hu := Try.underlying79
  have hB : Below w.heap.size w ((w.alloc (.cells cs.toArray 79)).alloc (.cells #[.int .u64 (now % 1000000000), .int .i64 (now / 1000000000), .pointer none] 50)).drew.drew :=
    (((Below.refl _ w).alloc (Nat.le_refl _) _).alloc (by simp) _).drew.drew
  have l1 : eb < w.heap.size := (Array.getElem?_eq_some_iff.1 he).1
  have l3 : sb < w.heap.size := (Array.getElem?_eq_some_iff.1 hs).1
  have hs1 := (hB.block sb l3).trans hs
  have he1 := (hB.block eb l1).trans he
  have HE : Hid _ := hE
  clear hE
  have hbox : BoxS (w.heap.size + 1) now ((w.alloc (.cells cs.toArray 79)).alloc (.cells #[.int .u64 (now % 1000000000), .int .i64 (now / 1000000000), .pointer none] 50)).drew.drew := by
    unfold BoxS; simp [go_sem]
  go_enter Try.func25, Try.ntmps25
  go_wp2
  go_region_held3 (fun w' => w'.cell? ⟨sb, 7, none⟩ = some (.map (some bm)) ∧ w'.rangeAt w.heap.size 0 cs ∧ (Instr.lookup 76 (.map (some bm)) (.agg cs.toArray) true).run Try.prog w' = .ok (.tuple #[.pointer (some ⟨eb, 0, none⟩), .bool true]) w') (exact ⟨hst.store, (World.rangeAt_drew _ _ _ _).2 hst.box, hl⟩) (fail)
  go_wp2
  go_region_held3 (fun w' => w'.cell? ⟨w.heap.size + 1, 0, none⟩ = some (.int .u64 (now % 1000000000)) ∧ w'.cell? ⟨w.heap.size + 1, 1, none⟩ = some (.int .i64 (now / 1000000000)) ∧ w'.cell? ⟨w.heap.size + 1, 2, none⟩ = some (.pointer none)) (first | exact hbox | exact BoxS.kept (by assumption) hb1)
    (first | (go_at_call 21; refine (endOf_ag sb eb bm ch idle age cr us u _ hs1 he1 i0 i1 a0 a1 c0 c1 u0 u1 E HE.out).mono ?_; rintro e w1 ⟨rfl, hb1⟩) | (go_at_call 31; refine (before_ag _ _ _).mono ?_; rintro e w1 ⟨rfl, hb1⟩))
  go_wp2
  go_ret
  refine ⟨rfl, ?_⟩
  exact below2 hB (by assumption) hb1

set_option maxRecDepth 100000 in
set_option maxHeartbeats 2000000 in
theorem live_over (sb bm n eb ch : Nat) (idle age cr us now : Int) (u : ByteArray) (cs : List Value) (kl : Lit) (D : DataW Unit) (w : World) (hs : w.heap[sb]? = some (.cells (storeCells idle age bm) 78))
    (hm : w.ownsMap Try.prog 79 ptrElem bm n D) (hcs : cs.length = 32) (hk : keyOf Try.prog 79 (.agg cs.toArray) = some kl) (hn : Maps.has D kl = true) (ha : D.atKey kl .nil = .lit (.int .i64 eb))
    (he : w.heap[eb]? = some (.cells (entryCells u cr us ch) 66)) (hch : w.heap[ch]? = some (.chan 0 #[] false 0 0 false))
    (i0 : -9223372036854775808 ≤ idle) (i1 : idle ≤ 9223372036854775807) (a0 : -9223372036854775808 ≤ age) (a1 : age ≤ 9223372036854775807)
    (c0 : -9223372036854775808 ≤ cr) (c1 : cr ≤ 9223372036854775807) (u0 : -9223372036854775808 ≤ us) (u1 : us ≤ 9223372036854775807) (hlive : liveB now cr us idle age = false) :
    Calls Try.prog 25 #[.pointer (some ⟨sb, 0, none⟩), .agg cs.toArray, .agg #[.int .u64 (now % 1000000000), .int .i64 (now / 1000000000), .pointer none]] w fun e w' => e = .returned (.pointer none) ∧ Kept (fun i => i = bm ∨ i = ch) w w' ∧ w'.heap[ch]? = some (.chan 0 #[] true 0 0 false) ∧ w'.ownsMap Try.prog 79 ptrElem bm n (D.del kl) := by
  obtain ⟨E, hE⟩ : ∃ E : Int, E = if us + idle < cr + age then us + idle else cr + age := ⟨_, rfl⟩
  have hd : decide (now < E) = false := by
    simp [liveB] at hlive ⊢
    split at hE <;> omega
  have hst := (start79 (cs := cs) hs hm).alloc (by omega) (.cells #[.int .u64 (now % 1000000000), .int .i64 (now / 1000000000), .pointer none] 50)
  have hl := look_at2 (w := ((w.alloc (.cells cs.toArray 79)).alloc (.cells #[.int .u64 (now % 1000000000), .int .i64 (now / 1000000000), .pointer none] 50)).drew) ((hm.alloc (.cells cs.toArray 79)).alloc _).drew hk
  rw [hn, ha] at hl
  simp only [ptrOf, Int.toNat_natCast] at hl
  have hi : (Try.prog.info? 79).map (·.size) = some cs.length := by rw [hcs]; exact info79
  have hu := Try.underlying79
  have hB : Below w.heap.size w ((w.alloc (.cells cs.toArray 79)).alloc (.cells #[.int .u64 (now % 1000000000), .int .i64 (now / 1000000000), .pointer none] 50)).drew.drew :=
    (((Below.refl _ w).alloc (Nat.le_refl _) _).alloc (by simp) _).drew.drew
  have l1 : eb < w.heap.size := (Array.getElem?_eq_some_iff.1 he).1
  have l2 : ch < w.heap.size := (Array.getElem?_eq_some_iff.1 hch).1
  have l3 : sb < w.heap.size := (Array.getElem?_eq_some_iff.1 hs).1
  have l4 := hm.lt
  have hs1 := (hB.block sb l3).trans hs
  have he1 := (hB.block eb l1).trans he
  have HE : Hid _ := hE
  clear hE
  have hbox : BoxS (w.heap.size + 1) now ((w.alloc (.cells cs.toArray 79)).alloc (.cells #[.int .u64 (now % 1000000000), .int .i64 (now / 1000000000), .pointer none] 50)).drew.drew := by
    unfold BoxS; simp [go_sem]
  have hr0 : ((w.alloc (.cells cs.toArray 79)).alloc (.cells #[.int .u64 (now % 1000000000), .int .i64 (now / 1000000000), .pointer none] 50)).drew.drew.rangeAt w.heap.size 0 cs := (World.rangeAt_drew _ _ _ _).2 ((World.rangeAt_drew _ _ _ _).2 hst.box)
  go_enter Try.func25, Try.ntmps25
  go_wp2
  go_region_held3 (fun w' => w'.cell? ⟨sb, 7, none⟩ = some (.map (some bm)) ∧ w'.rangeAt w.heap.size 0 cs ∧ (Instr.lookup 76 (.map (some bm)) (.agg cs.toArray) true).run Try.prog w' = .ok (.tuple #[.pointer (some ⟨eb, 0, none⟩), .bool true]) w') (exact ⟨hst.store, (World.rangeAt_drew _ _ _ _).2 hst.box, hl⟩) (fail)
  go_wp2
  go_region_held3 (fun w' => w'.cell? ⟨w.heap.size + 1, 0, none⟩ = some (.int .u64 (now % 1000000000)) ∧ w'.cell? ⟨w.heap.size + 1, 1, none⟩ = some (.int .i64 (now / 1000000000)) ∧ w'.cell? ⟨w.heap.size + 1, 2, none⟩ = some (.pointer none)) (first | exact hbox | exact BoxS.kept (by assumption) hb1)
    (first | (go_at_call 21; refine (endOf_ag sb eb bm ch idle age cr us u _ hs1 he1 i0 i1 a0 a1 c0 c1 u0 u1 E HE.out).mono ?_; rintro e w1 ⟨rfl, hb1⟩) | (go_at_call 31; refine (before_ag _ _ _).mono ?_; rintro e w1 ⟨rfl, hb1⟩))
  have hW : Below ((w.alloc (.cells cs.toArray 79)).alloc (.cells #[.int .u64 (now % 1000000000), .int .i64 (now / 1000000000), .pointer none] 50)).drew.drew.heap.size ((w.alloc (.cells cs.toArray 79)).alloc (.cells #[.int .u64 (now % 1000000000), .int .i64 (now / 1000000000), .pointer none] 50)).drew.drew w1 := below12 (by assumption) hb1
  have hr := rangeAt_kept hr0 (hW.block _ (by simp; omega))
  have hB1 : Below w.heap.size w w1 := hB.trans (hW.mono hB.size)
  go_wp2_with (first | (refine wpList_load_mid rfl 79 _ rfl w.heap.size 0 rfl cs _ hr Try.underlying79 rfl hi ?_) | (go_at_call 27; refine (end_some sb bm n eb ch idle age cr us u cs kl D _ ((hB1.block sb l3).trans hs) (owns_below hm (hB1.block bm l4)) hcs hk hn ha ((hB1.block eb l1).trans he) ((hB1.block ch l2).trans hch)).mono ?_; rintro e w2 ⟨rfl, k1, k2, k3⟩))
  go_ret
  exact ⟨rfl, ((Kept.of_below hB1 (fun _ => False)).trans k1).mono (by simp), k2, k3⟩

/-! ### 'ZZLiveEntry' -/
theorem start30 {sb bm n : Nat} {idle age : Int} {cs : List Value} {D : DataW Unit} {w : World} (hs : w.heap[sb]? = some (.cells (storeCells idle age bm) 78))
    (hm : w.ownsMap Try.prog 79 ptrElem bm n D) : PutCore sb bm w.heap.size cs (w.alloc (.cells cs.toArray 30)) := PutCore.start hs hm

set_option maxRecDepth 100000 in
set_option maxHeartbeats 1000000 in
/-- The front: the box, the Time; then whatever 'liveEntry' does from a world that holds all that was there. -/
theorem zlive_any (sb : Nat) (now : Int) (cs : List Value) (w : World) (hcs : cs.length = 32) (n0 : -9223372036854775808 ≤ now) (n1 : now ≤ 9223372036854775807) (R : Ending → World → Prop)
    (h : ∀ w1, Below w.heap.size w w1 → Calls Try.prog 25 #[.pointer (some ⟨sb, 0, none⟩), .agg cs.toArray, .agg #[.int .u64 (now % 1000000000), .int .i64 (now / 1000000000), .pointer none]] w1 fun e w' => ∃ r, e = .returned (.pointer r) ∧ Kept (fun i => i < w.heap.size) w1 w' ∧ R (.returned (.pointer r)) w') :
    Calls Try.prog 12 #[.pointer (some ⟨sb, 0, none⟩), .agg cs.toArray, .int .i64 now] w fun e w' => R e w' := by
  have hr := (World.rangeAt_drew _ _ _ _).2 (range_new w cs 30)
  have hi : (Try.prog.info? 30).map (·.size) = some cs.length := by rw [hcs]; exact info30
  have hu := Try.underlying30
  have H : Hid _ := h
  clear h
  have hpos : 0 < cs.length := by omega
  have hB : Below w.heap.size w (w.alloc (.cells cs.toArray 30)).drew := ((Below.refl _ w).alloc (Nat.le_refl _) _).drew
  go_enter Try.func12, Try.ntmps12
  go_wp2
  go_region_held3 (fun w' => w'.rangeAt w.heap.size 0 cs) (first | exact hr | exact rangeAt_kept hr (hb1.block _ (by simp)) | exact rangeAt_kept (rangeAt_kept hr (hb1.block _ (by simp))) (kk.block _ (by have := hb1.size; simp at this; omega) (by omega)))
    (first | (go_at_call 22; refine (at_ag _ _ n0 n1).mono ?_; rintro e w1 ⟨rfl, hb1⟩) | (go_at_call 25; refine (H.out _ (hB.trans (hb1.mono hB.size))).mono ?_; rintro e w2 ⟨r, rfl, kk, hR⟩; have HR : Hid _ := hR; clear hR))
  go_wp2
  exact HR.out
end Go.Proofs.Qxb6612680a
