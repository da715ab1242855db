import Derived.Test.Qxb6612680aLaw1
namespace Go.Proofs.Qxb6612680a
open Go.RowKit

/-- The three ways in which 'ZZLiveEntry' goes, from where the law stands. -/
theorem zlive_miss {N eb ch n : Nat} {kc mc cs : List Value} {idle age cr us now : Int} {D : DataW Unit} {shut : Bool} {w W : World} {kl : Lit} (h : LawSt N eb ch n kc mc idle age cr us D shut w W)
    (hc : KeyOk cs kl) (hn : Maps.has D kl = false) (n0 : -9223372036854775808 ≤ now) (n1 : now ≤ 9223372036854775807) :
    Calls Try.prog 12 #[.pointer (some ⟨N + 3, 0, none⟩), .agg cs.toArray, .int .i64 now] W fun e w' => e = .returned (.pointer none) ∧ LawSt N eb ch n kc mc idle age cr us D shut w w' := by
  refine zlive_any (N + 3) now cs W hc.len n0 n1 (fun e w' => e = .returned (.pointer none) ∧ LawSt N eb ch n kc mc idle age cr us D shut w w') (fun w1 hb => ?_)
  have h1 := h.kept hb
  refine (live_none (N + 3) (N + 2) n idle age now cs kl D w1 h1.store h1.map hc.len hc.k79 hn).mono ?_
  rintro e w' ⟨rfl, hb2⟩
  exact ⟨none, rfl, Kept.of_below hb2 _, rfl, h1.kept hb2⟩
theorem zlive_live {N eb ch n : Nat} {kc mc cs : List Value} {idle age cr us now : Int} {D : DataW Unit} {shut : Bool} {w W : World} {kl : Lit} (h : LawSt N eb ch n kc mc idle age cr us D shut w W)
    (hc : KeyOk cs kl) (hn : Maps.has D kl = true) (ha : D.atKey kl .nil = .lit (.int .i64 eb)) (n0 : -9223372036854775808 ≤ now) (n1 : now ≤ 9223372036854775807)
    (i0 : -9223372036854775808 ≤ idle) (i1 : idle ≤ 9223372036854775807) (a0 : -9223372036854775808 ≤ age) (a1 : age ≤ 9223372036854775807)
    (c0 : -9223372036854775808 ≤ cr) (c1 : cr ≤ 9223372036854775807) (u0 : -9223372036854775808 ≤ us) (u1 : us ≤ 9223372036854775807) (hlive : liveB now cr us idle age = true) :
    Calls Try.prog 12 #[.pointer (some ⟨N + 3, 0, none⟩), .agg cs.toArray, .int .i64 now] W fun e w' => e = .returned (.pointer (some ⟨eb, 0, none⟩)) ∧ LawSt N eb ch n kc mc idle age cr us D shut w w' := by
  refine zlive_any (N + 3) now cs W hc.len n0 n1 (fun e w' => e = .returned (.pointer (some ⟨eb, 0, none⟩)) ∧ LawSt N eb ch n kc mc idle age cr us D shut w w') (fun w1 hb => ?_)
  have h1 := h.kept hb
  refine (live_some (N + 3) (N + 2) n eb ch idle age cr us now _ cs kl D w1 h1.store h1.map hc.len hc.k79 hn ha h1.entry i0 i1 a0 a1 c0 c1 u0 u1 hlive).mono ?_
  rintro e w' ⟨rfl, hb2⟩
  exact ⟨some ⟨eb, 0, none⟩, rfl, Kept.of_below hb2 _, rfl, h1.kept hb2⟩
theorem zlive_over {N eb ch n : Nat} {kc mc cs : List Value} {idle age cr us now : Int} {D : DataW Unit} {w W : World} {kl : Lit} (h : LawSt N eb ch n kc mc idle age cr us D false w W)
    (hc : KeyOk cs kl) (hn : Maps.has D kl = true) (ha : D.atKey kl .nil = .lit (.int .i64 eb)) (n0 : -9223372036854775808 ≤ now) (n1 : now ≤ 9223372036854775807)
    (i0 : -9223372036854775808 ≤ idle) (i1 : idle ≤ 9223372036854775807) (a0 : -9223372036854775808 ≤ age) (a1 : age ≤ 9223372036854775807)
    (c0 : -9223372036854775808 ≤ cr) (c1 : cr ≤ 9223372036854775807) (u0 : -9223372036854775808 ≤ us) (u1 : us ≤ 9223372036854775807) (hlive : liveB now cr us idle age = false) :
    Calls Try.prog 12 #[.pointer (some ⟨N + 3, 0, none⟩), .agg cs.toArray, .int .i64 now] W fun e w' => e = .returned (.pointer none) ∧ LawSt N eb ch n kc mc idle age cr us (D.del kl) true w w' := by
  refine zlive_any (N + 3) now cs W hc.len n0 n1 (fun e w' => e = .returned (.pointer none) ∧ LawSt N eb ch n kc mc idle age cr us (D.del kl) true w w') (fun w1 hb => ?_)
  have h1 := h.kept hb
  have l2 : ch < W.heap.size := (Array.getElem?_eq_some_iff.1 h.chan).1
  have hs := h.size
  refine (live_over (N + 3) (N + 2) n eb ch idle age cr us now _ cs kl D w1 h1.store h1.map hc.len hc.k79 hn ha h1.entry h1.chan i0 i1 a0 a1 c0 c1 u0 u1 hlive).mono ?_
  rintro e w' ⟨rfl, k1, k2, k3⟩
  exact ⟨none, rfl, k1.mono (by omega), rfl, h1.turn k1 k2 k3⟩

theorem info66 : ∃ i, Try.prog.info? 66 = some i := by
  have h : (Try.prog.info? 66).isSome = true := by kernel_rfl
  exact Option.isSome_iff_exists.1 h
theorem same_ptr (a : Addr) (w : World) : (Op.equalIn 10000 32 (.pointer (some a)) (.pointer (some a))).run Try.prog w = .ok true w := by
  obtain ⟨i, hi⟩ := info66
  have h : ∀ d : Nat, (Op.equalIn (d + 1) 32 (.pointer (some a)) (.pointer (some a))).run Try.prog w = .ok true w := fun d => by
    simp [Op.equalIn, run_underlying Try.underlying32, sizeOf, typeInfo, hi, run_sameAddr_same]
  exact h 9999
theorem ne_ptr (a : Addr) (w : World) : (binOp .neq 32 (.pointer (some a)) (.pointer (some a))).run Try.prog w = .ok (.bool false) w := by
  have h := same_ptr a w
  simp only [binOp]
  simp [Op.equal, Op.maxDepth, h]


/-- 'ZZNewStore' as the law meets it. -/
theorem newStore_st (idle age : Int) (w : World) :
    Calls Try.prog 7 #[.int .i64 idle, .int .i64 age, .int .i64 1073741824, .int .i64 1073741824] w fun e w' => e = .returned (.pointer (some ⟨w.heap.size + 1, 0, none⟩)) ∧ Below w.heap.size w w' ∧ w.heap.size + 2 ≤ w'.heap.size ∧
      w'.heap[w.heap.size + 1]? = some (.cells (storeCells idle age w.heap.size) 78) ∧ w'.ownsMap Try.prog 79 ptrElem w.heap.size 0 (.map []) := by
  refine (newStore_any idle age w).mono ?_
  rintro e w' ⟨rfl, rfl⟩
  refine ⟨rfl, ((Below.refl _ _).alloc (Nat.le_refl _) _).alloc (by simp) _, by simp, ?_, (World.ownsMap_made w Try.prog 79 ptrElem).alloc _⟩
  have := heap_alloc_last (w.alloc (.map #[] 0)) (.cells (storeCells idle age w.heap.size) 78)
  rw [World.size_alloc] at this
  exact this

theorem get_st {N eb ch n : Nat} {kc mc cs : List Value} {idle age cr us : Int} {D : DataW Unit} {shut : Bool} {w W : World} {kl : Lit} (h : LawSt N eb ch n kc mc idle age cr us D shut w W)
    (hc : KeyOk cs kl) (ha : D.atKey kl .nil = .lit (.int .i64 eb)) :
    Calls Try.prog 11 #[.pointer (some ⟨N + 3, 0, none⟩), .agg cs.toArray] W fun e w' => e = .returned (.pointer (some ⟨eb, 0, none⟩)) ∧ LawSt N eb ch n kc mc idle age cr us D shut w w' := by
  refine (get_any (N + 3) (N + 2) n idle age cs kl D W h.store h.map hc.len hc.k79).mono ?_
  rintro e w' ⟨rfl, hb⟩
  exact ⟨by rw [ha]; simp [ptrOf], h.kept hb⟩
theorem len_st {N eb ch n : Nat} {kc mc : List Value} {idle age cr us : Int} {D : DataW Unit} {shut : Bool} {w W : World} (h : LawSt N eb ch n kc mc idle age cr us D shut w W) {k : Nat} (hk : Maps.size D = k) :
    Calls Try.prog 13 #[.pointer (some ⟨N + 3, 0, none⟩)] W fun e w' => e = .returned (.int .i64 k) ∧ W = w' := by
  refine (len_any (N + 3) (N + 2) n idle age D W h.store h.map).mono ?_
  rintro e w' ⟨rfl, hw⟩
  exact ⟨by rw [hk], hw.symm⟩
theorem ended_st {N eb ch n : Nat} {kc mc : List Value} {idle age cr us : Int} {D : DataW Unit} {shut : Bool} {w W : World} (h : LawSt N eb ch n kc mc idle age cr us D shut w W) :
    Calls Try.prog 14 #[.pointer (some ⟨eb, 0, none⟩)] W fun e w' => e = .returned (.bool shut) ∧ W = w' := by
  cases shut
  · refine (ended_no eb ch cr us _ W h.entry h.chan).mono ?_
    rintro e w' ⟨rfl, hw⟩
    exact ⟨rfl, hw.symm⟩
  · refine (ended_yes eb ch cr us _ W h.entry h.chan).mono ?_
    rintro e w' ⟨rfl, hw⟩
    exact ⟨rfl, hw.symm⟩

set_option maxRecDepth 100000 in
set_option maxHeartbeats 4000000 in
theorem law_ne (idle age cr us t1 t2 : Int) (kc mc : List Value) (kl ml : Lit) (w : World) (hk : KeyOk kc kl) (hm : KeyOk mc ml) (hne : kl ≠ ml)
    (i0 : -9223372036854775808 ≤ idle) (i1 : idle ≤ 9223372036854775807) (a0 : -9223372036854775808 ≤ age) (a1 : age ≤ 9223372036854775807)
    (c0 : -9223372036854775808 ≤ cr) (c1 : cr ≤ 9223372036854775807) (u0 : -9223372036854775808 ≤ us) (u1 : us ≤ 9223372036854775807)
    (m0 : -9223372036854775808 ≤ t1) (m1 : t1 ≤ 9223372036854775807) (n0 : -9223372036854775808 ≤ t2) (n1 : t2 ≤ 9223372036854775807) :
    Calls Try.prog 4 #[.int .i64 idle, .int .i64 age, .int .i64 cr, .int .i64 us, .int .i64 t1, .int .i64 t2, .agg kc.toArray, .agg mc.toArray] w fun e w' => e = .returned (.bool true) ∧ Below w.heap.size w w' := by
  have hg := guard30
  have he := eq_no hk hm hne
  have hi1 : (Try.prog.info? 30).map (·.size) = some kc.length := by rw [hk.len]; exact info30
  have hi2 : (Try.prog.info? 30).map (·.size) = some mc.length := by rw [hm.len]; exact info30
  have b1 : ((w.alloc (.cells kc.toArray 30)).alloc (.cells mc.toArray 30)).rangeAt w.heap.size 0 kc := World.rangeAt_alloc (range_new w kc 30) _
  have b2 : ((w.alloc (.cells kc.toArray 30)).alloc (.cells mc.toArray 30)).rangeAt (w.heap.size + 1) 0 mc := by
    have := range_new (w.alloc (.cells kc.toArray 30)) mc 30
    rw [World.size_alloc] at this; exact this
  have hpos : (0 : Nat) < maxLen := by unfold maxLen; omega
  have hpn := ne_ptr
  go_enter Try.func4, Try.ntmps4
  go_wp2_with (first | (refine wpList_load_mid rfl 30 _ rfl w.heap.size 0 rfl kc _ b1 Try.underlying30 rfl hi1 ?_) | (refine wpList_load_mid rfl 30 _ rfl (w.heap.size + 1) 0 rfl mc _ b2 Try.underlying30 rfl hi2 ?_))
  refine (newStore_st idle age _).mono ?_
  rintro e w1 ⟨rfl, hb1, hz1, hs1, hm1⟩
  simp only [World.size_alloc] at hz1 hs1 hm1
  have x1 : w1.heap[w.heap.size]? = some (.cells kc.toArray 30) := by
    rw [hb1.block _ (by simp; omega), Below.heap_alloc _ _ _ (by simp)]; exact heap_alloc_last _ _
  have x2 : w1.heap[w.heap.size + 1]? = some (.cells mc.toArray 30) := by
    rw [hb1.block _ (by simp)]
    have := heap_alloc_last (w.alloc (.cells kc.toArray 30)) (.cells mc.toArray 30)
    rw [World.size_alloc] at this; exact this
  have hB1 : Below w.heap.size w w1 := (((Below.refl _ w).alloc (Nat.le_refl _) _).alloc (by simp) _).trans (hb1.mono (by simp; omega))
  clear hb1 b1 b2
  have r1 := range_block x1
  go_wp2_with (first | (refine wpList_load_mid rfl 30 _ rfl w.heap.size 0 rfl kc _ r1 Try.underlying30 rfl hi1 ?_))
  refine (put_any (w.heap.size + 1 + 1 + 1) (w.heap.size + 1 + 1) 0 idle age cr us _ kc kl (.map []) w1 hs1 hm1 hpos hk.len hk.k79 c0 c1 u0 u1).mono ?_
  rintro e w2 ⟨rfl, kp, eb, ch, e1, e2, e3, e4, e5, e6⟩
  have L : LawSt w.heap.size eb ch 1 kc mc idle age cr us ((DataW.map []).put kl (.lit (.int .i64 eb))) false w w2 :=
    ⟨hB1.trans (kp.below hB1.size (by omega)), Nat.le_trans (by omega) kp.size, (kp.block _ (by omega) (by omega)).trans x1, (kp.block _ (by omega) (by omega)).trans x2, (kp.block _ (by omega) (by omega)).trans hs1, e6, e4, e5, by omega, by omega⟩
  have D1 : ((DataW.map []).put kl (.lit (.int .i64 eb)) : DataW Unit).atKey kl .nil = .lit (.int .i64 eb) := Maps.atKey_put_same Maps.isMap_empty (klaw.key hk.k79) _ _
  have D2 : Maps.has ((DataW.map []).put kl (.lit (.int .i64 eb)) : DataW Unit) kl = true := Maps.has_put_same Maps.isMap_empty (klaw.key hk.k79) _
  have D3 : Maps.has ((DataW.map []).put kl (.lit (.int .i64 eb)) : DataW Unit) ml = false := Maps.has_put_other (fun e => hne e.symm) _
  have D4 : Maps.size ((DataW.map []).put kl (.lit (.int .i64 eb)) : DataW Unit) = 1 := rfl
  have D5 : Maps.has (((DataW.map []).put kl (.lit (.int .i64 eb)) : DataW Unit).del kl) kl = false := Maps.has_del_same
  have D6 : Maps.size (((DataW.map []).put kl (.lit (.int .i64 eb)) : DataW Unit).del kl) = 0 := by
    have := Maps.size_del (k := kl) (Maps.Tidy.put Maps.tidy_empty (klaw.key hk.k79) (.lit (.int .i64 eb)) : Maps.Tidy ((DataW.map []).put kl (.lit (.int .i64 eb)) : DataW Unit))
    rw [D2, D4] at this; simpa using this
  clear e1 e2 e3 e4 e5 e6 kp x1 x2 r1 hs1 hm1 hz1 hB1
  generalize ((DataW.map []).put kl (.lit (.int .i64 eb)) : DataW Unit) = D at L D1 D2 D3 D4 D5 D6
  have H1 : Hid _ := D1
  have H2 : Hid _ := D2
  have H3 : Hid _ := D3
  have H4 : Hid _ := D4
  have H5 : Hid _ := D5
  have H6 : Hid _ := D6
  clear D1 D2 D3 D4 D5 D6
  have r1 := range_block L.box1
  go_wp2_with (first | (refine wpList_load_mid rfl 30 _ rfl w.heap.size 0 rfl kc _ r1 Try.underlying30 rfl hi1 ?_))
  refine (get_st L hk H1.out).mono ?_
  rintro e w3 ⟨rfl, L3⟩
  clear L r1
  have r2 := range_block L3.box2
  go_wp2_with (first | (refine wpList_load_mid rfl 30 _ rfl (w.heap.size + 1) 0 rfl mc _ r2 Try.underlying30 rfl hi2 ?_))
  refine (zlive_miss L3 hm H3.out m0 m1).mono ?_
  rintro e w4 ⟨rfl, L4⟩
  clear L3 r2
  have r1 := range_block L4.box1
  rcases Bool.eq_false_or_eq_true (liveB t1 cr us idle age) with hl1 | hl1
  · rcases Bool.eq_false_or_eq_true (liveB t2 cr us idle age) with hl2 | hl2
    · go_wp2_with (first | (go_at_call 13; refine (len_st L4 H4.out).mono ?_; rintro e w' ⟨rfl, rfl⟩) | (go_at_call 14; refine (ended_st L4).mono ?_; rintro e w' ⟨rfl, rfl⟩) | (go_at_call 15; refine (liveAt_any _ cr us idle age _ (by omega) (by omega) c0 c1 u0 u1 i0 i1 a0 a1).mono ?_; rintro e w' ⟨rfl, rfl⟩) | (refine wpList_load_mid rfl 30 _ rfl w.heap.size 0 rfl kc _ r1 Try.underlying30 rfl hi1 ?_))
      refine (zlive_live L4 hk H2.out H1.out m0 m1 i0 i1 a0 a1 c0 c1 u0 u1 hl1).mono ?_
      rintro e w5 ⟨rfl, L5⟩
      clear r1
      have r1 := range_block L5.box1
      go_wp2_with (first | (refine wpList_load_mid rfl 30 _ rfl w.heap.size 0 rfl kc _ r1 Try.underlying30 rfl hi1 ?_))
      refine (zlive_live L5 hk H2.out H1.out n0 n1 i0 i1 a0 a1 c0 c1 u0 u1 hl2).mono ?_
      rintro e w6 ⟨rfl, L6⟩
      clear r1
      go_wp2_with (first | (go_at_call 13; refine (len_st L6 H4.out).mono ?_; rintro e w' ⟨rfl, rfl⟩) | (go_at_call 14; refine (ended_st L6).mono ?_; rintro e w' ⟨rfl, rfl⟩))
      go_ret
      exact ⟨rfl, L6.below⟩
    · go_wp2_with (first | (go_at_call 13; refine (len_st L4 H4.out).mono ?_; rintro e w' ⟨rfl, rfl⟩) | (go_at_call 14; refine (ended_st L4).mono ?_; rintro e w' ⟨rfl, rfl⟩) | (go_at_call 15; refine (liveAt_any _ cr us idle age _ (by omega) (by omega) c0 c1 u0 u1 i0 i1 a0 a1).mono ?_; rintro e w' ⟨rfl, rfl⟩) | (refine wpList_load_mid rfl 30 _ rfl w.heap.size 0 rfl kc _ r1 Try.underlying30 rfl hi1 ?_))
      refine (zlive_live L4 hk H2.out H1.out m0 m1 i0 i1 a0 a1 c0 c1 u0 u1 hl1).mono ?_
      rintro e w5 ⟨rfl, L5⟩
      clear r1
      have r1 := range_block L5.box1
      go_wp2_with (first | (refine wpList_load_mid rfl 30 _ rfl w.heap.size 0 rfl kc _ r1 Try.underlying30 rfl hi1 ?_))
      refine (zlive_over L5 hk H2.out H1.out n0 n1 i0 i1 a0 a1 c0 c1 u0 u1 hl2).mono ?_
      rintro e w6 ⟨rfl, L6⟩
      clear r1
      go_wp2_with (first | (go_at_call 13; refine (len_st L6 H6.out).mono ?_; rintro e w' ⟨rfl, rfl⟩) | (go_at_call 14; refine (ended_st L6).mono ?_; rintro e w' ⟨rfl, rfl⟩))
      go_ret
      exact ⟨rfl, L6.below⟩
  · go_wp2_with (first | (go_at_call 13; refine (len_st L4 H4.out).mono ?_; rintro e w' ⟨rfl, rfl⟩) | (go_at_call 14; refine (ended_st L4).mono ?_; rintro e w' ⟨rfl, rfl⟩) | (go_at_call 15; refine (liveAt_any _ cr us idle age _ (by omega) (by omega) c0 c1 u0 u1 i0 i1 a0 a1).mono ?_; rintro e w' ⟨rfl, rfl⟩) | (refine wpList_load_mid rfl 30 _ rfl w.heap.size 0 rfl kc _ r1 Try.underlying30 rfl hi1 ?_))
    refine (zlive_over L4 hk H2.out H1.out m0 m1 i0 i1 a0 a1 c0 c1 u0 u1 hl1).mono ?_
    rintro e w5 ⟨rfl, L5⟩
    clear r1
    have r1 := range_block L5.box1
    go_wp2_with (first | (refine wpList_load_mid rfl 30 _ rfl w.heap.size 0 rfl kc _ r1 Try.underlying30 rfl hi1 ?_))
    refine (zlive_miss L5 hk H5.out n0 n1).mono ?_
    rintro e w6 ⟨rfl, L6⟩
    clear r1
    go_wp2_with (first | (go_at_call 13; refine (len_st L6 H6.out).mono ?_; rintro e w' ⟨rfl, rfl⟩) | (go_at_call 14; refine (ended_st L6).mono ?_; rintro e w' ⟨rfl, rfl⟩))
    go_ret
    exact ⟨rfl, L6.below⟩
end Go.Proofs.Qxb6612680a
