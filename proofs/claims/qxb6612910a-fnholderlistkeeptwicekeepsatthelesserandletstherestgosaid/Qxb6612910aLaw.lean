import Derived.Test.Qxb6612910aStart
namespace Go.Proofs.Qxb6612910a
open Go.RowKit

theorem Own.lt {W : World} {N m cap : Nat} {xs : List Value} (h : Own W N m cap xs) : N < W.heap.size := by
  obtain ⟨hl, h⟩ := h.own
  rcases h with ⟨h0, _⟩ | ⟨g', cap', cur, hv, hbg, hg, _⟩
  · cases h0
  · cases hv; exact (Array.getElem?_eq_some_iff.1 hg).1

theorem drew_refl (w : World) : ∃ m, w = w.drewN m := ⟨0, rfl⟩
theorem drew_mk (w : World) (k : Nat) : ∃ m, w.drewN k = w.drewN m := ⟨k, rfl⟩
theorem same3_any (g g' n c c' : Nat) (ps : List Nat) (w W : World) (hW : ∃ m, W = w.drewN m) (hn : n ≤ 65536) (hx : Ptrs w g ps) (hy : Ptrs w g' ps) (hl : ps.length = n) :
    Calls Try.prog 21 #[.slice (some ⟨g, 0, none⟩) n c, .slice (some ⟨g', 0, none⟩) n c'] W fun e w' => e = .returned (.bool true) ∧ ∃ m, w' = w.drewN m := by
  obtain ⟨m0, rfl⟩ := hW
  exact same2_any g g' n c c' ps w hn hx hy hl m0
theorem sorted3_any (h g n c : Nat) (r : Value) (w W : World) (hW : ∃ m, W = w.drewN m) (hh : w.heap[h]? = some (.cells (holdCells (.slice (some ⟨g, 0, none⟩) n c) r) 86)) : Calls Try.prog 22 #[.pointer (some ⟨h, 0, none⟩)] W fun e w' => e = .returned (.slice (some ⟨g, 0, none⟩) n c) ∧ ∃ m, w' = w.drewN m := by
  obtain ⟨m0, rfl⟩ := hW
  refine (sorted_any h g n c r (w.drewN m0) hh).mono ?_
  rintro e w' ⟨rfl, rfl⟩
  exact ⟨rfl, m0, rfl⟩
theorem recent3_any (h g n c : Nat) (s : Value) (w W : World) (hW : ∃ m, W = w.drewN m) (hh : w.heap[h]? = some (.cells (holdCells s (.slice (some ⟨g, 0, none⟩) n c)) 86)) : Calls Try.prog 23 #[.pointer (some ⟨h, 0, none⟩)] W fun e w' => e = .returned (.slice (some ⟨g, 0, none⟩) n c) ∧ ∃ m, w' = w.drewN m := by
  obtain ⟨m0, rfl⟩ := hW
  refine (recent_any h g n c s (w.drewN m0) hh).mono ?_
  rintro e w' ⟨rfl, rfl⟩
  exact ⟨rfl, m0, rfl⟩
theorem rest2_any (g n c x y : Nat) (ks : List Nat) (w W : World) (hW : ∃ m, W = w.drewN m) (hn : n ≤ 65536) (hx : Row w g (ks.map some ++ (List.replicate x none ++ (List.replicate y none ++ [])))) (hl : ks.length + (x + y) = n) :
    Calls Try.prog 24 #[.slice (some ⟨g, 0, none⟩) n c, .int .i64 ks.length] W fun e w' => e = .returned (.bool true) ∧ ∃ m, w' = w.drewN m := by
  obtain ⟨m0, rfl⟩ := hW
  rw [List.append_nil, List.replicate_append_replicate] at hx
  refine (rest_any g n c ks.length _ (w.drewN m0) hn (by omega) ⟨hx.row⟩ (by simp; omega) (fun i h1 h2 => ?_)).mono ?_
  · rw [List.getElem?_append_right (by simpa using h1), List.getElem?_replicate, if_pos (by simp; omega)]
  · rintro e w' ⟨rfl, rfl⟩
    exact ⟨rfl, m0, rfl⟩

set_option maxRecDepth 100000 in
set_option maxHeartbeats 4000000 in
theorem law_walk (a0 a1 : Option Addr) (n c m d : Nat) (zs1 zs2 : List Int) (A B : Int) (w : World) (hn : n ≤ maxLen) (hm : m ≤ maxLen) (hZ1 : IntsAt w a0 n zs1) (hZ2 : IntsAt w a1 m zs2) :
    Calls Try.prog 4 #[.slice a0 n c, .slice a1 m d, .int .i64 A, .int .i64 B] w fun e w' => e = .returned (.bool true) ∧ Below w.heap.size w w' := by
  have hn0 := hn
  have hm0 := hm
  unfold maxLen at hn hm
  have HZ1 : Hid (IntsAt w a0 n zs1) := hZ1
  have HZ2 : Hid (IntsAt w a1 m zs2) := hZ2
  clear hZ1 hZ2
  go_enter Try.func4, Try.ntmps4
  go_wp2_with fail
  refine (zzBytes14_any a0 a1 n c m d A B w hn0 hm0).mono ?_
  rintro e w' ⟨hr, rfl⟩
  rcases hr with rfl | rfl
  case inr =>
    go_wp2_with fail
    go_ret
    exact ⟨rfl, Below.refl _ _⟩
  by_cases c1 : (65536 : Int) < n
  · go_wp2_with fail
    go_ret
    exact ⟨rfl, Below.refl _ _⟩
  by_cases c2 : (65536 : Int) < m
  · go_wp2_with fail
    go_ret
    exact ⟨rfl, Below.refl _ _⟩
  go_wp2_with fail
  refine (rels_any a0 n c zs1 w (by omega) HZ1.out).mono ?_
  rintro e W1 ⟨rfl, ps1, hl1, hp1, hR1, hT1, hB1⟩
  go_wp2_with fail
  refine (rels_any a1 m d zs2 W1 (by omega) (HZ2.out.kept hB1)).mono ?_
  rintro e W2 ⟨rfl, ps2, hl2, hp2, hR2, hT2, hB2⟩
  have hR1b := hR1.below hB2
  go_wp2_with fail
  refine (clone_any w.heap.size n n (ps1.map some) W2 (by omega) (by simpa using hl1) hR1b).mono ?_
  rintro e W3 ⟨rfl, hR3, hB3⟩
  have hR2b := hR2.below hB3
  go_wp2_with fail
  refine (clone_any W1.heap.size m m (ps2.map some) W3 (by omega) (by simpa using hl2) hR2b).mono ?_
  rintro e W4 ⟨rfl, hR4, hB4⟩
  go_wp2_with (go_at_call 17; refine (newList_any _ _ _ _ _ _ _).mono ?_; rintro e w' ⟨rfl, rfl⟩)
  have hz1 := HZ1.out.1
  have hz2 := HZ2.out.1
  have hL5 := list_start (by omega) (by omega) hz1 hz2 hl1 hT1 hl2 hT2 hB2 hR3 hB3 hR4 hB4
  have lt1 := hR1.lt
  have lt2 := hR2.lt
  have lt3 := hR3.lt
  have lt4 := hR4.lt
  have hB5 : Below w.heap.size w (W4.alloc (.cells (holdCells (.slice (some ⟨W2.heap.size, 0, none⟩) n n) (.slice (some ⟨W3.heap.size, 0, none⟩) m m)) 86)) :=
    (((hB1.trans (hB2.mono hB1.size)).trans (hB3.mono (by omega))).trans (hB4.mono (by omega))).alloc (by omega) _
  have hS5 := ((hR1b.below hB3).below hB4).below ((Below.refl _ W4).alloc (Nat.le_refl _) (.cells (holdCells (.slice (some ⟨W2.heap.size, 0, none⟩) n n) (.slice (some ⟨W3.heap.size, 0, none⟩) m m)) 86))
  have hQ5 := (hR2b.below hB4).below ((Below.refl _ W4).alloc (Nat.le_refl _) (.cells (holdCells (.slice (some ⟨W2.heap.size, 0, none⟩) n n) (.slice (some ⟨W3.heap.size, 0, none⟩) m m)) 86))
  refine (keepUpTo_int W4.heap.size W2.heap.size W3.heap.size n m A ps1 ps2 zs1 zs2 [] [] _ hL5).mono ?_
  rintro e W6 ⟨rfl, k6, hL6⟩
  have hS6 := hS5.kept k6 (by omega)
  have hQ6 := hQ5.kept k6 (by omega)
  have hB6 : Below w.heap.size w W6 := hB5.trans (k6.below hB5.size (fun i hi => by omega))
  clear hL5 hB5 hS5 hQ5 k6 hR1 hR1b hR2 hR2b hR3 hR4 hT1 hT2 hB1 hB2 hB3 hB4
  go_wp2_with fail
  refine (keepUpTo_int W4.heap.size W2.heap.size W3.heap.size n m B _ _ _ _ _ _ _ hL6).mono ?_
  rintro e W7 ⟨rfl, k7, hL7⟩
  have hS7 := hS6.kept k7 (by omega)
  have hQ7 := hQ6.kept k7 (by omega)
  have hB7 : Below w.heap.size w W7 := hB6.trans (k7.below hB6.size (fun i hi => by omega))
  clear hL6 hB6 hS6 hQ6 k7
  by_cases hBA : B < A
  · have hM : ∀ z, upTo B z = (upTo A z && upTo B z) := fun z => by
      have := upTo_min A B z
      rwa [if_pos hBA] at this
    have hL8 := hL7
    rw [kept_twice A B B hM ps1 zs1, kept_twice A B B hM ps2 zs2] at hL8
    have hJ1 := congrArg List.length (kept_twice A B B hM ps1 zs1)
    have hJ2 := congrArg List.length (kept_twice A B B hM ps2 zs2)
    have hK1 := kept_count A ps1 zs1 (by omega)
    have hK2 := kept_count A ps2 zs2 (by omega)
    rw [hJ1, hJ2]
    clear hJ1 hJ2 hL7
    go_wp2_with fail
    refine (kept_any a0 n c w.heap.size n B zs1 ps1 W7 (by omega) (HZ1.out.kept hB7) hl1 hS7).mono ?_
    rintro e W8 ⟨rfl, hB8, hO8⟩
    go_wp2_with fail
    refine (kept_any a1 m d W1.heap.size m B zs2 ps2 W8 (by omega) ((HZ2.out.kept hB7).kept hB8) hl2 (hQ7.below hB8)).mono ?_
    rintro e W9 ⟨rfl, hB9, hO9⟩
    have hB79 : Below W7.heap.size W7 W9 := hB8.trans (hB9.mono hB8.size)
    have hBw9 : Below w.heap.size w W9 := hB7.trans (hB79.mono hB7.size)
    have hqa1 : (keptOf A ps1 zs1).length ≤ n := by rw [← hl1]; exact keptOf_le _ _ _
    have hqa2 : (keptOf A ps2 zs2).length ≤ m := by rw [← hl2]; exact keptOf_le _ _ _
    obtain ⟨ks1, hks1⟩ : ∃ ks, keptOf B ps1 zs1 = ks := ⟨_, rfl⟩
    obtain ⟨ks2, hks2⟩ : ∃ ks, keptOf B ps2 zs2 = ks := ⟨_, rfl⟩
    rw [hks1] at hL8 hO8 ⊢
    rw [hks2] at hL8 hO9 ⊢
    have hle1 : ks1.length ≤ n := by rw [← hks1, ← hl1]; exact keptOf_le _ _ _
    have hle2 : ks2.length ≤ m := by rw [← hks2, ← hl2]; exact keptOf_le _ _ _
    try rw [hks1] at hK1 hqa1
    try rw [hks2] at hK2 hqa2
    clear hks1 hks2 hM
    have HH : Hid (W9.heap[W4.heap.size]? = some (.cells (holdCells (.slice (some ⟨W2.heap.size, 0, none⟩) ks1.length n) (.slice (some ⟨W3.heap.size, 0, none⟩) ks2.length m)) 86)) := (hB79.block _ (Array.getElem?_eq_some_iff.1 hL8.hold).1).trans hL8.hold
    have HP1 : Hid (Ptrs W9 W2.heap.size ks1) := hL8.s1.row.ptrs.kept (hB79.block _ hL8.s1.row.lt)
    have HP2 : Hid (Ptrs W9 W3.heap.size ks2) := hL8.s2.row.ptrs.kept (hB79.block _ hL8.s2.row.lt)
    have HO1 : Hid (Ptrs W9 W7.heap.size ks1) := hO8.ptrs.kept (hB9.block _ hO8.lt)
    have HO2 : Hid (Ptrs W9 W8.heap.size ks2) := hO9.ptrs
    obtain ⟨x1, y1, HR1, HL1⟩ : ∃ x y, Hid (Row W9 W2.heap.size (ks1.map some ++ (List.replicate x none ++ (List.replicate y none ++ [])))) ∧ Hid (ks1.length + (x + y) = n) := ⟨_, _, hL8.s1.row.below hB79, (by have := hL8.s1.len; simp only [List.length_append, List.length_replicate, List.length_nil, Nat.add_zero] at this; exact this : _)⟩
    obtain ⟨x2, y2, HR2, HL2⟩ : ∃ x y, Hid (Row W9 W3.heap.size (ks2.map some ++ (List.replicate x none ++ (List.replicate y none ++ [])))) ∧ Hid (ks2.length + (x + y) = m) := ⟨_, _, hL8.s2.row.below hB79, (by have := hL8.s2.len; simp only [List.length_append, List.length_replicate, List.length_nil, Nat.add_zero] at this; exact this : _)⟩
    have hC1 := count_any a0 n c A zs1 W9 (by omega) (HZ1.out.kept hBw9)
    have hC2 := count_any a1 m d A zs2 W9 (by omega) (HZ2.out.kept hBw9)
    rw [hK1] at hC1
    rw [hK2] at hC2
    clear hL8 hO8 hO9 hK1 hK2
    go_wp2_with fail
    refine hC1.mono ?_
    rintro e w' ⟨rfl, rfl⟩
    go_wp2_with fail
    refine hC2.mono ?_
    rintro e w' ⟨rfl, rfl⟩
    clear hC1 hC2
    go_wp2_with (first
      | (go_at_call 22; with_reducible refine (sorted3_any W4.heap.size W2.heap.size ks1.length n _ _ _ (by first | with_reducible exact drew_mk _ _ | with_reducible exact drew_refl _) HH.out).mono ?_; rintro e w' ⟨rfl, mm, rfl⟩)
      | (go_at_call 23; with_reducible refine (recent3_any W4.heap.size W3.heap.size ks2.length m _ _ _ (by first | with_reducible exact drew_mk _ _ | with_reducible exact drew_refl _) HH.out).mono ?_; rintro e w' ⟨rfl, mm, rfl⟩)
      | (go_at_call 21; with_reducible refine (same3_any _ _ _ _ _ ks1 _ _ (by first | with_reducible exact drew_mk _ _ | with_reducible exact drew_refl _) (by omega) HP1.out HO1.out rfl).mono ?_; rintro e w' ⟨rfl, mm, rfl⟩)
      | (go_at_call 21; with_reducible refine (same3_any _ _ _ _ _ ks2 _ _ (by first | with_reducible exact drew_mk _ _ | with_reducible exact drew_refl _) (by omega) HP2.out HO2.out rfl).mono ?_; rintro e w' ⟨rfl, mm, rfl⟩)
      | (go_at_call 24; with_reducible refine (rest2_any _ _ _ _ _ ks1 _ _ (by first | with_reducible exact drew_mk _ _ | with_reducible exact drew_refl _) (by omega) HR1.out HL1.out).mono ?_; rintro e w' ⟨rfl, mm, rfl⟩)
      | (go_at_call 24; with_reducible refine (rest2_any _ _ _ _ _ ks2 _ _ (by first | with_reducible exact drew_mk _ _ | with_reducible exact drew_refl _) (by omega) HR2.out HL2.out).mono ?_; rintro e w' ⟨rfl, mm, rfl⟩))
    go_ret
    exact ⟨rfl, below_drewN hBw9 _⟩
  · have hM : ∀ z, upTo A z = (upTo A z && upTo B z) := fun z => by
      have := upTo_min A B z
      rwa [if_neg hBA] at this
    have hL8 := hL7
    rw [kept_twice A B A hM ps1 zs1, kept_twice A B A hM ps2 zs2] at hL8
    have hJ1 := congrArg List.length (kept_twice A B A hM ps1 zs1)
    have hJ2 := congrArg List.length (kept_twice A B A hM ps2 zs2)
    have hK1 := kept_count A ps1 zs1 (by omega)
    have hK2 := kept_count A ps2 zs2 (by omega)
    rw [hJ1, hJ2]
    clear hJ1 hJ2 hL7
    go_wp2_with fail
    refine (kept_any a0 n c w.heap.size n A zs1 ps1 W7 (by omega) (HZ1.out.kept hB7) hl1 hS7).mono ?_
    rintro e W8 ⟨rfl, hB8, hO8⟩
    go_wp2_with fail
    refine (kept_any a1 m d W1.heap.size m A zs2 ps2 W8 (by omega) ((HZ2.out.kept hB7).kept hB8) hl2 (hQ7.below hB8)).mono ?_
    rintro e W9 ⟨rfl, hB9, hO9⟩
    have hB79 : Below W7.heap.size W7 W9 := hB8.trans (hB9.mono hB8.size)
    have hBw9 : Below w.heap.size w W9 := hB7.trans (hB79.mono hB7.size)
    have hqa1 : (keptOf A ps1 zs1).length ≤ n := by rw [← hl1]; exact keptOf_le _ _ _
    have hqa2 : (keptOf A ps2 zs2).length ≤ m := by rw [← hl2]; exact keptOf_le _ _ _
    obtain ⟨ks1, hks1⟩ : ∃ ks, keptOf A ps1 zs1 = ks := ⟨_, rfl⟩
    obtain ⟨ks2, hks2⟩ : ∃ ks, keptOf A ps2 zs2 = ks := ⟨_, rfl⟩
    rw [hks1] at hL8 hO8 ⊢
    rw [hks2] at hL8 hO9 ⊢
    have hle1 : ks1.length ≤ n := by rw [← hks1, ← hl1]; exact keptOf_le _ _ _
    have hle2 : ks2.length ≤ m := by rw [← hks2, ← hl2]; exact keptOf_le _ _ _
    try rw [hks1] at hK1 hqa1
    try rw [hks2] at hK2 hqa2
    clear hks1 hks2 hM
    have HH : Hid (W9.heap[W4.heap.size]? = some (.cells (holdCells (.slice (some ⟨W2.heap.size, 0, none⟩) ks1.length n) (.slice (some ⟨W3.heap.size, 0, none⟩) ks2.length m)) 86)) := (hB79.block _ (Array.getElem?_eq_some_iff.1 hL8.hold).1).trans hL8.hold
    have HP1 : Hid (Ptrs W9 W2.heap.size ks1) := hL8.s1.row.ptrs.kept (hB79.block _ hL8.s1.row.lt)
    have HP2 : Hid (Ptrs W9 W3.heap.size ks2) := hL8.s2.row.ptrs.kept (hB79.block _ hL8.s2.row.lt)
    have HO1 : Hid (Ptrs W9 W7.heap.size ks1) := hO8.ptrs.kept (hB9.block _ hO8.lt)
    have HO2 : Hid (Ptrs W9 W8.heap.size ks2) := hO9.ptrs
    obtain ⟨x1, y1, HR1, HL1⟩ : ∃ x y, Hid (Row W9 W2.heap.size (ks1.map some ++ (List.replicate x none ++ (List.replicate y none ++ [])))) ∧ Hid (ks1.length + (x + y) = n) := ⟨_, _, hL8.s1.row.below hB79, (by have := hL8.s1.len; simp only [List.length_append, List.length_replicate, List.length_nil, Nat.add_zero] at this; exact this : _)⟩
    obtain ⟨x2, y2, HR2, HL2⟩ : ∃ x y, Hid (Row W9 W3.heap.size (ks2.map some ++ (List.replicate x none ++ (List.replicate y none ++ [])))) ∧ Hid (ks2.length + (x + y) = m) := ⟨_, _, hL8.s2.row.below hB79, (by have := hL8.s2.len; simp only [List.length_append, List.length_replicate, List.length_nil, Nat.add_zero] at this; exact this : _)⟩
    have hC1 := count_any a0 n c A zs1 W9 (by omega) (HZ1.out.kept hBw9)
    have hC2 := count_any a1 m d A zs2 W9 (by omega) (HZ2.out.kept hBw9)
    rw [hK1] at hC1
    rw [hK2] at hC2
    clear hL8 hO8 hO9 hK1 hK2
    go_wp2_with fail
    refine hC1.mono ?_
    rintro e w' ⟨rfl, rfl⟩
    go_wp2_with fail
    refine hC2.mono ?_
    rintro e w' ⟨rfl, rfl⟩
    clear hC1 hC2
    go_wp2_with (first
      | (go_at_call 22; with_reducible refine (sorted3_any W4.heap.size W2.heap.size ks1.length n _ _ _ (by first | with_reducible exact drew_mk _ _ | with_reducible exact drew_refl _) HH.out).mono ?_; rintro e w' ⟨rfl, mm, rfl⟩)
      | (go_at_call 23; with_reducible refine (recent3_any W4.heap.size W3.heap.size ks2.length m _ _ _ (by first | with_reducible exact drew_mk _ _ | with_reducible exact drew_refl _) HH.out).mono ?_; rintro e w' ⟨rfl, mm, rfl⟩)
      | (go_at_call 21; with_reducible refine (same3_any _ _ _ _ _ ks1 _ _ (by first | with_reducible exact drew_mk _ _ | with_reducible exact drew_refl _) (by omega) HP1.out HO1.out rfl).mono ?_; rintro e w' ⟨rfl, mm, rfl⟩)
      | (go_at_call 21; with_reducible refine (same3_any _ _ _ _ _ ks2 _ _ (by first | with_reducible exact drew_mk _ _ | with_reducible exact drew_refl _) (by omega) HP2.out HO2.out rfl).mono ?_; rintro e w' ⟨rfl, mm, rfl⟩)
      | (go_at_call 24; with_reducible refine (rest2_any _ _ _ _ _ ks1 _ _ (by first | with_reducible exact drew_mk _ _ | with_reducible exact drew_refl _) (by omega) HR1.out HL1.out).mono ?_; rintro e w' ⟨rfl, mm, rfl⟩)
      | (go_at_call 24; with_reducible refine (rest2_any _ _ _ _ _ ks2 _ _ (by first | with_reducible exact drew_mk _ _ | with_reducible exact drew_refl _) (by omega) HR2.out HL2.out).mono ?_; rintro e w' ⟨rfl, mm, rfl⟩))
    go_ret
    exact ⟨rfl, below_drewN hBw9 _⟩
end Go.Proofs.Qxb6612910a
