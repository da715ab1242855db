import Derived.Test.Qxb6612869aFmtAbs
namespace Go.Proofs.Qxb6612869aFmt
open Go.RowKit Go.Extern.Stop Go.Stop Go.Extern

set_option maxRecDepth 100000 in
theorem zzBytes5_any (ia oa : Option Addr) (n ic m oc : Nat) (w : World) (hn : n ≤ maxLen) (hm : m ≤ maxLen) : Calls Tryf.prog 5 #[.slice ia n ic, .slice oa m oc] w fun e w' => (e = .returned (.bool true) ∨ e = .returned (.bool false)) ∧ w = w' := by
  unfold maxLen at hn hm
  go_enter Tryf.func5, Tryf.ntmps5
  go_wp2
  all_goals (go_ret; simp)

/-- One round of a loop that lays a scope for each flag, from the last to the first. -/
def Laid (w : World) (p : Option Addr) (bs : List Bool) (k : Nat) (tail : List Bool) (W : World) : Prop := Chain W p (bs.drop k ++ tail) ∧ Below w.heap.size w W
theorem Laid.step {w W : World} {p : Option Addr} {bs tail : List Bool} {k : Nat} {x : Bool} (h : Laid w p bs (k + 1) tail W) (hx : bs[k]? = some x) : Laid w (some ⟨W.heap.size, 0, none⟩) bs k tail (W.alloc (.cells (scopeCells x p) 39)) := by
  refine ⟨?_, h.2.alloc h.2.size _⟩
  rw [drop_succ hx, List.cons_append]
  exact Chain.new x h.1
theorem Laid.kept {w W W' : World} {p : Option Addr} {bs tail : List Bool} {k : Nat} (h : Laid w p bs k tail W) (k' : Below W.heap.size W W') : Laid w p bs k tail W' :=
  ⟨Chain.kept k' _ _ h.1, h.2.trans (k'.mono h.2.size)⟩

theorem anyTrue_q (a : Option Addr) (n c : Nat) (bs : List Bool) (w : World) (hn : n ≤ maxLen) (h : BoolsAt w a n bs) : Calls Tryf.prog 10 #[.slice a n c] w fun e w' => e = .returned (.bool (bs.any isT)) ∧ w' = w :=
  (anyTrue_any a n c bs w hn h).mono fun _ _ ⟨h1, h2⟩ => ⟨h1, h2.symm⟩
theorem bools_drew {W : World} {a : Option Addr} {n : Nat} {bs : List Bool} (h : BoolsAt W a n bs) (k : Nat) : BoolsAt (W.drewN k) a n bs := h.kept (below_drewN (Below.refl _ _) k)
def ValIs (l : List Bool) (v : Value) : Prop := (l.any isT = false ∧ v = .nilIface) ∨ (l.any isT = true ∧ ∃ a, v = .iface 50 (.pointer (some a)))
theorem said_val {l : List Bool} {e : Ending} (h : Said l e) : ∃ v, e = .returned v ∧ Hid (ValIs l v) := by
  rcases h with ⟨h, rfl⟩ | ⟨h, a, rfl⟩
  · exact ⟨_, rfl, .inl ⟨h, rfl⟩⟩
  · exact ⟨_, rfl, .inr ⟨h, a, rfl⟩⟩
/-- 'ZZinAbstract(ZZnewDeclIn(p))', the second call, in the world behind the first. -/
theorem in_any (F : Interp) (p : Option Addr) (l : List Bool) (W : World) (hF : F.answers W.tape) (h : Chain W p l) :
    Calls Tryf.prog 8 #[.pointer (some ⟨W.heap.size, 0, none⟩)] (W.alloc (.cells (declCells p) 45)) fun e w' => Said l e ∧ Below W.heap.size W w' := by
  have hb : Below W.heap.size W (W.alloc (.cells (declCells p) 45)) := (Below.refl _ W).alloc (Nat.le_refl _) _
  refine (zzIn_any F W.heap.size p l _ (by simpa using hF) (heap_alloc_last W _) (Chain.kept hb _ _ h)).mono ?_
  rintro e w' ⟨hs, k⟩
  exact ⟨hs, hb.trans (k.mono (by simp))⟩

set_option maxRecDepth 100000 in
set_option maxHeartbeats 4000000 in
theorem join_walk (F : Interp) (ia oa : Option Addr) (n ic m oc : Nat) (xs ys : List Bool) (w : World) (hF : F.answers w.tape) (hn : n ≤ maxLen) (hm : m ≤ maxLen) (hX : BoolsAt w ia n xs) (hY : BoolsAt w oa m ys) :
    Calls Tryf.prog 3 #[.slice ia n ic, .slice oa m oc] w fun e w' => e = .returned (.bool true) ∧ Below w.heap.size w w' := by
  have hn0 := hn
  have hm0 := hm
  unfold maxLen at hn hm
  have HX : Hid (BoolsAt w ia n xs) := hX
  have HY : Hid (BoolsAt w oa m ys) := hY
  clear hX hY
  go_enter Tryf.func3, Tryf.ntmps3
  go_wp2_with fail
  refine (zzBytes5_any ia oa n ic m oc w hn0 hm0).mono ?_
  rintro e w' ⟨hr, rfl⟩
  rcases hr with rfl | rfl
  case inr =>
    go_wp2_with fail
    go_ret
    exact ⟨rfl, Below.refl _ _⟩
  by_cases c1 : (65536 : Int) < n
  · go_wp2_with fail
    go_ret
    exact ⟨rfl, Below.refl _ _⟩
  by_cases c2 : (65536 : Int) < m
  · go_wp2_with fail
    go_ret
    exact ⟨rfl, Below.refl _ _⟩
  go_wp2_with (go_at_call 6; refine (noScope_any _).mono ?_; rintro e w' ⟨rfl, rfl⟩)
  go_loopw [5, 6] (fun s i W => ∃ (k : Nat) (p : Option Addr), k ≤ m ∧ i = .int .i64 ((k : Int) - 1) ∧ s = .pointer p ∧ Laid w p ys k [] W) (fun _ i _ => (intOf i + 1).toNat)
  case atStart => exact ⟨m, none, Nat.le_refl _, rfl, rfl, by rw [List.drop_eq_nil_of_le (by have := HY.out.1; omega)]; rfl, Below.refl _ _⟩
  case round =>
    rename World => W1
    obtain ⟨k, p, hk, rfl, rfl, hL⟩ := hrel
    by_cases hk0 : 0 < k
    · obtain ⟨k, rfl⟩ : ∃ j, k = j + 1 := ⟨k - 1, by omega⟩
      obtain ⟨b, o, x, rfl, hb, hcell, hget⟩ := HY.out.get (k := k) (by omega)
      have hc1 : W1.cell? ⟨b, o + k, none⟩ = some (.bool x) := by rw [hL.2.cell (p := ⟨b, o + k, none⟩) hb]; exact hcell
      have HG : Hid _ := hget
      clear hget hcell
      have e1 : ((k + 1 : Nat) : Int) - 1 = (k : Int) := by omega
      rw [e1]
      go_wp2_with (go_at_call 7; refine (newScope_any x p _).mono ?_; rintro e w' ⟨rfl, rfl⟩)
      exact ⟨⟨k, _, by omega, rfl, rfl, hL.step HG.out⟩, by simp [intOf] <;> omega⟩
    · obtain rfl : k = 0 := by omega
      rw [show ((0 : Nat) : Int) - 1 = -1 from rfl]
      have hO : Chain W1 p ys := by simpa using hL.1
      have HB1 : Hid (Below w.heap.size w W1) := hL.2
      have HO : Hid (Chain W1 p ys) := hO
      clear hL hO
      rename Option Addr => pO
      go_wp2_with fail
      go_loopw [7, 8] (fun s i W => ∃ (k : Nat) (p : Option Addr), k ≤ n ∧ i = .int .i64 ((k : Int) - 1) ∧ s = .pointer p ∧ Laid w p xs k ys W ∧ Hid (Chain W pO ys)) (fun _ i _ => (intOf i + 1).toNat)
      case atStart => exact ⟨n, pO, Nat.le_refl _, rfl, rfl, ⟨by rw [List.drop_eq_nil_of_le (by have := HX.out.1; omega)]; exact HO.out, HB1.out⟩, HO⟩
      case round =>
        rename World => W2
        clear HO HB1
        obtain ⟨k, p, hk, rfl, rfl, hL, HO⟩ := hrel
        by_cases hk0 : 0 < k
        · obtain ⟨k, rfl⟩ : ∃ j, k = j + 1 := ⟨k - 1, by omega⟩
          obtain ⟨b, o, x, rfl, hb, hcell, hget⟩ := HX.out.get (k := k) (by omega)
          have hc1 : W2.cell? ⟨b, o + k, none⟩ = some (.bool x) := by rw [hL.2.cell (p := ⟨b, o + k, none⟩) hb]; exact hcell
          have HG : Hid _ := hget
          clear hget hcell
          have e1 : ((k + 1 : Nat) : Int) - 1 = (k : Int) := by omega
          rw [e1]
          go_wp2_with (go_at_call 7; refine (newScope_any x p _).mono ?_; rintro e w' ⟨rfl, rfl⟩)
          exact ⟨⟨k, _, by omega, rfl, rfl, hL.step HG.out, Chain.kept ((Below.refl _ W2).alloc (Nat.le_refl _) _) _ _ HO.out⟩, by simp [intOf] <;> omega⟩
        · obtain rfl : k = 0 := by omega
          rw [show ((0 : Nat) : Int) - 1 = -1 from rfl]
          have hJ : Chain W2 p (xs ++ ys) := by simpa using hL.1
          have HB2 : Hid (Below w.heap.size w W2) := hL.2
          have HJ : Hid (Chain W2 p (xs ++ ys)) := hJ
          clear hL hJ
          rename Option Addr => pJ
          go_wp2_with (go_at_call 6; refine (noScope_any _).mono ?_; rintro e w' ⟨rfl, rfl⟩)
          go_loopw [9, 10] (fun s i W => ∃ (k : Nat) (p : Option Addr), k ≤ n ∧ i = .int .i64 ((k : Int) - 1) ∧ s = .pointer p ∧ Laid w p xs k [] W ∧ Hid (Chain W pO ys) ∧ Hid (Chain W pJ (xs ++ ys))) (fun _ i _ => (intOf i + 1).toNat)
          case atStart => exact ⟨n, none, Nat.le_refl _, rfl, rfl, ⟨by rw [List.drop_eq_nil_of_le (by have := HX.out.1; omega)]; rfl, HB2.out⟩, HO, HJ⟩
          case round =>
            rename World => W3
            clear HO HJ HB2
            obtain ⟨k, p, hk, rfl, rfl, hL, HO, HJ⟩ := hrel
            by_cases hk0 : 0 < k
            · obtain ⟨k, rfl⟩ : ∃ j, k = j + 1 := ⟨k - 1, by omega⟩
              obtain ⟨b, o, x, rfl, hb, hcell, hget⟩ := HX.out.get (k := k) (by omega)
              have hc1 : W3.cell? ⟨b, o + k, none⟩ = some (.bool x) := by rw [hL.2.cell (p := ⟨b, o + k, none⟩) hb]; exact hcell
              have HG : Hid _ := hget
              clear hget hcell
              have e1 : ((k + 1 : Nat) : Int) - 1 = (k : Int) := by omega
              rw [e1]
              go_wp2_with (go_at_call 7; refine (newScope_any x p _).mono ?_; rintro e w' ⟨rfl, rfl⟩)
              exact ⟨⟨k, _, by omega, rfl, rfl, hL.step HG.out, Chain.kept ((Below.refl _ W3).alloc (Nat.le_refl _) _) _ _ HO.out, Chain.kept ((Below.refl _ W3).alloc (Nat.le_refl _) _) _ _ HJ.out⟩, by simp [intOf] <;> omega⟩
            · obtain rfl : k = 0 := by omega
              rw [show ((0 : Nat) : Int) - 1 = -1 from rfl]
              have hI : Chain W3 p xs := by simpa using hL.1
              have hB3 : Below w.heap.size w W3 := hL.2
              clear hL
              rename Option Addr => pI
              have hO := HO.out
              have hJ := HJ.out
              clear HO HJ
              go_wp2_with (go_at_call 9; refine (newDecl_any _ _).mono ?_; rintro e w' ⟨rfl, rfl⟩)
              refine (in_any F pJ (xs ++ ys) W3 (by rw [hB3.tape]; exact hF) hJ).mono ?_
              rintro e W4 ⟨hsJ, hk4⟩
              have hI4 := Chain.kept hk4 _ _ hI
              have hO4 := Chain.kept hk4 _ _ hO
              have hB4 := hB3.trans (hk4.mono hB3.size)
              clear hI hO hJ hB3 hk4
              have HSJ : Hid (Said (xs ++ ys) e) := hsJ
              clear hsJ
              obtain ⟨vJ, rfl, HVJ⟩ := said_val HSJ.out
              clear HSJ
              go_wp2_with (go_at_call 9; refine (newDecl_any _ _).mono ?_; rintro e w' ⟨rfl, rfl⟩)
              refine (in_any F pI xs W4 (by rw [hB4.tape]; exact hF) hI4).mono ?_
              rintro e W5 ⟨hsI, hk5⟩
              have hO5 := Chain.kept hk5 _ _ hO4
              have hB5 := hB4.trans (hk5.mono hB4.size)
              clear hI4 hO4 hB4 hk5
              obtain ⟨vI, rfl, HVI⟩ := said_val hsI
              clear hsI
              go_wp2_with (go_at_call 9; refine (newDecl_any _ _).mono ?_; rintro e w' ⟨rfl, rfl⟩)
              refine (in_any F pO ys W5 (by rw [hB5.tape]; exact hF) hO5).mono ?_
              rintro e W6 ⟨hsO, hk6⟩
              have hB6 := hB5.trans (hk6.mono hB5.size)
              clear hO5 hB5 hk6
              obtain ⟨vO, rfl, HVO⟩ := said_val hsO
              clear hsO
              have hX6 := HX.out.kept hB6
              have ho : (xs ++ ys).any isT = (xs.any isT || ys.any isT) := by simp
              rcases HVI.out with ⟨hx, rfl⟩ | ⟨hx, aI, rfl⟩ <;> rcases HVO.out with ⟨hy, rfl⟩ | ⟨hy, aO, rfl⟩ <;> rcases HVJ.out with ⟨hj, rfl⟩ | ⟨hj, aJ, rfl⟩
              all_goals try (rw [ho, hx, hy] at hj; exact absurd hj (by decide))
              all_goals (
                clear ho hj hy HVI HVO HVJ
                have HX6 : Hid (BoolsAt W6 ia n xs) := hX6
                clear hX6)
              all_goals (
                go_wp2_with fail
                go_quiet (first | (go_at_call 10; refine Calls.quiet_of_same (anyTrue_q ia n ic xs _ hn0 (by first | exact HX6.out | exact bools_drew HX6.out _))))
                go_wp2_with fail
                go_ret
                exact ⟨rfl, below_drewN hB6 _⟩)
end Go.Proofs.Qxb6612869aFmt
