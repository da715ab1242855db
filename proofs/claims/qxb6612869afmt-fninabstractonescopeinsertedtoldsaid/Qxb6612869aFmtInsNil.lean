import Derived.Test.Qxb6612869aFmtIns
namespace Go.Proofs.Qxb6612869aFmt
open Go.RowKit Go.Extern.Stop Go.Stop Go.Extern

set_option maxRecDepth 100000 in
set_option maxHeartbeats 8000000 in
theorem ins_nil (F : Interp) (kk : Int) (x : Bool) (w : World) (hF : F.answers w.tape) (hk0 : -9223372036854775808 ≤ kk) (hk1 : kk ≤ 9223372036854775807) :
    Calls Tryf.prog 4 #[.slice none 0 0, .int .i64 kk, .bool x] w fun e w' => e = .returned (.bool true) ∧ Below w.heap.size w w' := by
  obtain ⟨i4, hi4, hz4, hs4, hb4⟩ := info_parts info4
  have HX : Hid (BoolsAt w none 0 []) := ⟨rfl, .inl rfl⟩
  go_enter Tryf.func4, Tryf.ntmps4
  go_wp2_with fail
  refine (zzBytes11_any none 0 0 kk x w (by unfold maxLen; omega)).mono ?_
  rintro e w' ⟨hr, rfl⟩
  rcases hr with rfl | rfl
  case inr =>
    go_wp2_with fail
    go_ret
    exact ⟨rfl, Below.refl _ _⟩
  by_cases c2 : kk < 0
  · go_wp2_with fail
    go_ret
    exact ⟨rfl, Below.refl _ _⟩
  by_cases c3 : 0 < kk
  · go_wp2_with fail
    go_ret
    exact ⟨rfl, Below.refl _ _⟩
  obtain rfl : kk = 0 := by omega
  obtain ⟨w1, hmk, hown1, hg1⟩ := run_make_own (P := Tryf.prog) w w.heap.size 22 4 i4 (.bool false) 1 Tryf.underlying22 hi4 hz4 hs4 .i64 .i64 1 (by rw [hb4]; omega) (by unfold maxLen; omega) (Nat.le_refl _)
  have hmk' : (Instr.makeSlice 22 (.int .i64 0) (.int .i64 1)).run Tryf.prog w = .ok (.slice (some ⟨w.heap.size, 0, none⟩) 0 1) w1 := hmk
  clear hmk
  have hB1 : Below w.heap.size w w1 := (Below.refl _ w).grown hg1 (Nat.le_refl _) (fun _ h => by cases h)
  have HO1 : Own w1 w.heap.size 0 1 [] := ⟨hown1⟩
  clear hown1 hg1
  go_wp2_with (first
    | (refine wpList_append_own_none rfl _ _ 22 rfl w.heap.size 4 i4 1 Tryf.underlying22 hi4 (.slice (some ⟨w.heap.size, 0, none⟩) 0 1) 0 [] rfl HO1.own rfl ?_)
    | (refine wpList_append_own_spare _ rfl _ _ 22 rfl w.heap.size 4 i4 1 Tryf.underlying22 hi4 hs4 w.heap.size 0 1 [] rfl (HO1.own.alloc _) ⟨w1.heap.size, 0, none⟩ 1 1 [.bool x] rfl rfl (cell_one_new _ _ _) (mk_one [x]) (by omega) ?_; intro w3 hown3 hg3; rw [Nat.zero_add, List.nil_append] at hown3; have HO3 : Own w3 w.heap.size 1 1 [.bool x] := ⟨hown3⟩; have hB3 : Below w.heap.size w w3 := (hB1.alloc hB1.size _).grown hg3 (by simp; have := hB1.size; omega) (fun _ h => by cases h; exact Nat.le_refl _); clear hown3 hg3 HO1 hB1)
    | (refine wpList_append_own_none rfl _ _ 22 rfl w.heap.size 4 i4 1 Tryf.underlying22 hi4 (.slice (some ⟨w.heap.size, 0, none⟩) 1 1) 1 [.bool x] rfl HO3.own rfl ?_)
    | (go_at_call 6; refine (noScope_any _).mono ?_; rintro e w' ⟨rfl, rfl⟩))
  rename World => w4
  have hB4 := hB3
  have HG4 : Hid (BoolsAt w4 (some ⟨w.heap.size, 0, none⟩) 1 [x]) := bools_own HO3.own
  clear HO3
  clear hB3
  have hX4 := HX.out.kept hB4
  have HX4 : Hid (BoolsAt w4 none 0 []) := hX4
  clear hX4
  have hF4 : F.answers w4.tape := by rw [hB4.tape]; exact hF
  have hany : [x].any isT = (([] : List Bool).any isT || x) := by simp [isT]
  generalize [x] = gs at HG4 hany
  go_loopw [8, 9] (fun s i W => ∃ (q : Nat) (p : Option Addr), q ≤ 0 ∧ i = .int .i64 ((q : Int) - 1) ∧ s = .pointer p ∧ Laid w4 p [] q [] W) (fun _ i _ => (intOf i + 1).toNat)
  case atStart => exact ⟨0, none, Nat.le_refl _, rfl, rfl, by rw [List.drop_eq_nil_of_le (by have := HX4.out.1; omega)]; rfl, Below.refl _ _⟩
  case round =>
    rename World => W1
    obtain ⟨q, p, hq, rfl, rfl, hL⟩ := hrel
    by_cases hq0 : 0 < q
    · exact absurd hq0 (by omega)
    · obtain rfl : q = 0 := by omega
      rw [show ((0 : Nat) : Int) - 1 = -1 from rfl]
      have hO : Chain W1 p [] := by simpa using hL.1
      have HB1 : Hid (Below w4.heap.size w4 W1) := hL.2
      have HO : Hid (Chain W1 p []) := hO
      clear hL hO
      rename Option Addr => pO
      go_wp2_with (go_at_call 6; refine (noScope_any _).mono ?_; rintro e w' ⟨rfl, rfl⟩)
      go_loopw [10, 11] (fun s i W => ∃ (q : Nat) (p : Option Addr), q ≤ 1 ∧ i = .int .i64 ((q : Int) - 1) ∧ s = .pointer p ∧ Laid w4 p gs q [] W ∧ Hid (Chain W pO [])) (fun _ i _ => (intOf i + 1).toNat)
      case atStart => exact ⟨1, none, Nat.le_refl _, rfl, rfl, ⟨by rw [List.drop_eq_nil_of_le (by have := HG4.out.1; omega)]; rfl, HB1.out⟩, HO⟩
      case round =>
        rename World => W2
        clear HO HB1
        obtain ⟨q, p, hq, rfl, rfl, hL, HO⟩ := hrel
        by_cases hq0 : 0 < q
        · obtain ⟨q, rfl⟩ : ∃ j, q = j + 1 := ⟨q - 1, by omega⟩
          obtain ⟨b, o, y, hab, hb, hcell, hget⟩ := HG4.out.get (k := q) (by omega)
          cases hab
          rw [Nat.zero_add] at hcell
          have hc1 : W2.cell? ⟨w.heap.size, q, none⟩ = some (.bool y) := by rw [hL.2.cell (p := ⟨w.heap.size, q, none⟩) hb]; exact hcell
          have HG : Hid _ := hget
          clear hget hcell
          have e1 : ((q + 1 : Nat) : Int) - 1 = (q : Int) := by omega
          rw [e1]
          go_wp2_with (go_at_call 7; refine (newScope_any y p _).mono ?_; rintro e w' ⟨rfl, rfl⟩)
          exact ⟨⟨q, _, by omega, rfl, rfl, hL.step HG.out, Chain.kept ((Below.refl _ W2).alloc (Nat.le_refl _) _) _ _ HO.out⟩, by simp [intOf] <;> omega⟩
        · obtain rfl : q = 0 := by omega
          rw [show ((0 : Nat) : Int) - 1 = -1 from rfl]
          have hI : Chain W2 p gs := by simpa using hL.1
          have hB3 : Below w4.heap.size w4 W2 := hL.2
          clear hL
          rename Option Addr => pI
          have hO := HO.out
          clear HO
          go_wp2_with (go_at_call 9; refine (newDecl_any _ _).mono ?_; rintro e w' ⟨rfl, rfl⟩)
          refine (in_any F pO [] W2 (by rw [hB3.tape]; exact hF4) hO).mono ?_
          rintro e W4 ⟨hsO, hk4⟩
          have hI4 := Chain.kept hk4 _ _ hI
          have hB5 := hB3.trans (hk4.mono hB3.size)
          clear hI hO hB3 hk4
          obtain ⟨vO, rfl, HVO⟩ := said_val hsO
          clear hsO
          go_wp2_with (go_at_call 9; refine (newDecl_any _ _).mono ?_; rintro e w' ⟨rfl, rfl⟩)
          refine (in_any F pI gs W4 (by rw [hB5.tape]; exact hF4) hI4).mono ?_
          rintro e W6 ⟨hsI, hk6⟩
          have hB6 := hB5.trans (hk6.mono hB5.size)
          clear hI4 hB5 hk6
          obtain ⟨vI, rfl, HVI⟩ := said_val hsI
          clear hsI
          have HX6 : Hid (BoolsAt W6 none 0 []) := HX4.out.kept hB6
          have hend := hB4.trans (hB6.mono hB4.size)
          rcases HVO.out with ⟨hx, rfl⟩ | ⟨hx, aO, rfl⟩ <;> rcases HVI.out with ⟨hy, rfl⟩ | ⟨hy, aI, rfl⟩ <;> cases x
          all_goals try (rw [hany, hx] at hy; exact absurd hy (by decide))
          all_goals (
            clear hany hy HVI HVO
            go_wp2_with fail
            go_quiet (first | (go_at_call 10; refine Calls.quiet_of_same (anyTrue_q _ 0 _ [] _ (by unfold maxLen; omega) (by first | exact HX6.out | exact bools_drew HX6.out _))))
            go_wp2_with fail
            go_ret
            exact ⟨rfl, below_drewN hend _⟩)
end Go.Proofs.Qxb6612869aFmt
