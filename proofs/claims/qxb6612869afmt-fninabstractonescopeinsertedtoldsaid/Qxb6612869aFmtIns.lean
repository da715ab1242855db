import Derived.Test.Qxb6612869aFmtJoin
import Derived.Deep.DeepAppendRoom
import Derived.Laws.MakeOwn
import Derived.Laws.AppendOwnNone
import Derived.Maps.AppendAt
import Derived.DataElems
namespace Go.Proofs.Qxb6612869aFmt
open Go.RowKit Go.Extern.Stop Go.Stop Go.Extern

set_option maxRecDepth 100000 in
theorem zzBytes11_any (a : Option Addr) (n c : Nat) (k : Int) (x : Bool) (w : World) (hn : n ≤ maxLen) : Calls Tryf.prog 11 #[.slice a n c, .int .i64 k, .bool x] w fun e w' => (e = .returned (.bool true) ∨ e = .returned (.bool false)) ∧ w = w' := by
  unfold maxLen at hn
  go_enter Tryf.func11, Tryf.ntmps11
  go_wp2
  all_goals (go_ret; simp)

theorem info4 : (Tryf.prog.info? 4).map (fun i => (i.zero, i.size, i.bytes)) = some (some (.bool false), 1, 1) := by kernel_rfl

def mk (bs : List Bool) : List Value := bs.map .bool
/-- The grown row, as far as it is laid. -/
structure Own (W : World) (N m cap : Nat) (xs : List Value) : Prop where
  own : W.ownsRow N 4 1 (.slice (some ⟨N, 0, none⟩) m cap) m xs
structure News (W : World) (ad : Addr) (xs : List Value) : Prop where
  news : ∀ j u, xs[j]? = some u → W.cell? (ad.add j) = some u
theorem mk_one (bs : List Bool) : ∀ u ∈ mk bs, u.oneCell' = true := fun u hu => by
  unfold mk at hu
  rw [List.mem_map] at hu
  obtain ⟨x, _, rfl⟩ := hu
  rfl
theorem add_block (a : Addr) (i : Nat) : (a.add i).block = a.block := by unfold Addr.add; split <;> rfl
theorem cell_lt {w : World} {a : Addr} {v : Value} (h : w.cell? a = some v) : a.block < w.heap.size := by
  unfold World.cell? at h
  split at h
  · rename_i hc; exact (Array.getElem?_eq_some_iff.1 hc).1
  · cases h
theorem news_at {w W : World} {ad : Addr} {bs : List Bool} (hX : ∀ i x, bs[i]? = some x → w.cell? (ad.add i) = some (.bool x)) (hB : Below w.heap.size w W) (i : Nat) (v : Value) (h : (bs[i]?).map Value.bool = some v) : W.cell? (ad.add i) = some v := by
  rw [Option.map_eq_some_iff] at h
  obtain ⟨x, hx, rfl⟩ := h
  have h1 := hX i x hx
  rw [hB.cell (p := ad.add i) (cell_lt h1)]
  exact h1
theorem news_take {w W : World} {ad : Addr} {bs : List Bool} (hX : ∀ i x, bs[i]? = some x → w.cell? (ad.add i) = some (.bool x)) (hB : Below w.heap.size w W) (k : Nat) : ∀ j u, (mk (bs.take k))[j]? = some u → W.cell? (ad.add j) = some u := fun j u h => by
  refine news_at hX hB j u ?_
  unfold mk at h
  rw [List.getElem?_map, List.getElem?_take] at h
  split at h
  · exact h
  · cases h
theorem news_drop {w W : World} {ad : Addr} {bs : List Bool} (hX : ∀ i x, bs[i]? = some x → w.cell? (ad.add i) = some (.bool x)) (hB : Below w.heap.size w W) (k : Nat) : ∀ j u, (mk (bs.drop k))[j]? = some u → W.cell? ((ad.add k).add j) = some u := fun j u h => by
  rw [Addr.add_add]
  refine news_at hX hB (k + j) u ?_
  unfold mk at h
  rw [List.getElem?_map, List.getElem?_drop] at h
  exact h
theorem bools_own {W : World} {base g m cap : Nat} {gs : List Bool} (h : W.ownsRow base 4 1 (.slice (some ⟨g, 0, none⟩) m cap) m (mk gs)) : BoolsAt W (some ⟨g, 0, none⟩) m gs := by
  obtain ⟨hl, h⟩ := h
  rcases h with ⟨h0, _⟩ | ⟨g', cap', cur, hv, hbg, hg, hnc, hcm, hcs, htake⟩
  · cases h0
  · cases hv
    refine ⟨by simpa [mk] using hl, .inr ⟨g, 0, rfl, (Array.getElem?_eq_some_iff.1 hg).1, fun i x hx => ?_⟩⟩
    have h1 : (mk gs)[i]? = some (.bool x) := by simp [mk, hx]
    rw [← htake, List.getElem?_take] at h1
    split at h1
    · simpa [World.cell?, hg] using h1
    · cases h1

theorem mk_app3 (a b : List Bool) (x : Bool) : mk (a ++ [x] ++ b) = mk a ++ [.bool x] ++ mk b := by simp [mk]
theorem any_ins (bs : List Bool) (k : Nat) (x : Bool) : (bs.take k ++ [x] ++ bs.drop k).any isT = (bs.any isT || x) := by
  have h : bs.any isT = ((bs.take k).any isT || (bs.drop k).any isT) := by rw [← List.any_append, List.take_append_drop]
  rw [h]
  simp only [List.any_append, List.any_cons, List.any_nil, Bool.or_false, isT]
  cases (bs.take k).any isT <;> cases (bs.drop k).any isT <;> cases x <;> rfl

set_option maxRecDepth 100000 in
set_option maxHeartbeats 8000000 in
theorem ins_walk (F : Interp) (ad : Addr) (n c : Nat) (kk : Int) (x : Bool) (bs : List Bool) (w : World) (hF : F.answers w.tape) (hn : n ≤ c) (hc : c ≤ maxLen) (hk0 : -9223372036854775808 ≤ kk) (hk1 : kk ≤ 9223372036854775807) (hX : BoolsAt w (some ad) n bs) (hX2 : ∀ i x, bs[i]? = some x → w.cell? (ad.add i) = some (.bool x)) :
    Calls Tryf.prog 4 #[.slice (some ad) n c, .int .i64 kk, .bool x] w fun e w' => e = .returned (.bool true) ∧ Below w.heap.size w w' := by
  have hn0 : n ≤ maxLen := by omega
  unfold maxLen at hc
  have HX : Hid (BoolsAt w (some ad) n bs) := hX
  have HX2 : Hid (∀ i x, bs[i]? = some x → w.cell? (ad.add i) = some (.bool x)) := hX2
  clear hX hX2
  obtain ⟨i4, hi4, hz4, hs4, hb4⟩ := info_parts info4
  go_enter Tryf.func4, Tryf.ntmps4
  go_wp2_with fail
  refine (zzBytes11_any (some ad) n c kk x w hn0).mono ?_
  rintro e w' ⟨hr, rfl⟩
  rcases hr with rfl | rfl
  case inr =>
    go_wp2_with fail
    go_ret
    exact ⟨rfl, Below.refl _ _⟩
  by_cases c1 : (65536 : Int) < n
  · go_wp2_with fail
    go_ret
    exact ⟨rfl, Below.refl _ _⟩
  by_cases c2 : kk < 0
  · go_wp2_with fail
    go_ret
    exact ⟨rfl, Below.refl _ _⟩
  by_cases c3 : (n : Int) < kk
  · go_wp2_with fail
    go_ret
    exact ⟨rfl, Below.refl _ _⟩
  obtain ⟨k, rfl⟩ : ∃ k : Nat, kk = k := ⟨kk.toNat, by omega⟩
  have hkn : k ≤ n := by omega
  obtain ⟨w1, hmk, hown1, hg1⟩ := run_make_own (P := Tryf.prog) w w.heap.size 22 4 i4 (.bool false) 1 Tryf.underlying22 hi4 hz4 hs4 .i64 .i64 (n + 1) (by rw [hb4]; omega) (by unfold maxLen; omega) (Nat.le_refl _)
  have hmk' : (Instr.makeSlice 22 (.int .i64 0) (.int .i64 ((n : Int) + 1))).run Tryf.prog w = .ok (.slice (some ⟨w.heap.size, 0, none⟩) 0 (n + 1)) w1 := hmk
  clear hmk
  have hB1 : Below w.heap.size w w1 := (Below.refl _ w).grown hg1 (Nat.le_refl _) (fun _ h => by cases h)
  have hlen := HX.out.1
  by_cases hck : c = k
  · obtain rfl : n = k := by omega
    obtain rfl : n = c := by omega
    clear hck
    have hn1 := news_take HX2.out hB1 n
    have HN1 : News w1 ad (mk (bs.take n)) := ⟨hn1⟩
    have HO1 : Own w1 w.heap.size 0 (n + 1) [] := ⟨hown1⟩
    clear hn1 hown1 hg1
    go_wp2_with (first
      | (refine wpList_append_own_spare _ rfl _ _ 22 rfl w.heap.size 4 i4 1 Tryf.underlying22 hi4 hs4 w.heap.size 0 (n + 1) [] rfl HO1.own ad n n (mk (bs.take n)) rfl (by simp [mk]; omega) HN1.news (mk_one _) (by omega) ?_; intro w2 hown2 hg2; rw [Nat.zero_add, List.nil_append] at hown2; have HO2 : Own w2 w.heap.size n (n + 1) (mk (bs.take n)) := ⟨hown2⟩; have hB2 : Below w.heap.size w w2 := hB1.grown hg2 hB1.size (fun _ h => by cases h; exact Nat.le_refl _); clear hown2 hg2 HO1 HN1)
      | (refine wpList_append_own_spare _ rfl _ _ 22 rfl w.heap.size 4 i4 1 Tryf.underlying22 hi4 hs4 w.heap.size n (n + 1) (mk (bs.take n)) rfl (HO2.own.alloc _) ⟨w2.heap.size, 0, none⟩ 1 1 [.bool x] rfl rfl (cell_one_new _ _ _) (mk_one [x]) (by omega) ?_; intro w3 hown3 hg3; have HO3 : Own w3 w.heap.size (n + 1) (n + 1) (mk (bs.take n) ++ [.bool x]) := ⟨hown3⟩; have hB3 : Below w.heap.size w w3 := (hB2.alloc hB2.size _).grown hg3 (by simp; have := hB2.size; omega) (fun _ h => by cases h; exact Nat.le_refl _); have HN3 : News w3 (ad.add n) (mk (bs.drop n)) := ⟨news_drop HX2.out hB3 n⟩; clear hown3 hg3 HO2)
      | (refine wpList_append_own_spare _ rfl _ _ 22 rfl w.heap.size 4 i4 1 Tryf.underlying22 hi4 hs4 w.heap.size (n + 1) (n + 1) (mk (bs.take n) ++ [.bool x]) rfl HO3.own ad 0 0 [] rfl rfl (fun j u h => by simp at h) (fun u h => by simp at h) (by omega) ?_; intro w4 hown4 hg4; rw [Nat.add_zero] at hown4 ⊢; have HG4 : Hid (BoolsAt w4 (some ⟨w.heap.size, 0, none⟩) (n + 1) (bs.take n ++ [x] ++ bs.drop n)) := bools_own (by rw [mk_app3, List.drop_eq_nil_of_le (by omega)]; exact hown4); have hB4 : Below w.heap.size w w4 := hB3.grown hg4 hB3.size (fun _ h => by cases h; exact Nat.le_refl _); clear hown4 hg4 HO3 HN3)
      | (go_at_call 6; refine (noScope_any _).mono ?_; rintro e w' ⟨rfl, rfl⟩))
    clear hB3 hB2 hB1
    have hX4 := HX.out.kept hB4
    have HX4 : Hid (BoolsAt w4 (some ad) n bs) := hX4
    clear hX4
    have hF4 : F.answers w4.tape := by rw [hB4.tape]; exact hF
    have hany : (bs.take n ++ [x] ++ bs.drop n).any isT = (bs.any isT || x) := any_ins bs n x
    generalize bs.take n ++ [x] ++ bs.drop n = gs at HG4 hany
    go_loopw [8, 9] (fun s i W => ∃ (q : Nat) (p : Option Addr), q ≤ n ∧ i = .int .i64 ((q : Int) - 1) ∧ s = .pointer p ∧ Laid w4 p bs q [] W) (fun _ i _ => (intOf i + 1).toNat)
    case atStart => exact ⟨n, none, Nat.le_refl _, rfl, rfl, by rw [List.drop_eq_nil_of_le (by have := HX4.out.1; omega)]; rfl, Below.refl _ _⟩
    case round =>
      rename World => W1
      obtain ⟨q, p, hq, rfl, rfl, hL⟩ := hrel
      by_cases hq0 : 0 < q
      · obtain ⟨q, rfl⟩ : ∃ j, q = j + 1 := ⟨q - 1, by omega⟩
        obtain ⟨y, hget⟩ : ∃ y, bs[q]? = some y := ⟨bs[q]'(by omega), List.getElem?_eq_getElem _⟩
        have hc1 : W1.cell? (ad.add q) = some (.bool y) := news_at HX2.out (hB4.trans (hL.2.mono hB4.size)) q _ (by rw [hget]; rfl)
        have HG : Hid _ := hget
        clear hget
        have e1 : ((q + 1 : Nat) : Int) - 1 = (q : Int) := by omega
        rw [e1]
        go_wp2_with (go_at_call 7; refine (newScope_any y p _).mono ?_; rintro e w' ⟨rfl, rfl⟩)
        exact ⟨⟨q, _, by omega, rfl, rfl, hL.step HG.out⟩, by simp [intOf] <;> omega⟩
      · obtain rfl : q = 0 := by omega
        rw [show ((0 : Nat) : Int) - 1 = -1 from rfl]
        have hO : Chain W1 p bs := by simpa using hL.1
        have HB1 : Hid (Below w4.heap.size w4 W1) := hL.2
        have HO : Hid (Chain W1 p bs) := hO
        clear hL hO
        rename Option Addr => pO
        go_wp2_with (go_at_call 6; refine (noScope_any _).mono ?_; rintro e w' ⟨rfl, rfl⟩)
        go_loopw [10, 11] (fun s i W => ∃ (q : Nat) (p : Option Addr), q ≤ n + 1 ∧ i = .int .i64 ((q : Int) - 1) ∧ s = .pointer p ∧ Laid w4 p gs q [] W ∧ Hid (Chain W pO bs)) (fun _ i _ => (intOf i + 1).toNat)
        case atStart => exact ⟨n + 1, none, Nat.le_refl _, by go_num, rfl, ⟨by rw [List.drop_eq_nil_of_le (by have := HG4.out.1; omega)]; rfl, HB1.out⟩, HO⟩
        case round =>
          rename World => W2
          clear HO HB1
          obtain ⟨q, p, hq, rfl, rfl, hL, HO⟩ := hrel
          by_cases hq0 : 0 < q
          · obtain ⟨q, rfl⟩ : ∃ j, q = j + 1 := ⟨q - 1, by omega⟩
            obtain ⟨b, o, y, hab, hb, hcell, hget⟩ := HG4.out.get (k := q) (by omega)
            cases hab
            rw [Nat.zero_add] at hcell
            have hc1 : W2.cell? ⟨w.heap.size, q, none⟩ = some (.bool y) := by rw [hL.2.cell (p := ⟨w.heap.size, q, none⟩) hb]; exact hcell
            have HG : Hid _ := hget
            clear hget hcell
            have e1 : ((q + 1 : Nat) : Int) - 1 = (q : Int) := by omega
            rw [e1]
            go_wp2_with (go_at_call 7; refine (newScope_any y p _).mono ?_; rintro e w' ⟨rfl, rfl⟩)
            exact ⟨⟨q, _, by omega, rfl, rfl, hL.step HG.out, Chain.kept ((Below.refl _ W2).alloc (Nat.le_refl _) _) _ _ HO.out⟩, by simp [intOf] <;> omega⟩
          · obtain rfl : q = 0 := by omega
            rw [show ((0 : Nat) : Int) - 1 = -1 from rfl]
            have hI : Chain W2 p gs := by simpa using hL.1
            have hB3 : Below w4.heap.size w4 W2 := hL.2
            clear hL
            rename Option Addr => pI
            have hO := HO.out
            clear HO
            go_wp2_with (go_at_call 9; refine (newDecl_any _ _).mono ?_; rintro e w' ⟨rfl, rfl⟩)
            refine (in_any F pO bs W2 (by rw [hB3.tape]; exact hF4) hO).mono ?_
            rintro e W4 ⟨hsO, hk4⟩
            have hI4 := Chain.kept hk4 _ _ hI
            have hB5 := hB3.trans (hk4.mono hB3.size)
            clear hI hO hB3 hk4
            obtain ⟨vO, rfl, HVO⟩ := said_val hsO
            clear hsO
            go_wp2_with (go_at_call 9; refine (newDecl_any _ _).mono ?_; rintro e w' ⟨rfl, rfl⟩)
            refine (in_any F pI gs W4 (by rw [hB5.tape]; exact hF4) hI4).mono ?_
            rintro e W6 ⟨hsI, hk6⟩
            have hB6 := hB5.trans (hk6.mono hB5.size)
            clear hI4 hB5 hk6
            obtain ⟨vI, rfl, HVI⟩ := said_val hsI
            clear hsI
            have HX6 : Hid (BoolsAt W6 (some ad) n bs) := HX4.out.kept hB6
            have hend := hB4.trans (hB6.mono hB4.size)
            rcases HVO.out with ⟨hx, rfl⟩ | ⟨hx, aO, rfl⟩ <;> rcases HVI.out with ⟨hy, rfl⟩ | ⟨hy, aI, rfl⟩ <;> cases x
            all_goals try (rw [hany, hx] at hy; exact absurd hy (by decide))
            all_goals (
              clear hany hy HVI HVO
              go_wp2_with fail
              go_quiet (first | (go_at_call 10; refine Calls.quiet_of_same (anyTrue_q _ n _ bs _ hn0 (by first | exact HX6.out | exact bools_drew HX6.out _))))
              go_wp2_with fail
              go_ret
              exact ⟨rfl, below_drewN hend _⟩)
  · have hn1 := news_take HX2.out hB1 k
    have HN1 : News w1 ad (mk (bs.take k)) := ⟨hn1⟩
    have HO1 : Own w1 w.heap.size 0 (n + 1) [] := ⟨hown1⟩
    clear hn1 hown1 hg1
    go_wp2_with (first
      | (refine wpList_append_own_spare _ rfl _ _ 22 rfl w.heap.size 4 i4 1 Tryf.underlying22 hi4 hs4 w.heap.size 0 (n + 1) [] rfl HO1.own ad k c (mk (bs.take k)) rfl (by simp [mk]; omega) HN1.news (mk_one _) (by omega) ?_; intro w2 hown2 hg2; rw [Nat.zero_add, List.nil_append] at hown2; have HO2 : Own w2 w.heap.size k (n + 1) (mk (bs.take k)) := ⟨hown2⟩; have hB2 : Below w.heap.size w w2 := hB1.grown hg2 hB1.size (fun _ h => by cases h; exact Nat.le_refl _); clear hown2 hg2 HO1 HN1)
      | (refine wpList_append_own_spare _ rfl _ _ 22 rfl w.heap.size 4 i4 1 Tryf.underlying22 hi4 hs4 w.heap.size k (n + 1) (mk (bs.take k)) rfl (HO2.own.alloc _) ⟨w2.heap.size, 0, none⟩ 1 1 [.bool x] rfl rfl (cell_one_new _ _ _) (mk_one [x]) (by omega) ?_; intro w3 hown3 hg3; have HO3 : Own w3 w.heap.size (k + 1) (n + 1) (mk (bs.take k) ++ [.bool x]) := ⟨hown3⟩; have hB3 : Below w.heap.size w w3 := (hB2.alloc hB2.size _).grown hg3 (by simp; have := hB2.size; omega) (fun _ h => by cases h; exact Nat.le_refl _); have HN3 : News w3 (ad.add k) (mk (bs.drop k)) := ⟨news_drop HX2.out hB3 k⟩; clear hown3 hg3 HO2)
      | (refine wpList_append_own_spare _ rfl _ _ 22 rfl w.heap.size 4 i4 1 Tryf.underlying22 hi4 hs4 w.heap.size (k + 1) (n + 1) (mk (bs.take k) ++ [.bool x]) rfl HO3.own (ad.add k) (n - k) (c - k) (mk (bs.drop k)) rfl (by simp [mk]; omega) HN3.news (mk_one _) (by omega) ?_; intro w4 hown4 hg4; rw [show k + 1 + (n - k) = n + 1 by omega] at hown4 ⊢; have HG4 : Hid (BoolsAt w4 (some ⟨w.heap.size, 0, none⟩) (n + 1) (bs.take k ++ [x] ++ bs.drop k)) := bools_own (by rw [mk_app3]; exact hown4); have hB4 : Below w.heap.size w w4 := hB3.grown hg4 hB3.size (fun _ h => by cases h; exact Nat.le_refl _); clear hown4 hg4 HO3 HN3)
      | (go_at_call 6; refine (noScope_any _).mono ?_; rintro e w' ⟨rfl, rfl⟩))
    clear hB3 hB2 hB1
    have hX4 := HX.out.kept hB4
    have HX4 : Hid (BoolsAt w4 (some ad) n bs) := hX4
    clear hX4
    have hF4 : F.answers w4.tape := by rw [hB4.tape]; exact hF
    have hany : (bs.take k ++ [x] ++ bs.drop k).any isT = (bs.any isT || x) := any_ins bs k x
    generalize bs.take k ++ [x] ++ bs.drop k = gs at HG4 hany
    go_loopw [8, 9] (fun s i W => ∃ (q : Nat) (p : Option Addr), q ≤ n ∧ i = .int .i64 ((q : Int) - 1) ∧ s = .pointer p ∧ Laid w4 p bs q [] W) (fun _ i _ => (intOf i + 1).toNat)
    case atStart => exact ⟨n, none, Nat.le_refl _, rfl, rfl, by rw [List.drop_eq_nil_of_le (by have := HX4.out.1; omega)]; rfl, Below.refl _ _⟩
    case round =>
      rename World => W1
      obtain ⟨q, p, hq, rfl, rfl, hL⟩ := hrel
      by_cases hq0 : 0 < q
      · obtain ⟨q, rfl⟩ : ∃ j, q = j + 1 := ⟨q - 1, by omega⟩
        obtain ⟨y, hget⟩ : ∃ y, bs[q]? = some y := ⟨bs[q]'(by omega), List.getElem?_eq_getElem _⟩
        have hc1 : W1.cell? (ad.add q) = some (.bool y) := news_at HX2.out (hB4.trans (hL.2.mono hB4.size)) q _ (by rw [hget]; rfl)
        have HG : Hid _ := hget
        clear hget
        have e1 : ((q + 1 : Nat) : Int) - 1 = (q : Int) := by omega
        rw [e1]
        go_wp2_with (go_at_call 7; refine (newScope_any y p _).mono ?_; rintro e w' ⟨rfl, rfl⟩)
        exact ⟨⟨q, _, by omega, rfl, rfl, hL.step HG.out⟩, by simp [intOf] <;> omega⟩
      · obtain rfl : q = 0 := by omega
        rw [show ((0 : Nat) : Int) - 1 = -1 from rfl]
        have hO : Chain W1 p bs := by simpa using hL.1
        have HB1 : Hid (Below w4.heap.size w4 W1) := hL.2
        have HO : Hid (Chain W1 p bs) := hO
        clear hL hO
        rename Option Addr => pO
        go_wp2_with (go_at_call 6; refine (noScope_any _).mono ?_; rintro e w' ⟨rfl, rfl⟩)
        go_loopw [10, 11] (fun s i W => ∃ (q : Nat) (p : Option Addr), q ≤ n + 1 ∧ i = .int .i64 ((q : Int) - 1) ∧ s = .pointer p ∧ Laid w4 p gs q [] W ∧ Hid (Chain W pO bs)) (fun _ i _ => (intOf i + 1).toNat)
        case atStart => exact ⟨n + 1, none, Nat.le_refl _, by go_num, rfl, ⟨by rw [List.drop_eq_nil_of_le (by have := HG4.out.1; omega)]; rfl, HB1.out⟩, HO⟩
        case round =>
          rename World => W2
          clear HO HB1
          obtain ⟨q, p, hq, rfl, rfl, hL, HO⟩ := hrel
          by_cases hq0 : 0 < q
          · obtain ⟨q, rfl⟩ : ∃ j, q = j + 1 := ⟨q - 1, by omega⟩
            obtain ⟨b, o, y, hab, hb, hcell, hget⟩ := HG4.out.get (k := q) (by omega)
            cases hab
            rw [Nat.zero_add] at hcell
            have hc1 : W2.cell? ⟨w.heap.size, q, none⟩ = some (.bool y) := by rw [hL.2.cell (p := ⟨w.heap.size, q, none⟩) hb]; exact hcell
            have HG : Hid _ := hget
            clear hget hcell
            have e1 : ((q + 1 : Nat) : Int) - 1 = (q : Int) := by omega
            rw [e1]
            go_wp2_with (go_at_call 7; refine (newScope_any y p _).mono ?_; rintro e w' ⟨rfl, rfl⟩)
            exact ⟨⟨q, _, by omega, rfl, rfl, hL.step HG.out, Chain.kept ((Below.refl _ W2).alloc (Nat.le_refl _) _) _ _ HO.out⟩, by simp [intOf] <;> omega⟩
          · obtain rfl : q = 0 := by omega
            rw [show ((0 : Nat) : Int) - 1 = -1 from rfl]
            have hI : Chain W2 p gs := by simpa using hL.1
            have hB3 : Below w4.heap.size w4 W2 := hL.2
            clear hL
            rename Option Addr => pI
            have hO := HO.out
            clear HO
            go_wp2_with (go_at_call 9; refine (newDecl_any _ _).mono ?_; rintro e w' ⟨rfl, rfl⟩)
            refine (in_any F pO bs W2 (by rw [hB3.tape]; exact hF4) hO).mono ?_
            rintro e W4 ⟨hsO, hk4⟩
            have hI4 := Chain.kept hk4 _ _ hI
            have hB5 := hB3.trans (hk4.mono hB3.size)
            clear hI hO hB3 hk4
            obtain ⟨vO, rfl, HVO⟩ := said_val hsO
            clear hsO
            go_wp2_with (go_at_call 9; refine (newDecl_any _ _).mono ?_; rintro e w' ⟨rfl, rfl⟩)
            refine (in_any F pI gs W4 (by rw [hB5.tape]; exact hF4) hI4).mono ?_
            rintro e W6 ⟨hsI, hk6⟩
            have hB6 := hB5.trans (hk6.mono hB5.size)
            clear hI4 hB5 hk6
            obtain ⟨vI, rfl, HVI⟩ := said_val hsI
            clear hsI
            have HX6 : Hid (BoolsAt W6 (some ad) n bs) := HX4.out.kept hB6
            have hend := hB4.trans (hB6.mono hB4.size)
            rcases HVO.out with ⟨hx, rfl⟩ | ⟨hx, aO, rfl⟩ <;> rcases HVI.out with ⟨hy, rfl⟩ | ⟨hy, aI, rfl⟩ <;> cases x
            all_goals try (rw [hany, hx] at hy; exact absurd hy (by decide))
            all_goals (
              clear hany hy HVI HVO
              go_wp2_with fail
              go_quiet (first | (go_at_call 10; refine Calls.quiet_of_same (anyTrue_q _ n _ bs _ hn0 (by first | exact HX6.out | exact bools_drew HX6.out _))))
              go_wp2_with fail
              go_ret
              exact ⟨rfl, below_drewN hend _⟩)
end Go.Proofs.Qxb6612869aFmt
