import Derived.Test.Qxb6612680aLaw2E
namespace Go.Proofs.Qxb6612680a
open Go.RowKit

theorem start_side (N0 : Nat) (W : World) (sb bm : Nat) (hs : W.heap[sb]? = some (.cells (storeCells 0 0 bm) 78)) (hm : W.ownsMap Try.prog 79 ptrElem bm 0 (.map [])) : Side N0 sb bm 0 (.map []) (fun _ => none) W :=
  ⟨hs, hm, fun _ => rfl, fun _ _ _ _ h => by simp at h, fun _ _ _ _ h => by simp at h, fun _ _ _ _ h => by simp at h, fun _ _ _ _ h => by simp at h, fun _ _ _ _ h => by simp at h, fun _ _ _ _ _ _ _ h => by simp at h⟩
theorem start_L2 (w : World) : L2 w.heap.size 0 (.map []) (.map []) (fun _ => none) (fun _ => none) w ((((w.alloc (.map #[] 0)).alloc (.cells (storeCells 0 0 w.heap.size) 78)).alloc (.map #[] 0)).alloc (.cells (storeCells 0 0 (w.heap.size + 1 + 1)) 78)) := by
  have e1 := heap_alloc_last (w.alloc (.map #[] 0)) (.cells (storeCells 0 0 w.heap.size) 78)
  have e2 := heap_alloc_last (((w.alloc (.map #[] 0)).alloc (.cells (storeCells 0 0 w.heap.size) 78)).alloc (.map #[] 0)) (.cells (storeCells 0 0 (w.heap.size + 1 + 1)) 78)
  have m1 := (((World.ownsMap_made w Try.prog 79 ptrElem).alloc (.cells (storeCells 0 0 w.heap.size) 78)).alloc (.map #[] 0)).alloc (.cells (storeCells 0 0 (w.heap.size + 1 + 1)) 78)
  have m2 := (World.ownsMap_made ((w.alloc (.map #[] 0)).alloc (.cells (storeCells 0 0 w.heap.size) 78)) Try.prog 79 ptrElem).alloc (.cells (storeCells 0 0 (w.heap.size + 1 + 1)) 78)
  simp only [World.size_alloc] at e1 e2 m2
  refine ⟨((((Below.refl _ w).alloc (Nat.le_refl _) _).alloc (by simp) _).alloc (by simp; omega) _).alloc (by simp; omega) _, by simp, start_side _ _ _ _ ?_ m1, start_side _ _ _ _ e2 m2, fun _ _ _ _ _ _ _ h => by simp at h⟩
  rw [Below.heap_alloc _ _ _ (by simp), Below.heap_alloc _ _ _ (by simp)]
  exact e1

theorem mk_run (n : Nat) (hn : n ≤ 4096) (W : World) : (Instr.makeSlice 41 (.int .i64 n) (.int .i64 n)).run Try.prog W = .ok (.slice (some ⟨W.heap.size, 0, none⟩) n n) (W.alloc (.cells (mkB n) 4)) := by
  have hz : (Try.prog.info? 4).map (fun i => (i.zero, i.size, i.bytes)) = some (some (.bool false), 1, 1) := by kernel_rfl
  obtain ⟨i, hi, hz0, hz1, hz2⟩ := info_parts hz
  have := run_make (P := Try.prog) W 41 4 i (.bool false) Try.underlying41 hi hz0 .i64 .i64 n n (by omega) (Int.le_refl _) (by rw [hz2]; omega) (by omega)
  rw [this, hz1]
  simp [mkB, Value.cells]

set_option maxRecDepth 100000 in
set_option maxHeartbeats 4000000 in
theorem law2_walk (ka ua : Option Addr) (kn kc un uc : Nat) (L : List (List Value × Lit)) (us : List ByteArray) (name : ByteArray) (w : World) (hk : kn ≤ maxLen) (hu : un ≤ maxLen) (hn : name.size ≤ maxLen) (hK : KeysAt w ka kn L) (hU : UsersAt w ua un us) :
    Calls Try.prog 5 #[.slice ka kn kc, .slice ua un uc, .string name] w fun e w' => e = .returned (.bool true) ∧ Below w.heap.size w w' := by
  have hk0 := hk
  have hu0 := hu
  have hn0 := hn
  unfold maxLen at hk hu hn
  have HK : Hid (KeysAt w ka kn L) := hK
  have HU : Hid (UsersAt w ua un us) := hU
  clear hK hU
  go_enter Try.func5, Try.ntmps5
  go_wp2_with fail
  refine (zzBytes_any ka ua kn kc un uc us name w hk0 hu0 hn0 HU.out).mono ?_
  clear hk0 hu0 hn0
  rintro e w' ⟨hr, hw⟩
  have hw' : w = w' := hw.symm
  subst hw'
  clear hw
  rcases hr with rfl | ⟨rfl, hsm⟩
  · go_wp2_with fail
    go_ret
    exact ⟨rfl, Below.refl _ _⟩
  have HS : Hid _ := hsm
  clear hsm
  by_cases c1 : (4096 : Int) < kn
  · go_wp2_with fail
    go_ret
    exact ⟨rfl, Below.refl _ _⟩
  by_cases c2 : (4096 : Int) < un
  · go_wp2_with fail
    go_ret
    exact ⟨rfl, Below.refl _ _⟩
  by_cases c3 : (65536 : Int) < name.size
  · go_wp2_with fail
    go_ret
    exact ⟨rfl, Below.refl _ _⟩
  go_wp2_with fail
  go_loop [7, 8] (fun t i => ∃ (k : Nat) (tt : Int), k ≤ un ∧ i = .int .i64 k ∧ t = .int .i64 tt ∧ 0 ≤ tt ∧ tt ≤ 1048576) (fun _ i => un - (intOf i).toNat)
  case atStart => exact ⟨0, _, Nat.zero_le _, rfl, rfl, by omega, by omega⟩
  case round =>
    obtain ⟨k, tt, hk1, rfl, rfl, hz0, hz1⟩ := hrel
    by_cases hlt : k < un
    · obtain ⟨b, o, u, rfl, hb, hcell, _, hget⟩ := HU.out.get hlt
      have hsz := HS.out k u hlt hget
      clear hget
      go_wp2_with fail
      all_goals first | (go_ret; exact ⟨rfl, Below.refl _ _⟩) | skip
      go_round
      case rel => exact ⟨k + 1, _, by omega, by go_num, rfl, by omega, by omega⟩
      case measure => simp [intOf]; omega
    · have HL0 : Hid _ := start_L2 w
      go_wp2_with (go_at_call 7; refine (newStore_any 0 0 _).mono ?_; rintro e w' ⟨rfl, rfl⟩)
      go_loopw [11, 12] (fun i _ wr => ∃ (j : Nat) (Da Db : DataW Unit) (ga gb : Lit → Option Ent), j ≤ kn ∧ i = .int .i64 j ∧ L2 w.heap.size j Da Db ga gb w wr ∧ (∀ q, (ga q).map (·.1) = uO L us j q) ∧ (∀ q, (gb q).map (·.1) = uO L us j q)) (fun i _ _ => kn - (intOf i).toNat)
      case atStart => exact ⟨0, _, _, _, _, Nat.zero_le _, rfl, HL0.out, fun _ => rfl, fun _ => rfl⟩
      case round =>
        obtain ⟨j, Da, Db, ga, gb, hj1, rfl, hL, hga, hgb⟩ := hrel
        clear HL0
        have HA : Hid _ := hga
        have HBB : Hid _ := hgb
        clear hga hgb
        by_cases hj : j < kn
        · obtain ⟨b, o, rfl, hb, hr, hko⟩ := HK.out.get hj
          have hr1 := rangeAt_below hr (hL.below.block b hb)
          have hi : (Try.prog.info? 30).map (·.size) = some (csAt L j).length := by rw [hko.len]; exact info30
          have hjm : j < maxLen := by unfold maxLen; omega
          by_cases hju : j < un
          · obtain ⟨ub, uo, u, rfl, hub, hcell, _, hget⟩ := HU.out.get hju
            have hc1 : wr.cell? ⟨ub, uo + j, none⟩ = some (.string u) := by rw [hL.below.cell (p := ⟨ub, uo + j, none⟩) hub]; exact hcell
            have hus : u = usrAt us j := by unfold usrAt; rw [List.getD_eq_getElem?_getD, hget]; rfl
            have HUS : Hid _ := hus
            clear hget hcell hus
            go_wp2_with (first | (refine wpList_load_mid rfl 30 _ rfl b (o + j * 32) rfl (csAt L j) _ hr1 Try.underlying30 rfl hi ?_))
            refine (putA_c hL hko hjm u).mono ?_
            rintro e w1 ⟨rfl, eb, ch, hL1, hS1⟩
            clear hr1
            have hr1 := rangeAt_below hr (hL1.below.block b hb)
            go_wp2_with (first | (refine wpList_load_mid rfl 30 _ rfl b (o + j * 32) rfl (csAt L j) _ hr1 Try.underlying30 rfl hi ?_))
            refine (putB_c hL1 hS1 hko hjm u).mono ?_
            rintro e w2 ⟨rfl, eb2, ch2, hL2⟩
            clear hr1
            go_wp2_with fail
            go_roundw
            case rel => exact ⟨j + 1, _, _, _, _, by omega, by go_num, hL2, put_step HA.out _ HUS.out, put_step HBB.out _ HUS.out⟩
            case measure => simp [intOf]; omega
          · have hus : (⟨#[]⟩ : ByteArray) = usrAt us j := by
              unfold usrAt; rw [List.getD_eq_getElem?_getD, List.getElem?_eq_none (by have := HU.out.1; omega)]; rfl
            have HUS : Hid _ := hus
            clear hus
            go_wp2_with (first | (refine wpList_load_mid rfl 30 _ rfl b (o + j * 32) rfl (csAt L j) _ hr1 Try.underlying30 rfl hi ?_))
            refine (putA_c hL hko hjm ⟨#[]⟩).mono ?_
            rintro e w1 ⟨rfl, eb, ch, hL1, hS1⟩
            clear hr1
            have hr1 := rangeAt_below hr (hL1.below.block b hb)
            go_wp2_with (first | (refine wpList_load_mid rfl 30 _ rfl b (o + j * 32) rfl (csAt L j) _ hr1 Try.underlying30 rfl hi ?_))
            refine (putB_c hL1 hS1 hko hjm ⟨#[]⟩).mono ?_
            rintro e w2 ⟨rfl, eb2, ch2, hL2⟩
            clear hr1
            go_wp2_with fail
            go_roundw
            case rel => exact ⟨j + 1, _, _, _, _, by omega, by go_num, hL2, put_step HA.out _ HUS.out, put_step HBB.out _ HUS.out⟩
            case measure => simp [intOf]; omega
        · rename World => wq
          obtain ⟨hLn, hga, hgb⟩ : L2 w.heap.size kn Da Db ga gb w wq ∧ (∀ q, (ga q).map (·.1) = uO L us kn q) ∧ (∀ q, (gb q).map (·.1) = uO L us kn q) := by
            have hjk : j = kn := by omega
            subst hjk
            exact ⟨hL, HA.out, HBB.out⟩
          clear hL HA HBB
          have HA : Hid _ := hga
          have HBB : Hid _ := hgb
          clear hga hgb
          have hmk := mk_run kn (by omega)
          have hN0 : NamedAt (wq.alloc (.cells (mkB kn) 4)) wq.heap.size kn (fun q => decide (q < 0) && nm L us kn name (klAt L q)) :=
            ⟨mkB kn, heap_alloc_last _ _, fun q hq => by simpa using mkB_get kn q hq⟩
          have HN0 : Hid _ := hN0
          have HL1 : Hid _ := hLn.kept ((Below.refl _ wq).alloc (Nat.le_refl _) (.cells (mkB kn) 4))
          have HZ : Hid (w.heap.size + 4 ≤ wq.heap.size) := hLn.size
          clear hN0 hLn
          go_wp2_with fail
          go_loopw [14] (fun i wx => ∃ q : Nat, q ≤ kn ∧ i = .int .i64 q ∧ L2 w.heap.size kn Da Db ga gb w wx ∧ NamedAt wx wq.heap.size kn (fun p => decide (p < q) && nm L us kn name (klAt L p))) (fun i _ => kn - (intOf i).toNat)
          case atStart => exact ⟨0, Nat.zero_le _, rfl, HL1.out, HN0.out⟩
          case round =>
            rename World => wx
            obtain ⟨q, hq1, rfl, hLq, hNq⟩ := hrel
            clear HN0 HL1 hmk
            by_cases hq : q < kn
            · obtain ⟨b, o, rfl, hb, hr, hko⟩ := HK.out.get hq
              have hr1 := rangeAt_below hr (hLq.below.block b hb)
              have hi : (Try.prog.info? 30).map (·.size) = some (csAt L q).length := by rw [hko.len]; exact info30
              have hsome := uO_some L us kn q hq (klaw.key hko.k79)
              rw [← isSome_map (HA.out (klAt L q))] at hsome
              obtain ⟨⟨u, eb, ch⟩, hgk⟩ := Option.isSome_iff_exists.1 hsome
              have HG : Hid _ := hgk
              clear hgk hsome
              go_wp2_with (first | (refine wpList_load_mid rfl 30 _ rfl b (o + q * 32) rfl (csAt L q) _ hr1 Try.underlying30 rfl hi ?_))
              refine (getA_some hLq hko HG.out).mono ?_
              rintro e w1 ⟨rfl, hb1⟩
              have hL1 := hLq.kept hb1
              have hN1 := hNq.kept (hb1.block _ hNq.lt)
              clear hr1
              go_wp2_with fail
              refine (userA_c hL1 HG.out).mono ?_
              rintro e w2 ⟨rfl, rfl⟩
              obtain ⟨hcq, hfq⟩ := hN1.cell hq
              go_wp2_with fail
              exact ⟨⟨q + 1, by omega, by go_num, hL1.set hN1 HZ.out q _, hN1.set q _ (fun j _ => named_step (fun p => nm L us kn name (klAt L p)) q _ (nm_of HA.out HG.out name) j)⟩, by simp [intOf]; omega⟩
            · have hN2 : NamedAt wx wq.heap.size kn (fun p => nm L us kn name (klAt L p)) := hNq.congr (fun j hj => by
                have : j < q := by omega
                simp [this])
              clear hNq
              have HA0 : Hid (∀ k, (ga k).map (·.1) = u4 L us kn name 0 k) := fun k => by rw [u4_zero]; exact HA.out k
              clear HA
              have HN0 : Hid _ := hN2
              have HL0 : Hid _ := hLq
              clear hN2 hLq
              go_wp2_with fail
              go_loopw [15, 16] (fun i _ wy => ∃ (r : Nat) (Da : DataW Unit) (ga : Lit → Option Ent), r ≤ kn ∧ i = .int .i64 r ∧ L2 w.heap.size kn Da Db ga gb w wy ∧ NamedAt wy wq.heap.size kn (fun p => nm L us kn name (klAt L p)) ∧ Hid (∀ k, (ga k).map (·.1) = u4 L us kn name r k)) (fun i _ _ => kn - (intOf i).toNat)
              case atStart => exact ⟨0, _, _, Nat.zero_le _, rfl, HL0.out, HN0.out, HA0⟩
              case round =>
                rename World => wy
                clear HN0 HL0 HA0
                obtain ⟨r, Da, ga, hr1, rfl, hLr, hNr, HA⟩ := hrel
                by_cases hrk : r < kn
                · obtain ⟨b, o, rfl, hb, hr, hko⟩ := HK.out.get hrk
                  have hr1 := rangeAt_below hr (hLr.below.block b hb)
                  have hi : (Try.prog.info? 30).map (·.size) = some (csAt L r).length := by rw [hko.len]; exact info30
                  cases hgk : ga (klAt L r) with
                  | none =>
                    have HG : Hid _ := hgk
                    clear hgk
                    go_wp2_with (first | (refine wpList_load_mid rfl 30 _ rfl b (o + r * 32) rfl (csAt L r) _ hr1 Try.underlying30 rfl hi ?_))
                    refine (getA_none hLr hko HG.out).mono ?_
                    rintro e w1 ⟨rfl, hb1⟩
                    have hL1 := hLr.kept hb1
                    have hN1 := hNr.kept (hb1.block _ hNr.lt)
                    clear hr1
                    go_wp2_with fail
                    go_roundw
                    case rel => exact ⟨r + 1, _, _, by omega, by go_num, hL1, hN1, end_gone HA.out hrk (klaw.key hko.k79) HG.out⟩
                    case measure => simp [intOf]; omega
                  | some x =>
                    obtain ⟨u, eb, ch⟩ := x
                    have HG : Hid _ := hgk
                    clear hgk
                    go_wp2_with (first | (refine wpList_load_mid rfl 30 _ rfl b (o + r * 32) rfl (csAt L r) _ hr1 Try.underlying30 rfl hi ?_))
                    refine (getA_some hLr hko HG.out).mono ?_
                    rintro e w1 ⟨rfl, hb1⟩
                    have hL1 := hLr.kept hb1
                    have hN1 := hNr.kept (hb1.block _ hNr.lt)
                    clear hr1
                    go_wp2_with fail
                    refine (userA_c hL1 HG.out).mono ?_
                    rintro e w2 ⟨rfl, rfl⟩
                    rcases Bool.eq_false_or_eq_true (u.toList == name.toList) with hnn | hnn
                    · have hr1 := rangeAt_below hr (hL1.below.block b hb)
                      go_wp2_with (first | (refine wpList_load_mid rfl 30 _ rfl b (o + r * 32) rfl (csAt L r) _ hr1 Try.underlying30 rfl hi ?_))
                      refine (endA_c hL1 hko HG.out).mono ?_
                      rintro e w2 ⟨rfl, hL2, hk2⟩
                      have hN2 := hN1.end_ HZ.out hL1 HG.out hk2
                      clear hr1
                      go_wp2_with fail
                      go_roundw
                      case rel => exact ⟨r + 1, _, _, by omega, by go_num, hL2, hN2, end_struck HA.out HG.out hnn⟩
                      case measure => simp [intOf]; omega
                    · go_wp2_with fail
                      go_roundw
                      case rel => exact ⟨r + 1, _, _, by omega, by go_num, hL1, hN1, end_stays HA.out HG.out hnn⟩
                      case measure => simp [intOf]; omega
                · have HE : Hid (∀ k, (ga k).isSome = ((uO L us kn k).isSome && !nm L us kn name k)) := fun k => by
                    have hrk' : r = kn := by omega
                    subst hrk'
                    rw [isSome_map (HA.out k), u4_end]
                  clear HA
                  go_wp2_with fail
                  refine (allB_c hLr name).mono ?_
                  rintro e w1 ⟨rfl, ⟨Dc, hL1⟩, hk1⟩
                  have hN1 := hNr.all HZ.out hLr hk1
                  have HF : Hid (∀ k, (allG gb name k).isSome = ((uO L us kn k).isSome && !nm L us kn name k)) := all_end HBB.out
                  clear HBB hLr hNr
                  have HN0 : Hid _ := hN1
                  have HL0 : Hid _ := hL1
                  clear hN1 hL1
                  go_wp2_with fail
                  go_loopw [17, 18, 19] (fun i _ _ wz => ∃ (s : Nat), s ≤ kn ∧ i = .int .i64 s ∧ L2 w.heap.size kn Da Dc ga (allG gb name) w wz ∧ NamedAt wz wq.heap.size kn (fun p => nm L us kn name (klAt L p))) (fun i _ _ _ => kn - (intOf i).toNat)
                  case atStart => exact ⟨0, Nat.zero_le _, rfl, HL0.out, HN0.out⟩
                  case round =>
                    rename World => wz
                    clear HN0 HL0
                    obtain ⟨s, hs1, rfl, hLs, hNs⟩ := hrel
                    by_cases hsk : s < kn
                    · obtain ⟨b, o, rfl, hb, hr, hko⟩ := HK.out.get hsk
                      have hr1 := rangeAt_below hr (hLs.below.block b hb)
                      have hi : (Try.prog.info? 30).map (·.size) = some (csAt L s).length := by rw [hko.len]; exact info30
                      have hA := HE.out (klAt L s)
                      have hB := HF.out (klAt L s)
                      rw [uO_some L us kn s hsk (klaw.key hko.k79), Bool.true_and] at hA hB
                      rcases isSome_cases hA with ⟨hnn, hgA⟩ | ⟨hnn, uA, ebA, chA, hgA⟩
                      · rw [hnn] at hB
                        have hgB : allG gb name (klAt L s) = none := by simpa using hB
                        have HGA : Hid _ := hgA
                        have HGB : Hid _ := hgB
                        clear hgA hgB hA hB
                        go_wp2_with (first | (refine wpList_load_mid rfl 30 _ rfl b (o + s * 32) rfl (csAt L s) _ hr1 Try.underlying30 rfl hi ?_))
                        refine (getA_none hLs hko HGA.out).mono ?_
                        rintro e w2 ⟨rfl, hb2⟩
                        have hL2 := hLs.kept hb2
                        have hN2 := hNs.kept (hb2.block _ hNs.lt)
                        clear hr1
                        have hr1 := rangeAt_below hr (hL2.below.block b hb)
                        go_wp2_with (first | (refine wpList_load_mid rfl 30 _ rfl b (o + s * 32) rfl (csAt L s) _ hr1 Try.underlying30 rfl hi ?_))
                        refine (getB_none hL2 hko HGB.out).mono ?_
                        rintro e w3 ⟨rfl, hb3⟩
                        have hL3 := hL2.kept hb3
                        have hN3 := hN2.kept (hb3.block _ hN2.lt)
                        clear hr1
                        obtain ⟨hcs, hfs⟩ := hN3.cell hsk
                        simp only [hnn] at hcs
                        go_wp2_with fail
                        go_roundw
                        case rel => exact ⟨s + 1, by omega, by go_num, hL3, hN3⟩
                        case measure => simp [intOf]; omega
                      · rw [hnn] at hB
                        obtain ⟨⟨uB, ebB, chB⟩, hgB⟩ := Option.isSome_iff_exists.1 hB
                        have HGA : Hid _ := hgA
                        have HGB : Hid _ := hgB
                        clear hgA hgB hA hB
                        go_wp2_with (first | (refine wpList_load_mid rfl 30 _ rfl b (o + s * 32) rfl (csAt L s) _ hr1 Try.underlying30 rfl hi ?_))
                        refine (getA_some hLs hko HGA.out).mono ?_
                        rintro e w2 ⟨rfl, hb2⟩
                        have hL2 := hLs.kept hb2
                        have hN2 := hNs.kept (hb2.block _ hNs.lt)
                        clear hr1
                        have hr1 := rangeAt_below hr (hL2.below.block b hb)
                        go_wp2_with (first | (refine wpList_load_mid rfl 30 _ rfl b (o + s * 32) rfl (csAt L s) _ hr1 Try.underlying30 rfl hi ?_))
                        refine (getB_some hL2 hko HGB.out).mono ?_
                        rintro e w3 ⟨rfl, hb3⟩
                        have hL3 := hL2.kept hb3
                        have hN3 := hN2.kept (hb3.block _ hN2.lt)
                        clear hr1
                        obtain ⟨hcs, hfs⟩ := hN3.cell hsk
                        simp only [hnn] at hcs
                        go_wp2_with fail
                        go_roundw
                        case rel => exact ⟨s + 1, by omega, by go_num, hL3, hN3⟩
                        case measure => simp [intOf]; omega
                    · have hsz : Maps.size Da = Maps.size Dc := size_eq_of_has hLs.a.map hLs.b.map (fun k => by rw [hLs.a.ents.has, hLs.b.ents.has, HE.out, HF.out])
                      have HSZ : Hid _ := hsz
                      clear hsz
                      go_wp2_with fail
                      refine (lenA_c hLs).mono ?_
                      rintro e w2 ⟨rfl, rfl⟩
                      go_wp2_with fail
                      refine (lenB_c hLs).mono ?_
                      rintro e w2 ⟨rfl, rfl⟩
                      rw [HSZ.out]
                      go_wp2_with fail
                      go_ret
                      exact ⟨by simp, hLs.below⟩
end Go.Proofs.Qxb6612680a
