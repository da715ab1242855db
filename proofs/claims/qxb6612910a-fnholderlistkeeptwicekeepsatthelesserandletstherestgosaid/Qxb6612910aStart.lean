import Derived.Test.Qxb6612910aPlain
namespace Go.Proofs.Qxb6612910a
open Go.RowKit

theorem rels_lt {W : World} {ps : List Nat} {zs : List Int} (h : RelsAt W ps zs) (hl : zs.length = ps.length) : ∀ p ∈ ps, p < W.heap.size := fun p hp => by
  obtain ⟨i, hi⟩ := List.getElem?_of_mem hp
  have hil : i < ps.length := (List.getElem?_eq_some_iff.1 hi).1
  exact (Array.getElem?_eq_some_iff.1 (h i p _ hi (List.getElem?_eq_getElem (show i < zs.length by omega)))).1
theorem RelsAt.below {W W' : World} {ps : List Nat} {zs : List Int} (h : RelsAt W ps zs) (k : Below W.heap.size W W') : RelsAt W' ps zs := h.kept (Kept.of_below k (fun _ => False)) (fun _ _ e => e)

/-- The holder list as the law makes it. -/
theorem list_start {n m : Nat} {zs1 zs2 : List Int} {ps1 ps2 : List Nat} {W1 W2 W3 W4 : World} (hn : n ≤ 65536) (hm : m ≤ 65536) (hz1 : zs1.length = n) (hz2 : zs2.length = m)
    (hl1 : ps1.length = n) (hT1 : RelsAt W1 ps1 zs1) (hl2 : ps2.length = m) (hT2 : RelsAt W2 ps2 zs2) (hB2 : Below W1.heap.size W1 W2) (hR3 : Row W3 W2.heap.size (ps1.map some)) (hB3 : Below W2.heap.size W2 W3) (hR4 : Row W4 W3.heap.size (ps2.map some)) (hB4 : Below W3.heap.size W3 W4) :
    List2 (W4.alloc (.cells (holdCells (.slice (some ⟨W2.heap.size, 0, none⟩) n n) (.slice (some ⟨W3.heap.size, 0, none⟩) m m)) 86)) W4.heap.size W2.heap.size W3.heap.size n m ps1 ps2 zs1 zs2 [] [] := by
  subst hl1
  subst hl2
  have hB5 : Below W4.heap.size W4 (W4.alloc (.cells (holdCells (.slice (some ⟨W2.heap.size, 0, none⟩) ps1.length ps1.length) (.slice (some ⟨W3.heap.size, 0, none⟩) ps2.length ps2.length)) 86)) := (Below.refl _ _).alloc (Nat.le_refl _) _
  have r3 := hR3.lt
  have r4 := hR4.lt
  have b2 := hB2.size
  have b4 := hB4.size
  have p1 := rels_lt hT1 hz1
  have p2 := rels_lt hT2 hz2
  refine ⟨heap_alloc_last W4 _, ⟨?_, rfl, hz1, hn, ((((hT1.below hB2).below hB3).below hB4).below hB5), fun p hp => ?_⟩, ⟨?_, rfl, hz2, hm, (((hT2.below hB3).below hB4).below hB5), fun p hp => ?_⟩, by omega, by omega, by omega, fun p hp => ?_, fun p hp => ?_⟩
  · rw [List.append_nil]; exact (hR3.below hB4).below hB5
  · have := p1 p hp; omega
  · rw [List.append_nil]; exact hR4.below hB5
  · have := p2 p hp; omega
  · have := p1 p hp; omega
  · have := p2 p hp; omega

theorem keepUpTo_int (h g1 g2 c1 c2 : Nat) (u : Int) (ps1 ps2 : List Nat) (zs1 zs2 : List Int) (r1 r2 : List (Option Nat)) (w : World) (hL : List2 w h g1 g2 c1 c2 ps1 ps2 zs1 zs2 r1 r2) :
    Calls Try.prog 18 #[.pointer (some ⟨h, 0, none⟩), .int .i64 u] w fun e w' => e = .returned (.bool (decide ((0 : Int) < ((keptOf u ps1 zs1).length : Int) + ((keptOf u ps2 zs2).length : Int)))) ∧
      Kept (fun i => i = g1 ∨ i = g2 ∨ i = h) w w' ∧ List2 w' h g1 g2 c1 c2 (keptOf u ps1 zs1) (keptOf u ps2 zs2) (keptZ u ps1 zs1) (keptZ u ps2 zs2) (List.replicate (ps1.length - (keptOf u ps1 zs1).length) none ++ r1) (List.replicate (ps2.length - (keptOf u ps2 zs2).length) none ++ r2) := by
  refine (keepUpTo_any h g1 g2 c1 c2 u ps1 ps2 zs1 zs2 r1 r2 w hL).mono ?_
  rintro e w' ⟨rfl, h2, h3⟩
  have hd : decide (0 < (keptOf u ps1 zs1).length + (keptOf u ps2 zs2).length) = decide ((0 : Int) < ((keptOf u ps1 zs1).length : Int) + ((keptOf u ps2 zs2).length : Int)) := by rw [decide_eq_decide]; omega
  exact ⟨by rw [hd], h2, h3⟩
end Go.Proofs.Qxb6612910a
