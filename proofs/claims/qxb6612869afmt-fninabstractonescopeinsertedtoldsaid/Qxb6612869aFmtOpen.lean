import Derived.Test.Qxb6612869aFmtAbs
import Derived.ProofKit
import Derived.OpenShut
import Derived.ChangeOld
import Derived.Deep.Slices
import Derived.Lib.SmallJoins
import Derived.Stop.JoinedAt
import Derived.Stop.Texts
import Derived.Stop.ErrReads
import Derived.Stop.JoinedTold
import Derived.SevenToldRow
namespace Go.Proofs.Qxb6612869aFmt
open Go.ChangeShapes Go.WideShapes Go.ChangeAt Go.RowKit Go.Kit Go.Joins
open Go.Extern.Stop Go.Stop Go.Extern
set_option linter.unusedVariables false

theorem own : ownKnob Tryf.prog.godebug = none := by kernel_rfl
theorem laidOut : laidOutB Tryf.pinned.checked.prog = true := by kernel_rfl
theorem stopsF : Tryf.pinned.checked.prog.stops = ["fmt.errorf"] := by kernel_rfl
theorem stopKnobs : Tryf.pinned.checked.prog.stopKnobs = [] := by kernel_rfl
theorem quiet (os : Os) : Stop.quiet Tryf.pinned.checked.prog os := by
  intro k hk
  rw [stopKnobs] at hk
  cases hk
theorem cells4 : Tryf.prog.cellsOf 4 = 1 := by kernel_rfl

theorem spot_of {w : World} {b o : Nat} {s : Option Nat} {v : Value} (h : w.cell? ⟨b, o, s⟩ = some v) : s = none ∧ b < w.heap.size := by
  unfold World.cell? at h
  split at h
  · rename_i hc
    refine ⟨?_, (Array.getElem?_eq_some_iff.1 hc).1⟩
    cases s
    · rfl
    · simp at h
  · cases h
theorem add_none (b o i : Nat) : (⟨b, o, none⟩ : Addr).add i = ⟨b, o + i, none⟩ := by
  unfold Addr.add
  split
  · rename_i h; subst h; rfl
  · rfl

theorem bools_of {H : Type} {enc : TypeId × Value → H} {W : World} {sp : Nat → Bool} {held : Bool} {a : Option Addr} {len cap : Nat} {d : DataW H} {ps : List MemPlace} (h : DataW.Trod enc Tryf.prog W 0 sp held 22 (.slice a len cap) d ps) :
    len ≤ maxLen ∧ ∃ bs, BoolsAt W a len bs := by
  obtain ⟨fuel, hf⟩ := h
  rcases Go.Deep.open_slice1 Tryf.underlying22 cells4 hf with ⟨h0, _⟩ | ⟨a', len', cap', m, n, V, D, Pl, hcs, hb, hl, hc, hm, _, hx⟩
  · simp [Value.cells] at h0
    obtain ⟨rfl, rfl, rfl⟩ := h0
    exact ⟨by unfold maxLen; omega, [], rfl, .inl rfl⟩
  · simp [Value.cells] at hcs
    obtain ⟨rfl, rfl, rfl⟩ := hcs
    refine ⟨by omega, ?_⟩
    have hlm : len ≤ m := by rw [hm]; split <;> omega
    obtain ⟨f, hfx⟩ := Go.Deep.choose_lt (α := Bool) (p := fun i x => W.cell? (a'.add i) = some (.bool x)) (n := len) (fun i hi => by
      obtain ⟨h1, h2⟩ := hx i (by omega)
      obtain ⟨x, hv, _⟩ := DataW.trod_bool Tryf.underlying4 h2
      refine ⟨x, ?_⟩
      rw [h1]
      simpa using hv)
    refine ⟨(List.range len).map f, by simp, ?_⟩
    by_cases h0 : len = 0
    · exact .inl h0
    right
    obtain ⟨b, o, s⟩ := a'
    have hz3 := hfx 0 (by omega)
    simp only [Addr.add, if_pos] at hz3
    obtain ⟨rfl, hbb⟩ := spot_of hz3
    refine ⟨b, o, rfl, hbb, fun i x hi => ?_⟩
    have hil : i < len := by
      have := (List.getElem?_eq_some_iff.1 hi).1
      simpa using this
    rw [List.getElem?_map, List.getElem?_range hil] at hi
    have h1 := hfx i hil
    rw [add_none] at h1
    rw [h1, Option.some.inj hi]
end Go.Proofs.Qxb6612869aFmt
