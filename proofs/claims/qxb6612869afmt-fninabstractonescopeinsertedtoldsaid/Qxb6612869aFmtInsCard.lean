import Derived.Test.Qxb6612869aFmtInsNil
import Derived.Test.Qxb6612869aFmtOpen
namespace Go.Proofs.Qxb6612869aFmt
open Go.ChangeShapes Go.WideShapes Go.ChangeAt Go.RowKit Go.Kit Go.Joins
open Go.Extern.Stop Go.Stop Go.Extern
set_option linter.unusedVariables false

/-- The slice of flags: nil, or its cells from an address on. -/
theorem bools_two {H : Type} {enc : TypeId × Value → H} {W : World} {sp : Nat → Bool} {held : Bool} {a : Option Addr} {len cap : Nat} {d : DataW H} {ps : List MemPlace} (h : DataW.Trod enc Tryf.prog W 0 sp held 22 (.slice a len cap) d ps) :
    (a = none ∧ len = 0 ∧ cap = 0) ∨ ∃ ad bs, a = some ad ∧ len ≤ cap ∧ cap ≤ maxLen ∧ BoolsAt W (some ad) len bs ∧ ∀ i x, bs[i]? = some x → W.cell? (ad.add i) = some (.bool x) := by
  obtain ⟨fuel, hf⟩ := h
  rcases Go.Deep.open_slice1 Tryf.underlying22 cells4 hf with ⟨h0, _⟩ | ⟨a', len', cap', m, n, V, D, Pl, hcs, hb, hl, hc, hm, _, hx⟩
  · simp [Value.cells] at h0
    exact .inl h0
  · simp [Value.cells] at hcs
    obtain ⟨rfl, rfl, rfl⟩ := hcs
    right
    have hlm : len ≤ m := by rw [hm]; split <;> omega
    obtain ⟨f, hfx⟩ := Go.Deep.choose_lt (α := Bool) (p := fun i x => W.cell? (a'.add i) = some (.bool x)) (n := len) (fun i hi => by
      obtain ⟨h1, h2⟩ := hx i (by omega)
      obtain ⟨x, hv, _⟩ := DataW.trod_bool Tryf.underlying4 h2
      refine ⟨x, ?_⟩
      rw [h1]
      simpa using hv)
    have hall : ∀ i x, ((List.range len).map f)[i]? = some x → W.cell? (a'.add i) = some (.bool x) := fun i x hi => by
      have hil : i < len := by
        have := (List.getElem?_eq_some_iff.1 hi).1
        simpa using this
      rw [List.getElem?_map, List.getElem?_range hil] at hi
      rw [hfx i hil, Option.some.inj hi]
    refine ⟨a', (List.range len).map f, rfl, hl, hc, ⟨by simp, ?_⟩, hall⟩
    by_cases h0 : len = 0
    · exact .inl h0
    right
    obtain ⟨b, o, s⟩ := a'
    have hz3 := hfx 0 (by omega)
    simp only [Addr.add, if_pos] at hz3
    obtain ⟨rfl, hbb⟩ := spot_of hz3
    refine ⟨b, o, rfl, hbb, fun i x hi => ?_⟩
    have := hall i x hi
    rw [add_none] at this
    exact this

theorem bd64 {x : Int} (h : (Lit.int .i64 x).wf = true) : -9223372036854775808 ≤ x ∧ x ≤ 9223372036854775807 := by
  simp [Lit.wf, IntKind.min, IntKind.max, IntKind.signed, IntKind.bits] at h
  omega

namespace fnInAbstractOneScopeInserted
set_option maxRecDepth 100000 in
theorem lifted (os : Os) (started : os.Started) (H : Type) (enc : TypeId × Value → H) :
    ReturnsInTold none {} Tryf.checked os 4 .any Input.okWide ((OpenSpec.ofChange Rows.fnInAbstractOneScopeInsertedSpec).preRow enc Tryf.prog Tryf.f4 [] false []) (fun F => ((OpenSpec.ofChange Rows.fnInAbstractOneScopeInsertedSpec).at F).post enc Tryf.prog Tryf.f4 false true false false) (aloneAtReturn Tryf.prog) nothingAlways := by
  refine returnsInTold_of_row (C := Tryf.checked) (s := OpenSpec.ofChange Rows.fnInAbstractOneScopeInsertedSpec) (by kernel_rfl) own started (by kernel_rfl) Tryf.func4
    (OpenSpec.witness_stopped (enc := enc) (C := Tryf.checked) false ⟨#[], #[.slice none 0 0, .int .i64 0, .bool false], []⟩ 8 (by kernel_rfl) (by kernel_rfl) (by kernel_rfl) (by kernel_rfl)) ?_
  intro F W base args ds gs before _ hF hval0 hW _ _ _ _ _
  have hval : ∀ (j : Nat) t v, Tryf.f4.params[j]? = some t → args[j]? = some v → Value.okWide Tryf.prog W .any base t v := hval0
  have hW' := hW
  obtain ⟨p, q, hA0, hV, rfl, hfz, hnd⟩ := hW
  have hA : DataW.TrodAll enc Tryf.prog W 0 (fun _ => true) true Tryf.f4.params.toList args.toList ds p := hA0
  rw [Tryf.params4] at hA hval
  obtain ⟨v0, vs0, d0, ds0, p0, q0, hargs, rfl, rfl, h0, r0⟩ := trodAll_cons hA
  obtain ⟨v1, vs1, d1, ds1, p1, q1, rfl, rfl, rfl, h1, r1⟩ := trodAll_cons r0
  obtain ⟨v2, vs2, d2, ds2, p2, q2, rfl, rfl, rfl, h2, r2⟩ := trodAll_cons r1
  obtain ⟨rfl, rfl, rfl⟩ := trodAll_nil r2
  obtain rfl : args = #[v0, v1, v2] := by cases args; simp_all
  obtain ⟨rfl, rfl⟩ := trodVars_none hV
  obtain ⟨a0, l0, c0, rfl⟩ := okWide_slice Tryf.underlying22 (hval 0 22 v0 rfl rfl)
  obtain ⟨kk, rfl, rfl, rfl, wk⟩ := open_int Tryf.underlying3 (hval 1 3 v1 rfl rfl) h1
  obtain ⟨x, rfl, rfl, rfl⟩ := open_bool Tryf.underlying4 (hval 2 4 v2 rfl rfl) h2
  have lt0 : ∀ x ∈ p0, x.block < W.heap.size := by obtain ⟨m, hm⟩ := h0; exact DataW.trod_lt m _ _ _ hm
  clear hA0 hval0
  have walk : Calls Tryf.prog 4 #[.slice a0 l0 c0, .int .i64 kk, .bool x] W fun e w' => e = .returned (.bool true) ∧ Below W.heap.size W w' := by
    rcases bools_two h0 with ⟨rfl, rfl, rfl⟩ | ⟨ad, bs, rfl, hl, hc, hX, hX2⟩
    · exact ins_nil F.told kk x W hF (bd64 wk).1 (bd64 wk).2
    · exact ins_walk F.told ad l0 c0 kk x bs W hF hl hc (bd64 wk).1 (bd64 wk).2 hX hX2
  refine walk.mono fun e W' ⟨he, bel⟩ => ?_
  subst he
  exact ⟨_, rfl, _, _, _, [], _, [], hW', trodAll_mk1 (shut_bool Tryf.underlying4 _), (trodAll_cons_mk (Below.trod laidOut (by kernel_rfl) (of_decide_eq_true (by kernel_rfl)) h0 bel lt0) (trodAll_cons_mk (shut_int Tryf.underlying3 wk) (trodAll_cons_mk (shut_bool Tryf.underlying4 _) trodAll_mk0))), rfl, bel.frame _, fun h => by cases h⟩

/-- THE STATEMENT. -/
theorem proved : Rows.FnInAbstractOneScopeInsertedToldSaid :=
  Claim7.holds_of_told_any 4 Tryf.f4 "fmt.errorf" [] [] _ _ _ (by kernel_rfl) rfl rfl rfl laidOut (by kernel_rfl) rfl ⟨rfl, rfl, rfl, rfl, rfl, rfl, rfl⟩ rfl rfl (by kernel_rfl) (by kernel_rfl) Tryf.func4 (by kernel_rfl)
    (of_decide_eq_true (by kernel_rfl)) (of_decide_eq_true (by kernel_rfl)) stopsF.symm rfl stopKnobs.symm (by kernel_rfl)
    (by kernel_rfl) (by kernel_rfl) (by kernel_rfl) (by kernel_rfl) (by kernel_rfl) (by kernel_rfl) (by kernel_rfl) (by kernel_rfl) (by kernel_rfl) rfl (by kernel_rfl) rfl rfl
    rfl rfl
    rfl (by kernel_rfl) (by kernel_rfl) (by kernel_rfl) (by decide) (by kernel_rfl)
    (OpenClaim.moreEntering_of (by kernel_rfl) (by kernel_rfl) (by kernel_rfl) (by kernel_rfl) (by kernel_rfl) (by kernel_rfl) (by kernel_rfl) (by kernel_rfl) (by kernel_rfl) (by kernel_rfl))
    ⟨_, WideRow.started_initial, quiet _⟩
    (fun os started _ H enc _ => lifted os started H enc)
#print axioms proved
end fnInAbstractOneScopeInserted
end Go.Proofs.Qxb6612869aFmt
