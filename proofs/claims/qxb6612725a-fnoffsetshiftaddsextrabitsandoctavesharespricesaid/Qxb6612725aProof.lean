import Derived.Test.Qxb6612725aWalk
import Derived.WalkKit
import Derived.ProofKit
import Derived.OpenShut
import Derived.ShutString
import Derived.ChangeOld
import Derived.Below
import Derived.WideKeyArr2
import Derived.Deep.Slices
namespace Go.Proofs.Qxb6612725a.fnOffsetShiftAddsExtraBitsAndOctaveSharesPrice
open Go.ChangeShapes Go.WideShapes Go.ChangeAt Go.RowKit
open Go.WideMaps (okWide_arr)
set_option linter.unusedVariables false

theorem own : ownKnob Try.prog.godebug = none := by kernel_rfl
theorem laid : laidOutB Try.prog = true := by kernel_rfl
theorem cells21 : Try.prog.cellsOf 21 = 1 := by kernel_rfl
theorem cells27 : Try.prog.cellsOf 27 = 32 := by kernel_rfl

theorem okArr {W : World} {r : Reach} {b0 : Nat} {v : Value} (h : Value.okWide Try.prog W r b0 27 v) : ∃ xs : Array Value, v = .agg xs ∧ xs.size = 32 := by
  simp only [Value.okWide, Try.underlying27] at h
  obtain ⟨cs, h1, h2, _⟩ := h
  exact ⟨cs, h1, by rw [h2, cells27]⟩

theorem bd32 {x : Int} (h : (Lit.int .i32 x).wf = true) : -2147483648 ≤ x ∧ x ≤ 2147483647 := by
  simp [Lit.wf, IntKind.min, IntKind.max, IntKind.signed, IntKind.bits] at h
  omega
theorem bdu32 {x : Int} (h : (Lit.int .u32 x).wf = true) : ∃ n : Nat, x = n ∧ n ≤ 4294967295 := by
  simp [Lit.wf, IntKind.min, IntKind.max, IntKind.signed, IntKind.bits] at h
  exact ⟨x.toNat, by omega, by omega⟩
theorem bdu64 {x : Int} (h : (Lit.int .u64 x).wf = true) : ∃ n : Nat, x = n ∧ n ≤ 18446744073709551615 := by
  simp [Lit.wf, IntKind.min, IntKind.max, IntKind.signed, IntKind.bits] at h
  exact ⟨x.toNat, by omega, by omega⟩

theorem table_of {H : Type} {enc : TypeId × Value → H} {W : World} {base : Nat} {sp : Nat → Bool} {held : Bool} {cs : List Value} (hn : cs.length = 32) {d : DataW H} {ps : List MemPlace} (h : DataW.Trod enc Try.prog W base sp held 27 (.agg cs.toArray) d ps) :
    ∃ T : Nat → Int, (∀ i, i < 32 → cs[i]? = some (.int .i32 (T i))) ∧ ∀ i, i < 32 → -2147483648 ≤ T i ∧ T i ≤ 2147483647 := by
  obtain ⟨fuel, hf⟩ := h
  obtain ⟨xs, m, _, _, _, hl, hx⟩ := DataW.trod_array Try.underlying27 hf
  obtain ⟨T, hT⟩ := Go.Deep.choose_lt (α := Int) (p := fun i x => cs[i]? = some (.int .i32 x) ∧ -2147483648 ≤ x ∧ x ≤ 2147483647) (n := 32) (fun i hi => by
    have h1 := hx i hi
    rw [List.getElem?_eq_getElem (by omega), cells21] at h1
    obtain ⟨z, hz, _, hw⟩ := DataW.trod_int Try.underlying21 h1
    refine ⟨z, ?_, bd32 hw⟩
    have h2 := congrArg (fun l : List Value => l[0]?) hz
    simpa [Value.cells, List.getElem?_take, List.getElem?_drop] using h2)
  exact ⟨T, fun i hi => (hT i hi).1, fun i hi => (hT i hi).2⟩

set_option maxRecDepth 100000 in
theorem lifted (os : Os) (started : os.Started) (H : Type) (enc : TypeId × Value → H) :
    ReturnsInHanded {} Try.checked os 5 .any (Rows.fnOffsetShiftAddsExtraBitsAndOctaveSharesPriceSpec.pre6 enc Try.prog Try.f5 Rows.fnOffsetShiftAddsExtraBitsAndOctaveSharesPriceRow.domain false) (Rows.fnOffsetShiftAddsExtraBitsAndOctaveSharesPriceSpec.post enc Try.prog Try.f5 false true false false) := by
  refine returnsInHanded_of_change (C := Try.checked) own started (by kernel_rfl) Try.func5
    (ChangeSpec.witness6 (enc := enc) (C := Try.checked) false ⟨#[], #[.agg (Array.replicate 32 (.int .i32 0)), .int .u32 0, .int .u64 0, .int .u32 0], []⟩ 8 (by kernel_rfl) (by kernel_rfl) (by kernel_rfl) (by kernel_rfl)) ?_
  intro W base args ds gs before hval0 hW hcnd _
  have hval : ∀ (j : Nat) t v, Try.f5.params[j]? = some t → args[j]? = some v → Value.okWide Try.prog W .any base t v := hval0
  have hW' := hW
  obtain ⟨p, q, hA0, hV, rfl, hfz, hnd⟩ := hW
  have hA : DataW.TrodAll enc Try.prog W 0 (fun _ => true) true Try.f5.params.toList args.toList ds p := hA0
  rw [Try.params5] at hA hval
  obtain ⟨v0, vs0, d0, ds0, p0, q0, hargs, rfl, rfl, h0, r0⟩ := trodAll_cons hA
  obtain ⟨v1, vs1, d1, ds1, p1, q1, rfl, rfl, rfl, h1, r1⟩ := trodAll_cons r0
  obtain ⟨v2, vs2, d2, ds2, p2, q2, rfl, rfl, rfl, h2, r2⟩ := trodAll_cons r1
  obtain ⟨v3, vs3, d3, ds3, p3, q3, rfl, rfl, rfl, h3, r3⟩ := trodAll_cons r2
  obtain ⟨rfl, rfl, rfl⟩ := trodAll_nil r3
  obtain rfl : args = #[v0, v1, v2, v3] := by cases args; simp_all
  obtain ⟨rfl, rfl⟩ := trodVars_none hV
  obtain ⟨xs, rfl, hn⟩ := okArr (hval 0 27 v0 rfl rfl)
  obtain ⟨a1, rfl, rfl, rfl, w1⟩ := open_int Try.underlying22 (hval 1 22 v1 rfl rfl) h1
  obtain ⟨a2, rfl, rfl, rfl, w2⟩ := open_int Try.underlying23 (hval 2 23 v2 rfl rfl) h2
  obtain ⟨a3, rfl, rfl, rfl, w3⟩ := open_int Try.underlying22 (hval 3 22 v3 rfl rfl) h3
  obtain ⟨cs, rfl⟩ : ∃ cs : List Value, xs = cs.toArray := ⟨xs.toList, by simp⟩
  have hcs : cs.length = 32 := by simpa using hn
  have lt0 : ∀ x ∈ p0, x.block < W.heap.size := by obtain ⟨m, hm⟩ := h0; exact DataW.trod_lt m _ _ _ hm
  obtain ⟨T, hT, hB⟩ := table_of hcs h0
  obtain ⟨n, rfl, hnn⟩ := bdu32 w1
  obtain ⟨s, rfl, hss⟩ := bdu64 w2
  obtain ⟨u, rfl, huu⟩ := bdu32 w3
  clear hA0 hval0
  refine (law_walk cs T n s u W hcs hT hB hnn hss huu).mono fun e W' ⟨he, bel⟩ => ?_
  subst he
  exact ⟨_, rfl, _, _, _, [], _, [], hW', trodAll_mk1 (shut_bool Try.underlying4 _), (trodAll_cons_mk (Below.trod laid (by kernel_rfl) (of_decide_eq_true (by kernel_rfl)) h0 bel lt0) (trodAll_cons_mk (shut_int Try.underlying22 w1) (trodAll_cons_mk (shut_int Try.underlying23 w2) (trodAll_cons_mk (shut_int Try.underlying22 w3) trodAll_mk0)))), rfl, bel.frame _, fun h => by cases h⟩

theorem over : Rows.fnOffsetShiftAddsExtraBitsAndOctaveSharesPriceRow.holds Try.pinned (OpenSpec.ofChange Rows.fnOffsetShiftAddsExtraBitsAndOctaveSharesPriceSpec) :=
  OpenClaim.holds_of_wide 5 Try.f5 rfl rfl rfl rfl rfl rfl rfl ⟨rfl, rfl, rfl, rfl, rfl⟩ rfl rfl rfl rfl rfl (by kernel_rfl) Try.func5 (by kernel_rfl)
    (of_decide_eq_true (by kernel_rfl)) (by unfold Func.isWrapper; first | (rw [if_pos (by decide +kernel)]; kernel_rfl) | (rw [if_neg (by decide +kernel)]; exact ⟨rfl, rfl⟩))
    (fun os started H enc _ => lifted os started H enc)

/-- THE STATEMENT. -/
theorem proved : Rows.FnOffsetShiftAddsExtraBitsAndOctaveSharesPriceSaid := over
#print axioms proved
end Go.Proofs.Qxb6612725a.fnOffsetShiftAddsExtraBitsAndOctaveSharesPrice
