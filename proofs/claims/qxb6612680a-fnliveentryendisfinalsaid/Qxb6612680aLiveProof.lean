import Derived.Test.Qxb6612680aLaw1W
import Derived.WalkKit
import Derived.ProofKit
import Derived.OpenShut
import Derived.ShutString
import Derived.ChangeOld
import Derived.Below
namespace Go.Proofs.Qxb6612680a.fnLiveEntryEndIsFinal
open Go.ChangeShapes Go.WideShapes Go.ChangeAt Go.RowKit
open Go.WideMaps (ArrKey okWide_arr open_arr)
set_option linter.unusedVariables false

theorem own : ownKnob Try.prog.godebug = none := by kernel_rfl
theorem arr30 : ArrKey Try.prog 30 5 32 := ⟨Try.underlying30, by kernel_rfl, by kernel_rfl, by kernel_rfl⟩
theorem arr79 : ArrKey Try.prog 79 5 32 := ⟨Try.underlying79, by kernel_rfl, by kernel_rfl, by kernel_rfl⟩
theorem sizes : ∃ m, Try.prog.types.size = m + 1 := ⟨134, by kernel_rfl⟩

/-- What is read at type 30 is read alike at type 79. -/
theorem trod79 {H : Type} {enc : TypeId × Value → H} {W : World} {base : Nat} {sp : Nat → Bool} {held : Bool} {v : Value} {d : DataW H} {ps : List MemPlace} (h : DataW.Trod enc Try.prog W base sp held 30 v d ps) : DataW.Trod enc Try.prog W base sp held 79 v d ps := by
  obtain ⟨fuel, hf⟩ := h
  refine ⟨fuel, ?_⟩
  cases fuel with
  | zero => simp [DataW.trod] at hf
  | succ m =>
    rw [DataW.trod_step] at hf ⊢
    unfold DataW.trodStep at hf ⊢
    simp only [Try.underlying30, Try.underlying79, arr30.size, arr79.size] at hf ⊢
    exact hf

set_option maxRecDepth 100000 in
theorem key_of {H : Type} {enc : TypeId × Value → H} {W : World} {base : Nat} {sp : Nat → Bool} {held : Bool} {xs : Array Value} (hn : xs.size = 32) {d : DataW H} {ps : List MemPlace} (h : DataW.Trod enc Try.prog W base sp held 30 (.agg xs) d ps) :
    ∃ cs kl, xs = cs.toArray ∧ KeyOk cs kl := by
  obtain ⟨ls, h1, h2, h3⟩ := open_arr arr30 Try.underlying5 sizes hn h
  obtain ⟨ls', k1, k2, k3⟩ := open_arr arr79 Try.underlying5 sizes hn (trod79 h)
  have e : ls = ls' := by
    have h4 := congrArg DataW.lits (h1.symm.trans k1)
    rw [DataW.lits_agg, DataW.lits_agg] at h4
    exact h4
  exact ⟨xs.toList, .string (keyBytes ls), by simp, ⟨by simpa using hn, by simpa using h3, by rw [e]; simpa using k3⟩⟩

theorem bd {x : Int} (h : (Lit.int .i64 x).wf = true) : -9223372036854775808 ≤ x ∧ x ≤ 9223372036854775807 := by
  simp [Lit.wf, IntKind.min, IntKind.max, IntKind.signed, IntKind.bits] at h
  omega

theorem walk (idle age cr us t1 t2 : Int) (kc mc : List Value) (kl ml : Lit) (w : World) (hk : KeyOk kc kl) (hm : KeyOk mc ml)
    (w0 : (Lit.int .i64 idle).wf = true) (w1 : (Lit.int .i64 age).wf = true) (w2 : (Lit.int .i64 cr).wf = true) (w3 : (Lit.int .i64 us).wf = true) (w4 : (Lit.int .i64 t1).wf = true) (w5 : (Lit.int .i64 t2).wf = true) :
    Calls Try.prog 4 #[.int .i64 idle, .int .i64 age, .int .i64 cr, .int .i64 us, .int .i64 t1, .int .i64 t2, .agg kc.toArray, .agg mc.toArray] w fun e w' => e = .returned (.bool true) ∧ Below w.heap.size w w' := by
  by_cases h : kl = ml
  · subst h
    exact law_eq idle age cr us t1 t2 kc mc kl w hk hm
  · exact law_ne idle age cr us t1 t2 kc mc kl ml w hk hm h (bd w0).1 (bd w0).2 (bd w1).1 (bd w1).2 (bd w2).1 (bd w2).2 (bd w3).1 (bd w3).2 (bd w4).1 (bd w4).2 (bd w5).1 (bd w5).2

set_option maxRecDepth 100000 in
theorem lifted (os : Os) (started : os.Started) (H : Type) (enc : TypeId × Value → H) :
    ReturnsInHanded {} Try.checked os 4 .any (Rows.fnLiveEntryEndIsFinalSpec.pre6 enc Try.prog Try.f4 Rows.fnLiveEntryEndIsFinalRow.domain false) (Rows.fnLiveEntryEndIsFinalSpec.post enc Try.prog Try.f4 false true false false) := by
  refine returnsInHanded_of_change (C := Try.checked) own started (by kernel_rfl) Try.func4
    (ChangeSpec.witness6 (enc := enc) (C := Try.checked) false ⟨#[], #[.int .i64 0, .int .i64 0, .int .i64 0, .int .i64 0, .int .i64 0, .int .i64 0, .agg (Array.replicate 32 (.int .u8 0)), .agg (Array.replicate 32 (.int .u8 0))], []⟩ 8 (by kernel_rfl) (by kernel_rfl) (by kernel_rfl) (by kernel_rfl)) ?_
  intro W base args ds gs before hval0 hW hcnd _
  have hval : ∀ (j : Nat) t v, Try.f4.params[j]? = some t → args[j]? = some v → Value.okWide Try.prog W .any base t v := hval0
  have hW' := hW
  obtain ⟨p, q, hA0, hV, rfl, hfz, hnd⟩ := hW
  have hA : DataW.TrodAll enc Try.prog W 0 (fun _ => true) true Try.f4.params.toList args.toList ds p := hA0
  rw [Try.params4] at hA hval
  obtain ⟨v0, vs0, d0, ds0, p0, q0, hargs, rfl, rfl, h0, r0⟩ := trodAll_cons hA
  obtain ⟨v1, vs1, d1, ds1, p1, q1, rfl, rfl, rfl, h1, r1⟩ := trodAll_cons r0
  obtain ⟨v2, vs2, d2, ds2, p2, q2, rfl, rfl, rfl, h2, r2⟩ := trodAll_cons r1
  obtain ⟨v3, vs3, d3, ds3, p3, q3, rfl, rfl, rfl, h3, r3⟩ := trodAll_cons r2
  obtain ⟨v4, vs4, d4, ds4, p4, q4, rfl, rfl, rfl, h4, r4⟩ := trodAll_cons r3
  obtain ⟨v5, vs5, d5, ds5, p5, q5, rfl, rfl, rfl, h5, r5⟩ := trodAll_cons r4
  obtain ⟨v6, vs6, d6, ds6, p6, q6, rfl, rfl, rfl, h6, r6⟩ := trodAll_cons r5
  obtain ⟨v7, vs7, d7, ds7, p7, q7, rfl, rfl, rfl, h7, r7⟩ := trodAll_cons r6
  obtain ⟨rfl, rfl, rfl⟩ := trodAll_nil r7
  obtain rfl : args = #[v0, v1, v2, v3, v4, v5, v6, v7] := by cases args; simp_all
  obtain ⟨rfl, rfl⟩ := trodVars_none hV
  obtain ⟨a0, rfl, rfl, rfl, w0⟩ := open_int Try.underlying2 (hval 0 2 v0 rfl rfl) h0
  obtain ⟨a1, rfl, rfl, rfl, w1⟩ := open_int Try.underlying2 (hval 1 2 v1 rfl rfl) h1
  obtain ⟨a2, rfl, rfl, rfl, w2⟩ := open_int Try.underlying2 (hval 2 2 v2 rfl rfl) h2
  obtain ⟨a3, rfl, rfl, rfl, w3⟩ := open_int Try.underlying2 (hval 3 2 v3 rfl rfl) h3
  obtain ⟨a4, rfl, rfl, rfl, w4⟩ := open_int Try.underlying2 (hval 4 2 v4 rfl rfl) h4
  obtain ⟨a5, rfl, rfl, rfl, w5⟩ := open_int Try.underlying2 (hval 5 2 v5 rfl rfl) h5
  obtain ⟨x6, rfl, n6⟩ := okWide_arr arr30 (hval 6 30 v6 rfl rfl)
  obtain ⟨x7, rfl, n7⟩ := okWide_arr arr30 (hval 7 30 v7 rfl rfl)
  have lt6 : ∀ x ∈ p6, x.block < W.heap.size := by obtain ⟨m, hm⟩ := h6; exact DataW.trod_lt m _ _ _ hm
  have lt7 : ∀ x ∈ p7, x.block < W.heap.size := by obtain ⟨m, hm⟩ := h7; exact DataW.trod_lt m _ _ _ hm
  obtain ⟨kc, kl, rfl, hk⟩ := key_of n6 h6
  obtain ⟨mc, ml, rfl, hm⟩ := key_of n7 h7
  clear hA0 hval0
  refine (walk a0 a1 a2 a3 a4 a5 kc mc kl ml W hk hm w0 w1 w2 w3 w4 w5).mono fun e W' ⟨he, bel⟩ => ?_
  subst he
  exact ⟨_, rfl, _, _, _, [], _, [], hW', trodAll_mk1 (shut_bool Try.underlying4 _), (trodAll_cons_mk (shut_int Try.underlying2 w0) (trodAll_cons_mk (shut_int Try.underlying2 w1) (trodAll_cons_mk (shut_int Try.underlying2 w2) (trodAll_cons_mk (shut_int Try.underlying2 w3) (trodAll_cons_mk (shut_int Try.underlying2 w4) (trodAll_cons_mk (shut_int Try.underlying2 w5) (trodAll_cons_mk (Below.trod Try.laidOut (by kernel_rfl) (of_decide_eq_true (by kernel_rfl)) h6 bel lt6) (trodAll_cons_mk (Below.trod Try.laidOut (by kernel_rfl) (of_decide_eq_true (by kernel_rfl)) h7 bel lt7) trodAll_mk0)))))))), rfl, bel.frame _, fun h => by cases h⟩

theorem over : Rows.fnLiveEntryEndIsFinalRow.holds Try.pinned (OpenSpec.ofChange Rows.fnLiveEntryEndIsFinalSpec) :=
  OpenClaim.holds_of_wide 4 Try.f4 rfl rfl rfl rfl rfl rfl rfl ⟨rfl, rfl, rfl, rfl, rfl⟩ rfl rfl rfl rfl rfl (by kernel_rfl) Try.func4 (by kernel_rfl)
    (of_decide_eq_true (by kernel_rfl)) (by unfold Func.isWrapper; first | (rw [if_pos (by decide +kernel)]; kernel_rfl) | (rw [if_neg (by decide +kernel)]; exact ⟨rfl, rfl⟩))
    (fun os started H enc _ => lifted os started H enc)

/-- THE STATEMENT. -/
theorem proved : Rows.FnLiveEntryEndIsFinalSaid := over
#print axioms proved
end Go.Proofs.Qxb6612680a.fnLiveEntryEndIsFinal
