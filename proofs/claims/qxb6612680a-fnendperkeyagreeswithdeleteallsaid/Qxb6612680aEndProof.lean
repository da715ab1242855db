import Derived.Test.Qxb6612680aLaw2W
import Derived.WalkKit
import Derived.ProofKit
import Derived.OpenShut
import Derived.ShutString
import Derived.ChangeOld
import Derived.Below
import Derived.Deep.Slices
import Derived.SliceStrings
import Derived.ChangeMaps5
namespace Go.Proofs.Qxb6612680a.fnEndPerKeyAgreesWithDeleteAll
open Go.ChangeShapes Go.WideShapes Go.ChangeAt Go.RowKit
open Go.WideMaps (ArrKey okWide_arr open_arr)
set_option linter.unusedVariables false

theorem own : ownKnob Try.prog.godebug = none := by kernel_rfl
theorem arr30 : ArrKey Try.prog 30 5 32 := ⟨Try.underlying30, by kernel_rfl, by kernel_rfl, by kernel_rfl⟩
theorem arr79 : ArrKey Try.prog 79 5 32 := ⟨Try.underlying79, by kernel_rfl, by kernel_rfl, by kernel_rfl⟩
theorem sizes : ∃ m, Try.prog.types.size = m + 1 := ⟨134, by kernel_rfl⟩

/-- What is read at type 30 is read alike at type 79. -/
theorem trod79 {H : Type} {enc : TypeId × Value → H} {W : World} {base : Nat} {sp : Nat → Bool} {held : Bool} {v : Value} {d : DataW H} {ps : List MemPlace} (h : DataW.Trod enc Try.prog W base sp held 30 v d ps) : DataW.Trod enc Try.prog W base sp held 79 v d ps := by
  obtain ⟨fuel, hf⟩ := h
  refine ⟨fuel, ?_⟩
  cases fuel with
  | zero => simp [DataW.trod] at hf
  | succ m =>
    rw [DataW.trod_step] at hf ⊢
    unfold DataW.trodStep at hf ⊢
    simp only [Try.underlying30, Try.underlying79, arr30.size, arr79.size] at hf ⊢
    exact hf

set_option maxRecDepth 100000 in
theorem key_of {H : Type} {enc : TypeId × Value → H} {W : World} {base : Nat} {sp : Nat → Bool} {held : Bool} {xs : Array Value} (hn : xs.size = 32) {d : DataW H} {ps : List MemPlace} (h : DataW.Trod enc Try.prog W base sp held 30 (.agg xs) d ps) :
    ∃ cs kl, xs = cs.toArray ∧ KeyOk cs kl := by
  obtain ⟨ls, h1, h2, h3⟩ := open_arr arr30 Try.underlying5 sizes hn h
  obtain ⟨ls', k1, k2, k3⟩ := open_arr arr79 Try.underlying5 sizes hn (trod79 h)
  have e : ls = ls' := by
    have h4 := congrArg DataW.lits (h1.symm.trans k1)
    rw [DataW.lits_agg, DataW.lits_agg] at h4
    exact h4
  exact ⟨xs.toList, .string (keyBytes ls), by simp, ⟨by simpa using hn, by simpa using h3, by rw [e]; simpa using k3⟩⟩


theorem cells30 : Try.prog.cellsOf 30 = 32 := by kernel_rfl
theorem cells9 : Try.prog.cellsOf 9 = 1 := by kernel_rfl

theorem spot_of {w : World} {b o : Nat} {s : Option Nat} {v : Value} (h : w.cell? ⟨b, o, s⟩ = some v) : s = none ∧ b < w.heap.size := by
  unfold World.cell? at h
  split at h
  · rename_i hc
    refine ⟨?_, (Array.getElem?_eq_some_iff.1 hc).1⟩
    cases s
    · rfl
    · simp at h
  · cases h
theorem add_none (b o i : Nat) : (⟨b, o, none⟩ : Addr).add i = ⟨b, o + i, none⟩ := by
  unfold Addr.add
  split
  · rename_i h; subst h; rfl
  · rfl

theorem keys_of {H : Type} {enc : TypeId × Value → H} {W : World} {sp : Nat → Bool} {held : Bool} {a : Option Addr} {len cap : Nat} {d : DataW H} {ps : List MemPlace} (h : DataW.Trod enc Try.prog W 0 sp held 38 (.slice a len cap) d ps) :
    len ≤ maxLen ∧ ∃ L, KeysAt W a len L := by
  obtain ⟨fuel, hf⟩ := h
  rcases Go.Deep.open_slice Try.underlying38 hf with ⟨h0, _⟩ | ⟨a', len', cap', m, n, D, Pl, hcs, hb, hl, hc, hm, _, hx⟩
  · simp [Value.cells] at h0
    obtain ⟨rfl, rfl, rfl⟩ := h0
    exact ⟨by unfold maxLen; omega, [], rfl, .inl rfl⟩
  · simp [Value.cells] at hcs
    obtain ⟨rfl, rfl, rfl⟩ := hcs
    refine ⟨by omega, ?_⟩
    have hlm : len ≤ m := by rw [hm]; split <;> omega
    rw [cells30] at hx
    have : Inhabited (List Value × Lit) := ⟨([], .bool false)⟩
    obtain ⟨f, hfx⟩ := Go.Deep.choose_lt (α := List Value × Lit) (p := fun i x => W.cells? 0 (a'.add (i * 32)) 32 = some x.1 ∧ KeyOk x.1 x.2) (n := len) (fun i hi => by
      obtain ⟨cs', h1, h2⟩ := hx i (by omega)
      have hlen := (World.cells?_some h1).2.1
      obtain ⟨cs, kl, e, hk⟩ := key_of (xs := cs'.toArray) (by simpa using hlen) ⟨n, by simpa [Value.cells] using h2⟩
      have e' : cs' = cs := by simpa using e
      subst e'
      exact ⟨(cs', kl), h1, hk⟩)
    refine ⟨(List.range len).map f, by simp, ?_⟩
    by_cases h0 : len = 0
    · exact .inl h0
    right
    obtain ⟨b, o, s⟩ := a'
    obtain ⟨_, hz1, hz2⟩ := World.cells?_some (hfx 0 (by omega)).1
    have hz3 := hz2 0 (by omega)
    rw [List.getElem?_eq_getElem (by omega)] at hz3
    simp [Addr.add] at hz3
    obtain ⟨rfl, hbb⟩ := spot_of hz3
    refine ⟨b, o, rfl, hbb, fun i cs kl hi => ?_⟩
    have hil : i < len := by
      have := (List.getElem?_eq_some_iff.1 hi).1
      simpa using this
    have hif : f i = (cs, kl) := by
      rw [List.getElem?_map, List.getElem?_range hil] at hi
      exact Option.some.inj hi
    have h1 := hfx i hil
    rw [hif, add_none] at h1
    refine ⟨fun j v hv => ?_, h1.2⟩
    obtain ⟨_, hy1, hy2⟩ := World.cells?_some h1.1
    have hj : j < 32 := by rw [← hy1]; exact (List.getElem?_eq_some_iff.1 hv).1
    have := hy2 j hj
    rw [add_none] at this
    rw [this]; exact hv

theorem users_of {H : Type} {enc : TypeId × Value → H} {W : World} {sp : Nat → Bool} {held : Bool} {a : Option Addr} {len cap : Nat} {d : DataW H} {ps : List MemPlace} (h : DataW.Trod enc Try.prog W 0 sp held 39 (.slice a len cap) d ps) :
    len ≤ maxLen ∧ ∃ us, UsersAt W a len us := by
  obtain ⟨fuel, hf⟩ := h
  rcases open_strings Try.underlying39 Try.underlying9 cells9 hf with ⟨h0, _⟩ | ⟨a', len', cap', ss, hcs, hb, hl, hc, hm, _, hx, hsz⟩
  · simp [Value.cells] at h0
    obtain ⟨rfl, rfl, rfl⟩ := h0
    exact ⟨by unfold maxLen; omega, [], rfl, .inl rfl⟩
  · simp [Value.cells] at hcs
    obtain ⟨rfl, rfl, rfl⟩ := hcs
    refine ⟨by omega, ss.take len, ?_, ?_⟩
    · simp; split at hm <;> omega
    have hlm : len ≤ ss.length := by rw [hm]; split <;> omega
    by_cases h0 : len = 0
    · exact .inl h0
    right
    obtain ⟨b, o, s⟩ := a'
    have hz3 := hx 0 (by omega)
    simp only [Addr.add, if_pos] at hz3
    obtain ⟨rfl, hbb⟩ := spot_of hz3
    refine ⟨b, o, rfl, hbb, fun i u hi => ?_⟩
    have hil : i < len := by
      have := (List.getElem?_eq_some_iff.1 hi).1
      simp at this; omega
    rw [List.getElem?_take_of_lt hil] at hi
    have h1 := hx i (by omega)
    rw [add_none, List.getD_eq_getElem?_getD, hi] at h1
    exact ⟨h1, hsz u (List.mem_of_getElem? hi)⟩

set_option maxRecDepth 100000 in
theorem lifted (os : Os) (started : os.Started) (H : Type) (enc : TypeId × Value → H) :
    ReturnsInHanded {} Try.checked os 5 .any (Rows.fnEndPerKeyAgreesWithDeleteAllSpec.pre6 enc Try.prog Try.f5 Rows.fnEndPerKeyAgreesWithDeleteAllRow.domain false) (Rows.fnEndPerKeyAgreesWithDeleteAllSpec.post enc Try.prog Try.f5 false true false false) := by
  refine returnsInHanded_of_change (C := Try.checked) own started (by kernel_rfl) Try.func5
    (ChangeSpec.witness6 (enc := enc) (C := Try.checked) false ⟨#[], #[.slice none 0 0, .slice none 0 0, .string ⟨#[]⟩], []⟩ 8 (by kernel_rfl) (by kernel_rfl) (by kernel_rfl) (by kernel_rfl)) ?_
  intro W base args ds gs before hval0 hW hcnd _
  have hval : ∀ (j : Nat) t v, Try.f5.params[j]? = some t → args[j]? = some v → Value.okWide Try.prog W .any base t v := hval0
  have hW' := hW
  obtain ⟨p, q, hA0, hV, rfl, hfz, hnd⟩ := hW
  have hA : DataW.TrodAll enc Try.prog W 0 (fun _ => true) true Try.f5.params.toList args.toList ds p := hA0
  rw [Try.params5] at hA hval
  obtain ⟨v0, vs0, d0, ds0, p0, q0, hargs, rfl, rfl, h0, r0⟩ := trodAll_cons hA
  obtain ⟨v1, vs1, d1, ds1, p1, q1, rfl, rfl, rfl, h1, r1⟩ := trodAll_cons r0
  obtain ⟨v2, vs2, d2, ds2, p2, q2, rfl, rfl, rfl, h2, r2⟩ := trodAll_cons r1
  obtain ⟨rfl, rfl, rfl⟩ := trodAll_nil r2
  obtain rfl : args = #[v0, v1, v2] := by cases args; simp_all
  obtain ⟨rfl, rfl⟩ := trodVars_none hV
  obtain ⟨a0, l0, c0, rfl⟩ := okWide_slice Try.underlying38 (hval 0 38 v0 rfl rfl)
  obtain ⟨a1, l1, c1, rfl⟩ := okWide_slice Try.underlying39 (hval 1 39 v1 rfl rfl)
  have lt0 : ∀ x ∈ p0, x.block < W.heap.size := by obtain ⟨m, hm⟩ := h0; exact DataW.trod_lt m _ _ _ hm
  have lt1 : ∀ x ∈ p1, x.block < W.heap.size := by obtain ⟨m, hm⟩ := h1; exact DataW.trod_lt m _ _ _ hm
  have lt2 : ∀ x ∈ p2, x.block < W.heap.size := by obtain ⟨m, hm⟩ := h2; exact DataW.trod_lt m _ _ _ hm
  have h2' := h2
  obtain ⟨name, rfl, _, _, hn⟩ := Go.ChangeMaps.open_string Try.underlying9 (hval 2 9 v2 rfl rfl) h2'
  obtain ⟨hkl, L, hK⟩ := keys_of h0
  obtain ⟨hul, us, hU⟩ := users_of h1
  clear hA0 hval0
  refine (law2_walk a0 a1 l0 c0 l1 c1 L us name W hkl hul hn hK hU).mono fun e W' ⟨he, bel⟩ => ?_
  subst he
  exact ⟨_, rfl, _, _, _, [], _, [], hW', trodAll_mk1 (shut_bool Try.underlying4 _), (trodAll_cons_mk (Below.trod Try.laidOut (by kernel_rfl) (of_decide_eq_true (by kernel_rfl)) h0 bel lt0) (trodAll_cons_mk (Below.trod Try.laidOut (by kernel_rfl) (of_decide_eq_true (by kernel_rfl)) h1 bel lt1) (trodAll_cons_mk (Below.trod Try.laidOut (by kernel_rfl) (of_decide_eq_true (by kernel_rfl)) h2 bel lt2) trodAll_mk0))), rfl, bel.frame _, fun h => by cases h⟩

theorem over : Rows.fnEndPerKeyAgreesWithDeleteAllRow.holds Try.pinned (OpenSpec.ofChange Rows.fnEndPerKeyAgreesWithDeleteAllSpec) :=
  OpenClaim.holds_of_wide 5 Try.f5 rfl rfl rfl rfl rfl rfl rfl ⟨rfl, rfl, rfl, rfl, rfl⟩ rfl rfl rfl rfl rfl (by kernel_rfl) Try.func5 (by kernel_rfl)
    (of_decide_eq_true (by kernel_rfl)) (by unfold Func.isWrapper; first | (rw [if_pos (by decide +kernel)]; kernel_rfl) | (rw [if_neg (by decide +kernel)]; exact ⟨rfl, rfl⟩))
    (fun os started H enc _ => lifted os started H enc)

/-- THE STATEMENT. -/
theorem proved : Rows.FnEndPerKeyAgreesWithDeleteAllSaid := over
#print axioms proved
end Go.Proofs.Qxb6612680a.fnEndPerKeyAgreesWithDeleteAll
