import Derived.Test.Qxb6612680aLaw2D
namespace Go.Proofs.Qxb6612680a
open Go.RowKit

section
variable {N n nb m : Nat} {f : Nat → Bool} {Da Db : DataW Unit} {ga gb : Lit → Option Ent} {w W W' : World}

/-- The row of bools lies apart from what a store holds. -/
theorem EntsOk.apart {N0 : Nat} {D : DataW Unit} {g : Lit → Option Ent} (h : EntsOk N0 D g W) (hN : NamedAt W nb m f) : ∀ k u eb ch, g k = some (u, eb, ch) → ¬ eb = nb ∧ ¬ ch = nb := fun k u eb ch hg => by
  obtain ⟨c, hc, _⟩ := hN
  refine ⟨fun e => ?_, fun e => ?_⟩
  · have h0 := h.entry _ _ _ _ hg
    rw [e, hc] at h0
    simp at h0
  · have h0 := h.chan _ _ _ _ hg
    rw [e, hc] at h0
    simp at h0
theorem L2.set (h : L2 N n Da Db ga gb w W) (hN : NamedAt W nb m f) (hnb : N + 4 ≤ nb) (i : Nat) (v : Value) : L2 N n Da Db ga gb w (W.setCell ⟨nb, i, none⟩ v) := by
  have k : Kept (fun i => i = nb) W (W.setCell ⟨nb, i, none⟩ v) := ⟨rfl, rfl, rfl, by simp [World.setCell], fun k hk hne => Below.heap_setCell _ _ _ _ (fun e => hne e)⟩
  exact ⟨h.below.setCell (by show N ≤ nb; omega) v, Nat.le_trans h.size k.size, h.a.kept k (by omega) (by omega) (h.a.ents.apart hN), h.b.kept k (by omega) (by omega) (h.b.ents.apart hN), h.disj⟩
theorem NamedAt.end_ (hN : NamedAt W nb m f) (hnb : N + 4 ≤ nb) (h : L2 N n Da Db ga gb w W) {kl : Lit} {u : ByteArray} {eb ch : Nat} (hg : ga kl = some (u, eb, ch)) (k : Kept (fun i => i = N ∨ i = ch) W W') : NamedAt W' nb m f :=
  hN.kept (k.block nb hN.lt (fun e => e.elim (fun e => by omega) (fun e => (h.a.ents.apart hN _ _ _ _ hg).2 e.symm)))
theorem NamedAt.all (hN : NamedAt W nb m f) (hnb : N + 4 ≤ nb) (h : L2 N n Da Db ga gb w W) {name : ByteArray} (k : Kept (DelX (N + 3) (N + 2) gb name) W W') : NamedAt W' nb m f := by
  refine hN.kept (k.block nb hN.lt ?_)
  rintro (e | e | ⟨k2, u2, eb2, hg2, _⟩)
  · omega
  · omega
  · exact (h.b.ents.apart hN _ _ _ _ hg2).2 rfl
theorem NamedAt.congr {f' : Nat → Bool} (hN : NamedAt W nb m f) (e : ∀ j, j < m → f' j = f j) : NamedAt W nb m f' := by
  obtain ⟨c, h1, h2⟩ := hN
  exact ⟨c, h1, fun j hj => by rw [e j hj]; exact h2 j hj⟩
end

theorem nm_of {L : List (List Value × Lit)} {us : List ByteArray} {n : Nat} {ga : Lit → Option Ent} (hA : ∀ q, (ga q).map (·.1) = uO L us n q) {kl : Lit} {u : ByteArray} {eb ch : Nat} (hg : ga kl = some (u, eb, ch)) (name : ByteArray) : nm L us n name kl = (u.toList == name.toList) := by
  have h := hA kl
  rw [hg] at h
  unfold nm
  rw [← h]
  rfl
/-- The row behind one more round of the third loop. -/
theorem named_step (g : Nat → Bool) (q : Nat) (b : Bool) (hb : g q = b) (j : Nat) : (decide (j < q + 1) && g j) = if j = q then b else (decide (j < q) && g j) := by
  by_cases e : j = q
  · subst e; simp [hb]
  · rw [if_neg e]
    have : decide (j < q + 1) = decide (j < q) := by simp; omega
    rw [this]
theorem isSome_cases {o : Option Ent} {b : Bool} (h : o.isSome = !b) : (b = true ∧ o = none) ∨ (b = false ∧ ∃ u eb ch, o = some (u, eb, ch)) := by
  cases b with
  | true => exact .inl ⟨rfl, by cases o <;> simp at h ⊢⟩
  | false =>
    right
    cases o with
    | none => simp at h
    | some x => exact ⟨rfl, x.1, x.2.1, x.2.2, rfl⟩

/-- The cells that 'make([]bool, n)' lays. -/
def mkB (n : Nat) : Array Value := madeCells #[.bool false] n
theorem mkB_get (n j : Nat) (h : j < n) : (mkB n)[j]? = some (.bool false) := by
  simp [mkB, madeCells, h, Nat.mod_one]
end Go.Proofs.Qxb6612680a
