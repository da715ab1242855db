import Derived.Test.Qxb6612680aLaw2A
namespace Go.Proofs.Qxb6612680a
open Go.RowKit

abbrev Ent := ByteArray × Nat × Nat

/-- One of the law's two stores. -/
structure Side (N0 sb bm n : Nat) (D : DataW Unit) (g : Lit → Option Ent) (W : World) : Prop where
  store : W.heap[sb]? = some (.cells (storeCells 0 0 bm) 78)
  map : W.ownsMap Try.prog 79 ptrElem bm n D
  ents : EntsOk N0 D g W

section
variable {N0 sb bm n : Nat} {D : DataW Unit} {g : Lit → Option Ent} {W W' : World}

theorem Side.mono (h : Side N0 sb bm n D g W) {n' : Nat} (hn : n ≤ n') : Side N0 sb bm n' D g W := ⟨h.store, h.map.mono hn, h.ents⟩

/-- The store stands while other blocks turn. -/
theorem Side.kept (h : Side N0 sb bm n D g W) {X : Nat → Prop} (k : Kept X W W') (hsb : ¬ X sb) (hbm : ¬ X bm) (hx : ∀ k u eb ch, g k = some (u, eb, ch) → ¬ X eb ∧ ¬ X ch) : Side N0 sb bm n D g W' := by
  have l1 : sb < W.heap.size := (Array.getElem?_eq_some_iff.1 h.store).1
  refine ⟨(k.block sb l1 hsb).trans h.store, owns_below h.map (k.block bm h.map.lt hbm), h.ents.has, h.ents.at_, fun k' u eb ch hg => ?_, fun k' u eb ch hg => ?_, h.ents.eb_ge, h.ents.ch_ge, h.ents.inj⟩
  · have := h.ents.entry k' u eb ch hg
    exact (k.block eb (Array.getElem?_eq_some_iff.1 this).1 (hx k' u eb ch hg).1).trans this
  · have := h.ents.chan k' u eb ch hg
    exact (k.block ch (Array.getElem?_eq_some_iff.1 this).1 (hx k' u eb ch hg).2).trans this
theorem Side.below (h : Side N0 sb bm n D g W) (k : Below W.heap.size W W') : Side N0 sb bm n D g W' :=
  h.kept (Kept.of_below k (fun _ => False)) (fun e => e) (fun e => e) (fun _ _ _ _ _ => ⟨fun e => e, fun e => e⟩)

/-- The ghost behind 'ZZPut'. -/
def putG (g : Lit → Option Ent) (kl : Lit) (x : Ent) (k : Lit) : Option Ent := if k.sameKey kl then some x else g k
/-- The ghost behind 'ZZEnd'. -/
def delG (g : Lit → Option Ent) (kl : Lit) (k : Lit) : Option Ent := if k.sameKey kl then none else g k

theorem Side.put (h : Side N0 sb bm n D g W) (hN : N0 ≤ W.heap.size) (hbm : bm < N0) (hne : bm ≠ sb) {u : ByteArray} {kl : Lit} (hkl : WideAt.IsKeyLit kl) (hp : PutPost bm n 0 0 u kl D W W') :
    ∃ eb ch, W.heap.size ≤ eb ∧ W.heap.size ≤ ch ∧ Side N0 sb bm (n + 1) (D.put kl (.lit (.int .i64 eb))) (putG g kl (u, eb, ch)) W' := by
  obtain ⟨k, eb, ch, e1, e2, e3, e4, e5, e6⟩ := hp
  refine ⟨eb, ch, e1, e2, ?_, e6, ?_⟩
  · exact (k.block sb (Array.getElem?_eq_some_iff.1 h.store).1 (fun e => hne e.symm)).trans h.store
  have im := h.map.isMap
  have key : ∀ k' x, putG g kl (u, eb, ch) k' = some x → (k' = kl ∧ x = (u, eb, ch)) ∨ (k' ≠ kl ∧ g k' = some x) := fun k' x hk => by
    unfold putG at hk
    split at hk
    · rename_i hs
      exact .inl ⟨WideAt.sameKey_eq hs, (Option.some.inj hk).symm⟩
    · rename_i hs
      refine .inr ⟨fun e => hs (by rw [e]; exact WideAt.sameKey_self hkl), hk⟩
  have old : ∀ k' u' eb' ch', g k' = some (u', eb', ch') → eb' < W.heap.size ∧ ch' < W.heap.size := fun k' u' eb' ch' hg =>
    ⟨(Array.getElem?_eq_some_iff.1 (h.ents.entry k' u' eb' ch' hg)).1, (Array.getElem?_eq_some_iff.1 (h.ents.chan k' u' eb' ch' hg)).1⟩
  refine ⟨fun k' => ?_, fun k' u' eb' ch' hg => ?_, fun k' u' eb' ch' hg => ?_, fun k' u' eb' ch' hg => ?_, fun k' u' eb' ch' hg => ?_, fun k' u' eb' ch' hg => ?_, fun k1 k2 u1 eb1 ch1 u2 eb2 hg1 hg2 => ?_⟩
  · by_cases e : k' = kl
    · subst e
      rw [Maps.has_put_same im hkl]; simp [putG, WideAt.sameKey_self hkl]
    · rw [Maps.has_put_other e, h.ents.has k']; simp [putG, Maps.sameKey_ne e]
  · rcases key _ _ hg with ⟨rfl, hx⟩ | ⟨hne', hx⟩
    · cases hx; exact Maps.atKey_put_same im hkl _ _
    · rw [Maps.atKey_put_other hne']; exact h.ents.at_ _ _ _ _ hx
  · rcases key _ _ hg with ⟨rfl, hx⟩ | ⟨hne', hx⟩
    · cases hx; exact e4
    · have := h.ents.entry _ _ _ _ hx
      exact (k.block _ (old _ _ _ _ hx).1 (fun e => by have := h.ents.eb_ge _ _ _ _ hx; omega)).trans this
  · rcases key _ _ hg with ⟨rfl, hx⟩ | ⟨hne', hx⟩
    · cases hx; exact e5
    · have := h.ents.chan _ _ _ _ hx
      exact (k.block _ (old _ _ _ _ hx).2 (fun e => by have := h.ents.ch_ge _ _ _ _ hx; omega)).trans this
  · rcases key _ _ hg with ⟨rfl, hx⟩ | ⟨hne', hx⟩
    · cases hx; omega
    · exact h.ents.eb_ge _ _ _ _ hx
  · rcases key _ _ hg with ⟨rfl, hx⟩ | ⟨hne', hx⟩
    · cases hx; omega
    · exact h.ents.ch_ge _ _ _ _ hx
  · rcases key _ _ hg1 with ⟨r1, hx⟩ | ⟨hne1, hx⟩ <;> rcases key _ _ hg2 with ⟨r2, hy⟩ | ⟨hne2, hy⟩
    · rw [r1, r2]
    · have c1 : ch1 = ch := congrArg (fun x : Ent => x.2.2) hx
      have := (old _ _ _ _ hy).2; omega
    · have c1 : ch1 = ch := congrArg (fun x : Ent => x.2.2) hy
      have := (old _ _ _ _ hx).2; omega
    · exact h.ents.inj _ _ _ _ _ _ _ hx hy

theorem Side.end_ (h : Side N0 sb bm n D g W) (hsb : sb < N0) (hbm : bm < N0) (hne : bm ≠ sb) {u : ByteArray} {eb ch : Nat} {kl : Lit} (hkl : WideAt.IsKeyLit kl) (hgk : g kl = some (u, eb, ch)) (k : Kept (fun i => i = bm ∨ i = ch) W W')
    (hm : W'.ownsMap Try.prog 79 ptrElem bm n (D.del kl)) : Side N0 sb bm n (D.del kl) (delG g kl) W' := by
  have hcg := h.ents.ch_ge _ _ _ _ hgk
  have hc := h.ents.chan _ _ _ _ hgk
  have key : ∀ k' x, delG g kl k' = some x → k' ≠ kl ∧ g k' = some x := fun k' x hk => by
    unfold delG at hk
    split at hk
    · cases hk
    · rename_i hs
      exact ⟨fun e => hs (by rw [e]; exact WideAt.sameKey_self hkl), hk⟩
  refine ⟨(k.block sb (Array.getElem?_eq_some_iff.1 h.store).1 (fun e => e.elim (fun e => hne e.symm) (fun e => by omega))).trans h.store, hm, fun k' => ?_, fun k' u' eb' ch' hg => ?_, fun k' u' eb' ch' hg => ?_, fun k' u' eb' ch' hg => ?_, fun k' u' eb' ch' hg => ?_, fun k' u' eb' ch' hg => ?_, fun k1 k2 u1 eb1 ch1 u2 eb2 hg1 hg2 => ?_⟩
  · by_cases e : k' = kl
    · subst e
      rw [Maps.has_del_same]; simp [delG, WideAt.sameKey_self hkl]
    · rw [Maps.has_del_other e, h.ents.has k']; simp [delG, Maps.sameKey_ne e]
  · obtain ⟨hne', hx⟩ := key _ _ hg
    rw [Maps.atKey_del_other hne']; exact h.ents.at_ _ _ _ _ hx
  · obtain ⟨hne', hx⟩ := key _ _ hg
    have h0 := h.ents.entry _ _ _ _ hx
    refine (k.block _ (Array.getElem?_eq_some_iff.1 h0).1 (fun e => e.elim (fun e => ?_) (fun e => ?_))).trans h0
    · have := h.ents.eb_ge _ _ _ _ hx; omega
    · rw [e, hc] at h0; cases h0
  · obtain ⟨hne', hx⟩ := key _ _ hg
    have h0 := h.ents.chan _ _ _ _ hx
    refine (k.block _ (Array.getElem?_eq_some_iff.1 h0).1 (fun e => e.elim (fun e => ?_) (fun e => ?_))).trans h0
    · have := h.ents.ch_ge _ _ _ _ hx; omega
    · subst e
      exact hne' (h.ents.inj _ _ _ _ _ _ _ hx hgk)
  · exact h.ents.eb_ge _ _ _ _ (key _ _ hg).2
  · exact h.ents.ch_ge _ _ _ _ (key _ _ hg).2
  · exact h.ents.inj _ _ _ _ _ _ _ (key _ _ hg1).2 (key _ _ hg2).2

/-- The ghost behind 'DeleteAll'. -/
def allG (g : Lit → Option Ent) (name : ByteArray) (k : Lit) : Option Ent := if nmB g name k then none else g k

theorem Side.all {name : ByteArray} (h : Side N0 sb bm n D g W) (hsb : sb < N0) (hbm : bm < N0) (k : Kept (DelX sb bm g name) W W') (hs : W'.heap[sb]? = some (.cells (storeCells 0 0 bm) 78)) {D' : DataW Unit}
    (hm : W'.ownsMap Try.prog 79 ptrElem bm n D') (hh : ∀ k, Maps.has D' k = (Maps.has D k && !nmB g name k)) (ha : ∀ k, Maps.has D' k = true → D'.atKey k .nil = D.atKey k .nil) : Side N0 sb bm n D' (allG g name) W' := by
  have key : ∀ k' x, allG g name k' = some x → nmB g name k' = false ∧ g k' = some x := fun k' x hk => by
    unfold allG at hk
    split at hk
    · cases hk
    · rename_i hs
      exact ⟨by simpa using hs, hk⟩
  have hasD : ∀ k' x, allG g name k' = some x → Maps.has D' k' = true := fun k' x hk => by
    obtain ⟨h1, h2⟩ := key k' x hk
    rw [hh, h.ents.has, h1, h2]; rfl
  refine ⟨hs, hm, fun k' => ?_, fun k' u' eb' ch' hg => ?_, fun k' u' eb' ch' hg => ?_, fun k' u' eb' ch' hg => ?_, fun k' u' eb' ch' hg => ?_, fun k' u' eb' ch' hg => ?_, fun k1 k2 u1 eb1 ch1 u2 eb2 hg1 hg2 => ?_⟩
  · rw [hh, h.ents.has]
    unfold allG
    cases nmB g name k' <;> simp
  · rw [ha k' (hasD _ _ hg)]; exact h.ents.at_ _ _ _ _ (key _ _ hg).2
  · obtain ⟨h1, hx⟩ := key _ _ hg
    have h0 := h.ents.entry _ _ _ _ hx
    exact (k.block _ (Array.getElem?_eq_some_iff.1 h0).1 (not_x_entry h.ents h.store h.map hx)).trans h0
  · obtain ⟨h1, hx⟩ := key _ _ hg
    have h0 := h.ents.chan _ _ _ _ hx
    refine (k.block _ (Array.getElem?_eq_some_iff.1 h0).1 ?_).trans h0
    have hge := h.ents.ch_ge _ _ _ _ hx
    rintro (e | e | ⟨k2, u2, eb2, hg2, hn2⟩)
    · omega
    · omega
    · have e := h.ents.inj _ _ _ _ _ _ _ hx hg2
      subst e
      rw [hx] at hg2
      injection hg2 with hg2
      have e2 : u' = u2 := congrArg (fun x : Ent => x.1) hg2
      simp [nmB, hx, e2, hn2] at h1
  · exact h.ents.eb_ge _ _ _ _ (key _ _ hg).2
  · exact h.ents.ch_ge _ _ _ _ (key _ _ hg).2
  · exact h.ents.inj _ _ _ _ _ _ _ (key _ _ hg1).2 (key _ _ hg2).2
end

/-- Two maps with the same keys are of one size. -/
theorem size_eq_of_has {w w' : World} {b b' n n' : Nat} {D D' : DataW Unit} (h : w.ownsMap Try.prog 79 ptrElem b n D) (h' : w'.ownsMap Try.prog 79 ptrElem b' n' D') (hh : ∀ k, Maps.has D k = Maps.has D' k) : Maps.size D = Maps.size D' := by
  obtain ⟨es, rfl, p, q⟩ := h.entries klaw
  obtain ⟨es', rfl, p', q'⟩ := h'.entries klaw
  have mem : ∀ (l : List (Lit × DataW Unit)), (∀ x ∈ l, WideAt.IsKeyLit x.1) → ∀ k, k ∈ l.map (·.1) ↔ Maps.has (.map l) k = true := fun l hl k => by
    rw [Maps.has_eq, List.any_eq_true, List.mem_map]
    constructor
    · rintro ⟨x, hx, rfl⟩
      exact ⟨x, hx, WideAt.sameKey_self (hl x hx)⟩
    · rintro ⟨x, hx, hs⟩
      exact ⟨x, hx, WideAt.sameKey_eq hs⟩
  have nd : ∀ (l : List (Lit × DataW Unit)), l.Pairwise (fun p q => p.1 ≠ q.1) → (l.map (·.1)).Nodup := fun l hp => List.pairwise_map.2 hp
  have perm : (es.map (·.1)).Perm (es'.map (·.1)) := (List.perm_ext_iff_of_nodup (nd es p) (nd es' p')).2 (fun k => by rw [mem es q, mem es' q', hh k])
  have := perm.length_eq
  simpa [Maps.size_eq] using this
end Go.Proofs.Qxb6612680a
