import Derived.Test.Qxb6612680aLaw2B
namespace Go.Proofs.Qxb6612680a
open Go.RowKit

/-- Where the second law stands: its two stores. -/
structure L2 (N n : Nat) (Da Db : DataW Unit) (ga gb : Lit → Option Ent) (w W : World) : Prop where
  below : Below N w W
  size : N + 4 ≤ W.heap.size
  a : Side (N + 4) (N + 1) N n Da ga W
  b : Side (N + 4) (N + 3) (N + 2) n Db gb W
  disj : ∀ k k' u eb ch u' eb', ga k = some (u, eb, ch) → gb k' = some (u', eb', ch) → False

section
variable {N n : Nat} {Da Db : DataW Unit} {ga gb : Lit → Option Ent} {w W W' : World}

theorem L2.kept (h : L2 N n Da Db ga gb w W) (k : Below W.heap.size W W') : L2 N n Da Db ga gb w W' :=
  ⟨h.below.trans (k.mono (by have := h.size; omega)), Nat.le_trans h.size k.size, h.a.below k, h.b.below k, h.disj⟩

theorem L2.putA (h : L2 N n Da Db ga gb w W) {u : ByteArray} {kl : Lit} (hkl : WideAt.IsKeyLit kl) (hp : PutPost N n 0 0 u kl Da W W') : ∃ eb ch : Nat, L2 N (n + 1) (Da.put kl (.lit (.int .i64 eb))) Db (putG ga kl (u, eb, ch)) gb w W' := by
  have hs := h.size
  obtain ⟨eb, ch, e1, e2, hS⟩ := h.a.put hs (by omega) (by omega) hkl hp
  obtain ⟨k, _⟩ := hp
  refine ⟨eb, ch, h.below.trans (k.below (by omega) (by omega)), Nat.le_trans hs k.size, hS, (h.b.kept k (by omega) (by omega) (fun k' u' eb' ch' hg => ?_)).mono (by omega), fun k1 k2 u1 eb1 ch1 u2 eb2 hg1 hg2 => ?_⟩
  · have := h.b.ents.eb_ge _ _ _ _ hg
    have := h.b.ents.ch_ge _ _ _ _ hg
    exact ⟨by omega, by omega⟩
  · unfold putG at hg1
    split at hg1
    · have c1 : ch1 = ch := congrArg (fun x : Ent => x.2.2) (Option.some.inj hg1).symm
      have := (Array.getElem?_eq_some_iff.1 (h.b.ents.chan _ _ _ _ hg2)).1
      omega
    · exact h.disj _ _ _ _ _ _ _ hg1 hg2
theorem L2.putB (h : L2 N n Da Db ga gb w W) {n' : Nat} (hn' : n ≤ n' + 1) (hb : Side (N + 4) (N + 3) (N + 2) n' Db gb W) {u : ByteArray} {kl : Lit} (hkl : WideAt.IsKeyLit kl) (hp : PutPost (N + 2) n' 0 0 u kl Db W W') : ∃ eb ch : Nat, L2 N (n' + 1) Da (Db.put kl (.lit (.int .i64 eb))) ga (putG gb kl (u, eb, ch)) w W' := by
  have hs := h.size
  obtain ⟨eb, ch, e1, e2, hS⟩ := hb.put hs (by omega) (by omega) hkl hp
  obtain ⟨k, _⟩ := hp
  refine ⟨eb, ch, h.below.trans (k.below (by omega) (by omega)), Nat.le_trans hs k.size, (h.a.kept k (by omega) (by omega) (fun k' u' eb' ch' hg => ?_)).mono hn', hS, fun k1 k2 u1 eb1 ch1 u2 eb2 hg1 hg2 => ?_⟩
  · have := h.a.ents.eb_ge _ _ _ _ hg
    have := h.a.ents.ch_ge _ _ _ _ hg
    exact ⟨by omega, by omega⟩
  · unfold putG at hg2
    split at hg2
    · have c1 : ch1 = ch := congrArg (fun x : Ent => x.2.2) (Option.some.inj hg2).symm
      have := (Array.getElem?_eq_some_iff.1 (h.a.ents.chan _ _ _ _ hg1)).1
      omega
    · exact h.disj _ _ _ _ _ _ _ hg1 hg2
theorem L2.endA (h : L2 N n Da Db ga gb w W) {u : ByteArray} {eb ch : Nat} {kl : Lit} (hkl : WideAt.IsKeyLit kl) (hgk : ga kl = some (u, eb, ch)) (k : Kept (fun i => i = N ∨ i = ch) W W')
    (hm : W'.ownsMap Try.prog 79 ptrElem N n (Da.del kl)) : L2 N n (Da.del kl) Db (delG ga kl) gb w W' := by
  have hs := h.size
  have hcg := h.a.ents.ch_ge _ _ _ _ hgk
  refine ⟨h.below.trans (k.below (by omega) (by omega)), Nat.le_trans hs k.size, h.a.end_ (by omega) (by omega) (by omega) hkl hgk k hm, h.b.kept k (by omega) (by omega) (fun k' u' eb' ch' hg => ⟨fun e => e.elim (fun e => ?_) (fun e => ?_), fun e => e.elim (fun e => ?_) (fun e => ?_)⟩), fun k1 k2 u1 eb1 ch1 u2 eb2 hg1 hg2 => ?_⟩
  · have := h.b.ents.eb_ge _ _ _ _ hg; omega
  · have h0 := h.b.ents.entry _ _ _ _ hg
    rw [e, h.a.ents.chan _ _ _ _ hgk] at h0; cases h0
  · have := h.b.ents.ch_ge _ _ _ _ hg; omega
  · subst e; exact h.disj _ _ _ _ _ _ _ hgk hg
  · unfold delG at hg1
    split at hg1
    · cases hg1
    · exact h.disj _ _ _ _ _ _ _ hg1 hg2
theorem L2.allB (h : L2 N n Da Db ga gb w W) {name : ByteArray} (k : Kept (DelX (N + 3) (N + 2) gb name) W W') (hs3 : W'.heap[N + 3]? = some (.cells (storeCells 0 0 (N + 2)) 78)) {D' : DataW Unit}
    (hm : W'.ownsMap Try.prog 79 ptrElem (N + 2) n D') (hh : ∀ k, Maps.has D' k = (Maps.has Db k && !nmB gb name k)) (ha : ∀ k, Maps.has D' k = true → D'.atKey k .nil = Db.atKey k .nil) : L2 N n Da D' ga (allG gb name) w W' := by
  have hs := h.size
  have hx : ∀ i, i < N + 2 → ¬ DelX (N + 3) (N + 2) gb name i := fun i hi => by
    rintro (e | e | ⟨k2, u2, eb2, hg2, _⟩)
    · omega
    · omega
    · have := h.b.ents.ch_ge _ _ _ _ hg2; omega
  refine ⟨h.below.trans (k.below (by omega) (fun i hi => hx i (by omega))), Nat.le_trans hs k.size, h.a.kept k (hx _ (by omega)) (hx _ (by omega)) (fun k' u' eb' ch' hg => ⟨?_, ?_⟩), h.b.all (by omega) (by omega) k hs3 hm hh ha, fun k1 k2 u1 eb1 ch1 u2 eb2 hg1 hg2 => ?_⟩
  · have h0 := h.a.ents.entry _ _ _ _ hg
    have := h.a.ents.eb_ge _ _ _ _ hg
    rintro (e | e | ⟨k2, u2, eb2, hg2, _⟩)
    · omega
    · omega
    · rw [h.b.ents.chan _ _ _ _ hg2] at h0; cases h0
  · have := h.a.ents.ch_ge _ _ _ _ hg
    rintro (e | e | ⟨k2, u2, eb2, hg2, _⟩)
    · omega
    · omega
    · exact h.disj _ _ _ _ _ _ _ hg hg2
  · unfold allG at hg2
    split at hg2
    · cases hg2
    · exact h.disj _ _ _ _ _ _ _ hg1 hg2
end

/-! ### The calls, as the law meets them -/
section
variable {N n : Nat} {Da Db : DataW Unit} {ga gb : Lit → Option Ent} {w W : World}

theorem putA_c (h : L2 N n Da Db ga gb w W) {cs : List Value} {kl : Lit} (hk : KeyOk cs kl) (hn : n < maxLen) (u : ByteArray) :
    Calls Try.prog 10 #[.pointer (some ⟨N + 1, 0, none⟩), .agg cs.toArray, .string u, .string ⟨#[109, 101, 109, 98, 101, 114]⟩, .int .i64 0, .int .i64 0] W fun e w' => e = .returned (.tuple #[]) ∧ ∃ eb ch : Nat, L2 N (n + 1) (Da.put kl (.lit (.int .i64 eb))) Db (putG ga kl (u, eb, ch)) gb w w' ∧ Side (N + 4) (N + 3) (N + 2) n Db gb w' := by
  refine (put_any (N + 1) N n 0 0 0 0 u cs kl Da W h.a.store h.a.map hn hk.len hk.k79 (by omega) (by omega) (by omega) (by omega)).mono ?_
  rintro e w' ⟨rfl, hp⟩
  obtain ⟨eb, ch, hL⟩ := h.putA (klaw.key hk.k79) hp
  refine ⟨rfl, eb, ch, hL, ?_⟩
  obtain ⟨k, _⟩ := hp
  exact h.b.kept k (by omega) (by omega) (fun k' u' eb' ch' hg => by
    have := h.b.ents.eb_ge _ _ _ _ hg
    have := h.b.ents.ch_ge _ _ _ _ hg
    exact ⟨by omega, by omega⟩)
theorem putB_c (h : L2 N (n + 1) Da Db ga gb w W) (hb : Side (N + 4) (N + 3) (N + 2) n Db gb W) {cs : List Value} {kl : Lit} (hk : KeyOk cs kl) (hn : n < maxLen) (u : ByteArray) :
    Calls Try.prog 10 #[.pointer (some ⟨N + 3, 0, none⟩), .agg cs.toArray, .string u, .string ⟨#[109, 101, 109, 98, 101, 114]⟩, .int .i64 0, .int .i64 0] W fun e w' => e = .returned (.tuple #[]) ∧ ∃ eb ch : Nat, L2 N (n + 1) Da (Db.put kl (.lit (.int .i64 eb))) ga (putG gb kl (u, eb, ch)) w w' := by
  refine (put_any (N + 3) (N + 2) n 0 0 0 0 u cs kl Db W hb.store hb.map hn hk.len hk.k79 (by omega) (by omega) (by omega) (by omega)).mono ?_
  rintro e w' ⟨rfl, hp⟩
  exact ⟨rfl, h.putB (Nat.le_refl _) hb (klaw.key hk.k79) hp⟩

theorem getA_some (h : L2 N n Da Db ga gb w W) {cs : List Value} {kl : Lit} (hk : KeyOk cs kl) {u : ByteArray} {eb ch : Nat} (hg : ga kl = some (u, eb, ch)) :
    Calls Try.prog 11 #[.pointer (some ⟨N + 1, 0, none⟩), .agg cs.toArray] W fun e w' => e = .returned (.pointer (some ⟨eb, 0, none⟩)) ∧ Below W.heap.size W w' := by
  refine (get_any (N + 1) N n 0 0 cs kl Da W h.a.store h.a.map hk.len hk.k79).mono ?_
  rintro e w' ⟨rfl, hb⟩
  exact ⟨by rw [h.a.ents.at_ _ _ _ _ hg]; simp [ptrOf], hb⟩
theorem getA_none (h : L2 N n Da Db ga gb w W) {cs : List Value} {kl : Lit} (hk : KeyOk cs kl) (hg : ga kl = none) :
    Calls Try.prog 11 #[.pointer (some ⟨N + 1, 0, none⟩), .agg cs.toArray] W fun e w' => e = .returned (.pointer none) ∧ Below W.heap.size W w' := by
  refine (get_any (N + 1) N n 0 0 cs kl Da W h.a.store h.a.map hk.len hk.k79).mono ?_
  rintro e w' ⟨rfl, hb⟩
  have hh := h.a.ents.has kl
  rw [hg] at hh
  exact ⟨by rw [Maps.atKey_of_not_has hh]; simp [ptrOf], hb⟩
theorem getB_some (h : L2 N n Da Db ga gb w W) {cs : List Value} {kl : Lit} (hk : KeyOk cs kl) {u : ByteArray} {eb ch : Nat} (hg : gb kl = some (u, eb, ch)) :
    Calls Try.prog 11 #[.pointer (some ⟨N + 3, 0, none⟩), .agg cs.toArray] W fun e w' => e = .returned (.pointer (some ⟨eb, 0, none⟩)) ∧ Below W.heap.size W w' := by
  refine (get_any (N + 3) (N + 2) n 0 0 cs kl Db W h.b.store h.b.map hk.len hk.k79).mono ?_
  rintro e w' ⟨rfl, hb⟩
  exact ⟨by rw [h.b.ents.at_ _ _ _ _ hg]; simp [ptrOf], hb⟩
theorem getB_none (h : L2 N n Da Db ga gb w W) {cs : List Value} {kl : Lit} (hk : KeyOk cs kl) (hg : gb kl = none) :
    Calls Try.prog 11 #[.pointer (some ⟨N + 3, 0, none⟩), .agg cs.toArray] W fun e w' => e = .returned (.pointer none) ∧ Below W.heap.size W w' := by
  refine (get_any (N + 3) (N + 2) n 0 0 cs kl Db W h.b.store h.b.map hk.len hk.k79).mono ?_
  rintro e w' ⟨rfl, hb⟩
  have hh := h.b.ents.has kl
  rw [hg] at hh
  exact ⟨by rw [Maps.atKey_of_not_has hh]; simp [ptrOf], hb⟩
theorem userA_c (h : L2 N n Da Db ga gb w W) {kl : Lit} {u : ByteArray} {eb ch : Nat} (hg : ga kl = some (u, eb, ch)) :
    Calls Try.prog 17 #[.pointer (some ⟨eb, 0, none⟩)] W fun e w' => e = .returned (.string u) ∧ W = w' := by
  refine (user_any eb ch 0 0 u W (h.a.ents.entry _ _ _ _ hg)).mono ?_
  rintro e w' ⟨rfl, hw⟩
  exact ⟨rfl, hw.symm⟩
theorem endA_c (h : L2 N n Da Db ga gb w W) {cs : List Value} {kl : Lit} (hk : KeyOk cs kl) {u : ByteArray} {eb ch : Nat} (hg : ga kl = some (u, eb, ch)) :
    Calls Try.prog 18 #[.pointer (some ⟨N + 1, 0, none⟩), .agg cs.toArray] W fun e w' => e = .returned (.tuple #[]) ∧ L2 N n (Da.del kl) Db (delG ga kl) gb w w' ∧ Kept (fun i => i = N ∨ i = ch) W w' := by
  have hh := h.a.ents.has kl
  rw [hg] at hh
  refine (zend_some (N + 1) N n eb ch 0 0 0 0 u cs kl Da W h.a.store h.a.map hk.len hk.k79 hh (h.a.ents.at_ _ _ _ _ hg) (h.a.ents.entry _ _ _ _ hg) (h.a.ents.chan _ _ _ _ hg)).mono ?_
  rintro e w' ⟨rfl, k1, k3⟩
  exact ⟨rfl, h.endA (klaw.key hk.k79) hg k1 k3, k1⟩
theorem allB_c (h : L2 N n Da Db ga gb w W) (name : ByteArray) :
    Calls Try.prog 19 #[.pointer (some ⟨N + 3, 0, none⟩), .string name] W fun e w' => e = .returned (.tuple #[]) ∧ (∃ D', L2 N n Da D' ga (allG gb name) w w') ∧ Kept (DelX (N + 3) (N + 2) gb name) W w' := by
  refine (delAll_any (N + 3) (N + 2) n (N + 4) 0 0 name Db gb W h.b.store h.b.map h.b.ents).mono ?_
  rintro e w' ⟨rfl, k, hs, D', hm, hh, ha⟩
  exact ⟨rfl, ⟨D', h.allB k hs hm hh ha⟩, k⟩
theorem lenA_c (h : L2 N n Da Db ga gb w W) : Calls Try.prog 13 #[.pointer (some ⟨N + 1, 0, none⟩)] W fun e w' => e = .returned (.int .i64 (Maps.size Da)) ∧ W = w' := by
  refine (len_any (N + 1) N n 0 0 Da W h.a.store h.a.map).mono ?_
  rintro e w' ⟨rfl, hw⟩
  exact ⟨rfl, hw.symm⟩
theorem lenB_c (h : L2 N n Da Db ga gb w W) : Calls Try.prog 13 #[.pointer (some ⟨N + 3, 0, none⟩)] W fun e w' => e = .returned (.int .i64 (Maps.size Db)) ∧ W = w' := by
  refine (len_any (N + 3) (N + 2) n 0 0 Db W h.b.store h.b.map).mono ?_
  rintro e w' ⟨rfl, hw⟩
  exact ⟨rfl, hw.symm⟩
end

/-! ### The row of bools -/
def NamedAt (W : World) (nb n : Nat) (f : Nat → Bool) : Prop := ∃ c : Array Value, W.heap[nb]? = some (.cells c 4) ∧ ∀ j, j < n → c[j]? = some (.bool (f j))
theorem NamedAt.kept {W W' : World} {nb n : Nat} {f : Nat → Bool} (h : NamedAt W nb n f) (e : W'.heap[nb]? = W.heap[nb]?) : NamedAt W' nb n f := by
  obtain ⟨c, h1, h2⟩ := h
  exact ⟨c, e.trans h1, h2⟩
theorem NamedAt.lt {W : World} {nb n : Nat} {f : Nat → Bool} (h : NamedAt W nb n f) : nb < W.heap.size := by
  obtain ⟨c, h1, _⟩ := h
  exact (Array.getElem?_eq_some_iff.1 h1).1
theorem NamedAt.cell {W : World} {nb n : Nat} {f : Nat → Bool} (h : NamedAt W nb n f) {j : Nat} (hj : j < n) : W.cell? ⟨nb, j, none⟩ = some (.bool (f j)) ∧ W.frozen? ⟨nb, j, none⟩ = false := by
  obtain ⟨c, h1, h2⟩ := h
  exact ⟨by simp [World.cell?, h1, h2 j hj], by simp [World.frozen?, h1]⟩
theorem NamedAt.set {W : World} {nb n : Nat} {f f' : Nat → Bool} (h : NamedAt W nb n f) (i : Nat) (b : Bool) (hf : ∀ j, j < n → f' j = if j = i then b else f j) : NamedAt (W.setCell ⟨nb, i, none⟩ (.bool b)) nb n f' := by
  obtain ⟨c, h1, h2⟩ := h
  refine ⟨c.setIfInBounds i (.bool b), heap_setCell_same W nb i c 4 _ h1, fun j hj => ?_⟩
  have hjc : j < c.size := (Array.getElem?_eq_some_iff.1 (h2 j hj)).1
  rw [hf j hj]
  by_cases e : j = i
  · subst e
    simp [hjc]
  · rw [if_neg e, Array.getElem?_setIfInBounds_ne (fun e' => e e'.symm)]
    exact h2 j hj
end Go.Proofs.Qxb6612680a
