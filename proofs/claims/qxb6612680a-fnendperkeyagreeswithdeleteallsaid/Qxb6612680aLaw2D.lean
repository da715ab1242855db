import Derived.Test.Qxb6612680aLaw2C
namespace Go.Proofs.Qxb6612680a
open Go.RowKit

/-! ### Who is put where, in plain words -/
def klAt (L : List (List Value × Lit)) (i : Nat) : Lit := (L.getD i ([], .bool false)).2
def csAt (L : List (List Value × Lit)) (i : Nat) : List Value := (L.getD i ([], .bool false)).1
def usrAt (us : List ByteArray) (i : Nat) : ByteArray := us.getD i ⟨#[]⟩
/-- The user at k behind i puts. -/
def uO (L : List (List Value × Lit)) (us : List ByteArray) : Nat → Lit → Option ByteArray
  | 0, _ => none
  | i + 1, k => if k.sameKey (klAt L i) then some (usrAt us i) else uO L us i k
/-- Is the session at k one of 'name''s? -/
def nm (L : List (List Value × Lit)) (us : List ByteArray) (n : Nat) (name : ByteArray) (k : Lit) : Bool :=
  match uO L us n k with
  | some u => u.toList == name.toList
  | none => false
def done (L : List (List Value × Lit)) (i : Nat) (k : Lit) : Bool := (List.range i).any fun j => k.sameKey (klAt L j)
/-- The users behind i rounds of the ending loop. -/
def u4 (L : List (List Value × Lit)) (us : List ByteArray) (n : Nat) (name : ByteArray) (i : Nat) (k : Lit) : Option ByteArray :=
  if done L i k && nm L us n name k then none else uO L us n k

theorem done_succ (L : List (List Value × Lit)) (i : Nat) (k : Lit) : done L (i + 1) k = (done L i k || k.sameKey (klAt L i)) := by
  simp [done, List.range_succ]
theorem u4_zero (L : List (List Value × Lit)) (us : List ByteArray) (n : Nat) (name : ByteArray) (k : Lit) : u4 L us n name 0 k = uO L us n k := by simp [u4, done]
theorem uO_some (L : List (List Value × Lit)) (us : List ByteArray) : ∀ (i j : Nat), j < i → WideAt.IsKeyLit (klAt L j) → (uO L us i (klAt L j)).isSome = true
  | 0, j, h, _ => by omega
  | i + 1, j, h, hk => by
    unfold uO
    split
    · rfl
    · rename_i hs
      by_cases e : j = i
      · subst e; exact absurd (WideAt.sameKey_self hk) hs
      · exact uO_some L us i j (by omega) hk
theorem uO_inv (L : List (List Value × Lit)) (us : List ByteArray) : ∀ (i : Nat) (k : Lit) (u : ByteArray), uO L us i k = some u → done L i k = true
  | 0, k, u, h => by simp [uO] at h
  | i + 1, k, u, h => by
    rw [done_succ]
    unfold uO at h
    split at h
    · rename_i hs; simp [hs]
    · rw [uO_inv L us i k u h]; rfl
/-- Nothing of 'name' is left, all else is. -/
theorem u4_end (L : List (List Value × Lit)) (us : List ByteArray) (n : Nat) (name : ByteArray) (k : Lit) : (u4 L us n name n k).isSome = ((uO L us n k).isSome && !nm L us n name k) := by
  unfold u4
  cases h : uO L us n k with
  | none => simp [nm, h]
  | some u =>
    rw [uO_inv L us n k u h]
    cases nm L us n name k <;> simp

section
variable {L : List (List Value × Lit)} {us : List ByteArray} {n : Nat} {name : ByteArray} {ga : Lit → Option Ent} {i : Nat}
theorem put_step {g : Lit → Option Ent} (hg : ∀ k, (g k).map (·.1) = uO L us i k) (x : Ent) (hx : x.1 = usrAt us i) (k : Lit) : (putG g (klAt L i) x k).map (·.1) = uO L us (i + 1) k := by
  unfold putG uO
  split
  · simp [hx]
  · exact hg k
theorem end_struck (hg : ∀ k, (ga k).map (·.1) = u4 L us n name i k) {u : ByteArray} {eb ch : Nat} (h : ga (klAt L i) = some (u, eb, ch)) (hn : (u.toList == name.toList) = true) (k : Lit) :
    (delG ga (klAt L i) k).map (·.1) = u4 L us n name (i + 1) k := by
  have h1 := hg (klAt L i)
  rw [h] at h1
  have h2 : uO L us n (klAt L i) = some u := by
    unfold u4 at h1
    split at h1
    · cases h1
    · exact h1.symm
  have h3 : nm L us n name (klAt L i) = true := by simp [nm, h2, hn]
  unfold delG
  split
  · rename_i hs
    have e := WideAt.sameKey_eq hs
    subst e
    unfold u4
    rw [done_succ, hs, h3]; simp
  · rename_i hs
    rw [hg k]
    unfold u4
    rw [done_succ]
    simp [hs]
theorem end_stays (hg : ∀ k, (ga k).map (·.1) = u4 L us n name i k) {u : ByteArray} {eb ch : Nat} (h : ga (klAt L i) = some (u, eb, ch)) (hn : (u.toList == name.toList) = false) (k : Lit) :
    (ga k).map (·.1) = u4 L us n name (i + 1) k := by
  have h1 := hg (klAt L i)
  rw [h] at h1
  have h2 : uO L us n (klAt L i) = some u := by
    unfold u4 at h1
    split at h1
    · cases h1
    · exact h1.symm
  have h3 : nm L us n name (klAt L i) = false := by simp [nm, h2, hn]
  rw [hg k]
  unfold u4
  rw [done_succ]
  cases hs : k.sameKey (klAt L i)
  · simp
  · have e := WideAt.sameKey_eq hs
    subst e
    rw [h3]; simp
theorem end_gone (hg : ∀ k, (ga k).map (·.1) = u4 L us n name i k) (hi : i < n) (hk : WideAt.IsKeyLit (klAt L i)) (h : ga (klAt L i) = none) (k : Lit) :
    (ga k).map (·.1) = u4 L us n name (i + 1) k := by
  have h1 := hg (klAt L i)
  rw [h] at h1
  have h2 := uO_some L us n i hi hk
  have h3 : (done L i (klAt L i) && nm L us n name (klAt L i)) = true := by
    unfold u4 at h1
    split at h1
    · assumption
    · rw [← h1] at h2; cases h2
  rw [hg k]
  unfold u4
  rw [done_succ]
  cases hs : k.sameKey (klAt L i)
  · simp
  · have e := WideAt.sameKey_eq hs
    subst e
    rw [h3]
    simp only [Bool.and_eq_true] at h3
    simp [h3.1, h3.2]
theorem nmB_eq {g : Lit → Option Ent} (hg : ∀ k, (g k).map (·.1) = uO L us n k) (k : Lit) : nmB g name k = nm L us n name k := by
  have h := hg k
  unfold nmB nm
  cases hk : g k with
  | none => rw [hk] at h; rw [← h]; rfl
  | some x => rw [hk] at h; rw [← h]; obtain ⟨u, eb, ch⟩ := x; rfl
theorem isSome_map {g : Lit → Option Ent} {k : Lit} {o : Option ByteArray} (h : (g k).map (·.1) = o) : (g k).isSome = o.isSome := by rw [← h]; simp
theorem all_end {g : Lit → Option Ent} (hg : ∀ k, (g k).map (·.1) = uO L us n k) (k : Lit) : (allG g name k).isSome = ((uO L us n k).isSome && !nm L us n name k) := by
  unfold allG
  rw [nmB_eq hg k]
  have := isSome_map (hg k)
  cases nm L us n name k <;> simp [this]
end

theorem KeysAt.get {w : World} {a : Option Addr} {n : Nat} {L : List (List Value × Lit)} (h : KeysAt w a n L) {k : Nat} (hk : k < n) : ∃ b o, a = some ⟨b, o, none⟩ ∧ b < w.heap.size ∧ w.rangeAt b (o + k * 32) (csAt L k) ∧ KeyOk (csAt L k) (klAt L k) := by
  obtain ⟨hl, h⟩ := h
  rcases h with h | ⟨b, o, ha, hb, h⟩
  · omega
  · have hk' : k < L.length := by omega
    have e : L[k]? = some (csAt L k, klAt L k) := by
      unfold csAt klAt
      simp [List.getElem?_eq_getElem hk', List.getD_eq_getElem?_getD]
    have := h k _ _ e
    exact ⟨b, o, ha, hb, this.1, this.2⟩
theorem rangeAt_below {w W : World} {b o : Nat} {cs : List Value} (h : w.rangeAt b o cs) (e : W.heap[b]? = w.heap[b]?) : W.rangeAt b o cs := fun j v hv => by
  rw [World.cell?_of_block (w := w) (a := ⟨b, o + j, none⟩) e]; exact h j v hv
end Go.Proofs.Qxb6612680a
