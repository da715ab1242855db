import Derived.Test.Qxb6612910aClone
namespace Go.Proofs.Qxb6612910a
open Go.RowKit

theorem Kept.setRow (w : World) (g : Nat) (cs : Array Value) : Kept (fun i => i = g) w (w.setRow g cs) := ⟨rfl, rfl, rfl, by simp [World.setRow], fun k _ hne => setRow_other _ _ _ _ hne⟩
theorem wpList_append_in {ops : Array Oper} {rest : List Oper} {o : Oper} {a : Act} {w : World} {Q : Exit → Act → World → Prop} (hgd : o.guard = none) (s x : Operand)
    (ho : o.op = .call { callee := .builtin .append, args := #[s, x], argTypes := #[47, 47] }) (g j cap : Nat) (xs : List (Option Nat)) (hs : a.eval s = .slice (some ⟨g, 0, none⟩) j cap) (hR : Row w g xs)
    (blk : Nat) (hx : a.eval x = .slice (some ⟨blk, 0, none⟩) 1 1) (p : Nat) (hc : w.cell? ⟨blk, 0, none⟩ = some (pv (some p))) (hj : j < cap) (hj2 : j < xs.length)
    (h : ∀ w', Row w' g (xs.set j (some p)) → Kept (fun i => i = g) w w' → wpList Try.prog ops Q rest (a.put o.dst (.slice (some ⟨g, 0, none⟩) (j + 1) cap)) w') : wpList Try.prog ops Q (o :: rest) a w := by
  have hi : (Try.prog.info? 76).map (fun i => (i.zero, i.size, i.bytes)) = some (some (.pointer none), 1, 8) := by kernel_rfl
  obtain ⟨i7, hi7, hz7, hs7, hb7⟩ := info_parts hi
  have hr := run_append_room (P := Try.prog) w 47 o.type 76 i7 Try.underlying47 hi7 g j cap (xs.map pv).toArray hR.row ⟨blk, 0, none⟩ 1 1 [pv (some p)] (by rw [hs7]; rfl) (fun q v hv => by
    have hq : q = 0 := by have := (List.getElem?_eq_some_iff.1 hv).1; simp at this; exact this
    subst hq
    simp at hv
    subst hv
    exact hc) (fun v hv => by simp at hv; rw [hv]; rfl) (by omega) (by rw [hs7]; simp; omega)
  refine wpList_plain hgd fun K hK => ?_
  unfold Oper.wp execOp
  simp only [ho, resolve, invoke, builtin, Sem.run_bind, Sem.run_pure, Result.andThen_ok, List.map_toArray, List.map_cons, List.map_nil, hs, hx, hr]
  refine hK _ _ (h _ ⟨?_⟩ (Kept.setRow _ _ _))
  rw [setRow_heap _ _ _ _ _ _ hR.row]
  congr 2
  rw [hs7]
  simp [List.set_eq_take_append_cons_drop, hj2, List.map_take, List.map_drop]

def setN (xs : List (Option Nat)) : Nat → Nat → List (Option Nat)
  | _, 0 => xs
  | j, m + 1 => setN (xs.set j none) (j + 1) m
theorem setN_eq : ∀ (m : Nat) (A B : List (Option Nat)), m ≤ B.length → setN (A ++ B) A.length m = A ++ List.replicate m none ++ B.drop m
  | 0, A, B, _ => by simp [setN]
  | m + 1, A, [], h => by simp at h
  | m + 1, A, b :: B, h => by
    unfold setN
    have e : (A ++ b :: B).set A.length none = (A ++ [none]) ++ B := by
      rw [List.set_append_right _ _ (Nat.le_refl _)]; simp
    have hl : A.length + 1 = (A ++ [none]).length := by simp
    rw [e, hl, setN_eq m (A ++ [none]) B (by simpa using h)]
    simp [List.replicate_succ]
theorem Row.setMany {g : Nat} : ∀ (m j : Nat) (xs : List (Option Nat)) (W : World), Row W g xs → Row (W.setCells g j (List.replicate m (pv none))) g (setN xs j m) ∧ Kept (fun i => i = g) W (W.setCells g j (List.replicate m (pv none)))
  | 0, j, xs, W, h => ⟨h, Kept.refl _ _⟩
  | m + 1, j, xs, W, h => by
    have h1 := Row.setMany m (j + 1) _ _ (h.set j none)
    have hk : Kept (fun i => i = g) W (W.setCell ⟨g, j, none⟩ (pv none)) := Kept.set (Kept.refl (fun i => i = g) _) (.inl rfl) _ _
    exact ⟨h1.1, hk.trans h1.2⟩
theorem set_kept (ks : List Nat) (L : List (Option Nat)) (p : Nat) (h : ks.length < L.length) : (ks.map some ++ L.drop ks.length).set ks.length (some p) = (ks ++ [p]).map some ++ L.drop (ks.length + 1) := by
  have e := List.drop_eq_getElem_cons h
  rw [List.set_append_right _ _ (by simp), e, List.length_map, Nat.sub_self, List.set_cons_zero, List.map_append, List.append_assoc]
  rfl
end Go.Proofs.Qxb6612910a
