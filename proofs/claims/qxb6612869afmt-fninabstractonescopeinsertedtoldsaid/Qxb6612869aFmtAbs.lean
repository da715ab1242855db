import Derived.Test.Qxb6612869aFmtScope
import Derived.Deep.WholeRow
namespace Go.Proofs.Qxb6612869aFmt
open Go.RowKit Go.Extern.Stop Go.Stop Go.Extern

/-- The chain of scopes from p outward bears these flags; a parent lies in an elder block. -/
def Chain (W : World) : Option Addr → List Bool → Prop
  | p, [] => p = none
  | p, b :: l => ∃ (blk : Nat) (q : Option Addr), p = some ⟨blk, 0, none⟩ ∧ W.heap[blk]? = some (.cells (scopeCells b q) 39) ∧ (∀ a, q = some a → a.block < blk) ∧ Chain W q l
theorem Chain.kept {W W' : World} (h : Below W.heap.size W W') : ∀ (l : List Bool) (p : Option Addr), Chain W p l → Chain W' p l
  | [], _, hc => hc
  | _ :: l, _, ⟨blk, q, hp, hb, hq, hc⟩ => ⟨blk, q, hp, (h.block blk (Array.getElem?_eq_some_iff.1 hb).1).trans hb, hq, Chain.kept h l q hc⟩
theorem Chain.new {W : World} {l : List Bool} {p : Option Addr} (b : Bool) (h : Chain W p l) : Chain (W.alloc (.cells (scopeCells b p) 39)) (some ⟨W.heap.size, 0, none⟩) (b :: l) := by
  refine ⟨W.heap.size, p, rfl, heap_alloc_last W _, fun a ha => ?_, Chain.kept ((Below.refl _ W).alloc (Nat.le_refl _) _) l p h⟩
  cases l with
  | nil => have : p = none := h; rw [this] at ha; cases ha
  | cons c l =>
    obtain ⟨blk, q, hp, hb, _⟩ := h
    rw [hp] at ha
    cases ha
    exact (Array.getElem?_eq_some_iff.1 hb).1

def rank : Value → Nat
  | .pointer (some a) => a.block + 1
  | _ => 0
def isT (b : Bool) : Bool := b

/-- What abstractBlock answers. -/
def Found (W : World) (l : List Bool) (e : Ending) : Prop :=
  (l.any isT = false ∧ e = .returned (.pointer none)) ∨ (l.any isT = true ∧ ∃ (blk : Nat) (q : Option Addr), e = .returned (.pointer (some ⟨blk, 0, none⟩)) ∧ W.heap[blk]? = some (.cells (scopeCells true q) 39))

theorem scope_cells {W : World} {blk : Nat} {b : Bool} {q : Option Addr} (h : W.heap[blk]? = some (.cells (scopeCells b q) 39)) :
    W.cell? ⟨blk, 0, none⟩ = some (.string ⟨#[]⟩) ∧ W.cell? ⟨blk, 1, none⟩ = some (.pointer q) ∧ W.cell? ⟨blk, 2, none⟩ = some (.bool b) := by
  simp [World.cell?, h, scopeCells]

set_option maxRecDepth 100000 in
theorem block_any (p : Option Addr) (l : List Bool) (w : World) (h : Chain w p l) : Calls Tryf.prog 13 #[.pointer p] w fun e w' => Found w l e ∧ w = w' := by
  have HC : Hid _ := h
  clear h
  go_enter Tryf.func13, Tryf.ntmps13
  go_wp2
  go_loop [0] (fun v => ∃ (q : Option Addr) (m : List Bool), v = .pointer q ∧ Hid (Chain w q m) ∧ m.any isT = l.any isT) (fun v => rank v)
  case atStart => exact ⟨p, l, rfl, HC, rfl⟩
  case round =>
    obtain ⟨q, m, rfl, HM, hm⟩ := hrel
    have HMM : Hid _ := hm
    clear hm HC
    cases m with
    | nil =>
      have hq : q = none := HM.out
      subst hq
      go_wp2
      go_ret
      exact ⟨.inl ⟨HMM.out.symm, rfl⟩, rfl⟩
    | cons b m =>
      obtain ⟨blk, r, rfl, hb, hr, hc⟩ := HM.out
      obtain ⟨c0, c1, c2⟩ := scope_cells hb
      have HB : Hid _ := hb
      have HR : Hid _ := hr
      have HCC : Hid _ := hc
      clear hb hr hc
      cases b with
      | true =>
        go_wp2
        go_ret
        exact ⟨.inr ⟨by rw [← HMM.out]; simp [isT], blk, r, rfl, HB.out⟩, rfl⟩
      | false =>
        go_wp2
        go_round
        case rel => exact ⟨r, m, rfl, HCC.out, by rw [← HMM.out]; simp [isT]⟩
        case measure =>
          cases r with
          | none => simp [rank]
          | some a => have := HR.out a rfl; simp [rank]; omega

/-- What inAbstract answers. -/
def Said (l : List Bool) (e : Ending) : Prop :=
  (l.any isT = false ∧ e = .returned .nilIface) ∨ (l.any isT = true ∧ ∃ a, e = .returned (.iface 50 (.pointer (some a))))

theorem decl_cells {W : World} {d : Nat} {p : Option Addr} (h : W.heap[d]? = some (.cells (declCells p) 45)) : W.cell? ⟨d, 2, none⟩ = some (.string ⟨#[]⟩) ∧ W.cell? ⟨d, 4, none⟩ = some (.pointer p) := by
  simp [World.cell?, h, declCells]

set_option maxRecDepth 1000000 in
set_option maxHeartbeats 1000000 in
theorem inAbstract_any (F : Interp) (d : Nat) (p : Option Addr) (l : List Bool) (w : World) (hF : F.answers w.tape) (hd : w.heap[d]? = some (.cells (declCells p) 45)) (h : Chain w p l) :
    Calls Tryf.prog 12 #[.pointer (some ⟨d, 0, none⟩)] w fun e w' => Said l e ∧ Below w.heap.size w w' := by
  obtain ⟨d2, d4⟩ := decl_cells hd

  have hlt : d < w.heap.size := (Array.getElem?_eq_some_iff.1 hd).1
  clear hd
  go_enter Tryf.func12, Tryf.ntmps12
  go_wp2_with fail
  refine (block_any p l w h).mono ?_
  rintro e w' ⟨hf, rfl⟩
  rcases hf with ⟨hl, rfl⟩ | ⟨hl, blk, q, rfl, hb⟩
  · go_wp2_with fail
    go_ret
    exact ⟨.inl ⟨hl, rfl⟩, Below.refl _ _⟩
  · obtain ⟨c0, c1, c2⟩ := scope_cells hb
    have hlt2 : blk < w.heap.size := (Array.getElem?_eq_some_iff.1 hb).1
    clear hb
    go_wp2_with fail
    go_region_with (go_at_call 14; refine (errorf_any F ⟨#[]⟩ ⟨#[]⟩ _ _ (by simpa using hF) (by go_simp) (by go_simp)).mono ?_; rintro e w' ⟨rfl, hbel⟩)
    all_goals (
      go_wp2_with fail
      go_ret
      exact ⟨.inr ⟨hl, _, rfl⟩, (((Below.refl _ w).alloc (Nat.le_refl _) _).drew).trans (hbel.mono (by simp))⟩)

theorem zzIn_any (F : Interp) (d : Nat) (p : Option Addr) (l : List Bool) (w : World) (hF : F.answers w.tape) (hd : w.heap[d]? = some (.cells (declCells p) 45)) (h : Chain w p l) :
    Calls Tryf.prog 8 #[.pointer (some ⟨d, 0, none⟩)] w fun e w' => Said l e ∧ Below w.heap.size w w' := by
  go_enter Tryf.func8, Tryf.ntmps8
  go_wp2_with fail
  refine (inAbstract_any F d p l w hF hd h).mono ?_
  rintro e w' ⟨hs, hb⟩
  rcases hs with ⟨hl, rfl⟩ | ⟨hl, a, rfl⟩
  · go_wp2_with fail
    go_ret
    exact ⟨.inl ⟨hl, rfl⟩, hb⟩
  · go_wp2_with fail
    go_ret
    exact ⟨.inr ⟨hl, a, rfl⟩, hb⟩

/-! ### The slices of flags -/
def BoolsAt (w : World) (a : Option Addr) (n : Nat) (bs : List Bool) : Prop :=
  bs.length = n ∧ (n = 0 ∨ ∃ b o, a = some ⟨b, o, none⟩ ∧ b < w.heap.size ∧ ∀ i x, bs[i]? = some x → w.cell? ⟨b, o + i, none⟩ = some (.bool x))
theorem BoolsAt.get {w : World} {a : Option Addr} {n : Nat} {bs : List Bool} (h : BoolsAt w a n bs) {k : Nat} (hk : k < n) : ∃ b o x, a = some ⟨b, o, none⟩ ∧ b < w.heap.size ∧ w.cell? ⟨b, o + k, none⟩ = some (.bool x) ∧ bs[k]? = some x := by
  obtain ⟨hl, h⟩ := h
  rcases h with h | ⟨b, o, ha, hb, h⟩
  · omega
  · have hk' : k < bs.length := by omega
    exact ⟨b, o, bs[k], ha, hb, h k bs[k] (List.getElem?_eq_getElem hk'), List.getElem?_eq_getElem hk'⟩
theorem BoolsAt.kept {w W : World} {a : Option Addr} {n : Nat} {bs : List Bool} (h : BoolsAt w a n bs) (k : Below w.heap.size w W) : BoolsAt W a n bs := by
  obtain ⟨hl, h⟩ := h
  rcases h with h | ⟨b, o, ha, hb, h⟩
  · exact ⟨hl, .inl h⟩
  · exact ⟨hl, .inr ⟨b, o, ha, Nat.lt_of_lt_of_le hb k.size, fun i x hx => by rw [k.cell (p := ⟨b, o + i, none⟩) hb]; exact h i x hx⟩⟩
theorem drop_succ {bs : List Bool} {k : Nat} {x : Bool} (h : bs[k]? = some x) : bs.drop k = x :: bs.drop (k + 1) := by
  obtain ⟨hk, rfl⟩ := List.getElem?_eq_some_iff.1 h
  exact List.drop_eq_getElem_cons hk

set_option maxRecDepth 100000 in
theorem anyTrue_any (a : Option Addr) (n c : Nat) (bs : List Bool) (w : World) (hn : n ≤ maxLen) (h : BoolsAt w a n bs) : Calls Tryf.prog 10 #[.slice a n c] w fun e w' => e = .returned (.bool (bs.any isT)) ∧ w = w' := by
  unfold maxLen at hn
  have HB : Hid (BoolsAt w a n bs) := h
  clear h
  go_enter Tryf.func10, Tryf.ntmps10
  go_wp2
  go_loop [4, 7] (fun _ i => ∃ k : Nat, k ≤ n ∧ i = .int .i64 k ∧ Hid ((bs.drop k).any isT = bs.any isT)) (fun _ i => n - (intOf i).toNat)
  case atStart => exact ⟨0, Nat.zero_le _, rfl, by show _ = _; simp⟩
  case round =>
    obtain ⟨k, hk, rfl, HK⟩ := hrel
    by_cases hlt : k < n
    · obtain ⟨b, o, x, rfl, hb, hcell, hget⟩ := HB.out.get hlt
      have e := HK.out
      rw [drop_succ hget, List.any_cons] at e
      have HE : Hid _ := e
      clear e hget
      cases x with
      | true =>
        go_wp2
        go_ret
        exact ⟨by rw [← HE.out]; simp [isT], rfl⟩
      | false =>
        go_wp2
        go_round
        case rel => exact ⟨k + 1, by omega, by go_num, by show _ = _; rw [← HE.out]; simp [isT]⟩
        case measure => simp [intOf]; omega
    · have e : bs.any isT = false := by
        rw [← HK.out, List.drop_eq_nil_of_le (by have := HB.out.1; omega)]; rfl
      have HE : Hid _ := e
      clear e
      go_wp2
      go_ret
      exact ⟨by rw [HE.out]; rfl, rfl⟩
end Go.Proofs.Qxb6612869aFmt
