import Derived.Test.Qxb6612680aDelAllW
namespace Go.Proofs.Qxb6612680a
open Go.RowKit

/-- The slice of keys: n keys of 32 bytes each. -/
def KeysAt (w : World) (a : Option Addr) (n : Nat) (L : List (List Value × Lit)) : Prop :=
  L.length = n ∧ (n = 0 ∨ ∃ b o, a = some ⟨b, o, none⟩ ∧ b < w.heap.size ∧ ∀ i cs kl, L[i]? = some (cs, kl) → w.rangeAt b (o + i * 32) cs ∧ KeyOk cs kl)
/-- The slice of users. -/
def UsersAt (w : World) (a : Option Addr) (n : Nat) (us : List ByteArray) : Prop :=
  us.length = n ∧ (n = 0 ∨ ∃ b o, a = some ⟨b, o, none⟩ ∧ b < w.heap.size ∧ ∀ i u, us[i]? = some u → w.cell? ⟨b, o + i, none⟩ = some (.string u) ∧ u.size ≤ maxLen)

theorem UsersAt.get {w : World} {a : Option Addr} {n : Nat} {us : List ByteArray} (h : UsersAt w a n us) {k : Nat} (hk : k < n) : ∃ b o u, a = some ⟨b, o, none⟩ ∧ b < w.heap.size ∧ w.cell? ⟨b, o + k, none⟩ = some (.string u) ∧ u.size ≤ maxLen ∧ us[k]? = some u := by
  obtain ⟨hl, h⟩ := h
  rcases h with h | ⟨b, o, ha, hb, h⟩
  · omega
  · have hk' : k < us.length := by omega
    have := h k us[k] (List.getElem?_eq_getElem hk')
    exact ⟨b, o, us[k], ha, hb, this.1, this.2, List.getElem?_eq_getElem hk'⟩

/-- false, or true and p. -/
def BoolIf (p : Prop) (e : Ending) : Prop := e = .returned (.bool false) ∨ (e = .returned (.bool true) ∧ p)
theorem BoolIf.no (p : Prop) : BoolIf p (.returned (.bool false)) := .inl rfl

set_option maxRecDepth 100000 in
set_option maxHeartbeats 2000000 in
theorem zzBytes_any (ka ua : Option Addr) (kn kc un uc : Nat) (us : List ByteArray) (name : ByteArray) (w : World) (hk : kn ≤ maxLen) (hu : un ≤ maxLen) (hn : name.size ≤ maxLen) (hU : UsersAt w ua un us) :
    Calls Try.prog 16 #[.slice ka kn kc, .slice ua un uc, .string name] w fun e w' => BoolIf (∀ i u, i < un → us[i]? = some u → u.size ≤ 1048576) e ∧ w' = w := by
  unfold maxLen at hk hu hn
  have HU : Hid (UsersAt w ua un us) := hU
  clear hU
  by_cases h1 : (1048576 : Int) < kn
  · go_enter Try.func16, Try.ntmps16
    go_wp2
    go_ret
    exact ⟨BoolIf.no _, rfl⟩
  · go_enter Try.func16, Try.ntmps16
    go_wp2
    go_loop [7, 8] (fun z i => ∃ (k : Nat) (zz : Int), k ≤ kn ∧ i = .int .i64 k ∧ z = .int .i64 zz ∧ 0 ≤ zz ∧ zz ≤ 1048576) (fun _ i => kn - (intOf i).toNat)
    case atStart => exact ⟨0, _, Nat.zero_le _, rfl, rfl, by omega, by omega⟩
    case round =>
      obtain ⟨k, zz, hk1, rfl, rfl, hz0, hz1⟩ := hrel
      by_cases hlt : k < kn
      · go_wp2
        · go_ret
          exact ⟨BoolIf.no _, rfl⟩
        · go_round
          case rel => exact ⟨k + 1, _, by omega, by go_num, rfl, by omega, by omega⟩
          case measure => simp [intOf]; omega
      · go_wp2
        all_goals first | (go_ret; exact ⟨BoolIf.no _, rfl⟩) | skip
        go_loop [7, 9] (fun z i => ∃ (k : Nat) (zz : Int), k ≤ un ∧ i = .int .i64 k ∧ z = .int .i64 zz ∧ 0 ≤ zz ∧ zz ≤ 1048576 ∧ Hid (∀ i u, i < k → us[i]? = some u → u.size ≤ 1048576)) (fun _ i => un - (intOf i).toNat)
        case atStart => exact ⟨0, _, Nat.zero_le _, rfl, rfl, by omega, by omega, fun i u hi => by omega⟩
        case round =>
          obtain ⟨j, yy, hj1, rfl, rfl, hy0, hy1, HS⟩ := hrel
          by_cases hlt2 : j < un
          · obtain ⟨b, o, u, rfl, hb, hcell, hsz, hget⟩ := HU.out.get hlt2
            have HG : Hid _ := hget
            clear hget
            unfold maxLen at hsz
            by_cases hbig : (1048576 : Int) < u.size
            · go_wp2
              go_ret
              exact ⟨BoolIf.no _, rfl⟩
            · go_wp2
              all_goals first | (go_ret; exact ⟨BoolIf.no _, rfl⟩) | skip
              go_round
              case rel => exact ⟨j + 1, _, by omega, by go_num, rfl, by omega, by omega, fun i u' hi hu' => by
                by_cases e : i = j
                · subst e
                  have h := HG.out
                  rw [hu'] at h
                  injection h with h
                  subst h
                  omega
                · exact HS.out i u' (by omega) hu'⟩
              case measure => simp [intOf]; omega
          · have HE : Hid (∀ i u, i < un → us[i]? = some u → u.size ≤ 1048576) := fun i u hi => HS.out i u (by omega)
            go_wp2
            all_goals first | (go_ret; exact ⟨BoolIf.no _, rfl⟩) | (go_ret; exact ⟨.inr ⟨rfl, HE.out⟩, rfl⟩)
end Go.Proofs.Qxb6612680a
