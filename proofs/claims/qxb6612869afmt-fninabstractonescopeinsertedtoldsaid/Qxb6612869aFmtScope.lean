import Derived.Test.Qxb6612869aFmtCards
import Derived.WalkKit
import Derived.WalkSpells
import Derived.Stop.CallBack
import Derived.Stop.IfaceNil
import Derived.Stop.FmtTextLaws
import Derived.Stop.Walk
import Derived.Deep.RegionWith
import Derived.Laws.Tables
import Derived.Below
import Derived.BigQuiet
import Derived.WalkSmall
namespace Go.Proofs.Qxb6612869aFmt
open Go.RowKit Go.Extern.Stop Go.Stop Go.Extern

/-! ### fmt's closed facts, as the guide's tool prints them -/
@[go_sem] theorem call15 (args : Array Value) (w : World) : (callFunc 15 args).run Tryf.prog w = ((FmtStop.errorf #[9, 47] #[28] args).run Tryf.prog w).andThen fun v w' => .ok (.value v) w' :=
  run_callFunc_extern Tryf.func15 (by kernel_rfl) (by kernel_rfl) (by kernel_rfl) (by kernel_rfl) args w
@[go_sem] theorem guardF (name : String) (w : World) : (FmtStop.guard name).run Tryf.prog w = .ok () w := by kernel_rfl
/-- "%s is declared in the abstract block %s, which is only copied". -/
@[go_sem] theorem fmt0 : FmtStop.printed? ⟨#[37, 115, 32, 105, 115, 32, 100, 101, 99, 108, 97, 114, 101, 100, 32, 105, 110, 32, 116, 104, 101, 32, 97, 98, 115, 116, 114, 97, 99, 116, 32, 98, 108, 111, 99, 107, 32, 37, 115, 44, 32, 119, 104, 105, 99, 104, 32, 105, 115, 32, 111, 110, 108, 121, 32, 99, 111, 112, 105, 101, 100]⟩ 2 = some [(0, 115, false), (1, 115, false)] := by kernel_rfl
@[go_sem] theorem fmt0r (w : World) : (FmtDoors.printed ⟨#[37, 115, 32, 105, 115, 32, 100, 101, 99, 108, 97, 114, 101, 100, 32, 105, 110, 32, 116, 104, 101, 32, 97, 98, 115, 116, 114, 97, 99, 116, 32, 98, 108, 111, 99, 107, 32, 37, 115, 44, 32, 119, 104, 105, 99, 104, 32, 105, 115, 32, 111, 110, 108, 121, 32, 99, 111, 112, 105, 101, 100]⟩ 2).run Tryf.prog w = .ok [(0, 115, false), (1, 115, false)] w := by kernel_rfl
def shape9 : List UInt8 := [12, 6, 0, 0, 0, 0, 0, 0, 0, 115, 116, 114, 105, 110, 103]
@[go_sem] theorem op9_115 (name : String) (x : ByteArray) (w : World) : (FmtStop.operand name false 115 false (.iface 9 (.string x))).run Tryf.prog w = .ok (shape9, FmtStop.pack x.data.toList) w := by kernel_rfl
@[go_sem] theorem op9_115w (name : String) (x : ByteArray) (w : World) : (FmtStop.operand name true 115 false (.iface 9 (.string x))).run Tryf.prog w = .ok (shape9, FmtStop.pack x.data.toList) w := by kernel_rfl
@[go_sem] theorem strict9 (name : String) (x : ByteArray) (w : World) : (FmtStop.strict name (.iface 9 (.string x))).run Tryf.prog w = .ok (shape9, FmtStop.pack x.data.toList) w := by kernel_rfl
@[go_sem] theorem ptr50 (w : World) : (FmtStop.ptrTo "errors.errorString").run Tryf.prog w = .ok 50 w := by kernel_rfl
@[go_sem] theorem elem50 (w : World) : (elemOf 50).run Tryf.prog w = .ok 52 w := by kernel_rfl

set_option maxRecDepth 1000000 in
set_option maxHeartbeats 400000 in
theorem errorf_any (F : Interp) (s t : ByteArray) (blk : Nat) (w : World) (hF : F.answers w.tape)
    (hc0 : w.cell? ⟨blk, 0, none⟩ = some (.iface 9 (.string s))) (hc1 : w.cell? ⟨blk, 1, none⟩ = some (.iface 9 (.string t))) :
    Calls Tryf.prog 14 #[.string ⟨#[37, 115, 32, 105, 115, 32, 100, 101, 99, 108, 97, 114, 101, 100, 32, 105, 110, 32, 116, 104, 101, 32, 97, 98, 115, 116, 114, 97, 99, 116, 32, 98, 108, 111, 99, 107, 32, 37, 115, 44, 32, 119, 104, 105, 99, 104, 32, 105, 115, 32, 111, 110, 108, 121, 32, 99, 111, 112, 105, 101, 100]⟩, .slice (some ⟨blk, 0, none⟩) 2 2] w fun e w' =>
      e = .returned (.iface 50 (.pointer (some ⟨w.heap.size, 0, none⟩))) ∧ Below w.heap.size w w' := by
  have hF' := answers_open hF
  go_enter Tryf.func14, Tryf.ntmps14
  go_wp2
  go_ret
  exact ⟨rfl, ((Below.refl _ w).alloc (Nat.le_refl _) _).drew⟩

/-! ### The scopes -/
def scopeCells (b : Bool) (p : Option Addr) : Array Value :=
  #[.string ⟨#[]⟩, .pointer p, .bool b, .map none, .map none, .map none, .map none, .map none, .map none, .map none, .map none, .map none, .map none, .map none, .map none, .map none, .map none, .map none, .map none, .map none, .map none, .pointer none, .slice none 0 0]
def declCells (p : Option Addr) : Array Value :=
  #[.string ⟨#[]⟩, .string ⟨#[]⟩, .string ⟨#[]⟩, .int .u8 0, .pointer p, .pointer none, .pointer none, .map none, .pointer none, .bool false]
theorem build39 (b : Bool) (p : Option Addr) (w : World) : (Instr.build 39 #[(2, .bool b), (1, .pointer p)]).run Tryf.prog w = .ok (.agg (scopeCells b p)) w := run_build w 39 _ _ (by kernel_rfl)
theorem build45 (p : Option Addr) (w : World) : (Instr.build 45 #[(4, .pointer p)]).run Tryf.prog w = .ok (.agg (declCells p)) w := run_build w 45 _ _ (by kernel_rfl)

theorem newScope_any (b : Bool) (p : Option Addr) (w : World) : Calls Tryf.prog 7 #[.bool b, .pointer p] w fun e w' => e = .returned (.pointer (some ⟨w.heap.size, 0, none⟩)) ∧ w.alloc (.cells (scopeCells b p) 39) = w' := by
  have h := build39 b p
  go_enter Tryf.func7, Tryf.ntmps7
  go_wp2
  go_ret
  simp [scopeCells]
theorem newDecl_any (p : Option Addr) (w : World) : Calls Tryf.prog 9 #[.pointer p] w fun e w' => e = .returned (.pointer (some ⟨w.heap.size, 0, none⟩)) ∧ w.alloc (.cells (declCells p) 45) = w' := by
  have h := build45 p
  go_enter Tryf.func9, Tryf.ntmps9
  go_wp2
  go_ret
  simp [declCells]
theorem noScope_any (w : World) : Calls Tryf.prog 6 #[] w fun e w' => e = .returned (.pointer none) ∧ w = w' := by
  go_enter Tryf.func6, Tryf.ntmps6
  go_wp2
  go_ret
  simp
end Go.Proofs.Qxb6612869aFmt
