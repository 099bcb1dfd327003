/-
  fmt.Errorf at this program's three formats: it makes a new error; nothing that was there turns. (fmt's text is the stop's: whatever it is.)
-/
import Derived.Test.Qxb6001751aFmtBase
namespace Go.Proofs.Qxb6001751aFmt
open Go.RowKit Go.Extern.Stop Go.Stop Go.Extern

theorem call42 (args : Array Value) (w : World) : (callFunc 42 args).run Tryf.prog w = ((FmtStop.errorf #[9, 75] #[27] args).run Tryf.prog w).andThen fun v w' => .ok (.value v) w' :=
  run_callFunc_extern Tryf.func42 (by kernel_rfl) (by kernel_rfl) (by kernel_rfl) (by kernel_rfl) args w

theorem guardOk (name : String) (w : World) : (FmtStop.guard name).run Tryf.prog w = .ok () w := by kernel_rfl

theorem fmtA : FmtStop.printed? ⟨#[37, 115, 58, 32, 37, 115, 32, 105, 115, 32, 119, 97, 110, 116, 101, 100]⟩ 2 = some [(0, 115, false), (1, 115, false)] := by kernel_rfl
theorem fmtAr (w : World) : (FmtDoors.printed ⟨#[37, 115, 58, 32, 37, 115, 32, 105, 115, 32, 119, 97, 110, 116, 101, 100]⟩ 2).run Tryf.prog w = .ok [(0, 115, false), (1, 115, false)] w := by kernel_rfl
theorem fmtB : FmtStop.printed? ⟨#[37, 115, 58, 32, 116, 114, 117, 101, 32, 111, 114, 32, 102, 97, 108, 115, 101, 32, 105, 115, 32, 119, 97, 110, 116, 101, 100]⟩ 1 = some [(0, 115, false)] := by kernel_rfl
theorem fmtBr (w : World) : (FmtDoors.printed ⟨#[37, 115, 58, 32, 116, 114, 117, 101, 32, 111, 114, 32, 102, 97, 108, 115, 101, 32, 105, 115, 32, 119, 97, 110, 116, 101, 100]⟩ 1).run Tryf.prog w = .ok [(0, 115, false)] w := by kernel_rfl
theorem fmtC : FmtStop.printed? ⟨#[37, 115, 58, 32, 97, 32, 115, 116, 114, 105, 110, 103, 32, 105, 115, 32, 119, 97, 110, 116, 101, 100]⟩ 1 = some [(0, 115, false)] := by kernel_rfl
theorem fmtCr (w : World) : (FmtDoors.printed ⟨#[37, 115, 58, 32, 97, 32, 115, 116, 114, 105, 110, 103, 32, 105, 115, 32, 119, 97, 110, 116, 101, 100]⟩ 1).run Tryf.prog w = .ok [(0, 115, false)] w := by kernel_rfl

def shape9 : List UInt8 := [12, 6, 0, 0, 0, 0, 0, 0, 0, 115, 116, 114, 105, 110, 103]
theorem op9_115w (name : String) (x : ByteArray) (w : World) : (FmtStop.operand name true 115 false (.iface 9 (.string x))).run Tryf.prog w = .ok (shape9, FmtStop.pack x.data.toList) w := by kernel_rfl
theorem op9_115 (name : String) (x : ByteArray) (w : World) : (FmtStop.operand name false 115 false (.iface 9 (.string x))).run Tryf.prog w = .ok (shape9, FmtStop.pack x.data.toList) w := by kernel_rfl
theorem ptr79 (w : World) : (FmtStop.ptrTo "errors.errorString").run Tryf.prog w = .ok 79 w := by kernel_rfl
theorem elem79 (w : World) : (elemOf 79).run Tryf.prog w = .ok 81 w := by kernel_rfl

attribute [local go_sem] call42 guardOk fmtA fmtAr fmtB fmtBr fmtC fmtCr op9_115w op9_115 ptr79 elem79

theorem errorf_delim (F : Interp) (x y : ByteArray) (blk : Nat) (w : World) (hF : F.answers w.tape) (hc0 : w.cell? ⟨blk, 0, none⟩ = some (.iface 9 (.string x))) (hc1 : w.cell? ⟨blk, 1, none⟩ = some (.iface 9 (.string y))) :
    Calls Tryf.prog 38 #[.string ⟨#[37, 115, 58, 32, 37, 115, 32, 105, 115, 32, 119, 97, 110, 116, 101, 100]⟩, .slice (some ⟨blk, 0, none⟩) 2 2] w fun e w' => (∃ a, e = .returned (.iface 79 (.pointer (some a)))) ∧ Below w.heap.size w w' := by
  have hF' := answers_open hF
  go_enter Tryf.func38, Tryf.ntmps38
  go_wp2
  go_ret
  refine ⟨⟨_, rfl⟩, ?_⟩
  exact ((Below.refl _ _).alloc (Nat.le_refl _) _).drew

theorem errorf_bool (F : Interp) (x : ByteArray) (blk : Nat) (w : World) (hF : F.answers w.tape) (hc0 : w.cell? ⟨blk, 0, none⟩ = some (.iface 9 (.string x))) :
    Calls Tryf.prog 38 #[.string ⟨#[37, 115, 58, 32, 116, 114, 117, 101, 32, 111, 114, 32, 102, 97, 108, 115, 101, 32, 105, 115, 32, 119, 97, 110, 116, 101, 100]⟩, .slice (some ⟨blk, 0, none⟩) 1 1] w fun e w' => (∃ a, e = .returned (.iface 79 (.pointer (some a)))) ∧ Below w.heap.size w w' := by
  have hF' := answers_open hF
  go_enter Tryf.func38, Tryf.ntmps38
  go_wp2
  go_ret
  refine ⟨⟨_, rfl⟩, ?_⟩
  exact ((Below.refl _ _).alloc (Nat.le_refl _) _).drew

theorem errorf_str (F : Interp) (x : ByteArray) (blk : Nat) (w : World) (hF : F.answers w.tape) (hc0 : w.cell? ⟨blk, 0, none⟩ = some (.iface 9 (.string x))) :
    Calls Tryf.prog 38 #[.string ⟨#[37, 115, 58, 32, 97, 32, 115, 116, 114, 105, 110, 103, 32, 105, 115, 32, 119, 97, 110, 116, 101, 100]⟩, .slice (some ⟨blk, 0, none⟩) 1 1] w fun e w' => (∃ a, e = .returned (.iface 79 (.pointer (some a)))) ∧ Below w.heap.size w w' := by
  have hF' := answers_open hF
  go_enter Tryf.func38, Tryf.ntmps38
  go_wp2
  go_ret
  refine ⟨⟨_, rfl⟩, ?_⟩
  exact ((Below.refl _ _).alloc (Nat.le_refl _) _).drew

end Go.Proofs.Qxb6001751aFmt
