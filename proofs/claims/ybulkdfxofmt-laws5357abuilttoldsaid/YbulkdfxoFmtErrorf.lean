/-
  OWN WORK (after the guide's NameFmt texts): closed facts on fmt's stop at this dump, and fmt.Errorf's contract at the two formats: an error that is not nil comes back; nothing old turns.
-/
import Derived.Test.YbulkdfxoFmtRows
import Derived.Test.YbulkdfxoFmtBlocks
import Derived.Stop.CallBack
import Derived.Stop.IfaceNil
import Derived.WalkSpells
import GoSem.ClaimData
namespace Go.Proofs.YbulkdfxoFmt
open Go Go.RowKit Go.Extern.Stop Go.Stop Go.Extern

theorem call10 (args : Array Value) (w : World) : (callFunc 10 args).run Ybaf.prog w = ((FmtStop.errorf #[9, 36] #[25] args).run Ybaf.prog w).andThen fun v w' => .ok (.value v) w' :=
  run_callFunc_extern Ybaf.func10 (by kernel_rfl) (by kernel_rfl) (by kernel_rfl) (by kernel_rfl) args w
theorem fguard (name : String) (w : World) : (FmtStop.guard name).run Ybaf.prog w = .ok () w := by kernel_rfl
theorem fmt0 : FmtStop.printed? ⟨#[37, 113, 32, 105, 115, 32, 110, 111, 116, 32, 97, 32, 52, 45, 108, 101, 116, 116, 101, 114, 32, 97, 101, 114, 111, 100, 114, 111, 109, 101, 32, 97, 110, 100, 32, 97, 32, 116, 105, 109, 101, 32, 72, 72, 77, 77]⟩ 1 = some [(0, 113, false)] := by kernel_rfl
theorem fmt0r (w : World) : (FmtDoors.printed ⟨#[37, 113, 32, 105, 115, 32, 110, 111, 116, 32, 97, 32, 52, 45, 108, 101, 116, 116, 101, 114, 32, 97, 101, 114, 111, 100, 114, 111, 109, 101, 32, 97, 110, 100, 32, 97, 32, 116, 105, 109, 101, 32, 72, 72, 77, 77]⟩ 1).run Ybaf.prog w = .ok [(0, 113, false)] w := by kernel_rfl
theorem fmt1 : FmtStop.printed? ⟨#[116, 105, 109, 101, 32, 37, 113, 32, 105, 115, 32, 110, 111, 116, 32, 97, 32, 116, 105, 109, 101, 32, 111, 102, 32, 100, 97, 121, 32, 102, 114, 111, 109, 32, 48, 48, 48, 48, 32, 116, 111, 32, 50, 51, 53, 57]⟩ 1 = some [(0, 113, false)] := by kernel_rfl
theorem fmt1r (w : World) : (FmtDoors.printed ⟨#[116, 105, 109, 101, 32, 37, 113, 32, 105, 115, 32, 110, 111, 116, 32, 97, 32, 116, 105, 109, 101, 32, 111, 102, 32, 100, 97, 121, 32, 102, 114, 111, 109, 32, 48, 48, 48, 48, 32, 116, 111, 32, 50, 51, 53, 57]⟩ 1).run Ybaf.prog w = .ok [(0, 113, false)] w := by kernel_rfl
def shape9 : List UInt8 := [12, 6, 0, 0, 0, 0, 0, 0, 0, 115, 116, 114, 105, 110, 103]
theorem op9_113w (name : String) (x : ByteArray) (w : World) : (FmtStop.operand name true 113 false (.iface 9 (.string x))).run Ybaf.prog w = .ok (shape9, FmtStop.pack x.data.toList) w := by kernel_rfl
theorem op9_113 (name : String) (x : ByteArray) (w : World) : (FmtStop.operand name false 113 false (.iface 9 (.string x))).run Ybaf.prog w = .ok (shape9, FmtStop.pack x.data.toList) w := by kernel_rfl
theorem ptr41 (w : World) : (FmtStop.ptrTo "errors.errorString").run Ybaf.prog w = .ok 41 w := by kernel_rfl
theorem elem41 (w : World) : (elemOf 41).run Ybaf.prog w = .ok 43 w := by kernel_rfl

set_option maxHeartbeats 400000 in
theorem errorf_first (F : Interp) (s : ByteArray) (blk : Nat) (w : World) (hF : F.answers w.tape) (hc : w.cell? ⟨blk, 0, none⟩ = some (.iface 9 (.string s))) :
    Calls Ybaf.prog 8 #[.string ⟨#[37, 113, 32, 105, 115, 32, 110, 111, 116, 32, 97, 32, 52, 45, 108, 101, 116, 116, 101, 114, 32, 97, 101, 114, 111, 100, 114, 111, 109, 101, 32, 97, 110, 100, 32, 97, 32, 116, 105, 109, 101, 32, 72, 72, 77, 77]⟩, .slice (some ⟨blk, 0, none⟩) 1 1] w fun e w' =>
      (∃ p, e = .returned (.iface 41 p)) ∧ Keep [] w w' := by
  have hF' := answers_open hF
  have h1 := call10
  have h2 := fguard
  have h3 := fmt0
  have h3r := fmt0r
  have h4 := op9_113w
  have h4' := op9_113
  have h5 := ptr41
  have h6 := elem41
  go_enter Ybaf.func8, Ybaf.ntmps8
  go_wp2
  go_ret
  exact ⟨⟨_, rfl⟩, ((Keep.refl [] w).alloc _).drew⟩
set_option maxHeartbeats 400000 in
theorem errorf_second (F : Interp) (s : ByteArray) (blk : Nat) (w : World) (hF : F.answers w.tape) (hc : w.cell? ⟨blk, 0, none⟩ = some (.iface 9 (.string s))) :
    Calls Ybaf.prog 8 #[.string ⟨#[116, 105, 109, 101, 32, 37, 113, 32, 105, 115, 32, 110, 111, 116, 32, 97, 32, 116, 105, 109, 101, 32, 111, 102, 32, 100, 97, 121, 32, 102, 114, 111, 109, 32, 48, 48, 48, 48, 32, 116, 111, 32, 50, 51, 53, 57]⟩, .slice (some ⟨blk, 0, none⟩) 1 1] w fun e w' =>
      (∃ p, e = .returned (.iface 41 p)) ∧ Keep [] w w' := by
  have hF' := answers_open hF
  have h1 := call10
  have h2 := fguard
  have h3 := fmt1
  have h3r := fmt1r
  have h4 := op9_113w
  have h4' := op9_113
  have h5 := ptr41
  have h6 := elem41
  go_enter Ybaf.func8, Ybaf.ntmps8
  go_wp2
  go_ret
  exact ⟨⟨_, rfl⟩, ((Keep.refl [] w).alloc _).drew⟩
end Go.Proofs.YbulkdfxoFmt
