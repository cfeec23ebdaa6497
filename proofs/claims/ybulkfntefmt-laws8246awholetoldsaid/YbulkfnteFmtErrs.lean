/- fmt.Errorf at the five formats of addIssue (told: fmt's texts by the authors' function). -/
import Derived.Test.YbulkfnteFmtApp
import Derived.Stop.CallBack
import Derived.Stop.IfaceNil
import GoSem.ClaimData
namespace Go.Proofs.YbulkfnteFmt
open Go.RowKit Go.Extern.Stop Go.Stop Go.Extern
set_option linter.unusedVariables false

theorem call23 (args : Array Value) (w : World) : (callFunc 23 args).run Ybaf.prog w = ((FmtStop.errorf #[9, 87] #[60] args).run Ybaf.prog w).andThen fun v w' => .ok (.value v) w' :=
  run_callFunc_extern Ybaf.func23 (by kernel_rfl) (by kernel_rfl) (by kernel_rfl) (by kernel_rfl) args w
theorem guard23 (name : String) (w : World) : (FmtStop.guard name).run Ybaf.prog w = .ok () w := by kernel_rfl
def shape9 : List UInt8 := [12, 6, 0, 0, 0, 0, 0, 0, 0, 115, 116, 114, 105, 110, 103]
theorem op9_113 (name : String) (x : ByteArray) (w : World) : (FmtStop.operand name false 113 false (.iface 9 (.string x))).run Ybaf.prog w = .ok (shape9, FmtStop.pack x.data.toList) w := by kernel_rfl
theorem op9_113w (name : String) (x : ByteArray) (w : World) : (FmtStop.operand name true 113 false (.iface 9 (.string x))).run Ybaf.prog w = .ok (shape9, FmtStop.pack x.data.toList) w := by kernel_rfl
theorem ptr95 (w : World) : (FmtStop.ptrTo "errors.errorString").run Ybaf.prog w = .ok 95 w := by kernel_rfl
theorem elem95 (w : World) : (elemOf 95).run Ybaf.prog w = .ok 97 w := by kernel_rfl
theorem isError95 (w : World) : (FmtDoors.textMethod 95 "Error").run Ybaf.prog w = .ok true w := by kernel_rfl
def fmtA : ByteArray := ⟨#[112, 114, 111, 106, 101, 99, 116, 32, 37, 113, 32, 111, 102, 32, 105, 115, 115, 117, 101, 32, 37, 113, 32, 105, 115, 32, 110, 111, 116, 32, 97, 32, 112, 114, 111, 106, 101, 99, 116]⟩
theorem fmtA0 : FmtStop.printed? ⟨#[112, 114, 111, 106, 101, 99, 116, 32, 37, 113, 32, 111, 102, 32, 105, 115, 115, 117, 101, 32, 37, 113, 32, 105, 115, 32, 110, 111, 116, 32, 97, 32, 112, 114, 111, 106, 101, 99, 116]⟩ 2 = some [(0, 113, false), (1, 113, false)] := by kernel_rfl
theorem fmtA1 (w : World) : (FmtDoors.printed ⟨#[112, 114, 111, 106, 101, 99, 116, 32, 37, 113, 32, 111, 102, 32, 105, 115, 115, 117, 101, 32, 37, 113, 32, 105, 115, 32, 110, 111, 116, 32, 97, 32, 112, 114, 111, 106, 101, 99, 116]⟩ 2).run Ybaf.prog w = .ok [(0, 113, false), (1, 113, false)] w := by kernel_rfl
def fmtB : ByteArray := ⟨#[105, 115, 115, 117, 101, 32, 37, 113, 32, 103, 105, 118, 101, 110, 32, 116, 119, 105, 99, 101]⟩
theorem fmtB0 : FmtStop.printed? ⟨#[105, 115, 115, 117, 101, 32, 37, 113, 32, 103, 105, 118, 101, 110, 32, 116, 119, 105, 99, 101]⟩ 1 = some [(0, 113, false)] := by kernel_rfl
theorem fmtB1 (w : World) : (FmtDoors.printed ⟨#[105, 115, 115, 117, 101, 32, 37, 113, 32, 103, 105, 118, 101, 110, 32, 116, 119, 105, 99, 101]⟩ 1).run Ybaf.prog w = .ok [(0, 113, false)] w := by kernel_rfl
def fmtC : ByteArray := ⟨#[97, 117, 116, 104, 111, 114, 32, 37, 113, 32, 111, 102, 32, 105, 115, 115, 117, 101, 32, 37, 113, 32, 105, 115, 32, 110, 111, 116, 32, 97, 32, 117, 115, 101, 114]⟩
theorem fmtC0 : FmtStop.printed? ⟨#[97, 117, 116, 104, 111, 114, 32, 37, 113, 32, 111, 102, 32, 105, 115, 115, 117, 101, 32, 37, 113, 32, 105, 115, 32, 110, 111, 116, 32, 97, 32, 117, 115, 101, 114]⟩ 2 = some [(0, 113, false), (1, 113, false)] := by kernel_rfl
theorem fmtC1 (w : World) : (FmtDoors.printed ⟨#[97, 117, 116, 104, 111, 114, 32, 37, 113, 32, 111, 102, 32, 105, 115, 115, 117, 101, 32, 37, 113, 32, 105, 115, 32, 110, 111, 116, 32, 97, 32, 117, 115, 101, 114]⟩ 2).run Ybaf.prog w = .ok [(0, 113, false), (1, 113, false)] w := by kernel_rfl
def fmtD : ByteArray := ⟨#[97, 115, 115, 105, 103, 110, 101, 101, 32, 37, 113, 32, 111, 102, 32, 105, 115, 115, 117, 101, 32, 37, 113, 32, 105, 115, 32, 110, 111, 116, 32, 97, 32, 117, 115, 101, 114]⟩
theorem fmtD0 : FmtStop.printed? ⟨#[97, 115, 115, 105, 103, 110, 101, 101, 32, 37, 113, 32, 111, 102, 32, 105, 115, 115, 117, 101, 32, 37, 113, 32, 105, 115, 32, 110, 111, 116, 32, 97, 32, 117, 115, 101, 114]⟩ 2 = some [(0, 113, false), (1, 113, false)] := by kernel_rfl
theorem fmtD1 (w : World) : (FmtDoors.printed ⟨#[97, 115, 115, 105, 103, 110, 101, 101, 32, 37, 113, 32, 111, 102, 32, 105, 115, 115, 117, 101, 32, 37, 113, 32, 105, 115, 32, 110, 111, 116, 32, 97, 32, 117, 115, 101, 114]⟩ 2).run Ybaf.prog w = .ok [(0, 113, false), (1, 113, false)] w := by kernel_rfl
def fmtE : ByteArray := ⟨#[97, 115, 115, 105, 103, 110, 101, 101, 32, 37, 113, 32, 111, 102, 32, 105, 115, 115, 117, 101, 32, 37, 113, 32, 103, 105, 118, 101, 110, 32, 116, 119, 105, 99, 101]⟩
theorem fmtE0 : FmtStop.printed? ⟨#[97, 115, 115, 105, 103, 110, 101, 101, 32, 37, 113, 32, 111, 102, 32, 105, 115, 115, 117, 101, 32, 37, 113, 32, 103, 105, 118, 101, 110, 32, 116, 119, 105, 99, 101]⟩ 2 = some [(0, 113, false), (1, 113, false)] := by kernel_rfl
theorem fmtE1 (w : World) : (FmtDoors.printed ⟨#[97, 115, 115, 105, 103, 110, 101, 101, 32, 37, 113, 32, 111, 102, 32, 105, 115, 115, 117, 101, 32, 37, 113, 32, 103, 105, 118, 101, 110, 32, 116, 119, 105, 99, 101]⟩ 2).run Ybaf.prog w = .ok [(0, 113, false), (1, 113, false)] w := by kernel_rfl

set_option maxHeartbeats 400000 in
attribute [local go_sem] call23 guard23 fmtA0 fmtA1 op9_113 op9_113w ptr95 elem95 isError95 in
theorem errorfA (F : Interp) (q r : ByteArray) (b : Nat) (w : World) (hF : F.answers w.tape) (hc : w.cell? ⟨b, 0, none⟩ = some (.iface 9 (.string q))) (hc2 : w.cell? ⟨b, 1, none⟩ = some (.iface 9 (.string r))) :
    Calls Ybaf.prog 15 #[.string fmtA, .slice (some ⟨b, 0, none⟩) 2 2] w fun e w' => ∃ a, e = .returned (.iface 95 (.pointer (some a))) ∧ Below w.heap.size w w' := by
  have hF' := answers_open hF
  unfold fmtA
  go_enter Ybaf.func15, Ybaf.ntmps15
  go_wp2
  go_ret
  exact ⟨_, rfl, ((Below.refl _ _).alloc (Nat.le_refl _) _).drew⟩

set_option maxHeartbeats 400000 in
attribute [local go_sem] call23 guard23 fmtB0 fmtB1 op9_113 op9_113w ptr95 elem95 isError95 in
theorem errorfB (F : Interp) (q : ByteArray) (b : Nat) (w : World) (hF : F.answers w.tape) (hc : w.cell? ⟨b, 0, none⟩ = some (.iface 9 (.string q))) :
    Calls Ybaf.prog 15 #[.string fmtB, .slice (some ⟨b, 0, none⟩) 1 1] w fun e w' => ∃ a, e = .returned (.iface 95 (.pointer (some a))) ∧ Below w.heap.size w w' := by
  have hF' := answers_open hF
  unfold fmtB
  go_enter Ybaf.func15, Ybaf.ntmps15
  go_wp2
  go_ret
  exact ⟨_, rfl, ((Below.refl _ _).alloc (Nat.le_refl _) _).drew⟩

set_option maxHeartbeats 400000 in
attribute [local go_sem] call23 guard23 fmtC0 fmtC1 op9_113 op9_113w ptr95 elem95 isError95 in
theorem errorfC (F : Interp) (q r : ByteArray) (b : Nat) (w : World) (hF : F.answers w.tape) (hc : w.cell? ⟨b, 0, none⟩ = some (.iface 9 (.string q))) (hc2 : w.cell? ⟨b, 1, none⟩ = some (.iface 9 (.string r))) :
    Calls Ybaf.prog 15 #[.string fmtC, .slice (some ⟨b, 0, none⟩) 2 2] w fun e w' => ∃ a, e = .returned (.iface 95 (.pointer (some a))) ∧ Below w.heap.size w w' := by
  have hF' := answers_open hF
  unfold fmtC
  go_enter Ybaf.func15, Ybaf.ntmps15
  go_wp2
  go_ret
  exact ⟨_, rfl, ((Below.refl _ _).alloc (Nat.le_refl _) _).drew⟩

set_option maxHeartbeats 400000 in
attribute [local go_sem] call23 guard23 fmtD0 fmtD1 op9_113 op9_113w ptr95 elem95 isError95 in
theorem errorfD (F : Interp) (q r : ByteArray) (b : Nat) (w : World) (hF : F.answers w.tape) (hc : w.cell? ⟨b, 0, none⟩ = some (.iface 9 (.string q))) (hc2 : w.cell? ⟨b, 1, none⟩ = some (.iface 9 (.string r))) :
    Calls Ybaf.prog 15 #[.string fmtD, .slice (some ⟨b, 0, none⟩) 2 2] w fun e w' => ∃ a, e = .returned (.iface 95 (.pointer (some a))) ∧ Below w.heap.size w w' := by
  have hF' := answers_open hF
  unfold fmtD
  go_enter Ybaf.func15, Ybaf.ntmps15
  go_wp2
  go_ret
  exact ⟨_, rfl, ((Below.refl _ _).alloc (Nat.le_refl _) _).drew⟩

set_option maxHeartbeats 400000 in
attribute [local go_sem] call23 guard23 fmtE0 fmtE1 op9_113 op9_113w ptr95 elem95 isError95 in
theorem errorfE (F : Interp) (q r : ByteArray) (b : Nat) (w : World) (hF : F.answers w.tape) (hc : w.cell? ⟨b, 0, none⟩ = some (.iface 9 (.string q))) (hc2 : w.cell? ⟨b, 1, none⟩ = some (.iface 9 (.string r))) :
    Calls Ybaf.prog 15 #[.string fmtE, .slice (some ⟨b, 0, none⟩) 2 2] w fun e w' => ∃ a, e = .returned (.iface 95 (.pointer (some a))) ∧ Below w.heap.size w w' := by
  have hF' := answers_open hF
  unfold fmtE
  go_enter Ybaf.func15, Ybaf.ntmps15
  go_wp2
  go_ret
  exact ⟨_, rfl, ((Below.refl _ _).alloc (Nat.le_refl _) _).drew⟩
end Go.Proofs.YbulkfnteFmt
