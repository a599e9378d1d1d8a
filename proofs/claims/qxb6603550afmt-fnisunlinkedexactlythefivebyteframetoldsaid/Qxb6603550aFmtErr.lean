/-
  THE CLOSED FACTS of seat b6603550aF FOR A WALK OVER THE STOP fmt.errorf (function 12), after the guide's CheckFmt.lean, AND fmt.Errorf (function 8) BY A CONTRACT: it returns an error that is not nil, in new memory. fmt's text is whatever F answers.
-/
import Derived.Test.Qxb6603550aFmtClone
import Derived.Stop.CallBack
import Derived.Stop.IfaceNil
import GoSem.ClaimData
namespace Go.Proofs.Qxb6603550aFmt
open Go.RowKit Go.Extern.Stop Go.Stop Go.Extern

theorem call12 (args : Array Value) (w : World) : (callFunc 12 args).run Tryf.prog w = ((FmtStop.errorf #[9, 37] #[26] args).run Tryf.prog w).andThen fun v w' => .ok (.value v) w' :=
  run_callFunc_extern Tryf.func12 (by kernel_rfl) (by kernel_rfl) (by kernel_rfl) (by kernel_rfl) args w
theorem guard (name : String) (w : World) : (FmtStop.guard name).run Tryf.prog w = .ok () w := by kernel_rfl
def shape3 : List UInt8 := [5, 3, 0, 0, 0, 0, 0, 0, 0, 105, 110, 116]
theorem op3 (name : String) (x : Int) (w : World) : (FmtStop.operand name true 100 false (.iface 3 (.int .i64 x))).run Tryf.prog w = .ok (shape3, Go.Extern.Stop.digits 8 (x % 2 ^ 64).toNat) w := by kernel_rfl
def shape30 : List UInt8 := FmtStop.intCode .u64 :: [6, 0, 0, 0, 0, 0, 0, 0, 117, 105, 110, 116, 54, 52]
theorem op30 (name : String) (x : Int) (w : World) : (FmtStop.operand name true 100 false (.iface 30 (.int .u64 x))).run Tryf.prog w = .ok (shape30, Go.Extern.Stop.digits 8 (x % 2 ^ 64).toNat) w := by kernel_rfl

def fmtA : ByteArray := ⟨#[119, 105, 114, 101, 58, 32, 105, 110, 112, 117, 116, 32, 111, 102, 32, 37, 100, 32, 98, 121, 116, 101, 115, 32, 99, 117, 116, 32, 115, 104, 111, 114, 116, 32, 105, 110, 32, 116, 104, 101, 32, 102, 114, 97, 109, 101, 39, 115, 32, 108, 101, 110, 103, 116, 104]⟩
theorem fmtAr (w : World) : (FmtDoors.printed fmtA 1).run Tryf.prog w = .ok [(0, 100, false)] w := by kernel_rfl
theorem fmtAp : FmtStop.printed? fmtA 1 = some [(0, 100, false)] := by kernel_rfl

def fmtB : ByteArray := ⟨#[119, 105, 114, 101, 58, 32, 102, 114, 97, 109, 101, 32, 111, 102, 32, 37, 100, 32, 98, 121, 116, 101, 115, 32, 99, 117, 116, 32, 115, 104, 111, 114, 116, 32, 97, 102, 116, 101, 114, 32, 37, 100]⟩
theorem fmtBr (w : World) : (FmtDoors.printed fmtB 2).run Tryf.prog w = .ok [(0, 100, false), (1, 100, false)] w := by kernel_rfl
theorem fmtBp : FmtStop.printed? fmtB 2 = some [(0, 100, false), (1, 100, false)] := by kernel_rfl

def fmtC : ByteArray := ⟨#[119, 105, 114, 101, 58, 32, 37, 100, 32, 98, 121, 116, 101, 115, 32, 108, 101, 102, 116, 32, 111, 118, 101, 114, 32, 97, 102, 116, 101, 114, 32, 97, 32, 102, 114, 97, 109, 101, 32, 111, 102, 32, 37, 100]⟩
theorem fmtCr (w : World) : (FmtDoors.printed fmtC 2).run Tryf.prog w = .ok [(0, 100, false), (1, 100, false)] w := by kernel_rfl
theorem fmtCp : FmtStop.printed? fmtC 2 = some [(0, 100, false), (1, 100, false)] := by kernel_rfl

def fmtD : ByteArray := ⟨#[119, 105, 114, 101, 58, 32, 102, 114, 97, 109, 101, 32, 100, 101, 99, 108, 97, 114, 101, 115, 32, 37, 100, 32, 98, 121, 116, 101, 115, 44, 32, 109, 111, 114, 101, 32, 116, 104, 97, 110, 32, 116, 104, 101, 32, 37, 100, 32, 97, 108, 108, 111, 119, 101, 100]⟩
theorem fmtDr (w : World) : (FmtDoors.printed fmtD 2).run Tryf.prog w = .ok [(0, 100, false), (1, 100, false)] w := by kernel_rfl
theorem fmtDp : FmtStop.printed? fmtD 2 = some [(0, 100, false), (1, 100, false)] := by kernel_rfl

theorem ptr40 (w : World) : (FmtStop.ptrTo "errors.errorString").run Tryf.prog w = .ok 40 w := by kernel_rfl
theorem elem40 (w : World) : (elemOf 40).run Tryf.prog w = .ok 42 w := by kernel_rfl
theorem isError40 (w : World) : (FmtDoors.textMethod 40 "Error").run Tryf.prog w = .ok true w := by kernel_rfl
theorem ptr38 (w : World) : (FmtStop.ptrTo "fmt.wrapError").run Tryf.prog w = .ok 38 w := by kernel_rfl
theorem elem38 (w : World) : (elemOf 38).run Tryf.prog w = .ok 59 w := by kernel_rfl
theorem isError38 (w : World) : (FmtDoors.textMethod 38 "Error").run Tryf.prog w = .ok true w := by kernel_rfl

attribute [local go_sem] call12 guard op3 op30 fmtAr fmtAp fmtBr fmtBp fmtCr fmtCp fmtDr fmtDp ptr40 elem40 isError40 ptr38 elem38 isError38

set_option maxHeartbeats 400000 in
theorem errorf_A (F : Interp) (b : Nat) (x0 : Int) (w : World) (hF : F.answers w.tape) (h0 : w.cell? ⟨b, 0, none⟩ = some (.iface 3 (.int .i64 x0))) :
    Calls Tryf.prog 8 #[.string fmtA, .slice (some ⟨b, 0, none⟩) 1 1] w fun e w' => ∃ T u, e = .returned (.iface T u) ∧ Below w.heap.size w w' := by
  have hF' := answers_open hF
  go_enter Tryf.func8, Tryf.ntmps8
  go_wp2
  go_ret
  exact ⟨_, _, rfl, ((Below.refl _ _).alloc (Nat.le_refl _) _).drew⟩

set_option maxHeartbeats 400000 in
theorem errorf_B (F : Interp) (b : Nat) (x0 x1 : Int) (w : World) (hF : F.answers w.tape) (h0 : w.cell? ⟨b, 0, none⟩ = some (.iface 30 (.int .u64 x0))) (h1 : w.cell? ⟨b, 1, none⟩ = some (.iface 3 (.int .i64 x1))) :
    Calls Tryf.prog 8 #[.string fmtB, .slice (some ⟨b, 0, none⟩) 2 2] w fun e w' => ∃ T u, e = .returned (.iface T u) ∧ Below w.heap.size w w' := by
  have hF' := answers_open hF
  go_enter Tryf.func8, Tryf.ntmps8
  go_wp2
  go_ret
  exact ⟨_, _, rfl, ((Below.refl _ _).alloc (Nat.le_refl _) _).drew⟩

set_option maxHeartbeats 400000 in
theorem errorf_C (F : Interp) (b : Nat) (x0 x1 : Int) (w : World) (hF : F.answers w.tape) (h0 : w.cell? ⟨b, 0, none⟩ = some (.iface 30 (.int .u64 x0))) (h1 : w.cell? ⟨b, 1, none⟩ = some (.iface 30 (.int .u64 x1))) :
    Calls Tryf.prog 8 #[.string fmtC, .slice (some ⟨b, 0, none⟩) 2 2] w fun e w' => ∃ T u, e = .returned (.iface T u) ∧ Below w.heap.size w w' := by
  have hF' := answers_open hF
  go_enter Tryf.func8, Tryf.ntmps8
  go_wp2
  go_ret
  exact ⟨_, _, rfl, ((Below.refl _ _).alloc (Nat.le_refl _) _).drew⟩

set_option maxHeartbeats 400000 in
theorem errorf_D (F : Interp) (b : Nat) (x0 x1 : Int) (w : World) (hF : F.answers w.tape) (h0 : w.cell? ⟨b, 0, none⟩ = some (.iface 30 (.int .u64 x0))) (h1 : w.cell? ⟨b, 1, none⟩ = some (.iface 3 (.int .i64 x1))) :
    Calls Tryf.prog 8 #[.string fmtD, .slice (some ⟨b, 0, none⟩) 2 2] w fun e w' => ∃ T u, e = .returned (.iface T u) ∧ Below w.heap.size w w' := by
  have hF' := answers_open hF
  go_enter Tryf.func8, Tryf.ntmps8
  go_wp2
  go_ret
  exact ⟨_, _, rfl, ((Below.refl _ _).alloc (Nat.le_refl _) _).drew⟩

set_option maxHeartbeats 400000 in
/-- errors.New. -/
theorem new_any (t : ByteArray) (w : World) :
    Calls Tryf.prog 11 #[.string t] w fun e w' => ∃ T u, e = .returned (.iface T u) ∧ Below w.heap.size w w' := by
  go_enter Tryf.func11, Tryf.ntmps11
  go_wp2
  go_ret
  exact ⟨_, _, rfl, (Below.refl _ _).alloc (Nat.le_refl _) _⟩

end Go.Proofs.Qxb6603550aFmt
