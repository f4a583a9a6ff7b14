/- fmt.Errorf (26) at the program's three formats: closed facts on the stopped front fmt.errorf (31), and its walk: for every interpretation F of fmt's texts. -/
import Derived.Test.Qxb6604368aFmtScan
import Derived.Stop.CallBack
import Derived.Stop.IfaceNil
import GoSem.ClaimData
namespace Go.Proofs.Qxb6604368aFmt
open Go.RowKit Go.Extern.Stop Go.Stop Go.Extern

theorem call31 (args : Array Value) (w : World) : (callFunc 31 args).run Tryf.prog w = ((FmtStop.errorf #[9, 50] #[26] args).run Tryf.prog w).andThen fun v w' => .ok (.value v) w' :=
  run_callFunc_extern Tryf.func31 (by kernel_rfl) (by kernel_rfl) (by kernel_rfl) (by kernel_rfl) args w
theorem guard (name : String) (w : World) : (FmtStop.guard name).run Tryf.prog w = .ok () w := by kernel_rfl
/-- line %d: tables and arrays nest more than %d deep -/
def fm0 : ByteArray := ⟨#[108, 105, 110, 101, 32, 37, 100, 58, 32, 116, 97, 98, 108, 101, 115, 32, 97, 110, 100, 32, 97, 114, 114, 97, 121, 115, 32, 110, 101, 115, 116, 32, 109, 111, 114, 101, 32, 116, 104, 97, 110, 32, 37, 100, 32, 100, 101, 101, 112]⟩
theorem fmt0r (w : World) : (FmtDoors.printed fm0 2).run Tryf.prog w = .ok [(0, 100, false), (1, 100, false)] w := by kernel_rfl
/-- line %d: a key written out in full is longer than %d bytes -/
def fm1 : ByteArray := ⟨#[108, 105, 110, 101, 32, 37, 100, 58, 32, 97, 32, 107, 101, 121, 32, 119, 114, 105, 116, 116, 101, 110, 32, 111, 117, 116, 32, 105, 110, 32, 102, 117, 108, 108, 32, 105, 115, 32, 108, 111, 110, 103, 101, 114, 32, 116, 104, 97, 110, 32, 37, 100, 32, 98, 121, 116, 101, 115]⟩
theorem fmt1r (w : World) : (FmtDoors.printed fm1 2).run Tryf.prog w = .ok [(0, 100, false), (1, 100, false)] w := by kernel_rfl
/-- line %d: the document holds more than %d keys and values -/
def fm2 : ByteArray := ⟨#[108, 105, 110, 101, 32, 37, 100, 58, 32, 116, 104, 101, 32, 100, 111, 99, 117, 109, 101, 110, 116, 32, 104, 111, 108, 100, 115, 32, 109, 111, 114, 101, 32, 116, 104, 97, 110, 32, 37, 100, 32, 107, 101, 121, 115, 32, 97, 110, 100, 32, 118, 97, 108, 117, 101, 115]⟩
theorem fmt2r (w : World) : (FmtDoors.printed fm2 2).run Tryf.prog w = .ok [(0, 100, false), (1, 100, false)] w := by kernel_rfl

def shape3 : List UInt8 := [5, 3, 0, 0, 0, 0, 0, 0, 0, 105, 110, 116]
theorem op3_100 (name : String) (x : Int) (w : World) : (FmtStop.operand name false 100 false (.iface 3 (.int .i64 x))).run Tryf.prog w = .ok (shape3, Go.Extern.Stop.digits 8 (x % 2 ^ 64).toNat) w := by kernel_rfl
theorem op3_100w (name : String) (x : Int) (w : World) : (FmtStop.operand name true 100 false (.iface 3 (.int .i64 x))).run Tryf.prog w = .ok (shape3, Go.Extern.Stop.digits 8 (x % 2 ^ 64).toNat) w := by kernel_rfl
theorem ptr56 (w : World) : (FmtStop.ptrTo "errors.errorString").run Tryf.prog w = .ok 56 w := by kernel_rfl
theorem elem56 (w : World) : (elemOf 56).run Tryf.prog w = .ok 58 w := by kernel_rfl
theorem isError56' (w : World) : (FmtDoors.textMethod 56 "Error").run Tryf.prog w = .ok true w := by kernel_rfl

attribute [local go_sem] call31 guard op3_100 op3_100w ptr56 elem56 isError56'

/-- what fmt.Errorf answers: an error that is not nil -/
def Err (w : World) (r : Ending) (w' : World) : Prop := (∃ a : Addr, r = .returned (.iface 56 (.pointer (some a)))) ∧ Below w.heap.size w w'

set_option maxHeartbeats 1000000 in
theorem errorf_any (F : Interp) (f : ByteArray) (hfr : ∀ w : World, (FmtDoors.printed f 2).run Tryf.prog w = .ok [(0, 100, false), (1, 100, false)] w)
    (s : Nat) (x y : Int) (w : World) (hF : F.answers w.tape) (h0 : w.cell? ⟨s, 0, none⟩ = some (.iface 3 (.int .i64 x))) (h1 : w.cell? ⟨s, 1, none⟩ = some (.iface 3 (.int .i64 y))) :
    Calls Tryf.prog 26 #[.string f, .slice (some ⟨s, 0, none⟩) 2 2] w (Err w) := by
  have hF' := answers_open hF
  go_enter Tryf.func26, Tryf.ntmps26
  go_wp2
  go_ret
  exact ⟨⟨_, rfl⟩, ((Below.refl _ _).alloc (Nat.le_refl _) _).drew⟩
end Go.Proofs.Qxb6604368aFmt
