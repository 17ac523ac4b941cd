/-
  fmt.Errorf at the one format of 'supersede'; Stamp, Before, supersede, ZZsupersede, ZZnewStore.
-/
import Derived.Test.Qxb6612566aFmtStMap
import Derived.Stop.CallBack
import Derived.Stop.IfaceNil
import GoSem.ClaimData
import Derived.Carry
namespace Go.Proofs.Qxb6612566aFmt.st
open Go.RowKit Go.Extern.Stop Go.Stop Go.Extern

theorem call18 (args : Array Value) (w : World) : (callFunc 18 args).run Tryf.prog w = ((FmtStop.errorf #[9, 73] #[35] args).run Tryf.prog w).andThen fun v w' => .ok (.value v) w' :=
  run_callFunc_extern Tryf.func18 (by kernel_rfl) (by kernel_rfl) (by kernel_rfl) (by kernel_rfl) args w
theorem guardF (name : String) (w : World) : (FmtStop.guard name).run Tryf.prog w = .ok () w := by kernel_rfl

/-- The format, as the program's text has it. -/
abbrev fmtS : ByteArray := ⟨#[37, 119, 58, 32, 37, 115, 58, 32, 118, 101, 114, 115, 105, 111, 110, 32, 37, 100, 32, 101, 112, 111, 99, 104, 32, 37, 100, 32, 105, 115, 32, 115, 116, 111, 114, 101, 100, 44, 32, 110, 111, 116, 32, 114, 101, 112, 108, 97, 99, 101, 100, 32, 98, 121, 32, 118, 101, 114, 115, 105, 111, 110, 32, 37, 100, 32, 101, 112, 111, 99, 104, 32, 37, 100]⟩
theorem fmtr (w : World) : (FmtDoors.printed fmtS 6).run Tryf.prog w = .ok [(0, 119, false), (1, 115, false), (2, 100, false), (3, 100, false), (4, 100, false), (5, 100, false)] w := by kernel_rfl

def shape9 : List UInt8 := [12, 6, 0, 0, 0, 0, 0, 0, 0, 115, 116, 114, 105, 110, 103]
def shape2 : List UInt8 := [5, 5, 0, 0, 0, 0, 0, 0, 0, 105, 110, 116, 54, 52]
theorem op9w (name : String) (x : ByteArray) (w : World) : (FmtStop.operand name true 115 false (.iface 9 (.string x))).run Tryf.prog w = .ok (shape9, FmtStop.pack x.data.toList) w := by kernel_rfl
theorem op2w (name : String) (x : Int) (w : World) : (FmtStop.operand name true 100 false (.iface 2 (.int .i64 x))).run Tryf.prog w = .ok (shape2, digits 8 (x % 2 ^ 64).toNat) w := by kernel_rfl

/-- The name of the type 76. -/
def nmErr : String := String.ofList (Char.ofNat 42 :: "errors.errorString".toList)
def plain76 : List UInt8 := 14 :: FmtStop.pack nmErr.toUTF8.data.toList
theorem str76 (w : World) : (typeStr 76).run Tryf.prog w = .ok nmErr w := by kernel_rfl
theorem opPlain (name : String) (a : Addr) (s : ByteArray) (w : World) (hc : w.cell? a = some (.string s)) :
    (FmtStop.operand name true 119 false (.iface 76 (.pointer (some a)))).run Tryf.prog w = .ok (plain76, s.data.toList) w := by
  have h1 := str76 w
  have d2 : Tryf.t76.desc = .pointer 78 := rfl
  have d3 : Tryf.t78.desc = .named "errors.errorString" 77 := rfl
  simp [FmtStop.operand, h1, d2, d3, run_load, hc, plain76]
theorem ptr75 (w : World) : (FmtStop.ptrTo "fmt.wrapError").run Tryf.prog w = .ok 75 w := by kernel_rfl
theorem elem75 (w : World) : (elemOf 75).run Tryf.prog w = .ok 124 w := by kernel_rfl
theorem isErr76 (w : World) : (FmtDoors.textMethod 76 "Error").run Tryf.prog w = .ok true w := by kernel_rfl

theorem stamp_any (z : ZF) (ao : Option Addr) (cap : Nat) (w : World) : Calls Tryf.prog 15 #[fileVal z ao cap] w fun e w' => e = .returned (.agg #[.int .i64 z.ver, .int .i64 z.ep]) ∧ Below w.heap.size w w' := by
  go_enter Tryf.func15, Tryf.ntmps15
  go_wp2
  exact bodyPost_ret (v := .agg #[.int .i64 z.ver, .int .i64 z.ep]) (by simp [results, Tryf.results15, go_sem]) rfl ⟨rfl, ((Below.refl _ _).alloc (Nat.le_refl _) _).alloc (by simp) _⟩

/-- Is the first stamp the older? -/
def olderB (v1 e1 v2 e2 : Int) : Bool := decide (v1 < v2) || (decide (v1 = v2) && decide (e1 < e2))

theorem ret_bool {a b : Bool} (h : a = b) : Ending.returned (.bool a) = .returned (.bool b) := by rw [h]

theorem before_any (v1 e1 v2 e2 : Int) (w : World) : Calls Tryf.prog 16 #[.agg #[.int .i64 v1, .int .i64 e1], .agg #[.int .i64 v2, .int .i64 e2]] w fun e w' => e = .returned (.bool (olderB v1 e1 v2 e2)) ∧ Below w.heap.size w w' := by
  go_enter Tryf.func16, Tryf.ntmps16
  go_wp2
  all_goals go_ret
  all_goals refine ⟨ret_bool ?_, ((Below.refl _ _).alloc (Nat.le_refl _) _).alloc (by simp) _⟩
  all_goals (unfold olderB; rw [Bool.eq_iff_iff]; simp; omega)

attribute [local go_sem] call18 guardF op9w op2w ptr75 elem75 isErr76 fmtr

set_option maxRecDepth 100000 in
set_option maxHeartbeats 1000000 in
theorem errorf_any (F : Interp) (g : Nat) (a : Addr) (s nm : ByteArray) (x1 x2 x3 x4 : Int) (w : World) (hF : F.answers w.tape) (c0 : w.cell? ⟨g, 0, none⟩ = some (.iface 76 (.pointer (some a)))) (c1 : w.cell? ⟨g, 1, none⟩ = some (.iface 9 (.string nm)))
    (c2 : w.cell? ⟨g, 2, none⟩ = some (.iface 2 (.int .i64 x1))) (c3 : w.cell? ⟨g, 3, none⟩ = some (.iface 2 (.int .i64 x2))) (c4 : w.cell? ⟨g, 4, none⟩ = some (.iface 2 (.int .i64 x3))) (c5 : w.cell? ⟨g, 5, none⟩ = some (.iface 2 (.int .i64 x4))) (hs : w.cell? a = some (.string s)) :
    Calls Tryf.prog 17 #[.string fmtS, .slice (some ⟨g, 0, none⟩) 6 6] w fun e w' => (∃ x, e = .returned (.iface 75 x)) ∧ Below w.heap.size w w' := by
  have hF' := answers_open hF
  have hop := opPlain "fmt.errorf" a s w hs
  go_enter Tryf.func17, Tryf.ntmps17
  go_wp2
  go_ret
  exact ⟨⟨_, rfl⟩, ((Below.refl _ _).alloc (Nat.le_refl _) _).drew⟩

end Go.Proofs.Qxb6612566aFmt.st
