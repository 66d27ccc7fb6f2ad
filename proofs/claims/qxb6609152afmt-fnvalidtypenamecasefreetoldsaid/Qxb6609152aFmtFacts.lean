/-
  THE CLOSED FACTS FOR A WALK OVER fmt.Sprintf IN THIS DUMP (function 20, a stop that calls its operands' methods), typed after the worked families' make: the format '%016x', one operand of type 22 (uint64). And the text that is told of it.
-/
import Derived.Test.Qxb6609152aFmtRows
import Derived.Stop.CallBack
import Derived.Stop.IfaceNil
import Derived.Stop.FmtTextBases
import Derived.Stop.Texts
import Derived.Stop.Told
namespace Go.Proofs.Qxb6609152aFmt
open Go.Extern.Stop Go.Stop Go.Extern

theorem Tryf.call20 (args : Array Value) (w : World) : (callFunc 20 args).run Tryf.prog w = (FmtCalls.sprintf #[9, 45] #[9] args).run Tryf.prog w :=
  run_callFunc_next Tryf.func20 (by kernel_rfl) (by kernel_rfl) (by kernel_rfl) args w
theorem Tryf.guard (name : String) (w : World) : (FmtStop.guard name).run Tryf.prog w = .ok () w := by kernel_rfl
theorem Tryf.nextTurns : Extern.next FmtCalls.turnsRow = some (FmtCalls.begun #[] #[]) := by kernel_rfl
theorem Tryf.fmt0 : FmtStop.printed? ⟨#[37, 48, 49, 54, 120]⟩ 1 = some [(0, 120, false)] := by kernel_rfl
theorem Tryf.fmt0r (w : World) : (FmtDoors.printed ⟨#[37, 48, 49, 54, 120]⟩ 1).run Tryf.prog w = .ok [(0, 120, false)] w := by kernel_rfl
def Tryf.shape22 : List UInt8 := [9, 6, 0, 0, 0, 0, 0, 0, 0, 117, 105, 110, 116, 54, 52]
theorem Tryf.act22_120 (name : String) (x : Value) (w : World) : (FmtCalls.act name false 120 false (.iface 22 x)).run Tryf.prog w = .ok (.closed false) w := by kernel_rfl
theorem Tryf.op22_120 (name : String) (x : Int) (w : World) : (FmtStop.operand name false 120 false (.iface 22 (.int .u64 x))).run Tryf.prog w = .ok (Tryf.shape22, Go.Extern.Stop.digits 8 (x % 2 ^ 64).toNat) w := by kernel_rfl
theorem Tryf.str22 (w : World) : (typeStr 22).run Tryf.prog w = .ok "uint64" w := by kernel_rfl

/-- What fmt is asked. -/
def reading (n : Int) : List (List UInt8) := [[37, 48, 49, 54, 120], Tryf.shape22, digits 8 (n % 18446744073709551616).toNat]

/-- The version's text: sixteen digits in base sixteen at least, noughts ahead. -/
def vText (n : Int) : List UInt8 := FmtText.hexZeros false false 16 n

theorem t_parse : (FmtText.parse [37, 48, 49, 54, 120]).map FmtText.glue = some [.verb { widPresent := true, wid := 16, zero := true } 120] := by rfl

theorem t_text (n : Int) (hw : (Lit.int .u64 n).wf = true) : FmtText.text "fmt.Sprintf" (reading n) = some (vText n) := by
  have hi := FmtText.operand_int_at (sh := Tryf.shape22) (k := .u64) rfl rfl n hw
  rw [reading, FmtText.text_sprintf_glued t_parse (FmtText.operands_cons hi FmtText.operands_nil)]
  simp [FmtText.render, FmtText.printArg_x_zero _ false 16 _ hw, vText]

theorem vText_length (n : Int) : (vText n).length ≤ 83 := FmtText.hexZeros_length_le false false 16 n

/-- The text as Go's string. -/
def vBytes (n : Int) : ByteArray := ⟨(vText n).toArray⟩

theorem told_version (F : Interp) (n : Int) (hw : (Lit.int .u64 n).wf = true) : FmtStop.textOf (F.told "fmt.Sprintf" (reading n) 0) = vBytes n := by
  have ht := told_string F (t_text n hw) (by have := vText_length n; omega)
  have hl := Kit.textOf_list F.told "fmt.Sprintf" (reading n)
  rw [ht] at hl
  apply ByteArray.ext
  apply Array.toList_inj.mp
  rw [hl]; rfl

end Go.Proofs.Qxb6609152aFmt
