/-
  fmt's text at the two formats, told: the path, then the line where there is one, then the message.
-/
import Derived.Test.Qxb6615892aFmtWalkA
import Derived.Stop.JoinedTold
import Derived.Stop.FmtTextKit
import Derived.Stop.FmtTextVerbs
namespace Go.Proofs.Qxb6615892aFmt
open Go.RowKit Go.Extern.Stop Go.Stop Go.Extern

/-- What stands ahead of the message. -/
def ahead (path : List UInt8) (line : Int) : List UInt8 :=
  if line = 0 then path ++ [58, 32] else path ++ [32, 108, 105, 110, 101, 32] ++ Lib.itoa line ++ [58, 32]

theorem parse2 : (FmtText.parse [37, 115, 58, 32, 37, 118]).map FmtText.glue = some [.verb {} 115, .lit [58, 32], .verb {} 118] := by rfl
theorem parse3 : (FmtText.parse [37, 115, 32, 108, 105, 110, 101, 32, 37, 100, 58, 32, 37, 118]).map FmtText.glue = some [.verb {} 115, .lit [32, 108, 105, 110, 101, 32], .verb {} 100, .lit [58, 32], .verb {} 118] := by rfl

theorem text2 (path msg : List UInt8) (hp : path.length < 2 ^ 64) : FmtText.text "fmt.Sprintf" (read2 path msg) = some (path ++ [58, 32] ++ msg) := by
  have h1 := FmtText.operand_str_at (sh := shape9) rfl rfl path hp
  have h2 := FmtText.operand_plain_at (sh := plain31) rfl (FmtText.unpack_pack _ (by decide)) msg
  rw [read2, FmtText.text_sprintf_glued parse2 (FmtText.operands_cons h1 (FmtText.operands_cons h2 FmtText.operands_nil))]
  simp [FmtText.render, FmtText.printArg_s_str, FmtText.printArg_v_said]
theorem text3 (path msg : List UInt8) (line : Int) (hp : path.length < 2 ^ 64) (hw : (Lit.int .i64 line).wf = true) : FmtText.text "fmt.Sprintf" (read3 path line msg) = some (path ++ [32, 108, 105, 110, 101, 32] ++ Lib.itoa line ++ [58, 32] ++ msg) := by
  have h1 := FmtText.operand_str_at (sh := shape9) rfl rfl path hp
  have hi := FmtText.operand_int_at (sh := shape3) (k := .i64) rfl rfl line hw
  have h2 := FmtText.operand_plain_at (sh := plain31) rfl (FmtText.unpack_pack _ (by decide)) msg
  rw [read3, FmtText.text_sprintf_glued parse3 (FmtText.operands_cons h1 (FmtText.operands_cons hi (FmtText.operands_cons h2 FmtText.operands_nil)))]
  simp [FmtText.render, FmtText.printArg_s_str, FmtText.printArg_v_said, FmtText.printArg_d _ _ hw]
end Go.Proofs.Qxb6615892aFmt
