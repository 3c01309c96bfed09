import Derived.Test.YbulkbgveFmtProg
import Derived.WalkKit
import Derived.WalkSpells
import Derived.WalkLawsBesides
import Derived.Stop.CallBack
import Derived.Stop.IfaceNil
import Derived.Stop.FmtTextKit
import Derived.Stop.Texts
import GoSem.ClaimData
namespace Go.Proofs.YbulkbgveFmt
open Go.RowKit Go.Extern.Stop Go.Stop Go.Extern

theorem call16 (args : Array Value) (w : World) : (callFunc 16 args).run Ybaf.prog w = ((FmtStop.sprintf #[9, 92] #[9] args).run Ybaf.prog w).andThen fun v w' => .ok (.value v) w' :=
  run_callFunc_extern Ybaf.func16 (by kernel_rfl) (by kernel_rfl) (by kernel_rfl) (by kernel_rfl) args w
theorem guard16 (name : String) (w : World) : (FmtStop.guard name).run Ybaf.prog w = .ok () w := by kernel_rfl

/-- The format of the first rule's message. -/
def form1 : List UInt8 := [116, 104, 101, 32, 108, 105, 110, 101, 32, 105, 115, 32, 105, 110, 100, 101, 110, 116, 101, 100, 32, 98, 121, 32, 37, 100, 44, 32, 98, 117, 116, 32, 97, 32, 108, 105, 110, 101, 32, 116, 104, 97, 116, 32, 110, 111, 32, 98, 114, 97, 99, 107, 101, 116, 115, 32, 101, 110, 99, 108, 111, 115, 101, 32, 105, 115, 32, 110, 111, 116, 32, 105, 110, 100, 101, 110, 116, 101, 100]
theorem form1_p : FmtStop.printed? ⟨#[116, 104, 101, 32, 108, 105, 110, 101, 32, 105, 115, 32, 105, 110, 100, 101, 110, 116, 101, 100, 32, 98, 121, 32, 37, 100, 44, 32, 98, 117, 116, 32, 97, 32, 108, 105, 110, 101, 32, 116, 104, 97, 116, 32, 110, 111, 32, 98, 114, 97, 99, 107, 101, 116, 115, 32, 101, 110, 99, 108, 111, 115, 101, 32, 105, 115, 32, 110, 111, 116, 32, 105, 110, 100, 101, 110, 116, 101, 100]⟩ 1 = some [(0, 100, false)] := by kernel_rfl
theorem form1_pr (w : World) : (FmtDoors.printed ⟨#[116, 104, 101, 32, 108, 105, 110, 101, 32, 105, 115, 32, 105, 110, 100, 101, 110, 116, 101, 100, 32, 98, 121, 32, 37, 100, 44, 32, 98, 117, 116, 32, 97, 32, 108, 105, 110, 101, 32, 116, 104, 97, 116, 32, 110, 111, 32, 98, 114, 97, 99, 107, 101, 116, 115, 32, 101, 110, 99, 108, 111, 115, 101, 32, 105, 115, 32, 110, 111, 116, 32, 105, 110, 100, 101, 110, 116, 101, 100]⟩ 1).run Ybaf.prog w = .ok [(0, 100, false)] w := by kernel_rfl
attribute [local go_sem] call16 guard16 form1_p form1_pr
theorem form1_printed (w : World) : (FmtDoors.printed ⟨form1.toArray⟩ 1).run Ybaf.prog w = .ok [(0, 100, false)] w := by kernel_rfl
theorem form1_printed' : FmtStop.printed? ⟨form1.toArray⟩ 1 = some [(0, 100, false)] := by kernel_rfl
def shape3 : List UInt8 := [5, 3, 0, 0, 0, 0, 0, 0, 0, 105, 110, 116]
theorem op3_100 (name : String) (x : Int) (w : World) : (FmtStop.operand name false 100 false (.iface 3 (.int .i64 x))).run Ybaf.prog w = .ok (shape3, Go.Extern.Stop.digits 8 (x % 2 ^ 64).toNat) w := by kernel_rfl

attribute [local go_sem] op3_100

/-- What fmt is asked. -/
def reading (x : Int) : List (List UInt8) := [form1, shape3, Go.Extern.Stop.digits 8 (x % 18446744073709551616).toNat]
def text1 (x : Int) : List UInt8 := [116, 104, 101, 32, 108, 105, 110, 101, 32, 105, 115, 32, 105, 110, 100, 101, 110, 116, 101, 100, 32, 98, 121, 32] ++ Lib.itoa x ++ [44, 32, 98, 117, 116, 32, 97, 32, 108, 105, 110, 101, 32, 116, 104, 97, 116, 32, 110, 111, 32, 98, 114, 97, 99, 107, 101, 116, 115, 32, 101, 110, 99, 108, 111, 115, 101, 32, 105, 115, 32, 110, 111, 116, 32, 105, 110, 100, 101, 110, 116, 101, 100]

theorem t_parse : (FmtText.parse form1).map FmtText.glue = some [.lit [116, 104, 101, 32, 108, 105, 110, 101, 32, 105, 115, 32, 105, 110, 100, 101, 110, 116, 101, 100, 32, 98, 121, 32], .verb {} 100, .lit [44, 32, 98, 117, 116, 32, 97, 32, 108, 105, 110, 101, 32, 116, 104, 97, 116, 32, 110, 111, 32, 98, 114, 97, 99, 107, 101, 116, 115, 32, 101, 110, 99, 108, 111, 115, 101, 32, 105, 115, 32, 110, 111, 116, 32, 105, 110, 100, 101, 110, 116, 101, 100]] := by rfl
theorem t_text (x : Int) (hw : (Lit.int .i64 x).wf = true) : FmtText.text "fmt.Sprintf" (reading x) = some (text1 x) := by
  have hi := FmtText.operand_int_at (sh := shape3) (k := .i64) rfl rfl x hw
  rw [reading, FmtText.text_sprintf_glued t_parse (FmtText.operands_cons hi FmtText.operands_nil)]
  simp [FmtText.render, FmtText.printArg_d _ _ hw, text1]

set_option maxRecDepth 100000 in
set_option maxHeartbeats 400000 in
theorem message_one (F : Interp) (x : Int) (w : World) (hF : F.answers w.tape) :
    Calls Ybaf.prog 15 #[.agg #[.int .i64 1, .int .i64 x, .int .i64 0, .int .i64 0, .int .i64 0, .int .i64 0]] w fun e w' => e = .returned (.string (FmtStop.textOf (F "fmt.Sprintf" (reading x) 0))) ∧ Below w.heap.size w w' := by
  have hF' := answers_open hF
  go_enter Ybaf.func15, Ybaf.ntmps15
  go_wp2
  go_ret
  exact ⟨rfl, (((Below.refl _ _).alloc (Nat.le_refl _) _).alloc (by simp) _).drew⟩
end Go.Proofs.YbulkbgveFmt
