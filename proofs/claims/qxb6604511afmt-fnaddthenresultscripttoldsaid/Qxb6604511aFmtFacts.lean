import Derived.Test.Qxb6604511aFmtRows
import Derived.Stop.CallBack
import Derived.Stop.IfaceNil
import GoSem.ClaimData
import Derived.WalkKit
import Derived.WalkSpells
import Derived.WalkLawsBesides
import Derived.Stop.Texts
import Derived.Stop.Told
import Derived.Stop.FmtTextKit
namespace Go.Proofs.Qxb6604511aFmt
open Go.RowKit Go.Extern.Stop Go.Stop Go.Extern Go.Kit

/-! The closed facts for the walk over fmt's stopped front, at this dump's numbers. -/
theorem call28 (args : Array Value) (w : World) : (callFunc 28 args).run Tryf.prog w = ((FmtStop.sprintf #[9, 76] #[9] args).run Tryf.prog w).andThen fun v w' => .ok (.value v) w' :=
  run_callFunc_extern Tryf.func28 (by kernel_rfl) (by kernel_rfl) (by kernel_rfl) (by kernel_rfl) args w
theorem guardF (name : String) (w : World) : (FmtStop.guard name).run Tryf.prog w = .ok () w := by kernel_rfl
theorem fmt0 : FmtStop.printed? ⟨#[37, 100, 32, 99, 104, 97, 114, 97, 99, 116, 101, 114, 115]⟩ 1 = some [(0, 100, false)] := by kernel_rfl
theorem fmt0r (w : World) : (FmtDoors.printed ⟨#[37, 100, 32, 99, 104, 97, 114, 97, 99, 116, 101, 114, 115]⟩ 1).run Tryf.prog w = .ok [(0, 100, false)] w := by kernel_rfl
theorem fmt0z : FmtStop.printed? ⟨#[37, 100, 32, 99, 104, 97, 114, 97, 99, 116, 101, 114, 115]⟩ 0 = some [] := by kernel_rfl
theorem fmt0zr (w : World) : (FmtDoors.printed ⟨#[37, 100, 32, 99, 104, 97, 114, 97, 99, 116, 101, 114, 115]⟩ 0).run Tryf.prog w = .ok [] w := by kernel_rfl
def shape2 : List UInt8 := FmtStop.intCode .i64 :: FmtStop.pack "int64".toUTF8.data.toList
theorem op2_100w (name : String) (b : Bool) (x : Int) (w : World) : (FmtStop.operand name b 100 false (.iface 2 (.int .i64 x))).run Tryf.prog w = .ok (shape2, Go.Extern.Stop.digits 8 (x % 2 ^ 64).toNat) w := by kernel_rfl
attribute [local go_sem] call28 guardF fmt0 fmt0r fmt0z fmt0zr op2_100w

def oneChar : ByteArray := ⟨#[49, 32, 99, 104, 97, 114, 97, 99, 116, 101, 114]⟩
theorem chars24_one (w : World) : Calls Tryf.prog 24 #[.int .i64 1] w fun e w' => e = .returned (.string oneChar) ∧ w' = w := by
  go_enter Tryf.func24, Tryf.ntmps24
  go_wp2
  go_ret
  exact ⟨rfl, rfl⟩
def chReading (n : Int) : List (List UInt8) := [[37, 100, 32, 99, 104, 97, 114, 97, 99, 116, 101, 114, 115], shape2, digits 8 (n % 18446744073709551616).toNat]
theorem t_parse : (FmtText.parse [37, 100, 32, 99, 104, 97, 114, 97, 99, 116, 101, 114, 115]).map FmtText.glue = some [.verb {} 100, .lit [32, 99, 104, 97, 114, 97, 99, 116, 101, 114, 115]] := by rfl
theorem t_text (n : Int) (hw : (Lit.int .i64 n).wf = true) : FmtText.text "fmt.Sprintf" (chReading n) = some (Lib.itoa n ++ [32, 99, 104, 97, 114, 97, 99, 116, 101, 114, 115]) := by
  have hi := FmtText.operand_int_at (sh := shape2) (k := .i64) rfl (FmtText.unpack_pack "int64".toUTF8.data.toList (by decide)) n hw
  rw [chReading, FmtText.text_sprintf_glued t_parse (FmtText.operands_cons hi FmtText.operands_nil)]
  simp [FmtText.render, FmtText.printArg_d _ _ hw]
theorem told_size (F : Interp) (n : Int) (hw : (Lit.int .i64 n).wf = true) : (FmtStop.textOf (F.told "fmt.Sprintf" (chReading n) 0)).size ≤ 100 := by
  have hl := FmtText.itoa_length_le hw
  have h := told_string F (t_text n hw) (by simp; omega)
  have h2 := textOf_list F.told "fmt.Sprintf" (chReading n)
  rw [h] at h2
  have h3 := congrArg List.length h2
  simp at h3
  omega
/-- charactersText of another number than 1: some short text. -/
theorem chars24 (F : Interp) (n : Int) (w : World) (hF : F.told.answers w.tape) (hn : n ≠ 1) (hw : (Lit.int .i64 n).wf = true) : Calls Tryf.prog 24 #[.int .i64 n] w fun e w' => ∃ t : ByteArray, e = .returned (.string t) ∧ t.size ≤ 100 ∧ Below w.heap.size w w' := by
  have hF' := answers_open hF
  have hn' : (n == 1) = false := by simp [hn]
  go_enter Tryf.func24, Tryf.ntmps24
  go_wp2
  go_ret
  exact ⟨_, rfl, told_size F n hw, ((Below.refl _ w).alloc (Nat.le_refl _) _).drew⟩
end Go.Proofs.Qxb6604511aFmt
