import Derived.Test.Qxb6604199aRows
import Derived.WalkKit
import Derived.ProofKit
import Derived.OpenShut
import Derived.ShutString
import Derived.WalkLawsBesides
import Derived.Deep.QuietTactic
import Derived.BigQuiet

namespace Go.Proofs.Qxb6604199a
open Go.ChangeShapes Go.WideShapes Go.ChangeAt Go.RowKit

/-- The query's text ahead of the condition. -/
def preL : List UInt8 := [10, 9, 9, 83, 69, 76, 69, 67, 84, 32, 104, 46, 105, 100, 58, 58, 116, 101, 120, 116, 44, 32, 99, 111, 97, 108, 101, 115, 99, 101, 40, 104, 46, 114, 101, 102, 44, 32, 39, 39, 41, 44, 32, 104, 46, 115, 116, 97, 116, 117, 115, 44, 32, 99, 111, 97, 108, 101, 115, 99, 101, 40, 104, 46, 111, 114, 100, 101, 114, 95, 114, 101, 102, 44, 32, 39, 39, 41, 44, 32, 99, 111, 97, 108, 101, 115, 99, 101, 40, 104, 46, 114, 101, 97, 115, 111, 110, 44, 32, 39, 39, 41, 44, 10, 9, 9, 9, 104, 46, 116, 116, 108, 95, 115, 101, 99, 111, 110, 100, 115, 44, 32, 104, 46, 99, 114, 101, 97, 116, 101, 100, 95, 97, 116, 44, 32, 104, 46, 101, 120, 112, 105, 114, 101, 115, 95, 97, 116, 44, 32, 108, 46, 115, 107, 117, 44, 32, 108, 46, 113, 116, 121, 44, 32, 108, 46, 116, 97, 107, 101, 110, 95, 102, 114, 111, 109, 44, 32, 115, 116, 97, 116, 101, 109, 101, 110, 116, 95, 116, 105, 109, 101, 115, 116, 97, 109, 112, 40, 41, 10, 9, 9, 70, 82, 79, 77, 32, 104, 111, 108, 100, 115, 32, 65, 83, 32, 104, 44, 32, 76, 65, 84, 69, 82, 65, 76, 32, 40, 10, 9, 9, 9, 83, 69, 76, 69, 67, 84, 32, 115, 107, 117, 44, 32, 113, 116, 121, 44, 32, 108, 105, 110, 101, 95, 110, 111, 44, 32, 116, 97, 107, 101, 110, 95, 102, 114, 111, 109, 32, 70, 82, 79, 77, 32, 104, 111, 108, 100, 95, 108, 105, 110, 101, 115, 32, 87, 72, 69, 82, 69, 32, 104, 111, 108, 100, 95, 105, 100, 32, 61, 32, 104, 46, 105, 100, 32, 79, 70, 70, 83, 69, 84, 32, 48, 10, 9, 9, 41, 32, 65, 83, 32, 108, 10, 9, 9, 87, 72, 69, 82, 69, 32]
/-- The query's text behind the condition. -/
def postL : List UInt8 := [10, 9, 9, 79, 82, 68, 69, 82, 32, 66, 89, 32, 104, 46, 114, 101, 102, 95, 110, 111, 32, 68, 69, 83, 67, 44, 32, 104, 46, 105, 100, 44, 32, 108, 46, 108, 105, 110, 101, 95, 110, 111]
def preB : ByteArray := ⟨preL.toArray⟩
def postB : ByteArray := ⟨postL.toArray⟩
/-- holdsQuery's answer. -/
def qry (c : ByteArray) : ByteArray := preB ++ c ++ postB
theorem preB_size : preB.size = 332 := by kernel_rfl
theorem postB_size : postB.size = 42 := by kernel_rfl
theorem qry_size (c : ByteArray) : (qry c).size = c.size + 374 := by
  unfold qry; rw [ByteArray.size_append, ByteArray.size_append, preB_size, postB_size]; omega

theorem qry_list (c : ByteArray) : (qry c).toList = preL ++ c.toList ++ postL := by
  rw [ByteArray.toList_eq, ByteArray.toList_eq]
  unfold qry preB postB
  simp
theorem ret_bool {a b : Bool} (h : a = b) : Ending.returned (.bool a) = .returned (.bool b) := by rw [h]
theorem qry_inj (a b : ByteArray) : (((qry a).toList == (qry b).toList) == (a.toList == b.toList)) = true := by
  rw [qry_list, qry_list]
  by_cases h : a.toList = b.toList
  · rw [h]; simp
  · have h1 : (a.toList == b.toList) = false := by simpa using h
    have h2 : (preL ++ a.toList ++ postL == preL ++ b.toList ++ postL) = false := by
      simp only [beq_eq_false_iff_ne, ne_eq]
      intro e
      exact h (List.append_cancel_left (List.append_cancel_right e))
    rw [h1, h2]; rfl

set_option maxRecDepth 100000 in
theorem query23 (c : ByteArray) (w : World) (hc : c.size ≤ 1048576) :
    Calls Try.prog 23 #[.string c] w fun e w' => e = .returned (.string (qry c)) ∧ w' = w := by
  go_enter Try.func23, Try.ntmps23
  go_wp2
  go_ret
  exact ⟨rfl, rfl⟩

theorem query14 (c : ByteArray) (w : World) (hc : c.size ≤ 1048576) :
    Calls Try.prog 14 #[.string c] w fun e w' => e = .returned (.string (qry c)) ∧ w' = w := by
  go_enter Try.func14, Try.ntmps14
  go_wp2_with (go_at_call 23; refine (query23 _ _ hc).mono ?_; rintro e w' ⟨rfl, rfl⟩)
  go_ret
  exact ⟨rfl, rfl⟩
end Go.Proofs.Qxb6604199a
