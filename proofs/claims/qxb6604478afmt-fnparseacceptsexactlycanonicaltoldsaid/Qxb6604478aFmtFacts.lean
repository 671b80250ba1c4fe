import Derived.Test.Qxb6604478aFmtRows
import Derived.Stop.CallBack
import Derived.Stop.IfaceNil
import GoSem.ClaimData
import Derived.WalkKit
import Derived.WalkSpells
import Derived.WalkLawsBesides
namespace Go.Proofs.Qxb6604478aFmt
open Go.RowKit Go.Extern.Stop Go.Stop Go.Extern

/-! The closed facts for the walk over fmt's stopped front, at this dump's numbers. -/
theorem call20 (args : Array Value) (w : World) : (callFunc 20 args).run Tryf.prog w = ((FmtStop.errorf #[9, 61] #[29] args).run Tryf.prog w).andThen fun v w' => .ok (.value v) w' :=
  run_callFunc_extern Tryf.func20 (by kernel_rfl) (by kernel_rfl) (by kernel_rfl) (by kernel_rfl) args w
theorem guardF (name : String) (w : World) : (FmtStop.guard name).run Tryf.prog w = .ok () w := by kernel_rfl
theorem fmt0 : FmtStop.printed? ⟨#[114, 101, 97, 100, 105, 110, 103, 32, 109, 97, 99, 97, 114, 111, 111, 110, 32, 105, 100, 101, 110, 116, 105, 102, 105, 101, 114, 58, 32, 37, 119]⟩ 1 = some [(0, 119, false)] := by kernel_rfl
theorem fmt0r (w : World) : (FmtDoors.printed ⟨#[114, 101, 97, 100, 105, 110, 103, 32, 109, 97, 99, 97, 114, 111, 111, 110, 32, 105, 100, 101, 110, 116, 105, 102, 105, 101, 114, 58, 32, 37, 119]⟩ 1).run Tryf.prog w = .ok [(0, 119, false)] w := by kernel_rfl
theorem fmt0z : FmtStop.printed? ⟨#[114, 101, 97, 100, 105, 110, 103, 32, 109, 97, 99, 97, 114, 111, 111, 110, 32, 105, 100, 101, 110, 116, 105, 102, 105, 101, 114, 58, 32, 37, 119]⟩ 0 = some [] := by kernel_rfl
theorem fmt0zr (w : World) : (FmtDoors.printed ⟨#[114, 101, 97, 100, 105, 110, 103, 32, 109, 97, 99, 97, 114, 111, 111, 110, 32, 105, 100, 101, 110, 116, 105, 102, 105, 101, 114, 58, 32, 37, 119]⟩ 0).run Tryf.prog w = .ok [] w := by kernel_rfl
theorem fmt1 : FmtStop.printed? ⟨#[114, 101, 97, 100, 105, 110, 103, 32, 109, 97, 99, 97, 114, 111, 111, 110, 32, 99, 97, 118, 101, 97, 116, 32, 37, 100, 58, 32, 37, 119]⟩ 2 = some [(0, 100, false), (1, 119, false)] := by kernel_rfl
theorem fmt1r (w : World) : (FmtDoors.printed ⟨#[114, 101, 97, 100, 105, 110, 103, 32, 109, 97, 99, 97, 114, 111, 111, 110, 32, 99, 97, 118, 101, 97, 116, 32, 37, 100, 58, 32, 37, 119]⟩ 2).run Tryf.prog w = .ok [(0, 100, false), (1, 119, false)] w := by kernel_rfl
theorem fmt1z : FmtStop.printed? ⟨#[114, 101, 97, 100, 105, 110, 103, 32, 109, 97, 99, 97, 114, 111, 111, 110, 32, 99, 97, 118, 101, 97, 116, 32, 37, 100, 58, 32, 37, 119]⟩ 0 = some [] := by kernel_rfl
theorem fmt1zr (w : World) : (FmtDoors.printed ⟨#[114, 101, 97, 100, 105, 110, 103, 32, 109, 97, 99, 97, 114, 111, 111, 110, 32, 99, 97, 118, 101, 97, 116, 32, 37, 100, 58, 32, 37, 119]⟩ 0).run Tryf.prog w = .ok [] w := by kernel_rfl
theorem fmt2 : FmtStop.printed? ⟨#[102, 105, 101, 108, 100, 32, 111, 102, 32, 116, 121, 112, 101, 32, 37, 100, 32, 99, 117, 116, 32, 115, 104, 111, 114, 116]⟩ 1 = some [(0, 100, false)] := by kernel_rfl
theorem fmt2r (w : World) : (FmtDoors.printed ⟨#[102, 105, 101, 108, 100, 32, 111, 102, 32, 116, 121, 112, 101, 32, 37, 100, 32, 99, 117, 116, 32, 115, 104, 111, 114, 116]⟩ 1).run Tryf.prog w = .ok [(0, 100, false)] w := by kernel_rfl
theorem fmt2z : FmtStop.printed? ⟨#[102, 105, 101, 108, 100, 32, 111, 102, 32, 116, 121, 112, 101, 32, 37, 100, 32, 99, 117, 116, 32, 115, 104, 111, 114, 116]⟩ 0 = some [] := by kernel_rfl
theorem fmt2zr (w : World) : (FmtDoors.printed ⟨#[102, 105, 101, 108, 100, 32, 111, 102, 32, 116, 121, 112, 101, 32, 37, 100, 32, 99, 117, 116, 32, 115, 104, 111, 114, 116]⟩ 0).run Tryf.prog w = .ok [] w := by kernel_rfl
theorem fmt3 : FmtStop.printed? ⟨#[102, 105, 101, 108, 100, 32, 111, 102, 32, 116, 121, 112, 101, 32, 37, 100, 44, 32, 119, 104, 105, 99, 104, 32, 116, 104, 101, 32, 102, 111, 114, 109, 97, 116, 32, 100, 111, 101, 115, 32, 110, 111, 116, 32, 107, 110, 111, 119]⟩ 1 = some [(0, 100, false)] := by kernel_rfl
theorem fmt3r (w : World) : (FmtDoors.printed ⟨#[102, 105, 101, 108, 100, 32, 111, 102, 32, 116, 121, 112, 101, 32, 37, 100, 44, 32, 119, 104, 105, 99, 104, 32, 116, 104, 101, 32, 102, 111, 114, 109, 97, 116, 32, 100, 111, 101, 115, 32, 110, 111, 116, 32, 107, 110, 111, 119]⟩ 1).run Tryf.prog w = .ok [(0, 100, false)] w := by kernel_rfl
theorem fmt3z : FmtStop.printed? ⟨#[102, 105, 101, 108, 100, 32, 111, 102, 32, 116, 121, 112, 101, 32, 37, 100, 44, 32, 119, 104, 105, 99, 104, 32, 116, 104, 101, 32, 102, 111, 114, 109, 97, 116, 32, 100, 111, 101, 115, 32, 110, 111, 116, 32, 107, 110, 111, 119]⟩ 0 = some [] := by kernel_rfl
theorem fmt3zr (w : World) : (FmtDoors.printed ⟨#[102, 105, 101, 108, 100, 32, 111, 102, 32, 116, 121, 112, 101, 32, 37, 100, 44, 32, 119, 104, 105, 99, 104, 32, 116, 104, 101, 32, 102, 111, 114, 109, 97, 116, 32, 100, 111, 101, 115, 32, 110, 111, 116, 32, 107, 110, 111, 119]⟩ 0).run Tryf.prog w = .ok [] w := by kernel_rfl
def shape3 : List UInt8 := [5, 3, 0, 0, 0, 0, 0, 0, 0, 105, 110, 116]
theorem op3_100w (name : String) (x : Int) (w : World) : (FmtStop.operand name true 100 false (.iface 3 (.int .i64 x))).run Tryf.prog w = .ok (shape3, Go.Extern.Stop.digits 8 (x % 2 ^ 64).toNat) w := by kernel_rfl
theorem ptr57 (w : World) : (FmtStop.ptrTo "errors.errorString").run Tryf.prog w = .ok 57 w := by kernel_rfl
theorem elem57 (w : World) : (elemOf 57).run Tryf.prog w = .ok 59 w := by kernel_rfl
theorem isError57 (w : World) : (FmtDoors.textMethod 57 "Error").run Tryf.prog w = .ok true w := by kernel_rfl
theorem ptr62 (w : World) : (FmtStop.ptrTo "fmt.wrapError").run Tryf.prog w = .ok 62 w := by kernel_rfl
theorem elem62 (w : World) : (elemOf 62).run Tryf.prog w = .ok 84 w := by kernel_rfl
theorem isError62 (w : World) : (FmtDoors.textMethod 62 "Error").run Tryf.prog w = .ok true w := by kernel_rfl
def shape52 : List UInt8 := FmtStop.intCode .u64 :: FmtStop.pack "uint64".toUTF8.data.toList
theorem op52_100w (name : String) (x : Int) (w : World) : (FmtStop.operand name true 100 false (.iface 52 (.int .u64 x))).run Tryf.prog w = .ok (shape52, Go.Extern.Stop.digits 8 (x % 2 ^ 64).toNat) w := by kernel_rfl
theorem opPlain57_119w (name : String) (a : Addr) (s : ByteArray) (w : World) (hc : w.cell? a = some (.string s)) :
    ∃ p : List UInt8, (FmtStop.operand name true 119 false (.iface 57 (.pointer (some a)))).run Tryf.prog w = .ok (p, s.data.toList) w := by
  refine ⟨14 :: FmtStop.pack Tryf.t57.str.toUTF8.data.toList, ?_⟩
  have h1 : (typeStr 57).run Tryf.prog w = .ok Tryf.t57.str w := by kernel_rfl
  have d2 : Tryf.t57.desc = .pointer 59 := rfl
  have d3 : Tryf.t59.desc = .named "errors.errorString" 58 := rfl
  simp [FmtStop.operand, h1, d2, d3, run_load, hc]

attribute [local go_sem] call20 guardF fmt0 fmt0r fmt1 fmt1r fmt2 fmt2r fmt3 fmt3r fmt0z fmt0zr fmt1z fmt1zr fmt2z fmt2zr fmt3z fmt3zr op3_100w op52_100w ptr57 elem57 isError57 ptr62 elem62 isError62

/-- errors.New: a new box. -/
theorem new13 (t : ByteArray) (w : World) : Calls Tryf.prog 13 #[.string t] w fun e w' => e = .returned (.iface 57 (.pointer (some ⟨w.heap.size, 0, none⟩))) ∧ w' = w.alloc (.cells #[.string t] 59) := by
  go_enter Tryf.func13, Tryf.ntmps13
  go_wp2
  go_ret
  exact ⟨rfl, rfl⟩

/-- fmt.Errorf of one number: an error of errors.New's make comes back. -/
theorem errorf2 (F : Interp) (g : Nat) (t : Int) (w : World) (hF : F.answers w.tape) (hc : w.cell? ⟨g, 0, none⟩ = some (.iface 52 (.int .u64 t))) :
    Calls Tryf.prog 15 #[.string ⟨#[102, 105, 101, 108, 100, 32, 111, 102, 32, 116, 121, 112, 101, 32, 37, 100, 32, 99, 117, 116, 32, 115, 104, 111, 114, 116]⟩, .slice (some ⟨g, 0, none⟩) 1 1] w fun e w' => ∃ s, e = .returned (.iface 57 (.pointer (some ⟨w.heap.size, 0, none⟩))) ∧ w' = (w.alloc (.cells #[.string s] 59)).drew := by
  have hF' := answers_open hF
  go_enter Tryf.func15, Tryf.ntmps15
  go_wp2
  go_ret
  exact ⟨_, rfl, rfl⟩
/-- fmt.Errorf of one number: an error of errors.New's make comes back. -/
theorem errorf3 (F : Interp) (g : Nat) (t : Int) (w : World) (hF : F.answers w.tape) (hc : w.cell? ⟨g, 0, none⟩ = some (.iface 52 (.int .u64 t))) :
    Calls Tryf.prog 15 #[.string ⟨#[102, 105, 101, 108, 100, 32, 111, 102, 32, 116, 121, 112, 101, 32, 37, 100, 44, 32, 119, 104, 105, 99, 104, 32, 116, 104, 101, 32, 102, 111, 114, 109, 97, 116, 32, 100, 111, 101, 115, 32, 110, 111, 116, 32, 107, 110, 111, 119]⟩, .slice (some ⟨g, 0, none⟩) 1 1] w fun e w' => ∃ s, e = .returned (.iface 57 (.pointer (some ⟨w.heap.size, 0, none⟩))) ∧ w' = (w.alloc (.cells #[.string s] 59)).drew := by
  have hF' := answers_open hF
  go_enter Tryf.func15, Tryf.ntmps15
  go_wp2
  go_ret
  exact ⟨_, rfl, rfl⟩
/-- fmt.Errorf that wraps an error of errors.New's make. -/
theorem errorf0 (F : Interp) (g : Nat) (a : Addr) (t : ByteArray) (w : World) (hF : F.answers w.tape) (hc : w.cell? ⟨g, 0, none⟩ = some (.iface 57 (.pointer (some a)))) (ha : w.cell? a = some (.string t)) :
    Calls Tryf.prog 15 #[.string ⟨#[114, 101, 97, 100, 105, 110, 103, 32, 109, 97, 99, 97, 114, 111, 111, 110, 32, 105, 100, 101, 110, 116, 105, 102, 105, 101, 114, 58, 32, 37, 119]⟩, .slice (some ⟨g, 0, none⟩) 1 1] w fun e w' => ∃ s, e = .returned (.iface 62 (.pointer (some ⟨w.heap.size, 0, none⟩))) ∧ w' = (w.alloc (.cells #[.string s, .iface 57 (.pointer (some a))] 84)).drew := by
  have hF' := answers_open hF
  obtain ⟨p, hop⟩ := opPlain57_119w "fmt.errorf" a t w ha
  go_enter Tryf.func15, Tryf.ntmps15
  go_wp2
  go_ret
  exact ⟨_, rfl, rfl⟩
theorem errorf1 (F : Interp) (g : Nat) (k : Int) (a : Addr) (t : ByteArray) (w : World) (hF : F.answers w.tape) (hc : w.cell? ⟨g, 0, none⟩ = some (.iface 3 (.int .i64 k))) (hc1 : w.cell? ⟨g, 1, none⟩ = some (.iface 57 (.pointer (some a)))) (ha : w.cell? a = some (.string t)) :
    Calls Tryf.prog 15 #[.string ⟨#[114, 101, 97, 100, 105, 110, 103, 32, 109, 97, 99, 97, 114, 111, 111, 110, 32, 99, 97, 118, 101, 97, 116, 32, 37, 100, 58, 32, 37, 119]⟩, .slice (some ⟨g, 0, none⟩) 2 2] w fun e w' => ∃ s, e = .returned (.iface 62 (.pointer (some ⟨w.heap.size, 0, none⟩))) ∧ w' = (w.alloc (.cells #[.string s, .iface 57 (.pointer (some a))] 84)).drew := by
  have hF' := answers_open hF
  obtain ⟨p, hop⟩ := opPlain57_119w "fmt.errorf" a t w ha
  go_enter Tryf.func15, Tryf.ntmps15
  go_wp2
  go_ret
  exact ⟨_, rfl, rfl⟩
end Go.Proofs.Qxb6604478aFmt
