import Derived.Test.Qxb6604511aFmtFacts
import Derived.Lib.RuneCount
import Derived.Laws.RangeString
import Derived.Laws.RangeAny
import Derived.LoopTactic
namespace Go.Proofs.Qxb6604511aFmt
open Go.RowKit Go.Extern.Stop Go.Stop Go.Extern

/-! ### Plain -/
/-- Where character number k begins, seen from place pos, which is character number n. -/
def cutAt (s : ByteArray) (k : Nat) : Nat → Nat → Nat → Option Nat
  | 0, _, _ => none
  | fuel + 1, pos, n => if pos < s.size then (if n = k then some pos else cutAt s k fuel (pos + (Utf8.decode s pos).2) (n + 1)) else none
def cut (s : ByteArray) : Option Nat := cutAt s 4096 s.size 0 0
theorem cutAt_end (s : ByteArray) (k fuel pos n : Nat) (h : ¬ pos < s.size) : cutAt s k fuel pos n = none := by
  cases fuel <;> simp [cutAt, h]
theorem cutAt_lt (s : ByteArray) (k : Nat) : ∀ fuel pos n i, cutAt s k fuel pos n = some i → i < s.size
  | 0, _, _, _, h => by simp [cutAt] at h
  | f + 1, pos, n, i, h => by
    rw [cutAt] at h
    split at h
    · split at h
      · simp at h; omega
      · exact cutAt_lt s k f _ _ i h
    · cases h
theorem cutAt_short (s : ByteArray) (k : Nat) (hs : s.size ≤ k) : ∀ fuel pos n, n ≤ pos → cutAt s k fuel pos n = none
  | 0, _, _, _ => rfl
  | f + 1, pos, n, h => by
    rw [cutAt]
    split
    · rename_i hp
      have hw := Lib.decode_width_pos s pos hp
      rw [if_neg (by omega)]
      exact cutAt_short s k hs f _ _ (by omega)
    · rfl
theorem cut_lt {s : ByteArray} {i : Nat} (h : cut s = some i) : i < s.size := cutAt_lt s _ _ _ _ i h
theorem cut_short {s : ByteArray} (h : s.size ≤ 4096) : cut s = none := cutAt_short s 4096 h _ _ _ (Nat.le_refl _)
theorem below_iter {B : Nat} {w w1 : World} (h : Below B w w1) (hB : B ≤ w1.heap.size) (s : ByteArray) (p : Nat) : Below B w (w1.iter s p) := h.alloc hB _

/-! ### utf8.RuneCountInString, zzRunes, zzCutAt -/
set_option maxRecDepth 1000000 in
theorem runes23 (s : ByteArray) (w : World) (hs : s.size < 9223372036854775807) :
    Calls Tryf.prog 23 #[.string s] w fun e w' => e = .returned (.int .i64 (Lib.runeCount s)) ∧ Below w.heap.size w w' := by
  go_enter Tryf.func23, Tryf.ntmps23
  go_wp2
  go_loopw [2] (fun n w' => ∃ (pos b acc : Nat), w' = w.iter s pos ∧ n = .int .i64 acc ∧ acc + Lib.runeCountFrom s b pos = Lib.runeCount s ∧ s.size ≤ pos + b ∧ acc ≤ pos) (fun _ w' => s.size - w'.iterPos w.heap.size)
  case atStart => exact ⟨0, s.size, 0, rfl, rfl, by simp [Lib.runeCount], by omega, Nat.le_refl _⟩
  case round =>
    obtain ⟨pos, b, acc, rfl, rfl, hc, hb, ha⟩ := hrel
    by_cases hp : pos < s.size
    · have hnx : ∀ ty, (Instr.next (.pointer (some ⟨w.heap.size, 0, none⟩)) true ty).run Tryf.prog (w.iter s pos) = _ := fun ty => run_next_any w s pos ty hp
      have hwd := Lib.decode_width_pos s pos hp
      go_wp2
      go_roundw
      case rel =>
        cases b with
        | zero => omega
        | succ b =>
          refine ⟨pos + (Utf8.decode s pos).2, b, acc + 1, rfl, by go_num, ?_, by omega, by omega⟩
          rw [← hc]
          simp [Lib.runeCountFrom, hp]
          omega
      case measure =>
        simp
        omega
    · have hnx : ∀ ty, (Instr.next (.pointer (some ⟨w.heap.size, 0, none⟩)) true ty).run Tryf.prog (w.iter s pos) = _ := fun ty => run_next_end w s pos ty hp
      go_wp2
      go_ret
      rw [Lib.runeCountFrom_end s b pos hp, Nat.add_zero] at hc
      subst hc
      exact ⟨rfl, below_iter (Below.refl _ _) (Nat.le_refl _) _ _⟩
set_option maxRecDepth 1000000 in
theorem runes12 (s : ByteArray) (w : World) (hs : s.size < 9223372036854775807) :
    Calls Tryf.prog 12 #[.string s] w fun e w' => e = .returned (.int .i64 (Lib.runeCount s)) ∧ Below w.heap.size w w' := by
  go_enter Tryf.func12, Tryf.ntmps12
  go_wp2
  go_loopw [3] (fun n w' => ∃ (pos b acc : Nat), w' = w.iter s pos ∧ n = .int .i64 acc ∧ acc + Lib.runeCountFrom s b pos = Lib.runeCount s ∧ s.size ≤ pos + b ∧ acc ≤ pos) (fun _ w' => s.size - w'.iterPos w.heap.size)
  case atStart => exact ⟨0, s.size, 0, rfl, rfl, by simp [Lib.runeCount], by omega, Nat.le_refl _⟩
  case round =>
    obtain ⟨pos, b, acc, rfl, rfl, hc, hb, ha⟩ := hrel
    by_cases hp : pos < s.size
    · have hnx : ∀ ty, (Instr.next (.pointer (some ⟨w.heap.size, 0, none⟩)) true ty).run Tryf.prog (w.iter s pos) = _ := fun ty => run_next_any w s pos ty hp
      have hwd := Lib.decode_width_pos s pos hp
      go_wp2
      go_roundw
      case rel =>
        cases b with
        | zero => omega
        | succ b =>
          refine ⟨pos + (Utf8.decode s pos).2, b, acc + 1, rfl, by go_num, ?_, by omega, by omega⟩
          rw [← hc]
          simp [Lib.runeCountFrom, hp]
          omega
      case measure =>
        simp
        omega
    · have hnx : ∀ ty, (Instr.next (.pointer (some ⟨w.heap.size, 0, none⟩)) true ty).run Tryf.prog (w.iter s pos) = _ := fun ty => run_next_end w s pos ty hp
      go_wp2
      go_ret
      rw [Lib.runeCountFrom_end s b pos hp, Nat.add_zero] at hc
      subst hc
      exact ⟨rfl, below_iter (Below.refl _ _) (Nat.le_refl _) _ _⟩
def cutPost (s : ByteArray) (e : Ending) : Prop := match cut s with
  | some i => e = .returned (.tuple #[.int .i64 (i : Int), .bool true])
  | none => e = .returned (.tuple #[.int .i64 (s.size : Int), .bool false])
set_option maxRecDepth 1000000 in
theorem cut11 (s : ByteArray) (w : World) (hs : s.size < 9223372036854775807) :
    Calls Tryf.prog 11 #[.string s, .int .i64 4096] w fun e w' => cutPost s e ∧ Below w.heap.size w w' := by
  go_enter Tryf.func11, Tryf.ntmps11
  go_wp2
  go_loopw [6] (fun n w' => ∃ (pos b acc : Nat), w' = w.iter s pos ∧ n = .int .i64 acc ∧ Hid (cutAt s 4096 b pos acc = cut s) ∧ s.size ≤ pos + b ∧ acc ≤ pos) (fun _ w' => s.size - w'.iterPos w.heap.size)
  case atStart => exact ⟨0, s.size, 0, rfl, rfl, (rfl : cutAt s 4096 s.size 0 0 = cut s), by omega, Nat.le_refl _⟩
  case round =>
    obtain ⟨pos, b, acc, rfl, rfl, HC, hb, ha⟩ := hrel
    by_cases hp : pos < s.size
    · have hnx : ∀ ty, (Instr.next (.pointer (some ⟨w.heap.size, 0, none⟩)) true ty).run Tryf.prog (w.iter s pos) = _ := fun ty => run_next_any w s pos ty hp
      have hwd := Lib.decode_width_pos s pos hp
      obtain ⟨b, rfl⟩ : ∃ b', b = b' + 1 := ⟨b - 1, by omega⟩
      by_cases hk : acc = 4096
      · subst hk
        go_wp2
        go_ret2
        refine ⟨?_, below_iter (Below.refl _ _) (Nat.le_refl _) _ _⟩
        have hc := HC.out
        rw [cutAt, if_pos hp, if_pos rfl] at hc
        unfold cutPost
        rw [← hc]
        rfl
      · have hk' : ((acc : Int) == 4096) = false := by simp; omega
        go_wp2
        go_roundw
        case rel =>
          have hc := HC.out
          rw [cutAt, if_pos hp, if_neg hk] at hc
          exact ⟨pos + (Utf8.decode s pos).2, b, acc + 1, rfl, by go_num, hc, by omega, by omega⟩
        case measure =>
          simp
          omega
    · have hnx : ∀ ty, (Instr.next (.pointer (some ⟨w.heap.size, 0, none⟩)) true ty).run Tryf.prog (w.iter s pos) = _ := fun ty => run_next_end w s pos ty hp
      go_wp2
      go_ret2
      refine ⟨?_, below_iter (Below.refl _ _) (Nat.le_refl _) _ _⟩
      have hc := HC.out
      rw [cutAt_end s _ _ _ _ hp] at hc
      unfold cutPost
      rw [← hc]
      rfl
end Go.Proofs.Qxb6604511aFmt
