import Derived.Test.Qxb6604511aFmtShortWalk
import Derived.BigQuiet
import Derived.Deep.QuietTactic
import Derived.Deep.RegionWith
namespace Go.Proofs.Qxb6604511aFmt
open Go.RowKit Go.Extern.Stop Go.Stop Go.Extern
theorem hidp {p : Prop} (h : p) : Hid p := h

/-! ### shortened -/
def dots : ByteArray := ⟨#[46, 46, 46, 32, 97, 110, 100, 32]⟩
def more : ByteArray := ⟨#[32, 109, 111, 114, 101]⟩
def shortPost (s : ByteArray) (e : Ending) : Prop := match cut s with
  | some i => ∃ t : ByteArray, t.size ≤ 100 ∧ (Lib.runeCount (s.extract i s.size) = 1 → t = oneChar) ∧ e = .returned (.string (s.extract 0 i ++ dots ++ t ++ more))
  | none => e = .returned (.string s)
theorem shortPost_none {s : ByteArray} (h : cut s = none) : shortPost s (.returned (.string s)) := by unfold shortPost; rw [h]
theorem shortPost_some {s : ByteArray} {i : Nat} (t : ByteArray) (h : cut s = some i) (h1 : t.size ≤ 100) (h2 : Lib.runeCount (s.extract i s.size) = 1 → t = oneChar) : shortPost s (.returned (.string (s.extract 0 i ++ dots ++ t ++ more))) := by
  unfold shortPost; rw [h]; exact ⟨t, h1, h2, rfl⟩
theorem chars_any (F : Interp) (r : Nat) (w : World) (hF : F.told.answers w.tape) (hr : r ≤ 1048576) : Calls Tryf.prog 24 #[.int .i64 (r : Int)] w fun e w' => ∃ t : ByteArray, e = .returned (.string t) ∧ t.size ≤ 100 ∧ (r = 1 → t = oneChar) ∧ Below w.heap.size w w' := by
  by_cases hr1 : r = 1
  · subst hr1
    exact (chars24_one w).mono fun e w' ⟨h1, h2⟩ => ⟨oneChar, h1, by decide, fun _ => rfl, by rw [h2]; exact Below.refl _ _⟩
  · have hw : (Lit.int .i64 (r : Int)).wf = true := by
      have h1 : IntKind.i64.min = -9223372036854775808 := by decide
      have h2 : IntKind.i64.max = 9223372036854775807 := by decide
      simp only [Lit.wf, h1, h2, Bool.and_eq_true, decide_eq_true_eq]
      omega
    exact (chars24 F (r : Int) w hF (by omega) hw).mono fun e w' ⟨t, h1, h2, h3⟩ => ⟨t, h1, h2, fun h => absurd h hr1, h3⟩

set_option maxRecDepth 1000000 in
theorem short21 (F : Interp) (s : ByteArray) (w : World) (hF : F.told.answers w.tape) (hs : s.size ≤ 1048576) :
    Calls Tryf.prog 21 #[.string s] w fun e w' => shortPost s e ∧ Below w.heap.size w w' := by
  by_cases h : s.size ≤ 4096
  · have h' : (s.size : Int) ≤ 4096 := by omega
    go_enter Tryf.func21, Tryf.ntmps21
    go_wp2
    go_ret
    exact ⟨shortPost_none (cut_short h), Below.refl _ _⟩
  · have h' : ¬ (s.size : Int) ≤ 4096 := by omega
    go_enter Tryf.func21, Tryf.ntmps21
    go_wp2
    go_loopw [3] (fun n w' => ∃ (pos b acc : Nat), w' = w.iter s pos ∧ n = .int .i64 acc ∧ Hid (cutAt s 4096 b pos acc = cut s) ∧ s.size ≤ pos + b ∧ acc ≤ pos) (fun _ w' => s.size - w'.iterPos w.heap.size)
    case atStart => exact ⟨0, s.size, 0, rfl, rfl, (rfl : cutAt s 4096 s.size 0 0 = cut s), by omega, Nat.le_refl _⟩
    case round =>
      obtain ⟨pos, b, acc, rfl, rfl, HC, hb, ha⟩ := hrel
      by_cases hp : pos < s.size
      · have hnx : ∀ ty, (Instr.next (.pointer (some ⟨w.heap.size, 0, none⟩)) true ty).run Tryf.prog (w.iter s pos) = _ := fun ty => run_next_any w s pos ty hp
        have hwd := Lib.decode_width_pos s pos hp
        obtain ⟨b, rfl⟩ : ∃ b', b = b' + 1 := ⟨b - 1, by omega⟩
        by_cases hk : acc = 4096
        · subst hk
          have HCut := hidp (show cut s = some pos by rw [← HC.out, cutAt, if_pos hp, if_pos rfl])
          have hrc := runes23 (s.extract pos s.size) (w.iter s (pos + (Utf8.decode s pos).2)) (by simp; omega)
          have hb0 : Below w.heap.size w (w.iter s (pos + (Utf8.decode s pos).2)) := below_iter (Below.refl _ _) (Nat.le_refl _) _ _
          have HB0 := hidp hb0
          have hle := Lib.runeCount_le (s.extract pos s.size)
          have hle2 : Lib.runeCount (s.extract pos s.size) ≤ 1048576 := by simp at hle; omega
          obtain ⟨r, hr⟩ : ∃ r, Lib.runeCount (s.extract pos s.size) = r := ⟨_, rfl⟩
          have HR := hidp hr
          rw [hr] at hrc hle2
          clear hr hle hb0 HC
          go_wp2_with fail
          refine hrc.mono ?_
          rintro e w2 ⟨rfl, hb2⟩
          have HB2 := hidp (HB0.out.trans (hb2.mono HB0.out.size))
          have hF2 : F.told.answers w2.tape := by rw [HB2.out.tape]; exact hF
          clear hrc hb2
          have hch := fun (wx : World) (hx : F.told.answers wx.tape) => chars_any F r wx hx hle2
          go_wp2_with fail
          go_region_with (refine (hch _ (by exact hF2)).mono ?_; rintro e w3 ⟨t, rfl, ht, h1, hb3⟩)
          all_goals
            go_wp2
            go_ret
            exact ⟨shortPost_some t HCut.out ht (fun h => h1 (HR.out.symm.trans h)), (HB2.out.drew).trans (hb3.mono HB2.out.size)⟩
        · have hk' : ((acc : Int) == 4096) = false := by simp; omega
          go_wp2
          go_roundw
          case rel =>
            have hc := HC.out
            rw [cutAt, if_pos hp, if_neg hk] at hc
            exact ⟨pos + (Utf8.decode s pos).2, b, acc + 1, rfl, by go_num, hc, by omega, by omega⟩
          case measure =>
            simp
            omega
      · have hnx : ∀ ty, (Instr.next (.pointer (some ⟨w.heap.size, 0, none⟩)) true ty).run Tryf.prog (w.iter s pos) = _ := fun ty => run_next_end w s pos ty hp
        go_wp2
        go_ret
        refine ⟨shortPost_none ?_, below_iter (Below.refl _ _) (Nat.le_refl _) _ _⟩
        rw [← HC.out, cutAt_end s _ _ _ _ hp]
end Go.Proofs.Qxb6604511aFmt
