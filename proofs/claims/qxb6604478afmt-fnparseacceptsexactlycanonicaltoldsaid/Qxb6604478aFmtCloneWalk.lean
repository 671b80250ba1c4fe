import Derived.Test.Qxb6604478aFmtParseWalk
import Derived.Deep.OwnRows
namespace Go.Proofs.Qxb6604478aFmt
open Go.RowKit

/-! ### bCloneMacB1 -/
theorem clone5_nil (w : World) : Calls Tryf.prog 5 #[.slice none 0 0] w fun e w' => e = .returned (.slice none 0 0) ∧ w' = w := by
  have he : ∀ w : World, (binOp .eql 22 (.slice none 0 0) (.slice none 0 0)).run Tryf.prog w = .ok (.bool true) w := fun _ => rfl
  go_enter Tryf.func5, Tryf.ntmps5
  go_wp2
  go_ret
  exact ⟨rfl, rfl⟩

theorem made_size (n : Nat) : (madeCells #[Value.int .u8 0] n).size = n := by simp [madeCells]

set_option maxHeartbeats 1000000 in
theorem clone5 (a : Addr) (n c : Nat) (L : List UInt8) (w : World) (hn : n = L.length) (hle : n ≤ 1048576) (hc : ∀ j (h : j < L.length), w.cell? (a.add j) = some (.int .u8 ((L[j]).toNat : Int))) :
    Calls Tryf.prog 5 #[.slice (some a) n c] w fun e w' => e = .returned (.slice (some ⟨w.heap.size, 0, none⟩) n n) ∧ HasAt w' w.heap.size 0 L ∧ Below w.heap.size w w' ∧ w.heap.size < w'.heap.size := by
  have hmk := run_make_row' (P := Tryf.prog) 22 5 (.int .u8 0) 1 Tryf.underlying22 info5 rfl .i64 .i64 n (by omega) (by omega)
  have HN := hidp hn
  have HC := hidp hc
  clear hn hc
  have he : ∀ w : World, (binOp .eql 22 (.slice (some a) n c) (.slice none 0 0)).run Tryf.prog w = .ok (.bool false) w := fun _ => rfl
  go_enter Tryf.func5, Tryf.ntmps5
  go_wp2
  go_loopw [4] (fun vi wr => ∃ (i : Nat) (cur : Array Value), vi = .int .i64 (i : Int) ∧ i ≤ n ∧ wr.heap[w.heap.size]? = some (.cells cur 5 (0, 0)) ∧ cur.size = n ∧ Hid (∀ j (h : j < L.length), j < i → cur[j]? = some (.int .u8 ((L[j]).toNat : Int))) ∧ Below w.heap.size w wr) (fun vi _ => n - (intOf vi).toNat)
  case atStart => exact ⟨0, _, rfl, Nat.zero_le _, heap_alloc_new _ _, made_size n, hidp fun j _ h => by omega, (Below.refl _ _).alloc (Nat.le_refl _) _⟩
  case round =>
    obtain ⟨i, cur, rfl, hi, hrow, hsz, HI, hbl⟩ := hrel
    by_cases hlt : i < n
    · have hlt' : (i : Int) < (n : Int) := by omega
      have hiL : i < L.length := by rw [← HN.out]; exact hlt
      have hci := HC.out i hiL
      have hcr := (World.cell?_of_block (w := w) (w' := wr) (a := a.add i) (hbl.block _ (cell_lt hci))).trans hci
      obtain ⟨ov, hold⟩ : ∃ ov, wr.cell? ⟨w.heap.size, i, none⟩ = some ov := ⟨_, by rw [cell_of_row wr _ i _ 5 (0, 0) hrow]; exact Array.getElem?_eq_getElem (by omega)⟩
      have hfr := frozen_of_row wr w.heap.size i cur 5 hrow
      have HROW := hidp hrow
      have HSZ := hidp hsz
      have HBL := hidp hbl
      have HX := hidp (rfl : (L[i]).toNat = (L[i]).toNat)
      obtain ⟨x, hx⟩ : ∃ x, (L[i]).toNat = x := ⟨_, rfl⟩
      rw [hx] at hcr
      have HXx := hidp hx
      clear hrow hsz hbl hci hx HX
      go_wp2
      go_roundw
      case rel =>
        refine ⟨i + 1, cur.setIfInBounds i (.int .u8 (x : Int)), by go_num, by omega, heap_setCell_same wr _ i _ 5 _ HROW.out, by simp [HSZ.out], hidp fun j h hj => ?_, HBL.out.setCell (by simp) _⟩
        rw [Array.getElem?_setIfInBounds]
        split
        · rename_i he
          subst he
          rw [if_pos (by rw [HSZ.out]; exact hlt), HXx.out]
        · exact HI.out j h (by omega)
      case measure => simp [intOf]; omega
    · have hlt' : ¬ (i : Int) < (n : Int) := by omega
      have HROW := hidp hrow
      have HBL := hidp hbl
      clear hrow hsz hbl
      go_wp2
      go_ret
      refine ⟨rfl, fun j hj => ?_, HBL.out, lt_of_block HROW.out⟩
      rw [Nat.zero_add, cell_of_row wr _ j _ 5 (0, 0) HROW.out]
      exact HI.out j hj (by rw [← HN.out] at hj; omega)
end Go.Proofs.Qxb6604478aFmt
