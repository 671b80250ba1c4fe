import Derived.Test.Qxb6604511aFmtEqWalk
import Derived.Lib.AppendStr
import Derived.Lib.VarintMem
import Derived.Deep.DeepCutAuto
namespace Go.Proofs.Qxb6604511aFmt
open Go.RowKit Go.Extern.Stop Go.Stop Go.Extern

/-! ### zzJoin -/
def jn (xs : List ByteArray) : List UInt8 := Lib.join (xs.map (·.data.toList)) [59, 32]
theorem jn_one (x : ByteArray) : jn [x] = x.data.toList := Lib.join_one _ _
theorem jn_snoc (ys : List ByteArray) (x : ByteArray) (h : ys ≠ []) : jn (ys ++ [x]) = jn ys ++ [59, 32] ++ x.data.toList := by
  cases ys with
  | nil => exact absurd rfl h
  | cons y r =>
    unfold jn
    rw [List.cons_append, List.map_cons, List.map_cons, Lib.join_cons, Lib.join_cons, List.map_append]
    simp [Lib.joinTail]
theorem jn_len (xs : List ByteArray) (hx : ∀ x ∈ xs, x.size ≤ 1048800) : ∀ i, i ≤ xs.length → (jn (xs.take i)).length ≤ i * 1048802 := by
  intro i
  induction i with
  | zero => intro _; simp [jn, Lib.join_nil]
  | succ i ih =>
    intro hi
    have hlt : i < xs.length := by omega
    have hm := hx _ (List.getElem_mem hlt)
    have hih := ih (by omega)
    rw [List.take_succ_eq_append_getElem hlt]
    by_cases h0 : xs.take i = []
    · rw [h0, List.nil_append, jn_one]
      simp
      omega
    · rw [jn_snoc _ _ h0]
      simp
      omega
theorem take_ne (xs : List ByteArray) (i : Nat) (h : i < xs.length) (h0 : ¬ i = 0) : xs.take i ≠ [] := by
  intro e
  have := congrArg List.length e
  rw [List.length_take, List.length_nil] at this
  omega
theorem info5 : (Tryf.prog.info? 5).map (fun i => (i.zero, i.size, i.bytes)) = some (some (.int .u8 0), 1, 1) := by kernel_rfl
theorem two_new (w : World) (x y : Value) (t : TypeId) : ∀ j u, [x, y][j]? = some u → (w.alloc (.cells #[x, y] t)).cell? ((⟨w.heap.size, 0, none⟩ : Addr).add j) = some u := by
  intro j u hj
  match j, hj with
  | 0, hj => simp at hj; subst hj; simp [Addr.add]
  | 1, hj => simp at hj; subst hj; simp [Addr.add]
theorem two_one : ∀ u ∈ [Value.int .u8 59, .int .u8 32], u.oneCell' = true := by
  intro u hu
  simp at hu
  rcases hu with rfl | rfl <;> rfl
theorem own_len {w : World} {B n : Nat} {v : Value} {l : List UInt8} (h : w.ownsRow B 5 1 v n (Lib.byteCells l)) : n = l.length := by
  have := h.1
  simp [Lib.byteCells] at this
  omega
theorem conv_own {w : World} {B n c : Nat} {a : Option Addr} {l : List UInt8} (h : w.ownsRow B 5 1 (.slice a n c) n (Lib.byteCells l)) : (convert 45 9 (.slice a n c)).run Tryf.prog w = .ok (.string ⟨l.toArray⟩) w := by
  have hl := own_len h
  rcases h.2 with ⟨e, h0⟩ | ⟨g, cap, cur, e, _, hh, hle, _, hsz, ht⟩
  · simp only [Value.slice.injEq] at e
    obtain ⟨rfl, rfl, rfl⟩ := e
    have hl0 : l = [] := List.eq_nil_of_length_eq_zero (by omega)
    subst hl0
    exact run_convert_bytes_nil w 45 5 Tryf.underlying45 Tryf.underlying5 0 0 9 Tryf.underlying9
  · simp only [Value.slice.injEq] at e
    obtain ⟨rfl, _, rfl⟩ := e
    have h := run_convert_bytes_arg (P := Tryf.prog) w 45 5 Tryf.underlying45 Tryf.underlying5 g 0 n c (l.map fun b => (b.toNat : Int)) (by simp; omega) (fun i hi => by
      rw [Nat.zero_add, cell_of_row w g i cur 5 (0, 0) hh]
      have h2 : (cur.toList.take (n * 1))[i]? = (Lib.byteCells l)[i]? := by rw [ht]
      rw [List.getElem?_take, if_pos (by omega)] at h2
      have hil : i < l.length := by omega
      simp only [Array.getElem?_toList] at h2
      rw [h2]
      simp [Lib.byteCells, List.getD, List.getElem?_eq_getElem hil]) 9 Tryf.underlying9
    rw [h]
    have e : strOfNums (l.map fun b => (b.toNat : Int)) = ⟨l.toArray⟩ := by
      apply ByteArray.ext
      unfold strOfNums
      have hf : ((fun n : Int => UInt8.ofNat n.toNat) ∘ fun b : UInt8 => (b.toNat : Int)) = id := by funext b; simp
      rw [List.map_map, hf, List.map_id]
    rw [e]

set_option maxHeartbeats 2000000 in
set_option maxRecDepth 100000 in
theorem join18 (v : Value) (xs : List ByteArray) (w : World) (hv : Strs w v xs) (hl : xs.length ≤ 65536) (hx : ∀ x ∈ xs, x.size ≤ 1048800) :
    Calls Tryf.prog 18 #[v] w fun e w' => e = .returned (.string ⟨(jn xs).toArray⟩) ∧ Below w.heap.size w w' := by
  obtain ⟨i0, hi0, hz0, hz1, hz2⟩ := info_parts info5
  obtain ⟨a, n, c, rfl, hn, hcell⟩ := hv
  have HN := hidp hn
  have HC := hidp hcell
  have HX := hidp hx
  have hnb : n ≤ 65536 := by omega
  clear hn hcell hx
  have HI := hidp hi0
  clear hi0
  go_enter Tryf.func18, Tryf.ntmps18
  go_wp2_with fail
  go_loopw [3, 4] (fun vb vi wr => ∃ (i : Nat) (ba : Option Addr) (bn bc : Nat), vi = .int .i64 (i : Int) ∧ i ≤ n ∧ vb = .slice ba bn bc ∧ wr.ownsRow w.heap.size 5 1 (.slice ba bn bc) bn (Lib.byteCells (jn (xs.take i))) ∧ Below w.heap.size w wr) (fun _ vi _ => n - (intOf vi).toNat)
  case atStart => exact ⟨0, _, 0, 0, rfl, Nat.zero_le _, rfl, World.ownsRow_lit w #[] 0 (Nat.le_refl _) (by decide) rfl, (Below.refl _ _).alloc (Nat.le_refl _) _⟩
  case round =>
    obtain ⟨i, ba, bn, bc, rfl, hi, rfl, hown, hbl⟩ := hrel
    have hz := hbl.size
    have hbn := own_len hown
    have hjl := jn_len xs HX.out i (by rw [← HN.out]; exact hi)
    have hbn' : bn ≤ 68734287872 := by omega
    by_cases hlt : i < n
    · obtain ⟨ad, rfl, hcs⟩ := HC.out (by omega)
      have hiL : i < xs.length := by rw [← HN.out]; exact hlt
      have hci := hcs i hiL
      have hsx := HX.out _ (List.getElem_mem hiL)
      obtain ⟨x, hx⟩ : ∃ x, xs[i] = x := ⟨_, rfl⟩
      rw [hx] at hci hsx
      have hcr := (World.cell?_of_block (w := w) (w' := wr) (a := ad.add i) (hbl.block _ (cell_lt hci))).trans hci
      have hadl := cell_lt hci
      have hlt' : (i : Int) < (n : Int) := by omega
      have HTS := hidp (show xs.take (i + 1) = xs.take i ++ [x] by rw [List.take_succ_eq_append_getElem hiL, hx])
      have HOW := hidp hown
      have HBL := hidp hbl
      have hob := own_lt hown
      have HOB := hidp hob
      clear hx hcs hbl hown hbn hjl hob
      obtain ⟨J0, hJ0⟩ : ∃ J0, jn (xs.take i) = J0 := ⟨_, rfl⟩
      obtain ⟨J1, hJ1⟩ : ∃ J1, J1 = J0 ++ (if i = 0 then [] else [59, 32]) := ⟨_, rfl⟩
      have HJ1 := hidp hJ1
      have HJS := hidp (show jn (xs.take (i + 1)) = J1 ++ x.data.toList by
        rw [hJ1, HTS.out, ← hJ0]
        by_cases h0 : i = 0
        · rw [if_pos h0, h0, List.take_zero, List.nil_append, jn_one]; simp [jn, Lib.join_nil]
        · rw [if_neg h0, jn_snoc _ _ (take_ne xs i hiL h0)])
      rw [hJ0] at HOW
      clear hJ0 hJ1 hci HTS
      go_upto_if 13 with fail
      go_cut [3] (fun s3 wx => ∃ (ba : Option Addr) (bn bc : Nat), s3 = .slice ba bn bc ∧ bn ≤ 68734287900 ∧ wx.ownsRow w.heap.size 5 1 (.slice ba bn bc) bn (Lib.byteCells J1) ∧ Below w.heap.size w wx)
      case first =>
        by_cases hi1 : i = 0
        · subst hi1
          have HO := hidp (show wr.ownsRow w.heap.size 5 1 (.slice ba bn bc) bn (Lib.byteCells J1) by rw [HJ1.out]; simpa using HOW.out)
          go_wp2_with fail
          go_meet
          case rel => exact ⟨ba, bn, bc, rfl, by omega, HO.out, HBL.out⟩
        · have hi1' : (0 : Int) < (i : Int) := by omega
          have HJ2 := hidp (show J1 = J0 ++ [59, 32] by rw [HJ1.out, if_neg hi1])
          clear hi1
          go_wp2_with (at_builtin; refine wpList_append_lies _ rfl _ _ 45 rfl w.heap.size 5 i0 (.int .u8 0) 1 1 Tryf.underlying45 HI.out hz0 hz1 hz2 rfl (by decide) _ _ _ rfl (HOW.out.alloc _) ⟨wr.heap.size, 0, none⟩ 2 2 [Value.int .u8 59, .int .u8 32] rfl rfl (two_new _ _ _ _) two_one (by decide) ?c3 ?c4 ?c5 _ rfl ?_)
          case c3 => unfold maxLen; omega
          case c4 => omega
          case c5 => first | omega | (simp; omega)
          intro g c2 w2 hown2 hgrow hat hlt2
          have HO2 := hidp (show w2.ownsRow w.heap.size 5 1 (.slice (some ⟨g, 0, none⟩) (bn + 2) c2) (bn + 2) (Lib.byteCells J1) by
            rw [HJ2.out, Lib.byteCells_append]; exact hown2)
          have HB2 := hidp ((HBL.out.alloc hz _).grown hgrow (by simp; omega) (fun k e => (HOB.out k e).1))
          clear hown2 hgrow hat hlt2
          go_wp2_with fail
          go_meet
          case rel => exact ⟨_, bn + 2, c2, rfl, by omega, HO2.out, HB2.out⟩
      case rest =>
        obtain ⟨ba2, bn2, bc2, rfl, hbn2, hown2, hbl2⟩ := hcut
        have hcr2 := (World.cell?_of_block (w := w) (w' := wc) (a := ad.add i) (hbl2.block _ hadl)).trans ((World.cell?_of_block (w := w) (w' := wr) (a := ad.add i) (HBL.out.block _ hadl)).symm.trans hcr)
        have HO2 := hidp hown2
        have HB2 := hidp hbl2
        have hz2' := hbl2.size
        clear hown2 hbl2 hcr
        go_wp2_with (at_builtin; refine Lib.wpList_append_own_string _ rfl _ _ 45 9 rfl w.heap.size 5 i0 Tryf.underlying45 Tryf.underlying9 HI.out hz0 hz1 hz2 _ _ _ rfl HO2.out x rfl ?c3 ?c4 ?c5 ?_)
        case c3 => unfold maxLen; omega
        case c4 => omega
        case c5 => omega
        intro v3 w3 hown3 hgrow _
        obtain ⟨a3, n3, c3, hv3, hn3⟩ : ∃ a3 n3 c3, v3 = .slice a3 n3 c3 ∧ n3 = bn2 + x.size := by
          rcases hown3.2 with ⟨e, h0⟩ | ⟨g, cap, cur, e, _⟩
          · exact ⟨_, _, _, e, by omega⟩
          · exact ⟨_, _, _, e, rfl⟩
        subst hv3
        have HO3 := hidp (show w3.ownsRow w.heap.size 5 1 (.slice a3 n3 c3) n3 (Lib.byteCells (jn (xs.take (i + 1)))) by
          rw [HJS.out, Lib.byteCells_append, hn3]; rw [hn3] at hown3; exact hown3)
        have HB3 := hidp (HB2.out.grown hgrow (by omega) (fun k e => (own_lt HO2.out k e).1))
        clear hown3 hgrow hn3
        go_wp2
        go_roundw
        case rel => exact ⟨i + 1, a3, n3, c3, by go_num, by omega, rfl, HO3.out, HB3.out⟩
        case measure => simp [intOf]; omega
    · have hlt' : ¬ (i : Int) < (n : Int) := by omega
      have hie : xs.take i = xs := List.take_of_length_le (by have := HN.out; omega)
      rw [hie] at hown
      have hcv := conv_own hown
      have HBL := hidp hbl
      clear hown hbl hbn hjl hie
      go_wp2
      go_ret
      exact ⟨rfl, HBL.out⟩
end Go.Proofs.Qxb6604511aFmt
