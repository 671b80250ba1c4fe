import Derived.Test.Qxb6604478aFmtBytesWalk
import Derived.Laws.BytesArg
import Derived.Deep.QuietTactic
import Derived.BigQuiet
namespace Go.Proofs.Qxb6604478aFmt
open Go.RowKit

/-! ### bytes.Equal, bEqMacB1, (*Macaroon).ID -/
theorem conv_str (w : World) (v : Value) (l : List UInt8) (h : DV w v l) : (convert 22 9 v).run Tryf.prog w = .ok (.string ⟨l.toArray⟩) w := by
  rcases h with ⟨rfl, rfl⟩ | ⟨D, o, m, c, rfl, rfl, _, hl⟩
  · exact run_convert_bytes_nil w 22 5 Tryf.underlying22 Tryf.underlying5 0 0 9 Tryf.underlying9
  · have h := run_convert_bytes_arg (P := Tryf.prog) w 22 5 Tryf.underlying22 Tryf.underlying5 D o l.length c (l.map fun b => (b.toNat : Int)) (by simp) (fun i hi => by
      rw [hl i hi]
      simp [List.getD, List.getElem?_eq_getElem hi]) 9 Tryf.underlying9
    rw [h]
    have e : strOfNums (l.map fun b => (b.toNat : Int)) = ⟨l.toArray⟩ := by
      apply ByteArray.ext
      unfold strOfNums
      have hf : ((fun n : Int => UInt8.ofNat n.toNat) ∘ fun b : UInt8 => (b.toNat : Int)) = id := by funext b; simp
      rw [List.map_map, hf, List.map_id]
    rw [e]
theorem DV.view {w : World} {v : Value} {l : List UInt8} (h : DV w v l) : ∃ a n c, v = .slice a n c ∧ n = l.length ∧ (0 < n → ∃ D o, a = some ⟨D, o, none⟩ ∧ Lies w D o l) := by
  rcases h with ⟨rfl, rfl⟩ | ⟨D, o, m, c, rfl, rfl, _, hl⟩
  · exact ⟨_, _, _, rfl, rfl, fun h => by omega⟩
  · exact ⟨_, _, _, rfl, rfl, fun _ => ⟨D, o, rfl, hl⟩⟩

theorem bytes_list (l : List UInt8) : (ByteArray.mk l.toArray).toList = l := by rw [ByteArray.toList_eq]
theorem retb {a b : Bool} (h : a = b) : Ending.returned (.bool a) = .returned (.bool b) := by rw [h]
theorem equal17 (v1 v2 : Value) (l1 l2 : List UInt8) (w : World) (h1 : DV w v1 l1) (h2 : DV w v2 l2) :
    Calls Tryf.prog 17 #[v1, v2] w fun e w' => e = .returned (.bool (l1 == l2)) ∧ w' = w := by
  have e1 := conv_str w v1 l1 h1
  have e2 := conv_str w v2 l2 h2
  clear h1 h2
  go_enter Tryf.func17, Tryf.ntmps17
  go_wp2
  go_ret
  exact ⟨by rw [← bytes_list l1, ← bytes_list l2]; rfl, rfl⟩

theorem id10 (M : Nat) (v : Value) (w : World) (h : w.cell? ⟨M, 1, none⟩ = some v) : Calls Tryf.prog 10 #[.pointer (some ⟨M, 0, none⟩)] w fun e w' => e = .returned v ∧ w' = w := by
  go_enter Tryf.func10, Tryf.ntmps10
  go_wp2
  go_ret
  exact ⟨rfl, rfl⟩

theorem list_ext (l1 l2 : List UInt8) (hl : l1.length = l2.length) (h : ∀ j (h1 : j < l1.length) (h2 : j < l2.length), (l1[j]).toNat = (l2[j]).toNat) : l1 = l2 :=
  List.ext_getElem hl fun j h1 h2 => UInt8.toNat_inj.1 (h j h1 h2)

set_option maxHeartbeats 1000000 in
theorem beq8 (v1 v2 : Value) (l1 l2 : List UInt8) (w : World) (hl1 : l1.length ≤ 100000000) (h1 : DV w v1 l1) (h2 : DV w v2 l2) :
    Calls Tryf.prog 8 #[v1, v2] w fun e w' => e = .returned (.bool (l1 == l2)) ∧ ∃ q, w' = w.drewN q := by
  obtain ⟨a1, n1, c1, rfl, hn1, hv1⟩ := h1.view
  obtain ⟨a2, n2, c2, rfl, hn2, hv2⟩ := h2.view
  have HN1 := hidp hn1
  have HN2 := hidp hn2
  have hb1 : n1 ≤ 100000000 := by omega
  clear hn1 hn2 h1 h2
  by_cases hne : n1 = n2
  · have HNE := hidp hne
    have hne' : ((n1 : Int) != (n2 : Int)) = false := by simp; omega
    clear hne
    go_enter Tryf.func8, Tryf.ntmps8
    go_wp2
    go_loopw [5] (fun vi wr => ∃ i q : Nat, vi = .int .i64 (i : Int) ∧ i ≤ n1 ∧ wr = w.drewN q ∧ Hid (∀ j (h1 : j < l1.length) (h2 : j < l2.length), j < i → (l1[j]).toNat = (l2[j]).toNat)) (fun vi _ => n1 - (intOf vi).toNat)
    case atStart => exact ⟨0, 0, rfl, Nat.zero_le _, rfl, hidp fun j _ _ h => by omega⟩
    case round =>
      obtain ⟨i, q, rfl, hi, rfl, HI⟩ := hrel
      by_cases hlt : i < n1
      · obtain ⟨D1, o1, rfl, hd1⟩ := hv1 (by omega)
        obtain ⟨D2, o2, rfl, hd2⟩ := hv2 (by have := HNE.out; omega)
        have hi1 : i < l1.length := by rw [← HN1.out]; exact hlt
        have hi2 : i < l2.length := by rw [← HN2.out, ← HNE.out]; exact hlt
        have hc1 := hd1 i hi1
        have hc2 := hd2 i hi2
        obtain ⟨x, hx⟩ : ∃ x, (l1[i]).toNat = x := ⟨_, rfl⟩
        obtain ⟨y, hy⟩ : ∃ y, (l2[i]).toNat = y := ⟨_, rfl⟩
        rw [hx] at hc1
        rw [hy] at hc2
        have hlt1 : (i : Int) < (n1 : Int) := by omega
        have hlt2 : (i : Int) < (n2 : Int) := by have := HNE.out; omega
        by_cases hxy : x = y
        · have HX := hidp (show (l1[i]).toNat = (l2[i]).toNat by rw [hx, hy, hxy])
          have hxy' : ((x : Int) != (y : Int)) = false := by simp; omega
          clear hx hy hxy hv1 hv2 hd1 hd2
          go_wp2
          go_quiet (fail)
          go_wp2
          go_roundw
          case rel => exact ⟨i + 1, _, by go_num, by omega, rfl, hidp fun j h1 h2 hj => by
                        rcases Nat.lt_or_ge j i with h | h
                        · exact HI.out j h1 h2 h
                        · have : j = i := by omega
                          subst this; exact HX.out⟩
          case measure => simp [intOf]; omega
        · have HX := hidp (show (l1 == l2) = false by
            rw [beq_eq_false_iff_ne]; intro e; subst e; exact hxy (by rw [← hx, ← hy]))
          have hxy' : ((x : Int) != (y : Int)) = true := by simp; omega
          clear hx hy hxy hi1 hi2 hv1 hv2 hd1 hd2
          go_wp2
          go_quiet (fail)
          go_wp2
          go_ret
          exact ⟨retb HX.out.symm, q + nq, by simp⟩
      · have HX := hidp (show (l1 == l2) = true by
          rw [beq_iff_eq]
          exact list_ext l1 l2 (by rw [← HN1.out, ← HN2.out]; exact HNE.out) fun j h1 h2 => HI.out j h1 h2 (by rw [← HN1.out] at h1; omega))
        have hlt1 : ¬ (i : Int) < (n1 : Int) := by omega
        go_wp2
        go_ret
        exact ⟨retb HX.out.symm, _, rfl⟩
  · have HX := hidp (show (l1 == l2) = false by
      rw [beq_eq_false_iff_ne]; intro e; subst e; exact hne (by rw [HN1.out, HN2.out]))
    have hne' : ((n1 : Int) != (n2 : Int)) = true := by simp; omega
    clear hne
    go_enter Tryf.func8, Tryf.ntmps8
    go_wp2
    go_ret
    exact ⟨retb HX.out.symm, 0, rfl⟩
end Go.Proofs.Qxb6604478aFmt
