import Derived.Test.Qxb6604511aFmtLawOne
import Derived.Test.Qxb6604511aFmtShelf
import Derived.Laws.BytesArg
namespace Go.Proofs.Qxb6604511aFmt
open Go.RowKit Go.Extern.Stop Go.Stop Go.Extern

/-! ### zzBytes_FnAddThenResultScript, zzEqual -/
set_option maxHeartbeats 1000000 in
theorem zz15 (u : Bool) (v : Value) (xs : List ByteArray) (f : ByteArray) (w : World) (hv : Strs w v xs) :
    Calls Tryf.prog 15 #[v, .bool u, .string f] w fun e w' => zzPost xs f e ∧ w' = w := by
  obtain ⟨a, n, c, rfl, hn, hcell⟩ := hv
  have HN := hidp hn
  clear hn
  by_cases hbig : n ≤ 1048576
  · have hb' : ¬ (1048576 : Int) < (n : Int) := by omega
    go_enter Tryf.func15, Tryf.ntmps15
    go_wp2
    go_loopw [7, 8] (fun vt vi wr => wr = w ∧ ∃ i t : Nat, vi = .int .i64 (i : Int) ∧ vt = .int .i64 (t : Int) ∧ i ≤ n ∧ t ≤ 1048576 ∧ Hid (t = n + sizes (xs.take i))) (fun _ vi _ => n - (intOf vi).toNat)
    case atStart => exact ⟨rfl, 0, n, rfl, rfl, Nat.zero_le _, hbig, hidp (by simp [sizes])⟩
    case round =>
      obtain ⟨rfl, i, t, rfl, rfl, hi, ht, HT⟩ := hrel
      by_cases hlt : i < n
      · obtain ⟨ad, rfl, hcs⟩ := hcell (by omega)
        have hiL : i < xs.length := by rw [← HN.out]; exact hlt
        have hci := hcs i hiL
        have hlt' : (i : Int) < (n : Int) := by omega
        obtain ⟨x, hx⟩ : ∃ x, xs[i] = x := ⟨_, rfl⟩
        have HX := hidp hx
        rw [hx] at hci
        have HS := hidp (show sizes (xs.take (i + 1)) = sizes (xs.take i) + x.size by rw [sizes_succ xs i hiL, hx])
        clear hx hcs
        by_cases hx1 : x.size ≤ 1048576
        · have hx1' : ¬ (1048576 : Int) < (x.size : Int) := by omega
          by_cases hs2 : t + x.size ≤ 1048576
          · have hs2' : ¬ (1048576 : Int) < ((t : Int) + (x.size : Int)) := by omega
            go_wp2
            go_roundw
            case rel => exact ⟨by trivial, i + 1, t + x.size, by go_num, by go_num, by omega, hs2, hidp (by have h1 := HT.out; have h2 := HS.out; omega)⟩
            case measure => simp [intOf]; omega
          · have hs2' : (1048576 : Int) < ((t : Int) + (x.size : Int)) := by omega
            go_wp2
            go_ret
            exact ⟨⟨false, rfl, fun h => by cases h⟩, rfl⟩
        · have hx1' : (1048576 : Int) < (x.size : Int) := by omega
          go_wp2
          go_ret
          exact ⟨⟨false, rfl, fun h => by cases h⟩, rfl⟩
      · have hlt' : ¬ (i : Int) < (n : Int) := by omega
        have HE := hidp (show t = xs.length + sizes xs by
          have h1 := HT.out
          have h2 := HN.out
          rw [show xs.take i = xs from List.take_of_length_le (by omega)] at h1
          omega)
        by_cases hx1 : f.size ≤ 1048576
        · have hx1' : ¬ (1048576 : Int) < (f.size : Int) := by omega
          by_cases hs2 : t + f.size ≤ 1048576
          · have hs2' : ¬ (1048576 : Int) < ((t : Int) + (f.size : Int)) := by omega
            go_wp2
            go_ret
            exact ⟨⟨true, rfl, fun _ => by have h := HE.out; omega⟩, rfl⟩
          · have hs2' : (1048576 : Int) < ((t : Int) + (f.size : Int)) := by omega
            go_wp2
            go_ret
            exact ⟨⟨false, rfl, fun h => by cases h⟩, rfl⟩
        · have hx1' : (1048576 : Int) < (f.size : Int) := by omega
          go_wp2
          go_ret
          exact ⟨⟨false, rfl, fun h => by cases h⟩, rfl⟩
  · have hb' : (1048576 : Int) < (n : Int) := by omega
    go_enter Tryf.func15, Tryf.ntmps15
    go_wp2
    go_ret
    exact ⟨⟨false, rfl, fun h => by cases h⟩, rfl⟩

set_option maxHeartbeats 1000000 in
theorem equal16 (v1 v2 : Value) (xs : List ByteArray) (w : World) (h1 : Strs w v1 xs) (h2 : Strs w v2 xs) (hl : xs.length ≤ 1048576) :
    Calls Tryf.prog 16 #[v1, v2] w fun e w' => e = .returned (.bool true) ∧ ∃ q, w' = w.drewN q := by
  obtain ⟨a1, n1, c1, rfl, hn1, hv1⟩ := h1
  obtain ⟨a2, n2, c2, rfl, hn2, hv2⟩ := h2
  have hnn : n1 = n2 := by omega
  subst hnn
  have HN := hidp hn1
  have hb : n1 ≤ 1048576 := by omega
  have HV1 := hidp hv1
  have HV2 := hidp hv2
  clear hn1 hn2 hv1 hv2
  go_enter Tryf.func16, Tryf.ntmps16
  go_wp2
  go_loopw [5] (fun vi wr => ∃ i q : Nat, vi = .int .i64 (i : Int) ∧ i ≤ n1 ∧ wr = w.drewN q) (fun vi _ => n1 - (intOf vi).toNat)
  case atStart => exact ⟨0, 0, rfl, Nat.zero_le _, rfl⟩
  case round =>
    obtain ⟨i, q, rfl, hi, rfl⟩ := hrel
    by_cases hlt : i < n1
    · obtain ⟨ad1, rfl, hc1⟩ := HV1.out (by omega)
      obtain ⟨ad2, rfl, hc2⟩ := HV2.out (by omega)
      have hiL : i < xs.length := by rw [← HN.out]; exact hlt
      have hx1 := hc1 i hiL
      have hx2 := hc2 i hiL
      obtain ⟨x, hx⟩ : ∃ x, xs[i] = x := ⟨_, rfl⟩
      rw [hx] at hx1 hx2
      have hlt' : (i : Int) < (n1 : Int) := by omega
      clear hc1 hc2 hx
      go_wp2
      go_quiet (fail)
      go_wp2
      go_roundw
      case rel => exact ⟨i + 1, _, by go_num, by omega, rfl⟩
      case measure => simp [intOf]; omega
    · have hlt' : ¬ (i : Int) < (n1 : Int) := by omega
      go_wp2
      go_ret
      exact ⟨rfl, _, rfl⟩
end Go.Proofs.Qxb6604511aFmt
