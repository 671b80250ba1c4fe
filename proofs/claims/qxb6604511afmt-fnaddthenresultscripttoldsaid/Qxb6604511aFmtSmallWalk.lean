import Derived.Test.Qxb6604511aFmtShort2Walk
import Derived.Deep.OwnRows
import Derived.Deep.AppendLies
import Derived.OwnWalk
namespace Go.Proofs.Qxb6604511aFmt
open Go.RowKit Go.Extern.Stop Go.Stop Go.Extern

/-! ### zzHasPrefix, zzHasSuffix -/
theorem prefix13 (s p : ByteArray) (w : World) (h1 : p.size ≤ s.size) (h2 : s.extract 0 p.size = p) :
    Calls Tryf.prog 13 #[.string s, .string p] w fun e w' => e = .returned (.bool true) ∧ w' = w := by
  have h1' : (p.size : Int) ≤ (s.size : Int) := by omega
  go_enter Tryf.func13, Tryf.ntmps13
  go_wp2
  go_ret
  exact ⟨rfl, rfl⟩
theorem suffix14 (s p : ByteArray) (w : World) (hs : s.size ≤ 4611686018427387904) (h1 : p.size ≤ s.size) (h2 : s.extract (s.size - p.size) s.size = p) :
    Calls Tryf.prog 14 #[.string s, .string p] w fun e w' => e = .returned (.bool true) ∧ w' = w := by
  have h1' : (p.size : Int) ≤ (s.size : Int) := by omega
  have h3 : ((s.size : Int) - (p.size : Int)) = ((s.size - p.size : Nat) : Int) := by omega
  go_enter Tryf.func14, Tryf.ntmps14
  go_wp2
  go_ret
  exact ⟨rfl, rfl⟩

/-! ### Slices of strings: zzBytes_FnAddRecordsShortened, zzBytes, zzClone -/
def Strs (w : World) (v : Value) (xs : List ByteArray) : Prop := ∃ a n c, v = .slice a n c ∧ n = xs.length ∧ (0 < n → ∃ ad, a = some ad ∧ ∀ j (h : j < xs.length), w.cell? (ad.add j) = some (.string xs[j]))
def sizes (xs : List ByteArray) : Nat := (xs.map (·.size)).sum
theorem sizes_succ (xs : List ByteArray) (i : Nat) (h : i < xs.length) : sizes (xs.take (i + 1)) = sizes (xs.take i) + (xs[i]).size := by
  unfold sizes
  rw [List.take_succ_eq_append_getElem h]
  simp only [List.map_append, List.map_cons, List.map_nil, List.sum_append, List.sum_cons, List.sum_nil]
  omega
theorem sizes_take (xs : List ByteArray) (i : Nat) : sizes (xs.take i) ≤ sizes xs := by
  have h : xs = xs.take i ++ xs.drop i := (List.take_append_drop i xs).symm
  have e : sizes xs = sizes (xs.take i) + sizes (xs.drop i) := by
    conv => lhs; rw [h]
    unfold sizes
    simp only [List.map_append, List.sum_append]
  omega
theorem sizes_mem (xs : List ByteArray) (i : Nat) (h : i < xs.length) : (xs[i]).size ≤ sizes xs := by
  have h1 := sizes_succ xs i h
  have h2 := sizes_take xs (i + 1)
  omega

def zzPost (xs : List ByteArray) (f : ByteArray) (e : Ending) : Prop := ∃ b, e = .returned (.bool b) ∧ (b = true → xs.length + sizes xs + f.size ≤ 1048576)
set_option maxHeartbeats 1000000 in
theorem zz5 (v : Value) (xs : List ByteArray) (f : ByteArray) (w : World) (hv : Strs w v xs) :
    Calls Tryf.prog 5 #[v, .string f] w fun e w' => zzPost xs f e ∧ w' = w := by
  obtain ⟨a, n, c, rfl, hn, hcell⟩ := hv
  have HN := hidp hn
  clear hn
  by_cases hbig : n ≤ 1048576
  · have hb' : ¬ (1048576 : Int) < (n : Int) := by omega
    go_enter Tryf.func5, Tryf.ntmps5
    go_wp2
    go_loopw [5, 6] (fun vt vi wr => wr = w ∧ ∃ i t : Nat, vi = .int .i64 (i : Int) ∧ vt = .int .i64 (t : Int) ∧ i ≤ n ∧ t ≤ 1048576 ∧ Hid (t = n + sizes (xs.take i))) (fun _ vi _ => n - (intOf vi).toNat)
    case atStart => exact ⟨rfl, 0, n, rfl, rfl, Nat.zero_le _, hbig, hidp (by simp [sizes])⟩
    case round =>
      obtain ⟨rfl, i, t, rfl, rfl, hi, ht, HT⟩ := hrel
      by_cases hlt : i < n
      · obtain ⟨ad, rfl, hcs⟩ := hcell (by omega)
        have hiL : i < xs.length := by rw [← HN.out]; exact hlt
        have hci := hcs i hiL
        have hlt' : (i : Int) < (n : Int) := by omega
        obtain ⟨x, hx⟩ : ∃ x, xs[i] = x := ⟨_, rfl⟩
        have HX := hidp hx
        rw [hx] at hci
        have HS := hidp (show sizes (xs.take (i + 1)) = sizes (xs.take i) + x.size by rw [sizes_succ xs i hiL, hx])
        clear hx hcs
        by_cases hx1 : x.size ≤ 1048576
        · have hx1' : ¬ (1048576 : Int) < (x.size : Int) := by omega
          by_cases hs2 : t + x.size ≤ 1048576
          · have hs2' : ¬ (1048576 : Int) < ((t : Int) + (x.size : Int)) := by omega
            go_wp2
            go_roundw
            case rel => exact ⟨by trivial, i + 1, t + x.size, by go_num, by go_num, by omega, hs2, hidp (by have h1 := HT.out; have h2 := HS.out; omega)⟩
            case measure => simp [intOf]; omega
          · have hs2' : (1048576 : Int) < ((t : Int) + (x.size : Int)) := by omega
            go_wp2
            go_ret
            exact ⟨⟨false, rfl, fun h => by cases h⟩, rfl⟩
        · have hx1' : (1048576 : Int) < (x.size : Int) := by omega
          go_wp2
          go_ret
          exact ⟨⟨false, rfl, fun h => by cases h⟩, rfl⟩
      · have hlt' : ¬ (i : Int) < (n : Int) := by omega
        have HE := hidp (show t = xs.length + sizes xs by
          have h1 := HT.out
          have h2 := HN.out
          rw [show xs.take i = xs from List.take_of_length_le (by omega)] at h1
          omega)
        by_cases hx1 : f.size ≤ 1048576
        · have hx1' : ¬ (1048576 : Int) < (f.size : Int) := by omega
          by_cases hs2 : t + f.size ≤ 1048576
          · have hs2' : ¬ (1048576 : Int) < ((t : Int) + (f.size : Int)) := by omega
            go_wp2
            go_ret
            exact ⟨⟨true, rfl, fun _ => by have h := HE.out; omega⟩, rfl⟩
          · have hs2' : (1048576 : Int) < ((t : Int) + (f.size : Int)) := by omega
            go_wp2
            go_ret
            exact ⟨⟨false, rfl, fun h => by cases h⟩, rfl⟩
        · have hx1' : (1048576 : Int) < (f.size : Int) := by omega
          go_wp2
          go_ret
          exact ⟨⟨false, rfl, fun h => by cases h⟩, rfl⟩
  · have hb' : (1048576 : Int) < (n : Int) := by omega
    go_enter Tryf.func5, Tryf.ntmps5
    go_wp2
    go_ret
    exact ⟨⟨false, rfl, fun h => by cases h⟩, rfl⟩
set_option maxHeartbeats 1000000 in
theorem zz6 (v : Value) (xs : List ByteArray) (w : World) (hv : Strs w v xs) (hl : xs.length ≤ 65536) (hsz : sizes xs ≤ 1048576) :
    Calls Tryf.prog 6 #[v] w fun e w' => (∃ r : Nat, e = .returned (.int .i64 (r : Int)) ∧ r ≤ 4194304) ∧ w' = w := by
  obtain ⟨a, n, c, rfl, hn, hcell⟩ := hv
  have HN := hidp hn
  have hn' : n ≤ 65536 := by omega
  clear hn
  go_enter Tryf.func6, Tryf.ntmps6
  go_wp2
  go_loopw [3, 4] (fun vt vi wr => wr = w ∧ ∃ i t : Nat, vi = .int .i64 (i : Int) ∧ vt = .int .i64 (t : Int) ∧ i ≤ n ∧ Hid (t = 16 * i + sizes (xs.take i))) (fun _ vi _ => n - (intOf vi).toNat)
  case atStart => exact ⟨rfl, 0, 0, rfl, rfl, Nat.zero_le _, hidp (by simp [sizes])⟩
  case round =>
    obtain ⟨rfl, i, t, rfl, rfl, hi, HT⟩ := hrel
    have htl : t ≤ 2097152 := by have h1 := HT.out; have h2 := sizes_take xs i; omega
    by_cases hlt : i < n
    · obtain ⟨ad, rfl, hcs⟩ := hcell (by omega)
      have hiL : i < xs.length := by rw [← HN.out]; exact hlt
      have hci := hcs i hiL
      have hlt' : (i : Int) < (n : Int) := by omega
      have hm := sizes_mem xs i hiL
      obtain ⟨x, hx⟩ : ∃ x, xs[i] = x := ⟨_, rfl⟩
      have HX := hidp hx
      rw [hx] at hci hm
      have HS := hidp (show sizes (xs.take (i + 1)) = sizes (xs.take i) + x.size by rw [sizes_succ xs i hiL, hx])
      have hxs : x.size ≤ 1048576 := by omega
      clear hx hcs hm
      by_cases hs2 : t + (16 + x.size) ≤ 1048576
      · have hs2' : ¬ (1048576 : Int) < ((t : Int) + (16 + (x.size : Int))) := by omega
        go_wp2
        go_roundw
        case rel => exact ⟨by trivial, i + 1, t + (16 + x.size), by go_num, by go_num, by omega, hidp (by have h1 := HT.out; have h2 := HS.out; omega)⟩
        case measure => simp [intOf]; omega
      · have hs2' : (1048576 : Int) < ((t : Int) + (16 + (x.size : Int))) := by omega
        go_wp2
        go_ret
        exact ⟨⟨t + (16 + x.size), by go_num, by omega⟩, rfl⟩
    · have hlt' : ¬ (i : Int) < (n : Int) := by omega
      go_wp2
      go_ret
      exact ⟨⟨t, rfl, by omega⟩, rfl⟩
end Go.Proofs.Qxb6604511aFmt
