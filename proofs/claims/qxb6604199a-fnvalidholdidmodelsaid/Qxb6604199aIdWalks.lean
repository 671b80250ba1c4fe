import Derived.Test.Qxb6604199aRows
import Derived.Test.Qxb6604199aIdPlain
import Derived.WalkKit
import Derived.ProofKit
import Derived.OpenShut
import Derived.ShutString
import Derived.WalkLawsBesides
namespace Go.Proofs.Qxb6604199a
open Go.ChangeShapes Go.WideShapes Go.ChangeAt Go.RowKit

theorem retB {a b : Bool} (h : a = b) : Ending.returned (.bool a) = .returned (.bool b) := by rw [h]
theorem drop_byte (s : ByteArray) (k : Nat) (h : k < s.size) : s.data.toList.drop k = s[k] :: s.data.toList.drop (k + 1) := by
  have h' : k < s.data.toList.length := by simpa using h
  rw [List.drop_eq_getElem_cons h']; rfl
theorem drop_out (s : ByteArray) (k : Nat) (h : s.size ≤ k) : s.data.toList.drop k = [] := List.drop_of_length_le (by simpa using h)
theorem chk_yes (s : ByteArray) (k : Nat) (h : k < s.size) (ho : okAt k s[k] = true) : chk k (s.data.toList.drop k) = chk (k + 1) (s.data.toList.drop (k + 1)) := by
  rw [drop_byte s k h, chk, ho, Bool.true_and]
theorem chk_no (s : ByteArray) (k : Nat) (h : k < s.size) (ho : okAt k s[k] = false) : chk k (s.data.toList.drop k) = false := by
  rw [drop_byte s k h, chk, ho, Bool.false_and]
theorem chk_end (s : ByteArray) (k : Nat) (h : s.size ≤ k) : chk k (s.data.toList.drop k) = true := by rw [drop_out s k h]; rfl
theorem hid' {p : Prop} (h : p) : Hid p := h

set_option maxHeartbeats 1000000 in
theorem valid20 (s : ByteArray) (w : World) (hs : (s.size : Int) = 36) :
    Calls Try.prog 20 #[.string s] w fun e w' => e = .returned (.bool (chk 0 s.data.toList)) ∧ w' = w := by
  go_enter Try.func20, Try.ntmps20
  go_wp2
  go_loop [3] (fun i => ∃ k : Nat, k ≤ 36 ∧ i = .int .i64 k ∧ Hid (chk 0 s.data.toList = chk k (s.data.toList.drop k))) (fun i => 36 - (intOf i).toNat)
  case atStart => exact ⟨0, Nat.zero_le _, rfl, hid' rfl⟩
  case round =>
    obtain ⟨k, hk, rfl, HC⟩ := hrel
    by_cases hlt : k < 36
    · have hlt' : k < s.size := by omega
      by_cases hp : k = 8 ∨ k = 13 ∨ k = 18 ∨ k = 23
      · by_cases hc : (s[k].toNat : Int) = 45
        · have ho : okAt k s[k] = true := by unfold okAt; rw [if_pos hp]; simpa using hc
          have HS := hid' (chk_yes s k hlt' ho)
          clear ho
          rcases hp with rfl | rfl | rfl | rfl
          all_goals
            go_wp2
            go_round
            case rel => exact ⟨_ + 1, by omega, rfl, hid' (by rw [HC.out, HS.out])⟩
            case measure => simp [intOf]
        · have ho : okAt k s[k] = false := by unfold okAt; rw [if_pos hp]; simpa using hc
          have HS := hid' (chk_no s k hlt' ho)
          have hc' : ((s[k].toNat : Int) == 45) = false := by simpa using hc
          clear ho hc
          rcases hp with rfl | rfl | rfl | rfl
          all_goals
            go_wp2
            go_ret
            exact ⟨retB (by rw [HC.out, HS.out]), rfl⟩
      · have h8 : ¬ (k : Int) = 8 := by omega
        have h13 : ¬ (k : Int) = 13 := by omega
        have h18 : ¬ (k : Int) = 18 := by omega
        have h23 : ¬ (k : Int) = 23 := by omega
        by_cases hc : isHexI s[k].toNat = true
        · have ho : okAt k s[k] = true := by unfold okAt; rw [if_neg hp]; exact hc
          have HS := hid' (chk_yes s k hlt' ho)
          clear ho
          simp only [isHexI, decide_eq_true_eq] at hc
          rcases hc with ⟨c1, c2⟩ | ⟨c1, c2⟩
          all_goals
            go_wp2
            go_round
            case rel => exact ⟨k + 1, by omega, by go_num, hid' (by rw [HC.out, HS.out])⟩
            case measure => simp [intOf]; omega
        · have ho : okAt k s[k] = false := by unfold okAt; rw [if_neg hp]; simpa using hc
          have HS := hid' (chk_no s k hlt' ho)
          clear ho
          simp only [isHexI, decide_eq_true_eq] at hc
          rcases (show (s[k].toNat : Int) < 48 ∨ (57 < (s[k].toNat : Int) ∧ (s[k].toNat : Int) < 97) ∨ 102 < (s[k].toNat : Int) by omega) with c1 | ⟨c1, c2⟩ | c1
          · clear hc
            go_wp2
            go_ret
            exact ⟨retB (by rw [HC.out, HS.out]), rfl⟩
          · clear hc
            have d1 : decide ((s[k].toNat : Int) ≤ 57) = false := by simpa using c1
            go_wp2
            go_ret
            exact ⟨retB (by rw [HC.out, HS.out]), rfl⟩
          · clear hc
            have d1 : decide ((s[k].toNat : Int) ≤ 57) = false := by simp; omega
            have d2 : decide ((s[k].toNat : Int) ≤ 102) = false := by simpa using c1
            go_wp2
            go_ret
            exact ⟨retB (by rw [HC.out, HS.out]), rfl⟩
    · have HS := hid' (chk_end s k (by omega))
      go_wp2
      go_ret
      exact ⟨retB (by rw [HC.out, HS.out]), rfl⟩

theorem valid20_no (s : ByteArray) (w : World) (hs : ¬ (s.size : Int) = 36) :
    Calls Try.prog 20 #[.string s] w fun e w' => e = .returned (.bool false) ∧ w' = w := by
  go_enter Try.func20, Try.ntmps20
  go_wp2
  go_ret
  exact ⟨rfl, rfl⟩

def validB (s : ByteArray) : Bool := decide (s.size = 36) && chk 0 s.data.toList
theorem valid_any (s : ByteArray) (w : World) : Calls Try.prog 20 #[.string s] w fun e w' => e = .returned (.bool (validB s)) ∧ w' = w := by
  by_cases h : s.size = 36
  · have e : validB s = chk 0 s.data.toList := by simp [validB, h]
    rw [e]
    exact valid20 s w (by omega)
  · have e : validB s = false := by simp [validB, h]
    rw [e]
    exact valid20_no s w (by omega)
theorem valid10 (s : ByteArray) (w : World) : Calls Try.prog 10 #[.string s] w fun e w' => e = .returned (.bool (validB s)) ∧ w' = w := by
  go_enter Try.func10, Try.ntmps10
  go_wp2_with (go_at_call 20; refine (valid_any _ _).mono ?_; rintro e w' ⟨rfl, rfl⟩)
  go_ret
  exact ⟨rfl, rfl⟩

theorem hex21_yes (c : Int) (w : World) (h : isHexI c = true) : Calls Try.prog 21 #[.int .u8 c] w fun e w' => e = .returned (.bool true) ∧ w' = w := by
  simp only [isHexI, decide_eq_true_eq] at h
  rcases h with ⟨c1, c2⟩ | ⟨c1, c2⟩
  · go_enter Try.func21, Try.ntmps21
    go_wp2
    go_ret
    exact ⟨rfl, rfl⟩
  · have d1 : decide (c ≤ 57) = false := by simp; omega
    go_enter Try.func21, Try.ntmps21
    go_wp2
    go_ret
    exact ⟨rfl, rfl⟩
theorem hex21_no (c : Int) (w : World) (h : isHexI c = false) : Calls Try.prog 21 #[.int .u8 c] w fun e w' => e = .returned (.bool false) ∧ w' = w := by
  simp only [isHexI, decide_eq_false_iff_not] at h
  rcases (show c < 48 ∨ (57 < c ∧ c < 97) ∨ 102 < c by omega) with c1 | ⟨c1, c2⟩ | c1
  · go_enter Try.func21, Try.ntmps21
    go_wp2
    go_ret
    exact ⟨rfl, rfl⟩
  · have d1 : decide (c ≤ 57) = false := by simpa using c1
    go_enter Try.func21, Try.ntmps21
    go_wp2
    go_ret
    exact ⟨rfl, rfl⟩
  · have d1 : decide (c ≤ 57) = false := by simp; omega
    have d2 : decide (c ≤ 102) = false := by simpa using c1
    go_enter Try.func21, Try.ntmps21
    go_wp2
    go_ret
    exact ⟨rfl, rfl⟩

theorem scan_dash (s : ByteArray) (k g run : Nat) (h : k < s.size) (hc : (s[k].toNat : Int) = 45) (hg : g < 4) (hr : run = wantN g) :
    scan g run (s.data.toList.drop k) = scan (g + 1) 0 (s.data.toList.drop (k + 1)) := by
  rw [drop_byte s k h, scan, if_pos hc, if_neg (by omega)]
theorem scan_dash_no (s : ByteArray) (k g run : Nat) (h : k < s.size) (hc : (s[k].toNat : Int) = 45) (hg : 4 ≤ g ∨ run ≠ wantN g) :
    scan g run (s.data.toList.drop k) = false := by
  rw [drop_byte s k h, scan, if_pos hc, if_pos hg]
theorem scan_hex (s : ByteArray) (k g run : Nat) (h : k < s.size) (hc : ¬ (s[k].toNat : Int) = 45) (hx : isHexI s[k].toNat = true) :
    scan g run (s.data.toList.drop k) = scan g (run + 1) (s.data.toList.drop (k + 1)) := by
  rw [drop_byte s k h, scan, if_neg hc, if_pos hx]
theorem scan_other (s : ByteArray) (k g run : Nat) (h : k < s.size) (hc : ¬ (s[k].toNat : Int) = 45) (hx : isHexI s[k].toNat = false) :
    scan g run (s.data.toList.drop k) = false := by
  rw [drop_byte s k h, scan, if_neg hc, hx]; rfl
theorem scan_end (s : ByteArray) (k g run : Nat) (h : s.size ≤ k) : scan g run (s.data.toList.drop k) = decide (g = 4 ∧ run = 12) := by
  rw [drop_out s k h]; rfl

end Go.Proofs.Qxb6604199a
