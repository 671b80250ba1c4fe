import Derived.Test.Qxb6604199aQuery
namespace Go.Proofs.Qxb6604199a
open Go.ChangeShapes Go.WideShapes Go.ChangeAt Go.RowKit

/-- The length of the common head of two lists. -/
def cpl : List UInt8 → List UInt8 → Nat
  | x :: xs, y :: ys => if x = y then cpl xs ys + 1 else 0
  | _, _ => 0
theorem cpl_nil_left (l : List UInt8) : cpl [] l = 0 := by cases l <;> rfl
theorem cpl_nil_right (l : List UInt8) : cpl l [] = 0 := by cases l <;> rfl
theorem drop_at (s : ByteArray) (k : Nat) (h : k < s.size) : s.data.toList.drop k = s[k] :: s.data.toList.drop (k + 1) := by
  have h' : k < s.data.toList.length := by simpa using h
  rw [List.drop_eq_getElem_cons h']; rfl
theorem cpl_step (a b : ByteArray) (k : Nat) (ha : k < a.size) (hb : k < b.size) (h : (a[k].toNat : Int) = b[k].toNat) :
    cpl (a.data.toList.drop k) (b.data.toList.drop k) = cpl (a.data.toList.drop (k + 1)) (b.data.toList.drop (k + 1)) + 1 := by
  have e : a[k] = b[k] := UInt8.toNat_inj.1 (by omega)
  rw [drop_at a k ha, drop_at b k hb, cpl, if_pos e]
theorem cpl_stop (a b : ByteArray) (k : Nat) (ha : k < a.size) (hb : k < b.size) (h : ¬ (a[k].toNat : Int) = b[k].toNat) :
    cpl (a.data.toList.drop k) (b.data.toList.drop k) = 0 := by
  have e : ¬ a[k] = b[k] := fun e => h (by rw [e])
  rw [drop_at a k ha, drop_at b k hb, cpl, if_neg e]
theorem cpl_out (a b : ByteArray) (k : Nat) (h : a.size ≤ k ∨ b.size ≤ k) : cpl (a.data.toList.drop k) (b.data.toList.drop k) = 0 := by
  rcases h with h | h
  · rw [List.drop_of_length_le (by simpa using h), cpl_nil_left]
  · rw [List.drop_of_length_le (l := b.data.toList) (by simpa using h), cpl_nil_right]
theorem hid {p : Prop} (h : p) : Hid p := h
theorem drew2 (w : World) (n m : Nat) : ∃ q, (w.drewN n).drewN m = w.drewN q := ⟨n + m, by simp⟩
theorem ret_int {k : IntKind} {a b : Int} (h : a = b) : Ending.returned (.int k a) = .returned (.int k b) := by rw [h]

set_option maxHeartbeats 400000 in
theorem prefix15 (a b : ByteArray) (w : World) (ha : a.size ≤ maxLen) :
    Calls Try.prog 15 #[.string a, .string b] w fun e w' => e = .returned (.int .i64 (cpl a.data.toList b.data.toList)) ∧ ∃ n, w' = w.drewN n := by
  unfold maxLen at ha
  go_enter Try.func15, Try.ntmps15
  go_wp2
  go_loopw [5] (fun i wr => ∃ k n : Nat, k ≤ a.size ∧ k ≤ b.size ∧ i = .int .i64 k ∧ wr = w.drewN n ∧ Hid (cpl a.data.toList b.data.toList = k + cpl (a.data.toList.drop k) (b.data.toList.drop k))) (fun i _ => a.size - (intOf i).toNat)
  case atStart => exact ⟨0, 0, Nat.zero_le _, Nat.zero_le _, rfl, rfl, hid (by simp)⟩
  case round =>
    obtain ⟨k, n, hka, hkb, rfl, rfl, HC⟩ := hrel
    by_cases h1 : k < a.size
    · by_cases h2 : k < b.size
      · by_cases h3 : (a[k].toNat : Int) = b[k].toNat
        · have HS := hid (cpl_step a b k h1 h2 h3)
          have h3' : ((a[k].toNat : Int) == b[k].toNat) = true := by simpa using h3
          clear h3
          go_wp2
          go_quiet (fail)
          go_wp2
          go_roundw
          case rel => exact ⟨k + 1, _, by omega, by omega, by go_num, rfl, hid (by rw [HC.out, HS.out]; omega)⟩
          case measure => simp [intOf]; omega
        · have HS := hid (cpl_stop a b k h1 h2 h3)
          have h3' : ((a[k].toNat : Int) == b[k].toNat) = false := by simpa using h3
          clear h3
          go_wp2
          go_quiet (fail)
          go_wp2
          go_ret
          exact ⟨ret_int (by rw [HC.out, HS.out]; omega), drew2 w n _⟩
      · have HS := hid (cpl_out a b k (Or.inr (by omega)))
        have h2' : decide ((k : Int) < (b.size : Int)) = false := by simpa using h2
        go_wp2
        go_quiet (fail)
        go_wp2
        go_ret
        exact ⟨ret_int (by rw [HC.out, HS.out]; omega), drew2 w n _⟩
    · have HS := hid (cpl_out a b k (Or.inl (by omega)))
      have h1' : decide ((k : Int) < (a.size : Int)) = false := by simpa using h1
      go_wp2
      go_quiet (fail)
      go_wp2
      go_ret
      exact ⟨ret_int (by rw [HC.out, HS.out]; omega), drew2 w n _⟩

theorem cpl_app (p x y : List UInt8) : cpl (p ++ x) (p ++ y) = p.length + cpl x y := by
  induction p with
  | nil => simp
  | cons c p ih => simp [cpl, ih]; omega
theorem qry_data (c : ByteArray) : (qry c).data.toList = preL ++ (c.data.toList ++ postL) := by
  unfold qry preB postB; simp
theorem preL_len : preL.length = 332 := by decide +kernel
theorem postL_len : postL.length = 42 := by decide +kernel
theorem place_is : cpl (qry ⟨#[0]⟩).data.toList (qry ⟨#[1]⟩).data.toList = 332 := by
  rw [qry_data, qry_data, cpl_app, preL_len]; rfl
/-- The place of the condition, by the law's own probe. -/
theorem place15 (w : World) : Calls Try.prog 15 #[.string (qry ⟨#[0]⟩), .string (qry ⟨#[1]⟩)] w fun e w' => e = .returned (.int .i64 332) ∧ ∃ n, w' = w.drewN n := by
  have h := prefix15 (qry ⟨#[0]⟩) (qry ⟨#[1]⟩) w (by rw [qry_size]; unfold maxLen; show 1 + 374 ≤ _; omega)
  rw [place_is] at h
  exact h
theorem emp_size : (qry ⟨#[]⟩).size = 374 := by rw [qry_size]; rfl
theorem frame_pre : (qry ⟨#[]⟩).extract 0 332 = preB := by
  apply ByteArray.ext
  apply Array.toList_inj.1
  rw [ByteArray.data_extract, Array.toList_extract, qry_data]
  show List.take (332 - 0) (preL ++ ([] ++ postL)) = preL
  rw [← preL_len]; simp
theorem frame_post : (qry ⟨#[]⟩).extract 332 374 = postB := by
  apply ByteArray.ext
  apply Array.toList_inj.1
  rw [ByteArray.data_extract, Array.toList_extract, qry_data]
  show List.take (374 - 332) (List.drop 332 (preL ++ ([] ++ postL))) = postL
  rw [← preL_len, List.drop_left, List.nil_append, preL_len, List.take_of_length_le (by rw [postL_len]; omega)]
end Go.Proofs.Qxb6604199a
