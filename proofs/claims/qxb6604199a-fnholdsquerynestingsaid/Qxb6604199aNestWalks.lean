import Derived.Test.Qxb6604199aPrefix
namespace Go.Proofs.Qxb6604199a
open Go.ChangeShapes Go.WideShapes Go.ChangeAt Go.RowKit

/-- The depth behind a text, from depth d; none where a bracket shuts what was not open. -/
def depthN : Nat → List UInt8 → Option Nat
  | d, [] => some d
  | d, c :: cs => if (c.toNat : Int) = 40 then depthN (d + 1) cs else if (c.toNat : Int) = 41 then (if d = 0 then none else depthN (d - 1) cs) else depthN d cs
def nestB (l : List UInt8) : Bool := depthN 0 l == some 0
def oddN : Bool → List UInt8 → Bool
  | b, [] => b
  | b, c :: cs => if (c.toNat : Int) = 39 then oddN (!b) cs else oddN b cs
theorem depth_app : ∀ (x y : List UInt8) (d : Nat), depthN d (x ++ y) = (depthN d x).bind fun e => depthN e y := by
  intro x y
  induction x with
  | nil => intro d; rfl
  | cons c x ih =>
    intro d
    rw [List.cons_append, depthN, depthN]
    split
    · exact ih _
    · split
      · split
        · rfl
        · exact ih _
      · exact ih _
theorem odd_app : ∀ (x y : List UInt8) (b : Bool), oddN b (x ++ y) = oddN (oddN b x) y := by
  intro x y
  induction x with
  | nil => intro b; rfl
  | cons c x ih =>
    intro b
    rw [List.cons_append, oddN, oddN]
    split <;> exact ih _
theorem depth_plain : ∀ (x : List UInt8) (d : Nat), (∀ c ∈ x, ¬ (c.toNat : Int) = 40 ∧ ¬ (c.toNat : Int) = 41) → depthN d x = some d := by
  intro x
  induction x with
  | nil => intro d _; rfl
  | cons c x ih =>
    intro d h
    have hc := h c (by simp)
    rw [depthN, if_neg hc.1, if_neg hc.2]
    exact ih d fun c' h' => h c' (by simp [h'])
theorem odd_plain : ∀ (x : List UInt8) (b : Bool), (∀ c ∈ x, ¬ (c.toNat : Int) = 39) → oddN b x = b := by
  intro x
  induction x with
  | nil => intro d _; rfl
  | cons c x ih =>
    intro d h
    rw [oddN, if_neg (h c (by simp))]
    exact ih d fun c' h' => h c' (by simp [h'])
theorem depth_pre : depthN 0 preL = some 0 := by decide +kernel
theorem odd_pre : oddN false preL = false := by decide +kernel
theorem depth_post (d : Nat) : depthN d postL = some d := depth_plain _ _ (by decide +kernel)
theorem odd_post (b : Bool) : oddN b postL = b := odd_plain _ _ (by decide +kernel)
theorem nest_qry (c : ByteArray) : nestB (qry c).data.toList = nestB c.data.toList := by
  unfold nestB
  rw [qry_data, depth_app, depth_pre]
  show (depthN 0 (c.data.toList ++ postL) == some 0) = _
  rw [depth_app]
  simp [depth_post]
theorem odd_qry (c : ByteArray) : oddN false (qry c).data.toList = oddN false c.data.toList := by
  rw [qry_data, odd_app, odd_pre, odd_app, odd_post]
theorem nest_pre : nestB preB.data.toList = true := by show (depthN 0 preL == some 0) = true; rw [depth_pre]; rfl
theorem nest_post : nestB postB.data.toList = true := by show (depthN 0 postL == some 0) = true; rw [depth_post]; rfl
theorem odd_preB : oddN false preB.data.toList = false := odd_pre
theorem odd_postB : oddN false postB.data.toList = false := odd_post _

theorem depth_open (s : ByteArray) (k d : Nat) (h : k < s.size) (hc : (s[k].toNat : Int) = 40) : depthN d (s.data.toList.drop k) = depthN (d + 1) (s.data.toList.drop (k + 1)) := by
  rw [drop_at s k h, depthN, if_pos hc]
theorem depth_shut (s : ByteArray) (k d : Nat) (h : k < s.size) (hc : (s[k].toNat : Int) = 41) (hd : ¬ d = 0) : depthN d (s.data.toList.drop k) = depthN (d - 1) (s.data.toList.drop (k + 1)) := by
  rw [drop_at s k h, depthN, if_neg (by omega), if_pos hc, if_neg hd]
theorem depth_shut0 (s : ByteArray) (k : Nat) (h : k < s.size) (hc : (s[k].toNat : Int) = 41) : depthN 0 (s.data.toList.drop k) = none := by
  rw [drop_at s k h, depthN, if_neg (by omega), if_pos hc, if_pos rfl]
theorem depth_else (s : ByteArray) (k d : Nat) (h : k < s.size) (h0 : ¬ (s[k].toNat : Int) = 40) (h1 : ¬ (s[k].toNat : Int) = 41) : depthN d (s.data.toList.drop k) = depthN d (s.data.toList.drop (k + 1)) := by
  rw [drop_at s k h, depthN, if_neg h0, if_neg h1]
theorem depth_end (s : ByteArray) (k d : Nat) (h : s.size ≤ k) : depthN d (s.data.toList.drop k) = some d := by
  rw [List.drop_of_length_le (by simpa using h)]; rfl
theorem odd_quote (s : ByteArray) (k : Nat) (b : Bool) (h : k < s.size) (hc : (s[k].toNat : Int) = 39) : oddN b (s.data.toList.drop k) = oddN (!b) (s.data.toList.drop (k + 1)) := by
  rw [drop_at s k h, oddN, if_pos hc]
theorem odd_else (s : ByteArray) (k : Nat) (b : Bool) (h : k < s.size) (hc : ¬ (s[k].toNat : Int) = 39) : oddN b (s.data.toList.drop k) = oddN b (s.data.toList.drop (k + 1)) := by
  rw [drop_at s k h, oddN, if_neg hc]
theorem odd_end (s : ByteArray) (k : Nat) (b : Bool) (h : s.size ≤ k) : oddN b (s.data.toList.drop k) = b := by
  rw [List.drop_of_length_le (by simpa using h)]; rfl

set_option maxHeartbeats 1000000 in
theorem nest18 (s : ByteArray) (w : World) (hs : s.size ≤ 2000000) :
    Calls Try.prog 18 #[.string s] w fun e w' => e = .returned (.bool (nestB s.data.toList)) ∧ w' = w := by
  go_enter Try.func18, Try.ntmps18
  go_wp2
  go_loop [3, 4] (fun vd vi => ∃ d k : Nat, d ≤ k ∧ k ≤ s.size ∧ vd = .int .i64 d ∧ vi = .int .i64 k ∧ Hid (depthN 0 s.data.toList = depthN d (s.data.toList.drop k))) (fun _ i => s.size - (intOf i).toNat)
  case atStart => exact ⟨0, 0, Nat.zero_le _, Nat.zero_le _, rfl, rfl, hid rfl⟩
  case round =>
    obtain ⟨d, k, hd, hk, rfl, rfl, HC⟩ := hrel
    by_cases hlt : k < s.size
    · by_cases h40 : (s[k].toNat : Int) = 40
      · have HS := hid (depth_open s k d hlt h40)
        go_wp2
        go_round
        case rel => exact ⟨d + 1, k + 1, by omega, by omega, by go_num, by go_num, hid (by rw [HC.out, HS.out])⟩
        case measure => simp [intOf]; omega
      · by_cases h41 : (s[k].toNat : Int) = 41
        · by_cases hd0 : d = 0
          · subst hd0
            have HS := hid (depth_shut0 s k hlt h41)
            go_wp2
            go_ret
            exact ⟨ret_bool (by unfold nestB; rw [HC.out, HS.out]; rfl), rfl⟩
          · have HS := hid (depth_shut s k d hlt h41 hd0)
            go_wp2
            go_round
            case rel => exact ⟨d - 1, k + 1, by omega, by omega, by go_num, by go_num, hid (by rw [HC.out, HS.out])⟩
            case measure => simp [intOf]; omega
        · have HS := hid (depth_else s k d hlt h40 h41)
          go_wp2
          go_round
          case rel => exact ⟨d, k + 1, by omega, by omega, by go_num, by go_num, hid (by rw [HC.out, HS.out])⟩
          case measure => simp [intOf]; omega
    · have HS := hid (depth_end s k d (by omega))
      go_wp2
      go_ret
      exact ⟨ret_bool (by unfold nestB; rw [HC.out, HS.out]; rw [Bool.eq_iff_iff]; simp), rfl⟩

set_option maxHeartbeats 1000000 in
theorem odd19 (s : ByteArray) (w : World) (hs : s.size ≤ 2000000) :
    Calls Try.prog 19 #[.string s] w fun e w' => e = .returned (.bool (oddN false s.data.toList)) ∧ w' = w := by
  go_enter Try.func19, Try.ntmps19
  go_wp2
  go_loop [3, 4] (fun vb vi => ∃ (b : Bool) (k : Nat), k ≤ s.size ∧ vb = .bool b ∧ vi = .int .i64 k ∧ Hid (oddN false s.data.toList = oddN b (s.data.toList.drop k))) (fun _ i => s.size - (intOf i).toNat)
  case atStart => exact ⟨false, 0, Nat.zero_le _, rfl, rfl, hid rfl⟩
  case round =>
    obtain ⟨b, k, hk, rfl, rfl, HC⟩ := hrel
    by_cases hlt : k < s.size
    · by_cases h39 : (s[k].toNat : Int) = 39
      · have HS := hid (odd_quote s k b hlt h39)
        go_wp2
        go_round
        case rel => exact ⟨!b, k + 1, by omega, rfl, by go_num, hid (by rw [HC.out, HS.out])⟩
        case measure => simp [intOf]; omega
      · have HS := hid (odd_else s k b hlt h39)
        go_wp2
        go_round
        case rel => exact ⟨b, k + 1, by omega, rfl, by go_num, hid (by rw [HC.out, HS.out])⟩
        case measure => simp [intOf]; omega
    · have HS := hid (odd_end s k b (by omega))
      go_wp2
      go_ret
      exact ⟨ret_bool (by rw [HC.out, HS.out]), rfl⟩
end Go.Proofs.Qxb6604199a
