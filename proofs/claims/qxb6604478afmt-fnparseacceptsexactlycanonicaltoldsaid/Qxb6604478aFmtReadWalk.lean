import Derived.Test.Qxb6604478aFmtRead
namespace Go.Proofs.Qxb6604478aFmt
open Go.RowKit

theorem wraps_i64 (n : Int) (h₀ : 0 ≤ n) (h₁ : n < 2 ^ 63) : IntKind.i64.wrap n = n := by rw [IntKind.wrap_i64]; omega
theorem i64_or0 (x : Int) (h0 : 0 ≤ x) (h1 : x < 9223372036854775808) : bits .or .i64 0 x = x := by
  have := bits_join_low .i64 63 (by decide) wraps_i64 0 0 x (by omega) (by omega) (by omega) h0 (by omega) h1
  omega
theorem i64_or7 (y x : Int) (hy : 0 ≤ y) (hy' : y < 128) (h0 : 0 ≤ x) (hx : x % 128 = 0) (h1 : x < 9223372036854775808) : bits .or .i64 y x = y + x :=
  bits_join_low .i64 63 (by decide) wraps_i64 7 y x hy hy' (by omega) h0 hx h1
theorem i64_or14 (y x : Int) (hy : 0 ≤ y) (hy' : y < 16384) (h0 : 0 ≤ x) (hx : x % 16384 = 0) (h1 : x < 9223372036854775808) : bits .or .i64 y x = y + x :=
  bits_join_low .i64 63 (by decide) wraps_i64 14 y x hy hy' (by omega) h0 hx h1
theorem drop_cons (L : List UInt8) (p : Nat) (h : p < L.length) : L.drop p = L[p] :: L.drop (p + 1) := List.drop_eq_getElem_cons h

theorem at_zero (N f k v p : Nat) (x : UInt8) (l : List UInt8) (h : x.toNat < 128) (hk : 0 < k) (h0 : x.toNat = 0) : rdAt N (f + 1) k v p (x :: l) = none := by
  rw [rdAt, if_pos h, if_pos ⟨hk, h0⟩]
theorem at_no (N f k v p : Nat) (x : UInt8) (l : List UInt8) (h : x.toNat < 128) (hk : ¬ (0 < k ∧ x.toNat = 0)) (hf : N - (p + 1) < v + x.toNat * 128 ^ k) : rdAt N (f + 1) k v p (x :: l) = none := by
  rw [rdAt, if_pos h, if_neg hk, if_pos hf]
theorem at_yes (N f k v p : Nat) (x : UInt8) (l : List UInt8) (h : x.toNat < 128) (hk : ¬ (0 < k ∧ x.toNat = 0)) (hf : ¬ N - (p + 1) < v + x.toNat * 128 ^ k) : rdAt N (f + 1) k v p (x :: l) = some (p + 1, p + 1 + (v + x.toNat * 128 ^ k)) := by
  rw [rdAt, if_pos h, if_neg hk, if_neg hf]
theorem at_more (N f k v p : Nat) (x : UInt8) (l : List UInt8) (h : ¬ x.toNat < 128) : rdAt N (f + 1) k v p (x :: l) = rdAt N f (k + 1) (v + x.toNat % 128 * 128 ^ k) (p + 1) l := by
  rw [rdAt, if_neg h]
theorem at_out (N f k v p : Nat) (l : List UInt8) (h : l = []) : rdAt N (f + 1) k v p l = none := by subst h; rfl
theorem pow_bd1 {a : Nat} (h : a < 128) : a < 128 ^ 1 := h
theorem pow_bd2 {a : Nat} (h : a < 16384) : a < 128 ^ 2 := h
theorem pow_bd3 {a : Nat} (h : a < 2097152) : a < 128 ^ 3 := h
theorem rdV_eq {a b : Int} {s e : Nat} (h : a = s) (h' : b = e) : Ending.returned (.tuple #[.int .i64 a, .int .i64 b, .bool true]) = .returned (rdV (some (s, e))) := by rw [h, h']; rfl

set_option maxHeartbeats 2000000 in
set_option maxRecDepth 100000 in
theorem read11 (B c p : Nat) (L : List UInt8) (w : World) (hN : L.length ≤ 1048576) (hp : p ≤ L.length) (hB : ∀ j (h : j < L.length), w.cell? ⟨B, j, none⟩ = some (.int .u8 ((L[j]).toNat : Int))) :
    Calls Tryf.prog 11 #[.slice (some ⟨B, 0, none⟩) L.length c, .int .i64 p] w fun e w' => e = .returned (rdV (rdAt L.length 3 0 0 p (L.drop p))) ∧ w' = w := by
  go_enter Tryf.func11, Tryf.ntmps11
  go_wp2
  go_loop [1, 7, 8, 9] (fun vp vv vs vi => ∃ k v : Nat, k ≤ 3 ∧ v < 128 ^ k ∧ p + k ≤ L.length ∧ vp = .int .i64 ((p + k : Nat) : Int) ∧ vv = .int .i64 (v : Int) ∧ vs = .int .u64 ((7 * k : Nat) : Int) ∧ vi = .int .i64 (k : Int) ∧ Hid (rdAt L.length 3 0 0 p (L.drop p) = rdAt L.length (3 - k) k v (p + k) (L.drop (p + k)))) (fun _ _ _ i => 3 - (intOf i).toNat)
  case atStart => exact ⟨0, 0, by omega, by decide, by omega, rfl, rfl, rfl, rfl, hid rfl⟩
  case round =>
    obtain ⟨k, v, hk, hv, hpk, rfl, rfl, rfl, rfl, HC⟩ := hrel
    by_cases h3 : k = 3
    · subst h3
      go_wp2
      go_ret3
      exact ⟨by rw [HC.out]; rfl, rfl⟩
    · by_cases hlt : p + k < L.length
      · have hc := hB (p + k) hlt
        have hcons := drop_cons L (p + k) hlt
        obtain ⟨x, hx⟩ : ∃ x, L[p + k] = x := ⟨_, rfl⟩
        rw [hx] at hc hcons
        have hxb : x.toNat < 256 := x.toNat_lt
        rw [hcons] at HC
        clear hcons hB hx
        have ha : bits .and .u8 (x.toNat : Int) 127 = ((x.toNat % 128 : Nat) : Int) := by rw [u8_and127 _ (by omega) (by omega)]; omega
        have hm : x.toNat % 128 < 128 := Nat.mod_lt _ (by decide)
        obtain ⟨y, hy⟩ : ∃ y, x.toNat % 128 = y := ⟨_, rfl⟩
        rw [hy] at ha hm
        have HY := hid hy
        clear hy
        rcases (show k = 0 ∨ k = 1 ∨ k = 2 by omega) with rfl | rfl | rfl
        · obtain rfl : v = 0 := by simpa using hv
          simp only [Nat.add_zero] at hc hpk hlt HC
          have hor := i64_or0 (y : Int) (by omega) (by omega)
          clear hv hk h3
          by_cases h128 : x.toNat < 128
          · have HX := hid (show y = x.toNat by have := HY.out; omega)
            by_cases hf : L.length - (p + 1) < y
            · have HE := hid (at_no L.length 2 0 0 p x (L.drop (p + 1)) h128 (by omega) (by have := HX.out; simp; omega))
              have hf' : (L.length : Int) - ((p : Int) + 1) < (y : Int) := by omega
              go_wp2
              go_ret3
              exact ⟨by rw [HC.out, HE.out]; rfl, rfl⟩
            · have HE := hid (at_yes L.length 2 0 0 p x (L.drop (p + 1)) h128 (by omega) (by have := HX.out; simp; omega))
              have hf' : (y : Int) ≤ (L.length : Int) - ((p : Int) + 1) := by omega
              go_wp2
              go_ret3
              exact ⟨by rw [HC.out, HE.out]; exact rdV_eq (by omega) (by have := HX.out; omega), rfl⟩
          · have HE := hid (at_more L.length 2 0 0 p x (L.drop (p + 1)) h128)
            go_wp2
            go_round
            case rel => exact ⟨1, y, by omega, pow_bd1 (by omega), by omega, by go_num, by go_num, rfl, rfl, hid (by rw [HC.out, HE.out, HY.out]; simp)⟩
            case measure => simp [intOf]
        · have hv' : v < 128 := by simpa using hv
          have hor := i64_or7 (v : Int) ((y : Int) * 128) (by omega) (by omega) (by omega) (by omega) (by omega)
          clear hv hk h3
          by_cases h128 : x.toNat < 128
          · have HX := hid (show y = x.toNat by have := HY.out; omega)
            by_cases h0 : x.toNat = 0
            · have HE := hid (at_zero L.length 1 1 v (p + 1) x (L.drop (p + 1 + 1)) h128 (by omega) h0)
              have h0' : ((x.toNat : Int) == 0) = true := by simpa using h0
              go_wp2
              go_ret3
              exact ⟨by rw [HC.out, HE.out]; rfl, rfl⟩
            have h0' : ((x.toNat : Int) == 0) = false := by simpa using h0
            by_cases hf : L.length - (p + 1 + 1) < v + y * 128
            · have HE := hid (at_no L.length 1 1 v (p + 1) x (L.drop (p + 1 + 1)) h128 (by omega) (by have := HX.out; omega))
              have hf' : (L.length : Int) - ((p : Int) + 1 + 1) < (v : Int) + (y : Int) * 128 := by omega
              go_wp2
              go_ret3
              exact ⟨by rw [HC.out, HE.out]; rfl, rfl⟩
            · have HE := hid (at_yes L.length 1 1 v (p + 1) x (L.drop (p + 1 + 1)) h128 (by omega) (by have := HX.out; omega))
              have hf' : (v : Int) + (y : Int) * 128 ≤ (L.length : Int) - ((p : Int) + 1 + 1) := by omega
              go_wp2
              go_ret3
              exact ⟨by rw [HC.out, HE.out]; exact rdV_eq (by omega) (by have := HX.out; omega), rfl⟩
          · have HE := hid (at_more L.length 1 1 v (p + 1) x (L.drop (p + 1 + 1)) h128)
            go_wp2
            go_round
            case rel => exact ⟨2, v + y * 128, by omega, pow_bd2 (by omega), by omega, by go_num, by go_num, rfl, rfl, hid (by rw [HC.out, HE.out, HY.out])⟩
            case measure => simp [intOf]
        · have hv' : v < 16384 := by simpa using hv
          have hor := i64_or14 (v : Int) ((y : Int) * 16384) (by omega) (by omega) (by omega) (by omega) (by omega)
          clear hv hk h3
          by_cases h128 : x.toNat < 128
          · have HX := hid (show y = x.toNat by have := HY.out; omega)
            by_cases h0 : x.toNat = 0
            · have HE := hid (at_zero L.length 0 2 v (p + 2) x (L.drop (p + 2 + 1)) h128 (by omega) h0)
              have h0' : ((x.toNat : Int) == 0) = true := by simpa using h0
              go_wp2
              go_ret3
              exact ⟨by rw [HC.out, HE.out]; rfl, rfl⟩
            have h0' : ((x.toNat : Int) == 0) = false := by simpa using h0
            by_cases hf : L.length - (p + 2 + 1) < v + y * 16384
            · have HE := hid (at_no L.length 0 2 v (p + 2) x (L.drop (p + 2 + 1)) h128 (by omega) (by have := HX.out; omega))
              have hf' : (L.length : Int) - ((p : Int) + 2 + 1) < (v : Int) + (y : Int) * 16384 := by omega
              go_wp2
              go_ret3
              exact ⟨by rw [HC.out, HE.out]; rfl, rfl⟩
            · have HE := hid (at_yes L.length 0 2 v (p + 2) x (L.drop (p + 2 + 1)) h128 (by omega) (by have := HX.out; omega))
              have hf' : (v : Int) + (y : Int) * 16384 ≤ (L.length : Int) - ((p : Int) + 2 + 1) := by omega
              go_wp2
              go_ret3
              exact ⟨by rw [HC.out, HE.out]; exact rdV_eq (by omega) (by have := HX.out; omega), rfl⟩
          · have HE := hid (at_more L.length 0 2 v (p + 2) x (L.drop (p + 2 + 1)) h128)
            go_wp2
            go_round
            case rel => exact ⟨3, v + y * 16384, by omega, pow_bd3 (by omega), by omega, by go_num, by go_num, rfl, rfl, hid (by rw [HC.out, HE.out, HY.out])⟩
            case measure => simp [intOf]
      · have HE := hid (at_out L.length (2 - k) k v (p + k) (L.drop (p + k)) (List.drop_of_length_le (by omega)))
        rcases (show k = 0 ∨ k = 1 ∨ k = 2 by omega) with rfl | rfl | rfl
        · have hge : (L.length : Int) ≤ (p : Int) := by omega
          clear hB
          go_wp2
          go_ret3
          exact ⟨by rw [HC.out, HE.out]; rfl, rfl⟩
        · have hge : (L.length : Int) ≤ (p : Int) + 1 := by omega
          clear hB
          go_wp2
          go_ret3
          exact ⟨by rw [HC.out, HE.out]; rfl, rfl⟩
        · have hge : (L.length : Int) ≤ (p : Int) + 2 := by omega
          clear hB
          go_wp2
          go_ret3
          exact ⟨by rw [HC.out, HE.out]; rfl, rfl⟩
end Go.Proofs.Qxb6604478aFmt
