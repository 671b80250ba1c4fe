import Derived.Test.Qxb6604199aIdWalks
namespace Go.Proofs.Qxb6604199a
open Go.ChangeShapes Go.WideShapes Go.ChangeAt Go.RowKit

set_option maxHeartbeats 2000000 in
theorem groups11 (s : ByteArray) (w : World) (hs : s.size ≤ 1048576) :
    Calls Try.prog 11 #[.string s] w fun e w' => e = .returned (.bool (scan 0 0 s.data.toList)) ∧ Grown w w' := by
  go_enter Try.func11, Try.ntmps11
  go_wp2
  go_loop [4, 5, 6] (fun vg vr vi => ∃ g r k : Nat, g ≤ 4 ∧ r ≤ k ∧ k ≤ s.size ∧ vg = .int .i64 g ∧ vr = .int .i64 r ∧ vi = .int .i64 k ∧ Hid (scan 0 0 s.data.toList = scan g r (s.data.toList.drop k))) (fun _ _ i => s.size - (intOf i).toNat)
  case atStart => exact ⟨0, 0, 0, Nat.zero_le _, Nat.zero_le _, Nat.zero_le _, rfl, rfl, rfl, hid' rfl⟩
  case round =>
    obtain ⟨g, r, k, hg, hr, hk, rfl, rfl, rfl, HC⟩ := hrel
    by_cases hlt : k < s.size
    · by_cases hc : (s[k].toNat : Int) = 45
      · by_cases hgo : g < 4 ∧ r = wantN g
        · obtain ⟨hg4, hrw⟩ := hgo
          have HS := hid' (scan_dash s k g r hlt hc hg4 hrw)
          rcases (show g = 0 ∨ g = 1 ∨ g = 2 ∨ g = 3 by omega) with rfl | rfl | rfl | rfl
          all_goals
            simp only [wantN] at hrw
            simp at hrw
            subst hrw
            go_wp2
            go_round
            case rel => exact ⟨_ + 1, 0, k + 1, by omega, by omega, by omega, rfl, rfl, by go_num, hid' (by rw [HC.out, HS.out])⟩
            case measure => simp [intOf]; omega
        · have HS := hid' (scan_dash_no s k g r hlt hc (by omega))
          by_cases h4 : g = 4
          · subst h4
            clear hgo
            go_wp2
            go_ret
            exact ⟨retB (by rw [HC.out, HS.out]), (Grown.refl _).alloc _ _⟩
          · have hrw : ¬ r = wantN g := fun h => hgo ⟨by omega, h⟩
            clear hgo
            rcases (show g = 0 ∨ g = 1 ∨ g = 2 ∨ g = 3 by omega) with rfl | rfl | rfl | rfl
            all_goals
              simp only [wantN] at hrw
              simp at hrw
              have hrw' : ((r : Int) != _) = true := bne_iff_ne.2 (fun h => hrw (Int.ofNat_inj.1 h))
              go_wp2
              go_ret
              exact ⟨retB (by rw [HC.out, HS.out]), (Grown.refl _).alloc _ _⟩
      · by_cases hx : isHexI s[k].toNat = true
        · have HS := hid' (scan_hex s k g r hlt hc hx)
          go_wp2_with (go_at_call 21; refine (hex21_yes _ _ hx).mono ?_; rintro e w' ⟨rfl, rfl⟩)
          go_round
          case rel => exact ⟨g, r + 1, k + 1, by omega, by omega, by omega, rfl, by go_num, by go_num, hid' (by rw [HC.out, HS.out])⟩
          case measure => simp [intOf]; omega
        · have hx' : isHexI s[k].toNat = false := by simpa using hx
          have HS := hid' (scan_other s k g r hlt hc hx')
          clear hx
          go_wp2_with (go_at_call 21; refine (hex21_no _ _ hx').mono ?_; rintro e w' ⟨rfl, rfl⟩)
          go_ret
          exact ⟨retB (by rw [HC.out, HS.out]), (Grown.refl _).alloc _ _⟩
    · have HS := hid' (scan_end s k g r (by omega))
      by_cases h4 : g = 4
      · subst h4
        by_cases h12 : r = 12
        · subst h12
          go_wp2
          go_ret
          exact ⟨retB (by rw [HC.out, HS.out]; rfl), (Grown.refl _).alloc _ _⟩
        · have h12' : ((r : Int) == 12) = false := by simp; omega
          go_wp2
          go_ret
          exact ⟨retB (by rw [HC.out, HS.out]; simp [h12]), (Grown.refl _).alloc _ _⟩
      · have h4' : ((g : Int) == 4) = false := by simp; omega
        go_wp2
        go_ret
        exact ⟨retB (by rw [HC.out, HS.out]; simp [h4]), (Grown.refl _).alloc _ _⟩
end Go.Proofs.Qxb6604199a
