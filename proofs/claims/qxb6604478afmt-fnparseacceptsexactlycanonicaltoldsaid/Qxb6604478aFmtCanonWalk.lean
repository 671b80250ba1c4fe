import Derived.Test.Qxb6604478aFmtCavWalk
namespace Go.Proofs.Qxb6604478aFmt
open Go.RowKit

/-! ### canonicalV2MacB1 -/
def tailC (d : List UInt8) : Option (List UInt8) → Option (List UInt8)
  | none => none
  | some r => if sigC r then some d else none
def canonT2 (d l2 : List UInt8) : Option (List UInt8) := match endC l2 with
  | none => none
  | some l3 => tailC d (cavsC (l3.length + 1) l3)
def canonT1 (l1 : List UInt8) : Option (List UInt8) := match idC l1 with
  | none => none
  | some (d, l2) => canonT2 d l2
theorem canon_unfold (l : List UInt8) : canonTail l = match optC 1 l with
  | none => none
  | some l1 => canonT1 l1 := by
  unfold canonTail headC canonT1 canonT2 tailC
  cases optC 1 l with
  | none => rfl
  | some l1 =>
    dsimp only
    cases idC l1 with
    | none => rfl
    | some p =>
      obtain ⟨d, l2⟩ := p
      dsimp only
      cases endC l2 with
      | none => rfl
      | some l3 =>
        dsimp only
        cases cavsC (l3.length + 1) l3 <;> rfl
def canPost (B c : Nat) (L : List UInt8) (e : Ending) : Prop := match canon L with
  | none => e = .returned (.tuple #[.bool false, .slice none 0 0])
  | some d => ∃ s : Nat, (L.drop s).take d.length = d ∧ s + d.length ≤ L.length ∧ e = .returned (.tuple #[.bool true, .slice (some ⟨B, s, none⟩) d.length (c - s)])
theorem canPost_no (B c : Nat) (L : List UInt8) (h : canon L = none) : canPost B c L (.returned (.tuple #[.bool false, .slice none 0 0])) := by unfold canPost; rw [h]
theorem canPost_yes (B c s n k : Nat) (L d : List UInt8) (h : canon L = some d) (h1 : (L.drop s).take d.length = d) (h2 : s + d.length ≤ L.length) (hn : n = d.length) (hk : k = c - s) : canPost B c L (.returned (.tuple #[.bool true, .slice (some ⟨B, s, none⟩) n k])) := by
  unfold canPost; rw [h, hn, hk]; exact ⟨s, h1, h2, rfl⟩

theorem canon6_empty (a : Option Addr) (c : Nat) (w : World) :
    Calls Tryf.prog 6 #[.slice a 0 c] w fun e w' => e = .returned (.tuple #[.bool false, .slice none 0 0]) ∧ w' = w := by
  go_enter Tryf.func6, Tryf.ntmps6
  go_wp2
  go_ret2
  exact ⟨rfl, rfl⟩

theorem sig_short (r : List UInt8) (h : ¬ r.length = 34) : sigC r = false := by
  match r, h with
  | [], _ => rfl
  | [_], _ => rfl
  | a :: b :: r, h =>
    rw [sigC]
    have : ¬ r.length = 32 := by simp at h; omega
    simp [this]
def flagOf : Value → Nat
  | .bool true => 0
  | _ => 1
set_option maxHeartbeats 4000000 in
set_option maxRecDepth 100000 in
theorem canon6 (B c : Nat) (L : List UInt8) (w : World) (hN : L.length ≤ 1048576) (hcap : L.length ≤ c) (h0 : 0 < L.length) (hB : HasB w B L) :
    Calls Tryf.prog 6 #[.slice (some ⟨B, 0, none⟩) L.length c] w fun e w' => canPost B c L e ∧ w' = w := by
  have HB := hid hB
  have hc : w.cell? ⟨B, 0, none⟩ = some (.int .u8 ((L[0]).toNat : Int)) := hB 0 h0
  have hcons := drop_cons L 0 h0
  rw [List.drop_zero] at hcons
  obtain ⟨x, hx⟩ : ∃ x, L[0] = x := ⟨_, rfl⟩
  rw [hx] at hc hcons
  have hln : ((L.length : Int) == 0) = false := beq_eq_false_iff_ne.2 (by omega)
  by_cases h2 : x.toNat = 2
  · have HC := hid (show canon L = canonTail (L.drop 1) by rw [hcons, canon, if_pos h2]; simp)
    have h2' : ((x.toNat : Int) != 2) = false := by simp; omega
    clear hcons hx hB
    go_enter Tryf.func6, Tryf.ntmps6
    go_upto_region 4 with fail
    clear hc h2 h2' hln x
    obtain ⟨tb, htb⟩ : ∃ tb : Bool, (tb = true ↔ ∃ h : 1 < L.length, (L[1]).toNat = 1) := by
      by_cases h : ∃ h : 1 < L.length, (L[1]).toNat = 1
      · exact ⟨true, by simp [h]⟩
      · exact ⟨false, by simp [h]⟩
    have HT := hid htb
    clear htb
    go_cut [34] (fun s34 wx => wx = w ∧ s34 = .bool tb)
    case first =>
      by_cases h1 : 1 < L.length
      · have hc := HB.out 1 h1
        obtain ⟨x, hx⟩ : ∃ x, L[1] = x := ⟨_, rfl⟩
        rw [hx] at hc
        by_cases hx1 : x.toNat = 1
        · obtain rfl : tb = true := HT.out.2 ⟨h1, by rw [hx]; exact hx1⟩
          have hx1' : ((x.toNat : Int) == 1) = true := by simp; omega
          clear hx
          go_wp2_with fail
          go_meet
          case rel => exact ⟨rfl, rfl⟩
        · have htf : tb = false := by
            cases tb with
            | false => rfl
            | true => obtain ⟨_, h⟩ := HT.out.1 rfl; rw [hx] at h; exact absurd h hx1
          subst htf
          have hx1' : ((x.toNat : Int) == 1) = false := by simp; omega
          clear hx
          go_wp2_with fail
          go_meet
          case rel => exact ⟨rfl, rfl⟩
      · have htf : tb = false := by
          cases tb with
          | false => rfl
          | true => obtain ⟨h, _⟩ := HT.out.1 rfl; exact absurd h h1
        subst htf
        have h1' : decide ((1 : Int) < (L.length : Int)) = false := by simp; omega
        go_wp2_with fail
        go_meet
        case rel => exact ⟨rfl, rfl⟩
    case rest =>
      obtain ⟨rfl, rfl⟩ := hcut
      go_upto_if 34 with fail
      go_cut [4] (fun s4 wx => wx = wc ∧ ∃ q : Nat, s4 = .int .i64 (q : Int) ∧ q ≤ L.length ∧ Hid (canon L = canonT1 (L.drop q)))
      case first =>
        cases tb with
        | true =>
          obtain ⟨h1, hx1⟩ := HT.out.1 rfl
          have hcons := drop_cons L 1 h1
          cases hr : rdL (L.drop 2) with
          | none =>
            have HD := hid (show canon L = none by rw [HC.out, canon_unfold, hcons, opt_one 1 _ _ hx1 hr])
            have hcall := read_no B c 2 L wc hN (by omega) HB.out hr
            clear hr hcons hx1
            go_wp2_with (go_at_call 11; refine hcall.mono ?_; rintro e w' ⟨rfl, rfl⟩)
            go_ret2
            exact ⟨canPost_no B c L HD.out, rfl⟩
          | some dr =>
            obtain ⟨d, r⟩ := dr
            obtain ⟨s, e, hs, he, hpe, hdrop, _, hcall⟩ := read_yes B c 2 L d r wc hN (by omega) HB.out hr
            by_cases hd : d.length = 0
            · have HD := hid (show canon L = none by rw [HC.out, canon_unfold, hcons, opt_two 1 _ _ d r hx1 hr hd])
              have hes := cast_beq_true (show e = s by omega)
              clear hr hdrop hcons hx1
              go_wp2_with (go_at_call 11; refine hcall.mono ?_; rintro e w' ⟨rfl, rfl⟩)
              go_ret2
              exact ⟨canPost_no B c L HD.out, rfl⟩
            · have HD := hid (show canon L = canonT1 (L.drop e) by rw [HC.out, canon_unfold, hcons, opt_three 1 _ _ d r hx1 hr hd, hdrop])
              have hes := cast_beq_false (show ¬ e = s by omega)
              clear hr hdrop hcons hx1
              go_wp2_with (go_at_call 11; refine hcall.mono ?_; rintro e w' ⟨rfl, rfl⟩)
              go_meet
              case rel => exact ⟨rfl, e, rfl, by omega, HD⟩
        | false =>
          have HD : Hid (canon L = canonT1 (L.drop 1)) := by
            apply hid
            rw [HC.out, canon_unfold]
            by_cases h1 : 1 < L.length
            · have hcons := drop_cons L 1 h1
              rw [hcons, opt_four 1 _ _ (fun h => by have := HT.out.2 ⟨h1, h⟩; cases this)]
            · rw [List.drop_of_length_le (by omega)]; rfl
          go_wp2_with fail
          go_meet
          case rel => exact ⟨rfl, 1, rfl, by omega, HD⟩
      case rest =>
        obtain ⟨rfl, q, rfl, hq, HQ⟩ := hcut
        clear HC HT tb
        by_cases hqn : q < L.length
        · have hc := HB.out q hqn
          have hcons := drop_cons L q hqn
          obtain ⟨x, hx⟩ : ∃ x, L[q] = x := ⟨_, rfl⟩
          rw [hx] at hc hcons
          have HP := hid hcons
          clear hcons hx
          by_cases h2 : x.toNat = 2
          · have h2' : ((x.toNat : Int) != 2) = false := by simp; omega
            cases hr : rdL (L.drop (q + 1)) with
            | none =>
              have HD := hid (show canon L = none by rw [HQ.out, HP.out]; unfold canonT1; rw [idC, if_pos h2, hr])
              have hcall := read_no B c (q + 1) L _ hN (by omega) HB.out hr
              clear hr
              go_wp2_with (go_at_call 11; refine hcall.mono ?_; rintro e w' ⟨rfl, rfl⟩)
              go_ret2
              exact ⟨canPost_no B c L HD.out, rfl⟩
            | some dr =>
              obtain ⟨d, r⟩ := dr
              obtain ⟨s, e, hs, he, hpe, hdrop, htake, hcall⟩ := read_yes B c (q + 1) L d r _ hN (by omega) HB.out hr
              have HD := hid (show canon L = canonT2 d (L.drop e) by rw [HQ.out, HP.out]; unfold canonT1; rw [idC, if_pos h2, hr, hdrop])
              have HTK := hid htake
              clear hr hdrop HQ HP htake
              by_cases hen : e < L.length
              · have hce := HB.out e hen
                have hcons := drop_cons L e hen
                obtain ⟨x3, hx3⟩ : ∃ x3, L[e] = x3 := ⟨_, rfl⟩
                rw [hx3] at hce hcons
                have HP := hid hcons
                clear hcons hx3
                by_cases h0 : x3.toNat = 0
                · have h0' : ((x3.toNat : Int) != 0) = false := by simp; omega
                  have HE := hid (show canon L = tailC d (cavsC ((L.drop (e + 1)).length + 1) (L.drop (e + 1))) by rw [HD.out, HP.out]; unfold canonT2; rw [endC, if_pos h0])
                  clear HD HP
                  go_upto_region 19 with (go_at_call 11; refine hcall.mono ?_; rintro e w' ⟨rfl, rfl⟩)
                  go_cut [4, 12] (fun s4 s12 wx => wx = w' ∧ s4 = .int .i64 ((e : Int) + 1) ∧ s12 = .bool false)
                  case first =>
                    go_wp2_with fail
                    go_meet
                    case rel => exact ⟨rfl, rfl, rfl⟩
                  obtain ⟨rfl, rfl, rfl⟩ := hcut
                  go_wp2_with fail
                  have HX := hid (show s + d.length ≤ L.length ∧ e - s = d.length ∧ e + 1 ≤ L.length by omega)
                  clear hcall hce h0 h0' h2 h2' hc x x3
                  go_loop [4, 12] (fun vp ve => ∃ q : Nat, q ≤ L.length ∧ vp = .int .i64 (q : Int) ∧ ((ve = .bool false ∧ ∃ f : Nat, (L.drop q).length < f ∧ Hid (canon L = tailC d (cavsC f (L.drop q)))) ∨ (ve = .bool true ∧ Hid (canon L = tailC d (some (L.drop q)))))) (fun vp ve => L.length - (intOf vp).toNat + flagOf ve)
                  case atStart => exact ⟨e + 1, HX.out.2.2, rfl, .inl ⟨rfl, _, Nat.lt_succ_self _, HE⟩⟩
                  case round =>
                    obtain ⟨q1, hq1, rfl, hcase⟩ := hrel
                    rcases hcase with ⟨rfl, f, hf, HF⟩ | ⟨rfl, HF⟩
                    · by_cases hq1n : q1 < L.length
                      · have hc := HB.out q1 hq1n
                        have hcons := drop_cons L q1 hq1n
                        obtain ⟨x, hx⟩ : ∃ x, L[q1] = x := ⟨_, rfl⟩
                        rw [hx] at hc hcons
                        have HP := hid hcons
                        have hq1n' : (q1 : Int) < (L.length : Int) := by omega
                        obtain ⟨f, rfl⟩ : ∃ g, f = g + 1 := ⟨f - 1, by omega⟩
                        by_cases h0 : x.toNat = 0
                        · have h0' : ((x.toNat : Int) == 0) = true := by simp; omega
                          have HG := hid (show cavsC (f + 1) (L.drop q1) = some (L.drop (q1 + 1)) by rw [hcons, cavsC, if_pos h0])
                          clear hx hcons
                          go_wp2
                          go_round
                          case rel => exact ⟨q1 + 1, by omega, by go_num, .inr ⟨rfl, hid (by rw [HF.out, HG.out])⟩⟩
                          case measure => simp [intOf, flagOf]; omega
                        · have h0' : ((x.toNat : Int) == 0) = false := by simp; omega
                          have hcall := cav12 B c q1 L _ hN hq1n HB.out
                          cases hv : cavC (L.drop q1) with
                          | none =>
                            have HG := hid (show cavsC (f + 1) (L.drop q1) = none by rw [hcons] at hv ⊢; rw [cavsC, if_neg h0, hv])
                            rw [hv] at hcall
                            dsimp only [cavV] at hcall
                            clear hx hcons hv
                            go_wp2_with (go_at_call 12; refine hcall.mono ?_; rintro e w' ⟨rfl, rfl⟩)
                            go_ret2
                            exact ⟨canPost_no _ _ L (by rw [HF.out, HG.out]; rfl), rfl⟩
                          | some r1 =>
                            have HG := hid (show cavsC (f + 1) (L.drop q1) = cavsC f r1 by rw [hcons] at hv ⊢; rw [cavsC, if_neg h0, hv])
                            obtain ⟨cv, ecv⟩ := cav_inv _ _ hv
                            obtain ⟨e5, e6⟩ := suffix_drop ecv (by omega)
                            have hcl := cav_len cv
                            rw [hv] at hcall
                            dsimp only [cavV] at hcall
                            obtain ⟨q2, hq2⟩ : ∃ q2, L.length - r1.length = q2 := ⟨_, rfl⟩
                            rw [hq2] at hcall e5
                            have hlt2 : q1 < q2 ∧ q2 ≤ L.length := by omega
                            have HE5 := hid e5
                            have HR := hid (show r1.length < f by simp at hf; omega)
                            clear hx hcons hv ecv e5 e6 hcl hq2
                            go_wp2_with (go_at_call 12; refine hcall.mono ?_; rintro e w' ⟨rfl, rfl⟩)
                            go_round
                            case rel => exact ⟨q2, by omega, rfl, .inl ⟨rfl, f, by rw [HE5.out]; exact HR.out, hid (by rw [HF.out, HG.out, HE5.out])⟩⟩
                            case measure => simp [intOf, flagOf]; omega
                      · have HG := hid (show cavsC f (L.drop q1) = none by rw [List.drop_of_length_le (by omega)]; cases f <;> rfl)
                        have hq1n' : decide ((q1 : Int) < (L.length : Int)) = false := by simp; omega
                        go_wp2
                        go_ret2
                        exact ⟨canPost_no _ _ L (by rw [HF.out, HG.out]; rfl), rfl⟩
                    · by_cases h34 : q1 + 34 = L.length
                      · have hc := HB.out q1 (by omega)
                        have hc1 := HB.out (q1 + 1) (by omega)
                        have hcons := drop_cons L q1 (by omega)
                        have hcons1 := drop_cons L (q1 + 1) (by omega)
                        obtain ⟨x, hx⟩ : ∃ x, L[q1] = x := ⟨_, rfl⟩
                        obtain ⟨y, hy⟩ : ∃ y, L[q1 + 1] = y := ⟨_, rfl⟩
                        rw [hx] at hc hcons
                        rw [hy] at hc1 hcons1
                        have h34' : (L.length : Int) - (q1 : Int) = 34 := by omega
                        have HS := hid (show sigC (L.drop q1) = (decide (x.toNat = 6) && decide (y.toNat = 32)) by rw [hcons, hcons1, sigC]; simp; omega)
                        clear hx hy hcons hcons1
                        by_cases h6 : x.toNat = 6
                        · have h6' : ((x.toNat : Int) != 6) = false := by simp; omega
                          by_cases h32 : y.toNat = 32
                          · have h32' : ((y.toNat : Int) != 32) = false := by simp; omega
                            go_wp2
                            go_ret2
                            exact ⟨canPost_yes _ _ _ _ _ L d (by rw [HF.out]; show (if _ then _ else _) = _; rw [HS.out, if_pos (by simp [h6, h32])]) HTK.out HX.out.1 HX.out.2.1 rfl, rfl⟩
                          · have h32' : ((y.toNat : Int) != 32) = true := by simp; omega
                            go_wp2
                            go_ret2
                            exact ⟨canPost_no _ _ L (by rw [HF.out]; show (if _ then _ else _) = _; rw [HS.out, if_neg (by simp [h32])]), rfl⟩
                        · have h6' : ((x.toNat : Int) != 6) = true := by simp; omega
                          go_wp2
                          go_ret2
                          exact ⟨canPost_no _ _ L (by rw [HF.out]; show (if _ then _ else _) = _; rw [HS.out, if_neg (by simp [h6])]), rfl⟩
                      · have HS := hid (show sigC (L.drop q1) = false from sig_short _ (by simp; omega))
                        have h34' : (((L.length : Int) - (q1 : Int)) != 34) = true := by simp; omega
                        by_cases hq1n : q1 < L.length
                        · have hq1n' : (q1 : Int) < (L.length : Int) := by omega
                          go_wp2
                          go_ret2
                          exact ⟨canPost_no _ _ L (by rw [HF.out]; show (if _ then _ else _) = _; rw [HS.out]; rfl), rfl⟩
                        · have hq1n' : decide ((q1 : Int) < (L.length : Int)) = false := by simp; omega
                          go_wp2
                          go_ret2
                          exact ⟨canPost_no _ _ L (by rw [HF.out]; show (if _ then _ else _) = _; rw [HS.out]; rfl), rfl⟩
                · have h0' : ((x3.toNat : Int) != 0) = true := by simp; omega
                  have HE := hid (show canon L = none by rw [HD.out, HP.out]; unfold canonT2; rw [endC, if_neg h0])
                  go_wp2_with (go_at_call 11; refine hcall.mono ?_; rintro e w' ⟨rfl, rfl⟩)
                  go_ret2
                  exact ⟨canPost_no B c L HE.out, rfl⟩
              · have hen' : (L.length : Int) ≤ (e : Int) := by omega
                have HE := hid (show canon L = none by rw [HD.out, List.drop_of_length_le (by omega)]; rfl)
                go_wp2_with (go_at_call 11; refine hcall.mono ?_; rintro e w' ⟨rfl, rfl⟩)
                all_goals
                  go_ret2
                  exact ⟨canPost_no _ _ L HE.out, rfl⟩
          · have h2' : ((x.toNat : Int) != 2) = true := by simp; omega
            have HD := hid (show canon L = none by rw [HQ.out, HP.out]; unfold canonT1; rw [idC, if_neg h2])
            go_wp2_with fail
            go_ret2
            exact ⟨canPost_no B c L HD.out, rfl⟩
        · have hqn' : (L.length : Int) ≤ (q : Int) := by omega
          have HD := hid (show canon L = none by rw [HQ.out, List.drop_of_length_le (by omega)]; rfl)
          go_wp2_with fail
          go_ret2
          exact ⟨canPost_no B c L HD.out, rfl⟩
  · have HC := hid (show canon L = none by rw [hcons, canon, if_neg h2])
    have h2' : ((x.toNat : Int) != 2) = true := by simp; omega
    clear hcons hx hB
    go_enter Tryf.func6, Tryf.ntmps6
    go_wp2
    go_ret2
    exact ⟨canPost_no B c L HC.out, rfl⟩
end Go.Proofs.Qxb6604478aFmt
