import Derived.Test.Qxb6604478aFmtReadWalk
import Derived.Deep.DeepCutAuto
namespace Go.Proofs.Qxb6604478aFmt
open Go.RowKit

/-! ### caveatMacB1 -/
/-- The bytes lie at the head of block B. -/
def HasB (w : World) (B : Nat) (L : List UInt8) : Prop := ∀ j (h : j < L.length), w.cell? ⟨B, j, none⟩ = some (.int .u8 ((L[j]).toNat : Int))
theorem suffix_drop {L x r : List UInt8} {p : Nat} (h : L.drop p = x ++ r) (hp : p ≤ L.length) : L.drop (L.length - r.length) = r ∧ r.length + x.length + p = L.length := by
  have hl := congrArg List.length h
  simp at hl
  have e : L.length - r.length = p + x.length := by omega
  refine ⟨?_, by omega⟩
  rw [e, ← List.drop_drop, h, List.drop_left]
/-- What the reader hands back, and where it stands then. -/
theorem read_no (B c p : Nat) (L : List UInt8) (w : World) (hN : L.length ≤ 1048576) (hp : p ≤ L.length) (hB : HasB w B L) (h : rdL (L.drop p) = none) :
    Calls Tryf.prog 11 #[.slice (some ⟨B, 0, none⟩) L.length c, .int .i64 p] w fun e w' => e = .returned (.tuple #[.int .i64 0, .int .i64 0, .bool false]) ∧ w' = w := by
  have hr := read11 B c p L w hN hp hB
  rw [rdAt_none L.length p _ (by simp; omega) h] at hr
  exact hr
theorem read_yes (B c p : Nat) (L d r : List UInt8) (w : World) (hN : L.length ≤ 1048576) (hp : p ≤ L.length) (hB : HasB w B L) (h : rdL (L.drop p) = some (d, r)) :
    ∃ s e : Nat, s + d.length = e ∧ e + r.length = L.length ∧ p < e ∧ L.drop e = r ∧ (L.drop s).take d.length = d ∧ Calls Tryf.prog 11 #[.slice (some ⟨B, 0, none⟩) L.length c, .int .i64 p] w fun x w' => x = .returned (.tuple #[.int .i64 (s : Int), .int .i64 (e : Int), .bool true]) ∧ w' = w := by
  have hr := read11 B c p L w hN hp hB
  rw [rdAt_some L.length p _ d r (by simp; omega) h] at hr
  obtain ⟨e1, _⟩ := rd_inv _ _ _ h
  have hu := Lib.uvarint_pos d.length
  have e1' : L.drop p = (Lib.uvarint d.length ++ d) ++ r := by rw [e1]; simp
  obtain ⟨e2, e3⟩ := suffix_drop e1' hp
  simp at e3
  refine ⟨L.length - r.length - d.length, L.length - r.length, by omega, by omega, by omega, e2, ?_, hr⟩
  obtain ⟨e4, _⟩ := suffix_drop e1 hp
  have e5 : L.length - (d ++ r).length = L.length - r.length - d.length := by simp; omega
  rw [e5] at e4
  rw [e4]; simp

def cavC2 (l2 : List UInt8) : Option (List UInt8) := match optC 4 l2 with
  | none => none
  | some l3 => endC l3
def cavC1 (l1 : List UInt8) : Option (List UInt8) := match idC l1 with
  | none => none
  | some (_, l2) => cavC2 l2
theorem cav_unfold (l : List UInt8) : cavC l = match optC 1 l with
  | none => none
  | some l1 => cavC1 l1 := rfl
def cavV (N : Nat) : Option (List UInt8) → Value
  | none => .tuple #[.int .i64 0, .bool false]
  | some r => .tuple #[.int .i64 ((N - r.length : Nat) : Int), .bool true]
theorem opt_one (t : Nat) (x : UInt8) (l : List UInt8) (h : x.toNat = t) (hr : rdL l = none) : optC t (x :: l) = none := by rw [optC, if_pos h, hr]
theorem opt_two (t : Nat) (x : UInt8) (l d r : List UInt8) (h : x.toNat = t) (hr : rdL l = some (d, r)) (hd : d.length = 0) : optC t (x :: l) = none := by
  rw [optC, if_pos h, hr]
  have : d = [] := List.eq_nil_of_length_eq_zero hd
  subst this; rfl
theorem opt_three (t : Nat) (x : UInt8) (l d r : List UInt8) (h : x.toNat = t) (hr : rdL l = some (d, r)) (hd : ¬ d.length = 0) : optC t (x :: l) = some r := by
  rw [optC, if_pos h, hr]
  show (if d.isEmpty = true then _ else _) = _
  rw [if_neg (by intro e; exact hd (by simpa using e))]
theorem opt_four (t : Nat) (x : UInt8) (l : List UInt8) (h : ¬ x.toNat = t) : optC t (x :: l) = some (x :: l) := by rw [optC, if_neg h]

theorem cavV_eq {a : Int} {N : Nat} {r : List UInt8} (h : a = ((N - r.length : Nat) : Int)) : Ending.returned (.tuple #[.int .i64 a, .bool true]) = .returned (cavV N (some r)) := by rw [h]; rfl
theorem cast_beq_true {a b : Nat} (h : a = b) : ((a : Int) == (b : Int)) = true := by simp [h]
theorem cast_beq_false {a b : Nat} (h : ¬ a = b) : ((a : Int) == (b : Int)) = false := by simp; omega

set_option maxHeartbeats 2000000 in
set_option maxRecDepth 100000 in
theorem cav12 (B c p : Nat) (L : List UInt8) (w : World) (hN : L.length ≤ 1048576) (hp : p < L.length) (hB : HasB w B L) :
    Calls Tryf.prog 12 #[.slice (some ⟨B, 0, none⟩) L.length c, .int .i64 p] w fun e w' => e = .returned (cavV L.length (cavC (L.drop p))) ∧ w' = w := by
  have HB := hid hB
  have hc : w.cell? ⟨B, p, none⟩ = some (.int .u8 ((L[p]).toNat : Int)) := hB p hp
  have hcons := drop_cons L p hp
  obtain ⟨x, hx⟩ : ∃ x, L[p] = x := ⟨_, rfl⟩
  rw [hx] at hc hcons
  have HP := hid hcons
  clear hcons hx hB
  go_enter Tryf.func12, Tryf.ntmps12
  go_upto_if 19 with fail
  go_cut [1] (fun s1 wx => wx = w ∧ ∃ q : Nat, s1 = .int .i64 (q : Int) ∧ q ≤ L.length ∧ Hid (cavC (L.drop p) = cavC1 (L.drop q)))
  case first =>
    by_cases h1 : x.toNat = 1
    · have h1' : (x.toNat : Int) = 1 := by omega
      cases hr : rdL (L.drop (p + 1)) with
      | none =>
        have HC := hid (opt_one 1 x _ h1 hr)
        have hcall := read_no B c (p + 1) L w hN (by omega) HB.out hr
        clear hr
        go_wp2_with (go_at_call 11; refine hcall.mono ?_; rintro e w' ⟨rfl, rfl⟩)
        go_ret2
        exact ⟨by rw [cav_unfold, HP.out, HC.out]; rfl, rfl⟩
      | some dr =>
        obtain ⟨d, r⟩ := dr
        obtain ⟨s, e, hs, he, hpe, hdrop, _, hcall⟩ := read_yes B c (p + 1) L d r w hN (by omega) HB.out hr
        by_cases hd : d.length = 0
        · have HC := hid (opt_two 1 x _ d r h1 hr hd)
          have hes := cast_beq_true (show e = s by omega)
          clear hr hdrop
          go_wp2_with (go_at_call 11; refine hcall.mono ?_; rintro e w' ⟨rfl, rfl⟩)
          go_ret2
          exact ⟨by rw [cav_unfold, HP.out, HC.out]; rfl, rfl⟩
        · have HC := hid (opt_three 1 x _ d r h1 hr hd)
          have hes := cast_beq_false (show ¬ e = s by omega)
          have HD := hid hdrop
          clear hr hdrop
          go_wp2_with (go_at_call 11; refine hcall.mono ?_; rintro e w' ⟨rfl, rfl⟩)
          go_meet
          case rel => exact ⟨rfl, e, rfl, by omega, hid (by rw [cav_unfold, HP.out, HC.out, HD.out])⟩
    · have HC := hid (opt_four 1 x (L.drop (p + 1)) h1)
      have h1' : ¬ (x.toNat : Int) = 1 := by omega
      go_wp2_with fail
      go_meet
      case rel => exact ⟨rfl, p, rfl, by omega, hid (by rw [cav_unfold, HP.out, HC.out, ← HP.out])⟩
  case rest =>
    obtain ⟨rfl, q, rfl, hq, HQ⟩ := hcut
    clear hc HP x
    by_cases hqn : q < L.length
    · have hc : wc.cell? ⟨B, q, none⟩ = some (.int .u8 ((L[q]).toNat : Int)) := HB.out q hqn
      have hcons := drop_cons L q hqn
      obtain ⟨x, hx⟩ : ∃ x, L[q] = x := ⟨_, rfl⟩
      rw [hx] at hc hcons
      have HP := hid hcons
      clear hcons hx
      by_cases h2 : x.toNat = 2
      · have h2' : (x.toNat : Int) = 2 := by omega
        cases hr : rdL (L.drop (q + 1)) with
        | none =>
          have HC := hid (show cavC1 (x :: L.drop (q + 1)) = none by unfold cavC1; rw [idC, if_pos h2, hr])
          have hcall := read_no B c (q + 1) L wc hN (by omega) HB.out hr
          clear hr
          go_wp2_with (go_at_call 11; refine hcall.mono ?_; rintro e w' ⟨rfl, rfl⟩)
          go_ret2
          exact ⟨by rw [HQ.out, HP.out, HC.out]; rfl, rfl⟩
        | some dr =>
          obtain ⟨d, r⟩ := dr
          obtain ⟨s, e, hs, he, hpe, hdrop, _, hcall⟩ := read_yes B c (q + 1) L d r wc hN (by omega) HB.out hr
          have HC := hid (show cavC1 (x :: L.drop (q + 1)) = cavC2 (L.drop e) by unfold cavC1; rw [idC, if_pos h2, hr, hdrop])
          have HQ2 := hid (HQ.out.trans ((congrArg cavC1 HP.out).trans HC.out))
          clear hr hdrop HQ HC
          go_upto_region 12 with (go_at_call 11; refine hcall.mono ?_; rintro e w' ⟨rfl, rfl⟩)
          clear hcall hc HP h2 h2' x
          by_cases hen : e < L.length
          · have hc := HB.out e hen
            have hcons := drop_cons L e hen
            obtain ⟨x, hx⟩ : ∃ x, L[e] = x := ⟨_, rfl⟩
            rw [hx] at hc hcons
            have HP := hid hcons
            clear hcons hx
            by_cases h4 : x.toNat = 4
            · have h4' : (x.toNat : Int) = 4 := by omega
              cases hr : rdL (L.drop (e + 1)) with
              | none =>
                have HC := hid (show cavC2 (x :: L.drop (e + 1)) = none by unfold cavC2; rw [opt_one 4 x _ h4 hr])
                have hcall := read_no B c (e + 1) L _ hN (by omega) HB.out hr
                clear hr
                go_wp2_with (go_at_call 11; refine hcall.mono ?_; rintro e w' ⟨rfl, rfl⟩)
                go_ret2
                exact ⟨by rw [HQ2.out, HP.out, HC.out]; rfl, rfl⟩
              | some dr =>
                obtain ⟨d3, r3⟩ := dr
                obtain ⟨s3, e3, hs3, he3, hpe3, hdrop, _, hcall⟩ := read_yes B c (e + 1) L d3 r3 _ hN (by omega) HB.out hr
                by_cases hd : d3.length = 0
                · have HC := hid (show cavC2 (x :: L.drop (e + 1)) = none by unfold cavC2; rw [opt_two 4 x _ d3 r3 h4 hr hd])
                  have hes := cast_beq_true (show e3 = s3 by omega)
                  clear hr hdrop
                  go_wp2_with (go_at_call 11; refine hcall.mono ?_; rintro e w' ⟨rfl, rfl⟩)
                  go_ret2
                  exact ⟨by rw [HQ2.out, HP.out, HC.out]; rfl, rfl⟩
                · have HC := hid (show cavC2 (x :: L.drop (e + 1)) = endC (L.drop e3) by unfold cavC2; rw [opt_three 4 x _ d3 r3 h4 hr hd, hdrop])
                  have hes := cast_beq_false (show ¬ e3 = s3 by omega)
                  clear hr hdrop
                  by_cases hen3 : e3 < L.length
                  · have hc3 := HB.out e3 hen3
                    have hcons3 := drop_cons L e3 hen3
                    obtain ⟨x3, hx3⟩ : ∃ x3, L[e3] = x3 := ⟨_, rfl⟩
                    rw [hx3] at hc3 hcons3
                    have HP3 := hid hcons3
                    clear hcons3 hx3
                    by_cases h0 : x3.toNat = 0
                    · have HC3 := hid (show endC (x3 :: L.drop (e3 + 1)) = some (L.drop (e3 + 1)) by rw [endC, if_pos h0])
                      have h0' : ((x3.toNat : Int) != 0) = false := by simp; omega
                      go_wp2_with (go_at_call 11; refine hcall.mono ?_; rintro e w' ⟨rfl, rfl⟩)
                      go_ret2
                      exact ⟨by rw [HQ2.out, HP.out, HC.out, HP3.out, HC3.out]; exact cavV_eq (by simp; omega), rfl⟩
                    · have HC3 := hid (show endC (x3 :: L.drop (e3 + 1)) = none by rw [endC, if_neg h0])
                      have h0' : ((x3.toNat : Int) != 0) = true := by simp; omega
                      go_wp2_with (go_at_call 11; refine hcall.mono ?_; rintro e w' ⟨rfl, rfl⟩)
                      go_ret2
                      exact ⟨by rw [HQ2.out, HP.out, HC.out, HP3.out, HC3.out]; rfl, rfl⟩
                  · have HC3 := hid (show endC (L.drop e3) = none by rw [List.drop_of_length_le (by omega)]; rfl)
                    have hen3' : (L.length : Int) ≤ (e3 : Int) := by omega
                    go_wp2_with (go_at_call 11; refine hcall.mono ?_; rintro e w' ⟨rfl, rfl⟩)
                    go_ret2
                    exact ⟨by rw [HQ2.out, HP.out, HC.out, HC3.out]; rfl, rfl⟩
            · have HC := hid (show cavC2 (x :: L.drop (e + 1)) = endC (x :: L.drop (e + 1)) by unfold cavC2; rw [opt_four 4 x _ h4])
              have h4' : ((x.toNat : Int) == 4) = false := by simp; omega
              by_cases h0 : x.toNat = 0
              · have HC3 := hid (show endC (x :: L.drop (e + 1)) = some (L.drop (e + 1)) by rw [endC, if_pos h0])
                have h0' : ((x.toNat : Int) != 0) = false := by simp; omega
                go_wp2_with fail
                go_ret2
                exact ⟨by rw [HQ2.out, HP.out, HC.out, HC3.out]; exact cavV_eq (by simp; omega), rfl⟩
              · have HC3 := hid (show endC (x :: L.drop (e + 1)) = none by rw [endC, if_neg h0])
                have h0' : ((x.toNat : Int) != 0) = true := by simp; omega
                go_wp2_with fail
                go_ret2
                exact ⟨by rw [HQ2.out, HP.out, HC.out, HC3.out]; rfl, rfl⟩
          · have HC := hid (show cavC2 (L.drop e) = none by rw [List.drop_of_length_le (by omega)]; rfl)
            have hen' : (L.length : Int) ≤ (e : Int) := by omega
            have hen'' : decide ((e : Int) < (L.length : Int)) = false := by simp; omega
            go_wp2_with fail
            go_ret2
            exact ⟨by rw [HQ2.out, HC.out]; rfl, rfl⟩
      · have HC := hid (show cavC1 (x :: L.drop (q + 1)) = none by unfold cavC1; rw [idC, if_neg h2])
        have h2' : ((x.toNat : Int) != 2) = true := by simp; omega
        go_wp2_with fail
        go_ret2
        exact ⟨by rw [HQ.out, HP.out, HC.out]; rfl, rfl⟩
    · have HC := hid (show cavC1 (L.drop q) = none by rw [List.drop_of_length_le (by omega)]; rfl)
      have hqn' : (L.length : Int) ≤ (q : Int) := by omega
      go_wp2_with fail
      go_ret2
      exact ⟨by rw [HQ.out, HC.out]; rfl, rfl⟩
end Go.Proofs.Qxb6604478aFmt
