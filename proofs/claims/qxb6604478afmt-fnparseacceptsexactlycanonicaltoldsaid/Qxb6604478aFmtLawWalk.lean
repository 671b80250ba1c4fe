import Derived.Test.Qxb6604478aFmtCloneWalk
import Derived.Test.Qxb6604478aFmtCanonWalk
namespace Go.Proofs.Qxb6604478aFmt
open Go.RowKit Go.Extern.Stop Go.Stop Go.Extern

/-! ### zzBytes and the law -/
theorem zz4 (a : Option Addr) (n c : Nat) (w : World) : Calls Tryf.prog 4 #[.slice a n c] w fun e w' => e = .returned (.bool (decide (n ≤ 1048576))) ∧ w' = w := by
  by_cases h : n ≤ 1048576
  · have h' : ¬ (1048576 : Int) < (n : Int) := by omega
    go_enter Tryf.func4, Tryf.ntmps4
    go_wp2
    go_ret
    exact ⟨rfl, rfl⟩
  · have h' : (1048576 : Int) < (n : Int) := by omega
    have hd : decide (n ≤ 1048576) = false := by simp [h]
    go_enter Tryf.func4, Tryf.ntmps4
    go_wp2
    go_ret
    exact ⟨retb hd.symm, rfl⟩
theorem below_drewN {B : Nat} {w w1 : World} (h : Below B w w1) (q : Nat) : Below B w (w1.drewN q) := ⟨h.os, h.tape, h.output, h.size, h.block⟩
theorem DV.drewN {w : World} {v : Value} {d : List UInt8} (h : DV w v d) (q : Nat) : DV (w.drewN q) v d := h

def lawPost (w : World) (e : Ending) (w' : World) : Prop := e = .returned (.bool true) ∧ Below w.heap.size w w'
theorem law_big (a : Option Addr) (n c : Nat) (w : World) (h : 1048576 < n) : Calls Tryf.prog 3 #[.slice a n c] w fun e w' => lawPost w e w' := by
  have hz := zz4 a n c w
  rw [show decide (n ≤ 1048576) = false by simp; omega] at hz
  go_enter Tryf.func3, Tryf.ntmps3
  go_wp2_with fail
  refine hz.mono ?_
  rintro e w1 ⟨rfl, rfl⟩
  go_wp2
  go_ret
  exact ⟨rfl, Below.refl _ _⟩
set_option maxRecDepth 100000 in
theorem law_nil (w : World) : Calls Tryf.prog 3 #[.slice none 0 0] w fun e w' => lawPost w e w' := by
  have hz := zz4 none 0 0 w
  rw [show decide (0 ≤ 1048576) = true by simp] at hz
  have h5 := clone5_nil w
  have h6 := canon6_empty none 0 w
  have h7 := parse_empty none 0 w
  go_enter Tryf.func3, Tryf.ntmps3
  go_wp2_with fail
  refine hz.mono ?_
  rintro e w1 ⟨rfl, rfl⟩
  go_wp2_with fail
  refine h5.mono ?_
  rintro e w2 ⟨rfl, rfl⟩
  go_wp2_with fail
  refine h6.mono ?_
  rintro e w3 ⟨rfl, rfl⟩
  go_wp2_with fail
  refine h7.mono ?_
  rintro e w4 ⟨⟨M, m, hl, hs, _⟩ | ⟨_, ty, a, hty, rfl⟩, hb⟩
  · exact absurd hs (by simp [serB])
  · rcases hty with rfl | rfl
    · go_wp2
      go_ret
      exact ⟨rfl, hb⟩
    · go_wp2
      go_ret
      exact ⟨rfl, hb⟩
set_option maxHeartbeats 1000000 in
set_option maxRecDepth 100000 in
theorem law_zero (a : Addr) (c : Nat) (w : World) : Calls Tryf.prog 3 #[.slice (some a) 0 c] w fun e w' => lawPost w e w' := by
  have hz := zz4 (some a) 0 c w
  rw [show decide (0 ≤ 1048576) = true by simp] at hz
  have h5 := clone5 a 0 c [] w rfl (by decide) (fun j h => absurd h (Nat.not_lt_zero _))
  go_enter Tryf.func3, Tryf.ntmps3
  go_wp2_with fail
  refine hz.mono ?_
  rintro e w1 ⟨rfl, rfl⟩
  go_wp2_with fail
  refine h5.mono ?_
  rintro e w2 ⟨rfl, _, hb2, _⟩
  have h6 := canon6_empty (some ⟨w1.heap.size, 0, none⟩) 0 w2
  have h7 := parse_empty (some ⟨w1.heap.size, 0, none⟩) 0 w2
  go_wp2_with fail
  refine h6.mono ?_
  rintro e w3 ⟨rfl, rfl⟩
  go_wp2_with fail
  refine h7.mono ?_
  have hz3 := hb2.size
  rintro e w4 ⟨⟨M, m, hl, hs, _⟩ | ⟨_, ty, a, hty, rfl⟩, hb⟩
  · exact absurd hs (by simp [serB])
  · have hb' := hb2.trans (hb.mono hz3)
    rcases hty with rfl | rfl
    · go_wp2
      go_ret
      exact ⟨rfl, hb'⟩
    · go_wp2
      go_ret
      exact ⟨rfl, hb'⟩

set_option maxHeartbeats 2000000 in
set_option maxRecDepth 100000 in
theorem law_some (F : Interp) (a : Addr) (n c : Nat) (L : List UInt8) (w : World) (hF : F.answers w.tape) (hn : n = L.length) (h0 : 0 < n) (hle : n ≤ 1048576) (hc : ∀ j (h : j < L.length), w.cell? (a.add j) = some (.int .u8 ((L[j]).toNat : Int))) :
    Calls Tryf.prog 3 #[.slice (some a) n c] w fun e w' => lawPost w e w' := by
  have hz := zz4 (some a) n c w
  rw [show decide (n ≤ 1048576) = true by simp [hle]] at hz
  have h5 := clone5 a n c L w hn hle hc
  have hle' : ¬ (1048576 : Int) < (n : Int) := by omega
  have HN := hidp hn
  clear hn hc
  go_enter Tryf.func3, Tryf.ntmps3
  go_wp2_with fail
  refine hz.mono ?_
  rintro e w1 ⟨rfl, rfl⟩
  go_wp2_with fail
  refine h5.mono ?_
  rintro e w2 ⟨rfl, hA, hb2, hlt⟩
  have hF2 : F.answers w2.tape := by rw [hb2.tape]; exact hF
  have hz3 := hb2.size
  have hNL : L.length ≤ 1048576 := by rw [← HN.out]; exact hle
  have h6 := canon6 w1.heap.size n L w2 hNL (by rw [← HN.out]; exact Nat.le_refl _) (by rw [← HN.out]; exact h0) (fun j hj => by have := hA j hj; rw [Nat.zero_add] at this; exact this)
  have h7 := parse7 F w1.heap.size n L w2 hF2 hNL (by rw [← HN.out]; exact h0) HN.out hlt hA
  rw [← HN.out] at h6
  have HA := hidp hA
  have HB2 := hidp hb2
  clear hz h5 hA hb2
  cases hcn : canon L with
  | none =>
    have h6' : Calls Tryf.prog 6 #[.slice (some ⟨w1.heap.size, 0, none⟩) n n] w2 fun e w' => e = .returned (.tuple #[.bool false, .slice none 0 0]) ∧ w' = w2 := h6.mono fun e w' hp => by
      obtain ⟨h1, h2⟩ := hp
      unfold canPost at h1; rw [hcn] at h1
      exact ⟨h1, h2⟩
    have h7' : Calls Tryf.prog 7 #[.slice (some ⟨w1.heap.size, 0, none⟩) n n] w2 fun e w' => (∃ ty a, (ty = 57 ∨ ty = 62) ∧ e = .returned (.tuple #[.pointer none, .iface ty (.pointer (some a))])) ∧ Below w1.heap.size w1 w' := h7.mono fun e w' hp => by
      obtain ⟨⟨M, m, hl, hs, _, hm⟩ | ⟨_, hf⟩, hb⟩ := hp
      · exact absurd hs (law_no L hNL hcn m hm.sigLen)
      · exact ⟨hf, HB2.out.trans (hb.mono hz3)⟩
    clear h6 h7 hcn
    go_wp2_with fail
    refine h6'.mono ?_
    rintro e w3 ⟨rfl, rfl⟩
    go_wp2_with fail
    refine h7'.mono ?_
    rintro e w4 ⟨⟨ty, a, hty, rfl⟩, hb⟩
    rcases hty with rfl | rfl
    · go_wp2
      go_ret
      exact ⟨rfl, hb⟩
    · go_wp2
      go_ret
      exact ⟨rfl, hb⟩
  | some d =>
    obtain ⟨m, hl, hs, hid⟩ := law_yes L d hNL hcn
    have HS := hidp hs
    have HL := hidp hl
    have h6' : Calls Tryf.prog 6 #[.slice (some ⟨w1.heap.size, 0, none⟩) n n] w2 fun e w' => (∃ s k : Nat, e = .returned (.tuple #[.bool true, .slice (some ⟨w1.heap.size, s, none⟩) k (n - s)]) ∧ DV w2 (.slice (some ⟨w1.heap.size, s, none⟩) k (n - s)) d) ∧ w' = w2 := h6.mono fun e w' hp => by
      obtain ⟨h1, h2⟩ := hp
      unfold canPost at h1; rw [hcn] at h1
      obtain ⟨s, e1, e2, e3⟩ := h1
      refine ⟨⟨s, d.length, e3, .inr ⟨w1.heap.size, s, _, _, rfl, rfl, hlt, fun j hj => ?_⟩⟩, h2⟩
      have hx := HA.out (s + j) (by omega)
      rw [Nat.zero_add] at hx
      rw [hx]
      have e4 : d[j]? = L[s + j]? := by
        conv => lhs; rw [← e1]
        rw [List.getElem?_take, if_pos hj, List.getElem?_drop]
      rw [List.getElem?_eq_getElem hj, List.getElem?_eq_getElem (by omega)] at e4
      simp only [Option.some.injEq] at e4
      rw [e4]
    have h7' : Calls Tryf.prog 7 #[.slice (some ⟨w1.heap.size, 0, none⟩) n n] w2 fun e w' => (∃ M, e = .returned (.tuple #[.pointer (some ⟨M, 0, none⟩), .nilIface]) ∧ MacAt w' M m) ∧ Below w2.heap.size w2 w' := h7.mono fun e w' hp => by
      obtain ⟨⟨M, m', hl', hs', he, hm⟩ | ⟨hno, _⟩, hb⟩ := hp
      · rw [hl] at hl'
        simp only [Option.some.injEq] at hl'
        subst hl'
        exact ⟨⟨M, he, hm⟩, hb⟩
      · exact absurd hs (hno m hl)
    have hsz := loose_size L.tail m (by simp; omega) hl
    clear h6 h7 hcn hs hl
    go_wp2_with fail
    refine h6'.mono ?_
    rintro e w3 ⟨⟨s, k, rfl, hd⟩, rfl⟩
    have HD := hidp hd
    clear hd
    go_wp2_with fail
    refine h7'.mono ?_
    rintro e w4 ⟨⟨M, rfl, hmac⟩, hb4⟩
    have hby := bytes9 M m w4 hmac hsz.1 hsz.2.1 hsz.2.2.1 hsz.2.2.2
    rw [HS.out] at hby
    obtain ⟨iv, hiv, hdv⟩ := hmac.id
    have hMlt := hmac.lt
    have HIV := hidp hiv
    have HDI := hidp hdv
    have HB4 := hidp hb4
    have hz4 := hb4.size
    clear hmac hb4 hiv hdv h6' h7'
    go_wp2_with fail
    refine hby.mono ?_
    rintro e w5 ⟨g5, n5, c5, rfl, hbuf, hb5⟩
    have hb25 : Below w3.heap.size w3 w5 := HB4.out.trans (hb5.mono hz4)
    have hz5 := hb25.size
    have hz5' := hb5.size
    have heq := beq8 (.slice (some ⟨g5, 0, none⟩) n5 c5) (.slice (some ⟨w1.heap.size, 0, none⟩) n n) L L w5 (by omega) hbuf.dv (.inr ⟨w1.heap.size, 0, n, n, rfl, HN.out, by omega, fun j hj => (hb25.cell (p := ⟨w1.heap.size, 0 + j, none⟩) hlt).trans (HA.out j hj)⟩)
    rw [show (L == L) = true by simp] at heq
    have HB25 := hidp hb25
    have HID5 := hidp ((hb5.cell (p := ⟨M, 1, none⟩) hMlt).trans HIV.out)
    have HDI5 := hidp (HDI.out.up hb5)
    have HD5 := hidp (HD.out.up hb25)
    clear hbuf hb5 hb25 hby
    go_wp2_with fail
    refine heq.mono ?_
    rintro e w6 ⟨rfl, q, hw6⟩
    have hB6 : Below w3.heap.size w3 w6 := by rw [hw6]; exact below_drewN HB25.out q
    have hID6 : w6.cell? ⟨M, 1, none⟩ = some iv := by rw [hw6]; exact HID5.out
    have hDI6 : DV w6 iv m.id := by rw [hw6]; exact HDI5.out
    have hD6 : DV w6 (.slice (some ⟨w1.heap.size, s, none⟩) k (n - s)) d := by rw [hw6]; exact HD5.out
    have h10 := id10 M iv w6 hID6
    have h8 := beq8 iv (.slice (some ⟨w1.heap.size, s, none⟩) k (n - s)) m.id d w6 (by omega) hDI6 hD6
    rw [hid, show (d == d) = true by simp] at h8
    have HB6 := hidp hB6
    clear hw6 hB6 hID6 hDI6 hD6 heq
    go_wp2_with fail
    refine h10.mono ?_
    rintro e w7 ⟨rfl, rfl⟩
    go_wp2_with fail
    refine h8.mono ?_
    rintro e w8 ⟨rfl, q2, hw8⟩
    have HB8 := hidp (show Below w1.heap.size w1 w8 by rw [hw8]; exact below_drewN (HB2.out.trans (HB6.out.mono hz3)) q2)
    clear hw8
    go_wp2
    go_ret
    exact ⟨rfl, HB8.out⟩
end Go.Proofs.Qxb6604478aFmt
