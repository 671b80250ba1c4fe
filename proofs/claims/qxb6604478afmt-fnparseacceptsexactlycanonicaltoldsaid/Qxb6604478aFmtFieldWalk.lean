import Derived.Test.Qxb6604478aFmtFacts
import Derived.Test.Qxb6604478aFmtShelf
import Derived.Test.Qxb6604478aFmtLaw
namespace Go.Proofs.Qxb6604478aFmt
open Go.RowKit Go.Extern.Stop Go.Stop Go.Extern
open Go.Lib (uvarintDec uvarintFrom)

/-! ### (*reader).field -/
theorem hide {p : Prop} (h : p) : Hid p := h
/-- The bytes lie in block B from o on. -/
def HasAt (w : World) (B o : Nat) (l : List UInt8) : Prop := ∀ j (h : j < l.length), w.cell? ⟨B, o + j, none⟩ = some (.int .u8 ((l[j]).toNat : Int))
theorem HasAt.drop {w : World} {B o : Nat} {l : List UInt8} (h : HasAt w B o l) (k : Nat) : HasAt w B (o + k) (l.drop k) := by
  intro j hj
  have := h (k + j) (by simp at hj; omega)
  rw [Nat.add_assoc, this]
  simp
theorem HasAt.take {w : World} {B o : Nat} {l : List UInt8} (h : HasAt w B o l) (k : Nat) : HasAt w B o (l.take k) := by
  intro j hj
  have := h j (by simp at hj; omega)
  rw [this]
  simp
theorem HasAt.nil (w : World) (B o : Nat) : HasAt w B o [] := fun _ h => absurd h (Nat.not_lt_zero _)
theorem HasAt.kept {w w' : World} {B o : Nat} {l : List UInt8} {row : Option Nat} (h : HasAt w B o l) (hg : w.grownBy w' row) (hB : some B ≠ row) : HasAt w' B o l :=
  fun j hj => hg.cell (h j hj) hB

theorem gb_refl (w : World) (r : Option Nat) : w.grownBy w r := ⟨rfl, rfl, rfl, Nat.le_refl _, fun _ _ _ => rfl⟩
theorem gb_alloc {w w1 : World} {r : Option Nat} (h : w.grownBy w1 r) (o : Obj) : w.grownBy (w1.alloc o) r :=
  ⟨h.os, h.tape, h.output, by have := h.size; simp; omega, fun k hk hr => (Below.heap_alloc _ _ _ (by have := h.size; omega)).trans (h.block k hk hr)⟩
theorem gb_drew {w w1 : World} {r : Option Nat} (h : w.grownBy w1 r) : w.grownBy w1.drew r := ⟨h.os, h.tape, h.output, h.size, h.block⟩
theorem gb_set {w w1 : World} {R : Nat} (h : w.grownBy w1 (some R)) (a : Addr) (ha : a.block = R ∨ w.heap.size ≤ a.block) (v : Value) : w.grownBy (w1.setCell a v) (some R) :=
  ⟨h.os, h.tape, h.output, by have := h.size; simp [World.setCell]; omega, fun k hk hr => by
    rw [Below.heap_setCell _ _ _ _ (by rcases ha with ha | ha <;> simp at hr <;> omega)]
    exact h.block k hk hr⟩
theorem gb_trans {w w1 w2 : World} {r : Option Nat} (h : w.grownBy w1 r) (h2 : w1.grownBy w2 r) : w.grownBy w2 r :=
  ⟨h2.os.trans h.os, h2.tape.trans h.tape, h2.output.trans h.output, Nat.le_trans h.size h2.size, fun k hk hr => (h2.block k (Nat.lt_of_lt_of_le hk h.size) hr).trans (h.block k hk hr)⟩

theorem from_le : ∀ (l : List UInt8) (i acc : Nat), 0 < (uvarintFrom i acc l).2 → (uvarintFrom i acc l).2 ≤ (i : Int) + l.length := by
  intro l
  induction l with
  | nil => intro i acc h; simp [uvarintFrom] at h
  | cons b r ih =>
    intro i acc h
    rw [uvarintFrom] at h ⊢
    split at h
    · simp at h; omega
    · rename_i h10
      rw [if_neg h10]
      split at h
      · rename_i h128
        rw [if_pos h128]
        split at h
        · simp at h; omega
        · rename_i h9
          rw [if_neg h9]
          simp; omega
      · rename_i h128
        rw [if_neg h128]
        have := ih _ _ h
        simp at this ⊢; omega
theorem dec_nat (l : List UInt8) (h : ¬ (uvarintDec l).2 ≤ 0) : ∃ k : Nat, (uvarintDec l).2 = (k : Int) ∧ 0 < k ∧ k ≤ l.length := by
  have h1 : (uvarintDec l).2 ≤ ((0 : Nat) : Int) + l.length := from_le l 0 0 (by show 0 < (uvarintDec l).2; omega)
  exact ⟨(uvarintDec l).2.toNat, by omega, by omega, by omega⟩

def fldPost (B : Nat) (R : Nat) (l : List UInt8) (w : World) (e : Ending) (w' : World) : Prop := match fldL l with
  | none => (∃ a s, e = .returned (.tuple #[.int .u64 0, .slice none 0 0, .iface 57 (.pointer (some a))]) ∧ w'.cell? a = some (.string s) ∧ w.heap.size ≤ a.block) ∧ w.grownBy w' (some R)
  | some (t, d, r) => (∃ dv, e = .returned (.tuple #[.int .u64 (t : Int), dv, .nilIface]) ∧ ((t = 0 ∧ dv = .slice none 0 0) ∨ ∃ od, dv = .slice (some ⟨B, od, none⟩) d.length d.length ∧ HasAt w B od d)) ∧
      (∃ o', w'.heap[R]? = some (.cells #[.slice (some ⟨B, o', none⟩) r.length r.length] 40 (0, 0)) ∧ HasAt w B o' r) ∧ w.grownBy w' (some R)

theorem new_cell (w : World) (v : Value) (t : TypeId) : (w.alloc (.cells #[v] t)).cell? ⟨w.heap.size, 0, none⟩ = some v := by simp
theorem new_cell_at (w : World) (v : Value) (t : TypeId) (g : Nat) (hg : g = w.heap.size) : (w.alloc (.cells #[v] t)).drew.cell? ⟨g, 0, none⟩ = some v := by subst hg; simp
theorem fldPost_none {B R : Nat} {l : List UInt8} {w w' : World} (h : fldL l = none) (a : Addr) (s : ByteArray) (hc : w'.cell? a = some (.string s)) (hn : w.heap.size ≤ a.block) (hg : w.grownBy w' (some R)) :
    fldPost B R l w (.returned (.tuple #[.int .u64 0, .slice none 0 0, .iface 57 (.pointer (some a))])) w' := by
  unfold fldPost; rw [h]; exact ⟨⟨a, s, rfl, hc, hn⟩, hg⟩
theorem fldPost_end {B R : Nat} {l r : List UInt8} {w w' : World} (h : fldL l = some (0, [], r)) (o' m : Nat) (hm : m = r.length) (hR : w'.heap[R]? = some (.cells #[.slice (some ⟨B, o', none⟩) m m] 40 (0, 0))) (hA : HasAt w B o' r) (hg : w.grownBy w' (some R)) :
    fldPost B R l w (.returned (.tuple #[.int .u64 0, .slice none 0 0, .nilIface])) w' := by
  subst hm; unfold fldPost; rw [h]; exact ⟨⟨_, rfl, .inl ⟨rfl, rfl⟩⟩, ⟨o', hR, hA⟩, hg⟩
theorem fldPost_some {B R t : Nat} {l d r : List UInt8} {w w' : World} (h : fldL l = some (t, d, r)) (od o' n m : Nat) (hn : n = d.length) (hm : m = r.length) (hR : w'.heap[R]? = some (.cells #[.slice (some ⟨B, o', none⟩) m m] 40 (0, 0))) (hd : HasAt w B od d) (hA : HasAt w B o' r) (hg : w.grownBy w' (some R)) :
    fldPost B R l w (.returned (.tuple #[.int .u64 (t : Int), .slice (some ⟨B, od, none⟩) n n, .nilIface])) w' := by
  subst hm; unfold fldPost; rw [h, hn]; exact ⟨⟨_, rfl, .inr ⟨od, rfl, hd⟩⟩, ⟨o', hR, hA⟩, hg⟩

set_option maxHeartbeats 2000000 in
set_option maxRecDepth 100000 in
theorem field16 (F : Interp) (B o R : Nat) (l : List UInt8) (w : World) (hF : F.answers w.tape) (hN : l.length ≤ 1048576) (hR : w.heap[R]? = some (.cells #[.slice (some ⟨B, o, none⟩) l.length l.length] 40 (0, 0))) (hA : HasAt w B o l) (hBR : B ≠ R) :
    Calls Tryf.prog 16 #[.pointer (some ⟨R, 0, none⟩)] w fun e w' => fldPost B R l w e w' := by
  have HR := hide hR
  have HA := hide hA
  have hcR := cell_of_one hR
  have hfR := free_of_one hR
  have hU := fun (w1 : World) (h : HasAt w1 B o l) => Tryf.binary_Uvarint B o l.length l.length l w1 rfl h
  obtain ⟨x, n, hxn⟩ : ∃ x n, uvarintDec l = (x, n) := ⟨_, _, rfl⟩
  rw [hxn] at hU
  have hU0 := hU w hA
  clear hR hA hU
  by_cases hn : n ≤ 0
  · have HE := hide (show fldL l = none by unfold fldL; rw [hxn, if_pos hn])
    clear hxn
    go_enter Tryf.func16, Tryf.ntmps16
    go_wp2_with (first | (go_at_call 21; refine hU0.mono ?_; rintro e w' ⟨rfl, rfl⟩) | (go_at_call 13; refine (new13 _ _).mono ?_; rintro e w' ⟨rfl, rfl⟩))
    go_ret3
    exact fldPost_none HE.out _ _ (new_cell _ _ _) (Nat.le_refl _) (gb_alloc (gb_refl _ _) _)
  · obtain ⟨k, hk, hk0, hkl⟩ := dec_nat l (by rw [hxn]; exact hn)
    rw [hxn] at hk
    simp only at hk
    subst hk
    obtain ⟨l1, hl1⟩ : ∃ l1, l.drop k = l1 := ⟨_, rfl⟩
    have HL1 := hide (show l1.length + k = l.length by rw [← hl1]; simp; omega)
    by_cases hx0 : x = 0
    · subst hx0
      have HE := hide (show fldL l = some (0, [], l1) by unfold fldL; rw [hxn, if_neg (by simpa using hn), if_pos rfl]; simp [hl1])
      have HD := hide (hl1 ▸ HA.out.drop k)
      clear hxn hl1
      by_cases hz : l.length ≤ k
      · have HZ := hide (show l1 = [] from List.eq_nil_of_length_eq_zero (by have := HL1.out; omega))
        go_enter Tryf.func16, Tryf.ntmps16
        go_wp2_with (first | (go_at_call 21; refine hU0.mono ?_; rintro e w' ⟨rfl, rfl⟩))
        go_ret3
        exact fldPost_end HE.out o 0 (by rw [HZ.out]; rfl) (one_setCell HR.out) (by rw [HZ.out]; exact HasAt.nil _ _ _) (gb_set (gb_refl _ _) _ (.inl rfl) _)
      · go_enter Tryf.func16, Tryf.ntmps16
        go_wp2_with (first | (go_at_call 21; refine hU0.mono ?_; rintro e w' ⟨rfl, rfl⟩))
        go_ret3
        exact fldPost_end HE.out (o + k) (l.length - k) (by have := HL1.out; omega) (one_setCell HR.out) HD.out (gb_set (gb_refl _ _) _ (.inl rfl) _)
    · have hx0' : ((x : Int) == 0) = false := by simp; omega
      have HD := hide (hl1 ▸ HA.out.drop k)
      have HF1 := hide (show fldL l = (if (uvarintDec l1).2 ≤ 0 then none else if (l1.drop (uvarintDec l1).2.toNat).length < (uvarintDec l1).1 then none else some (x, (l1.drop (uvarintDec l1).2.toNat).take (uvarintDec l1).1, (l1.drop (uvarintDec l1).2.toNat).drop (uvarintDec l1).1)) by
        unfold fldL; rw [hxn, if_neg (by simpa using hn), if_neg hx0]; simp only [Int.toNat_natCast, hl1])
      clear hxn hl1
      by_cases hz : l.length ≤ k
      · have HZ := hide (show l1 = [] from List.eq_nil_of_length_eq_zero (by have := HL1.out; omega))
        have HE := hide (show fldL l = none by rw [HF1.out, HZ.out]; rfl)
        have hU1 := fun w1 => Tryf.binary_Uvarint_empty (some ⟨B, o, none⟩) 0 w1
        have hdec : uvarintDec [] = (0, 0) := rfl
        rw [hdec] at hU1
        clear hdec
        go_enter Tryf.func16, Tryf.ntmps16
        go_wp2_with fail
        refine hU0.mono ?_; rintro e w' ⟨rfl, rfl⟩
        go_wp2_with fail
        refine (hU1 _).mono ?_; rintro e w' ⟨rfl, rfl⟩
        go_wp2_with fail
        refine (errorf2 F _ (x : Int) _ (by exact hF) (by go_simp)).mono ?_
        rintro e w' ⟨s, rfl, rfl⟩
        go_wp2_with fail
        go_ret3
        exact fldPost_none HE.out _ s (new_cell_at _ _ _ _ (by simp)) (by simp) (gb_drew (gb_alloc (gb_alloc (gb_set (gb_refl _ _) _ (.inl rfl) _) _) _))
      · obtain ⟨y, m, hym⟩ : ∃ y m, uvarintDec l1 = (y, m) := ⟨_, _, rfl⟩
        have hU1 := fun (w1 : World) (h : HasAt w1 B (o + k) l1) => Tryf.binary_Uvarint B (o + k) (l.length - k) (l.length - k) l1 w1 (by have := HL1.out; omega) h
        rw [hym] at hU1
        by_cases hm : m ≤ 0
        · have HE := hide (show fldL l = none by rw [HF1.out, hym, if_pos hm])
          clear hym
          go_enter Tryf.func16, Tryf.ntmps16
          go_wp2_with fail
          refine hU0.mono ?_; rintro e w' ⟨rfl, rfl⟩
          go_wp2_with fail
          refine (hU1 _ (HD.out.kept (gb_set (gb_refl _ _) _ (.inl rfl) _) (by simpa using hBR))).mono ?_; rintro e w' ⟨rfl, rfl⟩
          go_wp2_with fail
          refine (errorf2 F _ (x : Int) _ (by exact hF) (by go_simp)).mono ?_
          rintro e w' ⟨s, rfl, rfl⟩
          go_wp2_with fail
          go_ret3
          exact fldPost_none HE.out _ s (new_cell_at _ _ _ _ (by simp)) (by simp) (gb_drew (gb_alloc (gb_alloc (gb_set (gb_refl _ _) _ (.inl rfl) _) _) _))
        · obtain ⟨k2, hk2, hk20, hkl2⟩ := dec_nat l1 (by rw [hym]; exact hm)
          rw [hym] at hk2
          simp only at hk2
          subst hk2
          have hy64 : y < 18446744073709551616 := by have := Lib.uvarintDec_lt l1; rw [hym] at this; exact this
          obtain ⟨l2, hl2⟩ : ∃ l2, l1.drop k2 = l2 := ⟨_, rfl⟩
          have HL2 := hide (show l2.length + k2 + k = l.length by rw [← hl2]; have := HL1.out; simp; omega)
          have HF2 := hide (show fldL l = (if l2.length < y then none else some (x, l2.take y, l2.drop y)) by
            rw [HF1.out, hym, if_neg (by simpa using hm)]; simp only [Int.toNat_natCast, hl2])
          have HD2 := hide (hl2 ▸ HD.out.drop k2)
          have hkk : k + k2 ≤ l.length := by have := HL2.out; omega
          clear hym hl2 hkl2
          by_cases hbig : l2.length < y
          · have HE := hide (show fldL l = none by rw [HF2.out, if_pos hbig])
            have hbig' : ((l.length - k : Nat) : Int) - (k2 : Int) < (y : Int) := by have := HL2.out; omega
            go_enter Tryf.func16, Tryf.ntmps16
            go_wp2_with fail
            refine hU0.mono ?_; rintro e w' ⟨rfl, rfl⟩
            go_wp2_with fail
            refine (hU1 _ (HD.out.kept (gb_set (gb_refl _ _) _ (.inl rfl) _) (by simpa using hBR))).mono ?_; rintro e w' ⟨rfl, rfl⟩
            go_wp2_with fail
            refine (errorf2 F _ (x : Int) _ (by exact hF) (by go_simp)).mono ?_
            rintro e w' ⟨s, rfl, rfl⟩
            go_wp2_with fail
            go_ret3
            exact fldPost_none HE.out _ s (new_cell_at _ _ _ _ (by simp)) (by simp) (gb_drew (gb_alloc (gb_alloc (gb_set (gb_refl _ _) _ (.inl rfl) _) _) _))
          · have HE := hide (show fldL l = some (x, l2.take y, l2.drop y) by rw [HF2.out, if_neg hbig])
            have hy2 : k + k2 + y ≤ l.length := by have := HL2.out; omega
            have hbig' : (y : Int) ≤ ((l.length - k : Nat) : Int) - (k2 : Int) := by omega
            have HT := hide (HD2.out.take y)
            have HTD := hide (HD2.out.drop y)
            have HLT := hide (show (l2.take y).length = y by have := HL2.out; simp; omega)
            have HLD := hide (show (l2.drop y).length + (k + k2 + y) = l.length by have := HL2.out; simp; omega)
            clear hbig hy64
            by_cases hy0 : y = 0
            · have HY0 := hide (show l2.take y = [] by rw [hy0]; rfl)
              have hy0' : y ≤ 0 := by omega
              clear hy0
              by_cases hend : l.length ≤ k + k2 + y
              · have HEN := hide (show l2.drop y = [] from List.eq_nil_of_length_eq_zero (by have := HLD.out; omega))
                go_enter Tryf.func16, Tryf.ntmps16
                go_wp2_with fail
                refine hU0.mono ?_; rintro e w' ⟨rfl, rfl⟩
                go_wp2_with fail
                refine (hU1 _ (HD.out.kept (gb_set (gb_refl _ _) _ (.inl rfl) _) (by simpa using hBR))).mono ?_; rintro e w' ⟨rfl, rfl⟩
                go_wp2_with fail
                go_ret3
                exact fldPost_some HE.out (o + k) (o + k) (k2 + y - k2) (l.length - k - (k2 + y)) (by rw [HLT.out]; omega) (by have := HLD.out; omega) (one_setCell (one_setCell HR.out)) (by rw [HY0.out]; exact HasAt.nil _ _ _) (by rw [HEN.out]; exact HasAt.nil _ _ _) (gb_set (gb_set (gb_refl _ _) _ (.inl rfl) _) _ (.inl rfl) _)
              · go_enter Tryf.func16, Tryf.ntmps16
                go_wp2_with fail
                refine hU0.mono ?_; rintro e w' ⟨rfl, rfl⟩
                go_wp2_with fail
                refine (hU1 _ (HD.out.kept (gb_set (gb_refl _ _) _ (.inl rfl) _) (by simpa using hBR))).mono ?_; rintro e w' ⟨rfl, rfl⟩
                go_wp2_with fail
                go_ret3
                exact fldPost_some HE.out (o + k) (o + k + (k2 + y)) (k2 + y - k2) (l.length - k - (k2 + y)) (by rw [HLT.out]; omega) (by have := HLD.out; omega) (one_setCell (one_setCell HR.out)) (by rw [HY0.out]; exact HasAt.nil _ _ _) (by have := HTD.out; rwa [show o + k + k2 + y = o + k + (k2 + y) by omega] at this) (gb_set (gb_set (gb_refl _ _) _ (.inl rfl) _) _ (.inl rfl) _)
            · have hy0' : 0 < y := by omega
              clear hy0
              by_cases hend : l.length ≤ k + k2 + y
              · have HEN := hide (show l2.drop y = [] from List.eq_nil_of_length_eq_zero (by have := HLD.out; omega))
                go_enter Tryf.func16, Tryf.ntmps16
                go_wp2_with fail
                refine hU0.mono ?_; rintro e w' ⟨rfl, rfl⟩
                go_wp2_with fail
                refine (hU1 _ (HD.out.kept (gb_set (gb_refl _ _) _ (.inl rfl) _) (by simpa using hBR))).mono ?_; rintro e w' ⟨rfl, rfl⟩
                go_wp2_with fail
                go_ret3
                exact fldPost_some HE.out (o + k + k2) (o + k) y 0 (by rw [HLT.out]) (by have := HLD.out; omega) (one_setCell (one_setCell HR.out)) HT.out (by rw [HEN.out]; exact HasAt.nil _ _ _) (gb_set (gb_set (gb_refl _ _) _ (.inl rfl) _) _ (.inl rfl) _)
              · go_enter Tryf.func16, Tryf.ntmps16
                go_wp2_with fail
                refine hU0.mono ?_; rintro e w' ⟨rfl, rfl⟩
                go_wp2_with fail
                refine (hU1 _ (HD.out.kept (gb_set (gb_refl _ _) _ (.inl rfl) _) (by simpa using hBR))).mono ?_; rintro e w' ⟨rfl, rfl⟩
                go_wp2_with fail
                go_ret3
                exact fldPost_some HE.out (o + k + k2) (o + k + (k2 + y)) y (l.length - k - (k2 + y)) (by rw [HLT.out]) (by have := HLD.out; omega) (one_setCell (one_setCell HR.out)) HT.out (by have := HTD.out; rwa [show o + k + k2 + y = o + k + (k2 + y) by omega] at this) (gb_set (gb_set (gb_refl _ _) _ (.inl rfl) _) _ (.inl rfl) _)
end Go.Proofs.Qxb6604478aFmt
