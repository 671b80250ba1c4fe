import Derived.Test.Qxb6604478aFmtSecWalk
namespace Go.Proofs.Qxb6604478aFmt
open Go.RowKit
open Go.Lib (uvarint uvarintDec uvarintFrom)

/-! ### How long a macaroon that was read loosely can come out -/
theorem fld_size {l d r : List UInt8} {t : Nat} (h : fldL l = some (t, d, r)) : (t = 0 ∧ d = [] ∧ r.length + 1 ≤ l.length) ∨ (t ≠ 0 ∧ d.length + r.length + 2 ≤ l.length) := by
  unfold fldL at h
  split at h
  · cases h
  · rename_i hn
    obtain ⟨k, hk, hk0, hkl⟩ := dec_nat l hn
    rw [hk] at h
    simp only [Int.toNat_natCast] at h
    split at h
    · simp only [Option.some.injEq, Prod.mk.injEq] at h
      left
      refine ⟨h.1.symm, h.2.1.symm, ?_⟩
      rw [← h.2.2]; simp; omega
    · rename_i h0
      split at h
      · cases h
      · rename_i hn2
        obtain ⟨k2, hk2, hk20, hkl2⟩ := dec_nat _ hn2
        rw [hk2] at h
        simp only [Int.toNat_natCast] at h
        split at h
        · cases h
        · rename_i hle
          simp only [Option.some.injEq, Prod.mk.injEq] at h
          right
          refine ⟨by rw [← h.1]; exact h0, ?_⟩
          rw [← h.2.1, ← h.2.2]
          simp at hkl2 hle ⊢
          omega
theorem sec_size : ∀ (f : Nat) (l a b c : List UInt8) (n : Nat) (s : Sec), secL f l a b c n = some s → s.f1.length + s.f2.length + s.f4.length + s.rest.length + 2 * s.n + 1 ≤ a.length + b.length + c.length + l.length + 2 * n := by
  intro f
  induction f with
  | zero => intro l a b c n s h; simp [secL] at h
  | succ f ih =>
    intro l a b c n s h
    rw [secL] at h
    split at h
    · cases h
    · rename_i t d r hf
      rcases fld_size hf with ⟨h1, h2, h3⟩ | ⟨h1, h3⟩
      · rw [if_pos h1] at h
        simp only [Option.some.injEq] at h
        subst h
        simp; omega
      · rw [if_neg h1] at h
        split at h
        · cases h
        · have := ih _ _ _ _ _ _ h
          have e1 : (if t = 1 then d else a).length + (if t = 2 then d else b).length + (if t = 4 then d else c).length ≤ a.length + b.length + c.length + d.length := by
            split
            · rename_i h1; subst h1; simp; omega
            · split
              · rename_i h2; subst h2; simp; omega
              · split
                · simp
                · simp
          omega
theorem field_top (t : Nat) (d : List UInt8) (ht : t < 128) (hd : d.length < 2097152) : (fieldB t d).length ≤ d.length + 4 := by
  have h1 := uv1 ht
  have h2 := Lib.uvarint_length 2 d.length (by simpa using hd)
  unfold fieldB
  rw [h1]; simp; omega
theorem opt_top (t : Nat) (d : List UInt8) (ht : t < 128) (hd : d.length < 2097152) : (optB t d).length ≤ d.length + 4 := by
  have := field_top t d ht hd
  unfold optB
  split
  · simp
  · exact this
theorem cav_top (x : Cav) (h1 : x.loc.length < 2097152) (h2 : x.id.length < 2097152) (h3 : x.vid.length < 2097152) : (cavB x).length ≤ x.loc.length + x.id.length + x.vid.length + 13 := by
  have e1 := opt_top 1 x.loc (by decide) h1
  have e2 := field_top 2 x.id (by decide) h2
  have e3 := opt_top 4 x.vid (by decide) h3
  unfold cavB; simp; omega
theorem cavs_snoc (cs : List Cav) (x : Cav) : cavsB (cs ++ [x]) = cavsB cs ++ cavB x := by unfold cavsB; simp
theorem cavL_size (N : Nat) (hN : N ≤ 1048576) : ∀ (f : Nat) (l : List UInt8) (acc cs : List Cav) (r : List UInt8), cavL f l acc = some (cs, r) → l.length ≤ N → (∀ x ∈ acc, x.loc.length ≤ N ∧ x.id.length ≤ N ∧ x.vid.length ≤ N) →
    (cavsB cs).length + 5 * r.length ≤ (cavsB acc).length + 5 * l.length ∧ (∀ x ∈ cs, x.loc.length ≤ N ∧ x.id.length ≤ N ∧ x.vid.length ≤ N) ∧ r.length ≤ l.length := by
  intro f
  induction f with
  | zero => intro l acc cs r h; simp [cavL] at h
  | succ f ih =>
    intro l acc cs r h hl ha
    rw [cavL] at h
    split at h
    · cases h
    · rename_i s hs
      have hz := sec_size _ _ _ _ _ _ _ hs
      simp at hz
      split at h
      · simp only [Option.some.injEq, Prod.mk.injEq] at h
        obtain ⟨rfl, rfl⟩ := h
        exact ⟨by omega, ha, by omega⟩
      · rename_i hn
        have hn' : 1 ≤ s.n := by omega
        have ht := cav_top ⟨s.f1, s.f2, s.f4⟩ (by simp; omega) (by simp; omega) (by simp; omega)
        have := ih _ _ _ _ h (by omega) (by
          intro x hx
          simp at hx
          rcases hx with hx | rfl
          · exact ha x hx
          · simp; omega)
        rw [cavs_snoc] at this
        simp at ht this ⊢
        refine ⟨by omega, this.2.1, by omega⟩
theorem loose_size (l : List UInt8) (m : Mac) (hl : l.length ≤ 1048576) (h : loose l = some m) : (serB m).length ≤ 40000000 ∧ m.loc.length ≤ 10000000 ∧ m.id.length ≤ 10000000 ∧ (∀ x ∈ m.cavs, x.loc.length ≤ 10000000 ∧ x.id.length ≤ 10000000 ∧ x.vid.length ≤ 10000000) := by
  unfold loose at h
  split at h
  · cases h
  · rename_i s hs
    have hz := sec_size _ _ _ _ _ _ _ hs
    simp at hz
    split at h
    · cases h
    · rename_i cs r hc
      have hz2 := cavL_size 1048576 (Nat.le_refl _) _ _ _ _ _ hc (by omega) (by simp)
      simp [cavsB] at hz2
      split at h
      · cases h
      · rename_i t sg r2 hf
        split at h
        · rename_i h32
          simp only [Option.some.injEq] at h
          subst h
          have e1 := opt_top 1 s.f1 (by decide) (by omega)
          have e2 := field_top 2 s.f2 (by decide) (by omega)
          have e3 := field_top 6 sg (by decide) (by omega)
          refine ⟨?_, by simp; omega, by simp; omega, fun x hx => ?_⟩
          · unfold serB cavsB; simp; omega
          · have := hz2.2.1 x hx; omega
        · cases h
end Go.Proofs.Qxb6604478aFmt
