import Derived.KernelRfl
namespace Go.Proofs.Qxb6604199a

/-! The plain law of hold IDs: no Go in sight. -/
def isHexI (c : Int) : Bool := decide ((48 ≤ c ∧ c ≤ 57) ∨ (97 ≤ c ∧ c ≤ 102))
def okAt (p : Nat) (c : UInt8) : Bool := if p = 8 ∨ p = 13 ∨ p = 18 ∨ p = 23 then decide ((c.toNat : Int) = 45) else isHexI c.toNat
def chk : Nat → List UInt8 → Bool
  | _, [] => true
  | p, c :: cs => okAt p c && chk (p + 1) cs
def full : Nat → List UInt8 → Bool
  | p, [] => decide (p = 36)
  | p, c :: cs => decide (p < 36) && (okAt p c && full (p + 1) cs)
def wantN (g : Nat) : Nat := if g = 0 then 8 else if g < 4 then 4 else 12
def posN (g : Nat) : Nat := if g = 0 then 0 else 4 + 5 * g
def scan : Nat → Nat → List UInt8 → Bool
  | g, run, [] => decide (g = 4 ∧ run = 12)
  | g, run, c :: cs => if (c.toNat : Int) = 45 then (if 4 ≤ g ∨ run ≠ wantN g then false else scan (g + 1) 0 cs) else if isHexI c.toNat then scan g (run + 1) cs else false

theorem full_fit : ∀ (l : List UInt8) (p : Nat), l.length + p = 36 → full p l = chk p l := by
  intro l
  induction l with
  | nil => intro p h; simp at h; simp [full, chk, h]
  | cons c l ih =>
    intro p h
    simp at h
    have hp : p < 36 := by omega
    simp [full, chk, hp, ih (p + 1) (by omega)]
theorem full_misfit : ∀ (l : List UInt8) (p : Nat), ¬ l.length + p = 36 → full p l = false := by
  intro l
  induction l with
  | nil => intro p h; simp at h; simp [full, h]
  | cons c l ih =>
    intro p h
    simp at h
    simp [full, ih (p + 1) (by omega)]
theorem full_eq (l : List UInt8) : full 0 l = (decide (l.length = 36) && chk 0 l) := by
  by_cases h : l.length = 36
  · simp [full_fit l 0 (by omega), h]
  · simp [full_misfit l 0 (by omega), h]
theorem hex_45 : isHexI 45 = false := by decide

theorem scan_over : ∀ (l : List UInt8) (g run : Nat), g ≤ 4 → wantN g < run → scan g run l = false := by
  intro l
  induction l with
  | nil =>
    intro g run hg h
    simp only [scan, decide_eq_false_iff_not]
    rintro ⟨rfl, rfl⟩
    simp [wantN] at h
  | cons c l ih =>
    intro g run hg h
    rw [scan]
    by_cases hc : (c.toNat : Int) = 45
    · rw [if_pos hc, if_pos (Or.inr (by omega))]
    · rw [if_neg hc, ih g (run + 1) hg (by omega)]
      simp

theorem scan_full : ∀ (l : List UInt8) (g run : Nat), g ≤ 4 → run ≤ wantN g → scan g run l = full (posN g + run) l := by
  intro l
  induction l with
  | nil =>
    intro g run hg h
    simp only [scan, full]
    unfold wantN at h; unfold posN
    rcases (show g = 0 ∨ g = 1 ∨ g = 2 ∨ g = 3 ∨ g = 4 by omega) with rfl | rfl | rfl | rfl | rfl <;> simp at h ⊢ <;> omega
  | cons c l ih =>
    intro g run hg h
    have hp36 : posN g + run ≤ 36 := by
      unfold wantN at h; unfold posN
      rcases (show g = 0 ∨ g = 1 ∨ g = 2 ∨ g = 3 ∨ g = 4 by omega) with rfl | rfl | rfl | rfl | rfl <;> simp at h ⊢ <;> omega
    have hyph : (posN g + run = 8 ∨ posN g + run = 13 ∨ posN g + run = 18 ∨ posN g + run = 23) ↔ (g < 4 ∧ run = wantN g) := by
      unfold wantN at h ⊢; unfold posN
      rcases (show g = 0 ∨ g = 1 ∨ g = 2 ∨ g = 3 ∨ g = 4 by omega) with rfl | rfl | rfl | rfl | rfl <;> simp at h ⊢ <;> omega
    have last : posN g + run = 36 ↔ (g = 4 ∧ run = wantN g) := by
      unfold wantN at h ⊢; unfold posN
      rcases (show g = 0 ∨ g = 1 ∨ g = 2 ∨ g = 3 ∨ g = 4 by omega) with rfl | rfl | rfl | rfl | rfl <;> simp at h ⊢ <;> omega
    rw [scan, full]
    by_cases hc : (c.toNat : Int) = 45
    · rw [if_pos hc]
      by_cases hw : g < 4 ∧ run = wantN g
      · have hlt : posN g + run < 36 := by have := hyph.2 hw; omega
        rw [if_neg (by omega), ih (g + 1) 0 (by omega) (Nat.zero_le _)]
        have hn : posN (g + 1) + 0 = posN g + run + 1 := by
          obtain ⟨h4, rfl⟩ := hw
          unfold wantN posN
          rcases (show g = 0 ∨ g = 1 ∨ g = 2 ∨ g = 3 by omega) with rfl | rfl | rfl | rfl <;> rfl
        rw [hn]
        have hok : okAt (posN g + run) c = true := by unfold okAt; rw [if_pos (hyph.2 hw)]; simpa using hc
        simp [hlt, hok]
      · rw [if_pos (by omega)]
        have hok : okAt (posN g + run) c = false := by unfold okAt; rw [if_neg (fun h => hw (hyph.1 h)), hc]; exact hex_45
        simp [hok]
    · rw [if_neg hc]
      by_cases hx : isHexI c.toNat = true
      · rw [if_pos hx]
        by_cases hr : run = wantN g
        · rw [scan_over l g (run + 1) hg (by omega)]
          by_cases h4 : g < 4
          · have hok : okAt (posN g + run) c = false := by unfold okAt; rw [if_pos (hyph.2 ⟨h4, hr⟩)]; simpa using hc
            simp [hok]
          · have : posN g + run = 36 := last.2 ⟨by omega, hr⟩
            simp [this]
        · rw [ih g (run + 1) hg (by omega)]
          have hlt : posN g + run < 36 := by
            rcases Nat.lt_or_ge (posN g + run) 36 with h | h
            · exact h
            · exact absurd (last.1 (by omega)).2 hr
          have hok : okAt (posN g + run) c = true := by unfold okAt; rw [if_neg (fun h => hr (hyph.1 h).2)]; exact hx
          simp [hlt, hok, Nat.add_assoc]
      · rw [if_neg hx]
        have hok : okAt (posN g + run) c = false := by
          unfold okAt
          split
          · simpa using hc
          · simpa using hx
        simp [hok]

/-- The two readers agree. -/
theorem id_law (l : List UInt8) : ((decide (l.length = 36) && chk 0 l) == scan 0 0 l) = true := by
  rw [← full_eq, scan_full l 0 0 (by omega) (Nat.zero_le _)]
  show (full 0 l == full (0 + 0) l) = true
  exact beq_self_eq_true _
end Go.Proofs.Qxb6604199a
