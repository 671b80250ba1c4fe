import Derived.Test.Qxb6604478aFmtRows
import Derived.Test.Qxb6604478aFmtLaw
import Derived.Lib.VarintBits
import Derived.WalkKit
import Derived.WalkSpells
import Derived.WalkLawsBesides
namespace Go.Proofs.Qxb6604478aFmt
open Go.RowKit

/-! ### readFieldMacB1 -/
theorem hid {p : Prop} (h : p) : Hid p := h
/-- The reader's loop, by positions: the data's bounds. -/
def rdAt (N : Nat) : Nat → Nat → Nat → Nat → List UInt8 → Option (Nat × Nat)
  | 0, _, _, _, _ => none
  | _ + 1, _, _, _, [] => none
  | f + 1, k, v, p, c :: l => if c.toNat < 128 then (if 0 < k ∧ c.toNat = 0 then none else if N - (p + 1) < v + c.toNat * 128 ^ k then none else some (p + 1, p + 1 + (v + c.toNat * 128 ^ k))) else rdAt N f (k + 1) (v + c.toNat % 128 * 128 ^ k) (p + 1) l
def rdV : Option (Nat × Nat) → Value
  | none => .tuple #[.int .i64 0, .int .i64 0, .bool false]
  | some (s, e) => .tuple #[.int .i64 (s : Int), .int .i64 (e : Int), .bool true]
theorem rdAt_none (N p : Nat) (l : List UInt8) (hl : l.length + p = N) (h : rdL l = none) : rdAt N 3 0 0 p l = none := by
  match l, hl, h with
  | [], _, _ => rfl
  | c0 :: l1, hl, h =>
    unfold rdL at h; dsimp only at h
    rw [rdAt]
    by_cases h0 : c0.toNat < 128
    · rw [if_pos h0] at h ⊢
      rw [if_neg (by omega)]
      split at h
      · rename_i hh; rw [if_pos (by simp at hl; omega)]
      · cases h
    · rw [if_neg h0] at h ⊢
      match l1, hl, h with
      | [], _, _ => rfl
      | c1 :: l2, hl, h =>
        dsimp only at h
        rw [rdAt]
        by_cases h1 : c1.toNat < 128
        · rw [if_pos h1] at h ⊢
          by_cases hz : c1.toNat = 0
          · rw [if_pos ⟨by omega, hz⟩]
          · rw [if_neg hz] at h
            rw [if_neg (by omega)]
            split at h
            · rename_i hh; rw [if_pos (by simp at hl ⊢; omega)]
            · cases h
        · rw [if_neg h1] at h ⊢
          match l2, hl, h with
          | [], _, _ => rfl
          | c2 :: l3, hl, h =>
            dsimp only at h
            rw [rdAt]
            by_cases h2 : c2.toNat < 128
            · rw [if_pos h2] at h ⊢
              by_cases hz : c2.toNat = 0
              · rw [if_pos ⟨by omega, hz⟩]
              · rw [if_neg hz] at h
                rw [if_neg (by omega)]
                split at h
                · rename_i hh; rw [if_pos (by simp at hl ⊢; omega)]
                · cases h
            · rw [if_neg h2]; rfl
theorem rdAt_some (N p : Nat) (l d r : List UInt8) (hl : l.length + p = N) (h : rdL l = some (d, r)) : rdAt N 3 0 0 p l = some (N - r.length - d.length, N - r.length) := by
  match l, hl, h with
  | [], _, h => simp [rdL] at h
  | c0 :: l1, hl, h =>
    unfold rdL at h; dsimp only at h
    rw [rdAt]
    by_cases h0 : c0.toNat < 128
    · rw [if_pos h0] at h ⊢
      rw [if_neg (by omega)]
      split at h
      · cases h
      · simp only [Option.some.injEq, Prod.mk.injEq] at h
        obtain ⟨rfl, rfl⟩ := h
        rw [if_neg (by simp at hl; omega)]
        simp at hl ⊢; omega
    · rw [if_neg h0] at h ⊢
      match l1, hl, h with
      | [], _, h => simp at h
      | c1 :: l2, hl, h =>
        dsimp only at h
        rw [rdAt]
        by_cases h1 : c1.toNat < 128
        · rw [if_pos h1] at h ⊢
          split at h
          · cases h
          · rw [if_neg (by omega)]
            split at h
            · cases h
            · simp only [Option.some.injEq, Prod.mk.injEq] at h
              obtain ⟨rfl, rfl⟩ := h
              rw [if_neg (by simp at hl ⊢; omega)]
              simp at hl ⊢; omega
        · rw [if_neg h1] at h ⊢
          match l2, hl, h with
          | [], _, h => simp at h
          | c2 :: l3, hl, h =>
            dsimp only at h
            rw [rdAt]
            by_cases h2 : c2.toNat < 128
            · rw [if_pos h2] at h ⊢
              split at h
              · cases h
              · rw [if_neg (by omega)]
                split at h
                · cases h
                · simp only [Option.some.injEq, Prod.mk.injEq] at h
                  obtain ⟨rfl, rfl⟩ := h
                  rw [if_neg (by simp at hl ⊢; omega)]
                  simp at hl ⊢; omega
            · rw [if_neg h2] at h; cases h
end Go.Proofs.Qxb6604478aFmt
