import Derived.Lib.Varint
import Derived.Lib.VarintDec
namespace Go.Proofs.Qxb6604478aFmt
open Go.Lib (uvarint uvarintDec uvarintFrom)

/-! ### The macaroon's form, the loose reader and the strict grammar, as plain functions on bytes: no Go in sight -/
def fieldB (t : Nat) (d : List UInt8) : List UInt8 := uvarint t ++ (uvarint d.length ++ d)
def optB (t : Nat) (d : List UInt8) : List UInt8 := if d.isEmpty then [] else fieldB t d
structure Cav where
  loc : List UInt8
  id : List UInt8
  vid : List UInt8
def cavB (c : Cav) : List UInt8 := optB 1 c.loc ++ (fieldB 2 c.id ++ (optB 4 c.vid ++ [0]))
structure Mac where
  loc : List UInt8
  id : List UInt8
  cavs : List Cav
  sig : List UInt8
def cavsB (cs : List Cav) : List UInt8 := (cs.map cavB).flatten
def serB (m : Mac) : List UInt8 := 2 :: (optB 1 m.loc ++ (fieldB 2 m.id ++ (0 :: (cavsB m.cavs ++ (0 :: fieldB 6 m.sig)))))

/-- One field, read loosely: its type, its bytes, what is left. -/
def fldL (l : List UInt8) : Option (Nat × List UInt8 × List UInt8) :=
  if (uvarintDec l).2 ≤ 0 then none else
  if (uvarintDec l).1 = 0 then some (0, [], l.drop (uvarintDec l).2.toNat) else
  if (uvarintDec (l.drop (uvarintDec l).2.toNat)).2 ≤ 0 then none else
  if ((l.drop (uvarintDec l).2.toNat).drop (uvarintDec (l.drop (uvarintDec l).2.toNat)).2.toNat).length < (uvarintDec (l.drop (uvarintDec l).2.toNat)).1 then none else
  some ((uvarintDec l).1, ((l.drop (uvarintDec l).2.toNat).drop (uvarintDec (l.drop (uvarintDec l).2.toNat)).2.toNat).take (uvarintDec (l.drop (uvarintDec l).2.toNat)).1,
    ((l.drop (uvarintDec l).2.toNat).drop (uvarintDec (l.drop (uvarintDec l).2.toNat)).2.toNat).drop (uvarintDec (l.drop (uvarintDec l).2.toNat)).1)
/-- A section's fields 1, 2 and 4, how many fields there were, what is left. -/
structure Sec where
  f1 : List UInt8
  f2 : List UInt8
  f4 : List UInt8
  n : Nat
  rest : List UInt8
def secL : Nat → List UInt8 → List UInt8 → List UInt8 → List UInt8 → Nat → Option Sec
  | 0, _, _, _, _, _ => none
  | fuel + 1, l, a, b, c, n => match fldL l with
    | none => none
    | some (t, d, r) => if t = 0 then some ⟨a, b, c, n, r⟩ else if 7 ≤ t then none else secL fuel r (if t = 1 then d else a) (if t = 2 then d else b) (if t = 4 then d else c) (n + 1)
def cavL : Nat → List UInt8 → List Cav → Option (List Cav × List UInt8)
  | 0, _, _ => none
  | fuel + 1, l, acc => match secL (l.length + 1) l [] [] [] 0 with
    | none => none
    | some s => if s.n = 0 then some (acc, s.rest) else cavL fuel s.rest (acc ++ [⟨s.f1, s.f2, s.f4⟩])
/-- What Parse reads, ahead of its last test. -/
def loose (l : List UInt8) : Option Mac := match secL (l.length + 1) l [] [] [] 0 with
  | none => none
  | some s => match cavL (s.rest.length + 1) s.rest [] with
    | none => none
    | some (cs, r) => match fldL r with
      | none => none
      | some (_, sig, _) => if sig.length = 32 then some ⟨s.f1, s.f2, cs, sig⟩ else none

/-- A length in its shortest varint, of at most three bytes, and so many bytes behind it. -/
def rdL : List UInt8 → Option (List UInt8 × List UInt8)
  | [] => none
  | c0 :: l1 => if c0.toNat < 128 then (if l1.length < c0.toNat then none else some (l1.take c0.toNat, l1.drop c0.toNat)) else
    match l1 with
    | [] => none
    | c1 :: l2 => if c1.toNat < 128 then (if c1.toNat = 0 then none else if l2.length < c0.toNat % 128 + c1.toNat * 128 then none else some (l2.take (c0.toNat % 128 + c1.toNat * 128), l2.drop (c0.toNat % 128 + c1.toNat * 128))) else
      match l2 with
      | [] => none
      | c2 :: l3 => if c2.toNat < 128 then (if c2.toNat = 0 then none else if l3.length < c0.toNat % 128 + c1.toNat % 128 * 128 + c2.toNat * 16384 then none else some (l3.take (c0.toNat % 128 + c1.toNat % 128 * 128 + c2.toNat * 16384), l3.drop (c0.toNat % 128 + c1.toNat % 128 * 128 + c2.toNat * 16384))) else none
/-- An optional field of type t, not empty. -/
def optC (t : Nat) : List UInt8 → Option (List UInt8)
  | [] => some []
  | c :: l => if c.toNat = t then (match rdL l with
    | none => none
    | some (d, r) => if d.isEmpty then none else some r) else some (c :: l)
def idC : List UInt8 → Option (List UInt8 × List UInt8)
  | [] => none
  | c :: l => if c.toNat = 2 then rdL l else none
def endC : List UInt8 → Option (List UInt8)
  | [] => none
  | c :: l => if c.toNat = 0 then some l else none
def cavC (l : List UInt8) : Option (List UInt8) := match optC 1 l with
  | none => none
  | some l1 => match idC l1 with
    | none => none
    | some (_, l2) => match optC 4 l2 with
      | none => none
      | some l3 => endC l3
def headC (l : List UInt8) : Option (List UInt8 × List UInt8) := match optC 1 l with
  | none => none
  | some l1 => match idC l1 with
    | none => none
    | some (d, l2) => match endC l2 with
      | none => none
      | some l3 => some (d, l3)
def cavsC : Nat → List UInt8 → Option (List UInt8)
  | 0, _ => none
  | _ + 1, [] => none
  | fuel + 1, c :: l => if c.toNat = 0 then some l else match cavC (c :: l) with
    | none => none
    | some r => cavsC fuel r
def sigC : List UInt8 → Bool
  | c :: c' :: r => decide (r.length = 32) && (decide (c.toNat = 6) && decide (c'.toNat = 32))
  | _ => false
def canonTail (l : List UInt8) : Option (List UInt8) := match headC l with
  | none => none
  | some (d, l1) => match cavsC (l1.length + 1) l1 with
    | none => none
    | some r => if sigC r then some d else none
def canon : List UInt8 → Option (List UInt8)
  | [] => none
  | c :: l => if c.toNat = 2 then canonTail l else none

/-! ### Varints of at most three bytes -/
theorem u8_nat (n : Nat) (h : n < 256) : (n.toUInt8).toNat = n := by
  simp [Nat.toUInt8, UInt8.toNat_ofNat_of_lt' (by simpa using h)]
theorem uv1 {n : Nat} (h : n < 128) : uvarint n = [n.toUInt8] := Lib.uvarint_small h
theorem uv2 {n : Nat} (h : 128 ≤ n) (h' : n < 16384) : uvarint n = [(n % 128 + 128).toUInt8, (n / 128).toUInt8] := by
  rw [Lib.uvarint_big h, uv1 (by omega)]
theorem uv3 {n : Nat} (h : 16384 ≤ n) (h' : n < 2097152) : uvarint n = [(n % 128 + 128).toUInt8, (n / 128 % 128 + 128).toUInt8, (n / 128 / 128).toUInt8] := by
  rw [Lib.uvarint_big (by omega), Lib.uvarint_big (by omega), uv1 (by omega)]

theorem rd_ser (d r : List UInt8) (h : d.length < 2097152) : rdL (uvarint d.length ++ (d ++ r)) = some (d, r) := by
  by_cases h1 : d.length < 128
  · rw [uv1 h1]
    simp [rdL, u8_nat _ (show d.length < 256 by omega), h1]
  · by_cases h2 : d.length < 16384
    · rw [uv2 (by omega) h2]
      have e0 := u8_nat (d.length % 128 + 128) (by omega)
      have e1 := u8_nat (d.length / 128) (by omega)
      have ev : (d.length % 128 + 128) % 128 + d.length / 128 * 128 = d.length := by omega
      simp only [List.cons_append, List.nil_append, rdL, e0, e1]
      rw [if_neg (by omega), if_pos (by omega), if_neg (by omega), ev, if_neg (by simp)]
      simp
    · rw [uv3 (by omega) h]
      have e0 := u8_nat (d.length % 128 + 128) (by omega)
      have e1 := u8_nat (d.length / 128 % 128 + 128) (by omega)
      have e2 := u8_nat (d.length / 128 / 128) (by omega)
      have ev : (d.length % 128 + 128) % 128 + (d.length / 128 % 128 + 128) % 128 * 128 + d.length / 128 / 128 * 16384 = d.length := by omega
      simp only [List.cons_append, List.nil_append, rdL, e0, e1, e2]
      rw [if_neg (by omega), if_neg (by omega), if_pos (by omega), if_neg (by omega), ev, if_neg (by simp)]
      simp

theorem byte_eq {c : UInt8} {n : Nat} (h : c.toNat = n) : n.toUInt8 = c := by
  apply UInt8.toNat_inj.1
  rw [u8_nat n (by have := c.toNat_lt; omega)]
  exact h.symm

theorem rd_inv (l d r : List UInt8) (h : rdL l = some (d, r)) : l = uvarint d.length ++ (d ++ r) ∧ d.length < 2097152 := by
  match l, h with
  | c0 :: l1, h =>
    have hb0 := c0.toNat_lt
    unfold rdL at h; dsimp only at h
    by_cases h0 : c0.toNat < 128
    · rw [if_pos h0] at h
      by_cases hl : l1.length < c0.toNat
      · rw [if_pos hl] at h; cases h
      · rw [if_neg hl] at h
        simp only [Option.some.injEq, Prod.mk.injEq] at h
        obtain ⟨rfl, rfl⟩ := h
        have el : (l1.take c0.toNat).length = c0.toNat := by simp; omega
        rw [el, uv1 h0, byte_eq rfl]
        exact ⟨by simp, by omega⟩
    · rw [if_neg h0] at h
      match l1, h with
      | c1 :: l2, h =>
        have hb1 := c1.toNat_lt
        simp only at h
        by_cases h1 : c1.toNat < 128
        · rw [if_pos h1] at h
          by_cases hz : c1.toNat = 0
          · rw [if_pos hz] at h; cases h
          · rw [if_neg hz] at h
            by_cases hl : l2.length < c0.toNat % 128 + c1.toNat * 128
            · rw [if_pos hl] at h; cases h
            · rw [if_neg hl] at h
              simp only [Option.some.injEq, Prod.mk.injEq] at h
              obtain ⟨rfl, rfl⟩ := h
              have el : (l2.take (c0.toNat % 128 + c1.toNat * 128)).length = c0.toNat % 128 + c1.toNat * 128 := by simp; omega
              rw [el, uv2 (by omega) (by omega), byte_eq (c := c0) (by omega), byte_eq (c := c1) (by omega)]
              exact ⟨by simp, by omega⟩
        · rw [if_neg h1] at h
          match l2, h with
          | c2 :: l3, h =>
            have hb2 := c2.toNat_lt
            simp only at h
            by_cases h2 : c2.toNat < 128
            · rw [if_pos h2] at h
              by_cases hz : c2.toNat = 0
              · rw [if_pos hz] at h; cases h
              · rw [if_neg hz] at h
                by_cases hl : l3.length < c0.toNat % 128 + c1.toNat % 128 * 128 + c2.toNat * 16384
                · rw [if_pos hl] at h; cases h
                · rw [if_neg hl] at h
                  simp only [Option.some.injEq, Prod.mk.injEq] at h
                  obtain ⟨rfl, rfl⟩ := h
                  have el : (l3.take (c0.toNat % 128 + c1.toNat % 128 * 128 + c2.toNat * 16384)).length = c0.toNat % 128 + c1.toNat % 128 * 128 + c2.toNat * 16384 := by simp; omega
                  rw [el, uv3 (by omega) (by omega), byte_eq (c := c0) (by omega), byte_eq (c := c1) (by omega), byte_eq (c := c2) (by omega)]
                  exact ⟨by simp, by omega⟩
            · rw [if_neg h2] at h; cases h
          | [], h => simp at h
      | [], h => simp at h
  | [], h => simp [rdL] at h

theorem dec_ser (n : Nat) (r : List UInt8) (h : n < 2097152) : uvarintDec (uvarint n ++ r) = (n, ((uvarint n).length : Int)) := by
  by_cases h1 : n < 128
  · rw [uv1 h1]
    simp [uvarintDec, uvarintFrom, u8_nat _ (show n < 256 by omega), h1]
  · by_cases h2 : n < 16384
    · rw [uv2 (by omega) h2]
      have e0 := u8_nat (n % 128 + 128) (by omega)
      have e1 := u8_nat (n / 128) (by omega)
      simp only [List.cons_append, List.nil_append, uvarintDec, uvarintFrom, e0, e1]
      rw [if_neg (by omega), if_neg (by omega), if_neg (by omega), if_pos (by omega), if_neg (by omega)]
      simp
      omega
    · rw [uv3 (by omega) h]
      have e0 := u8_nat (n % 128 + 128) (by omega)
      have e1 := u8_nat (n / 128 % 128 + 128) (by omega)
      have e2 := u8_nat (n / 128 / 128) (by omega)
      simp only [List.cons_append, List.nil_append, uvarintDec, uvarintFrom, e0, e1, e2]
      rw [if_neg (by omega), if_neg (by omega), if_neg (by omega), if_neg (by omega), if_neg (by omega), if_pos (by omega), if_neg (by omega)]
      simp
      omega
end Go.Proofs.Qxb6604478aFmt
