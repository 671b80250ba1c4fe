import Derived.Test.Qxb6604478aFmtPlain
namespace Go.Proofs.Qxb6604478aFmt
open Go.Lib (uvarint uvarintDec uvarintFrom)

/-! ### The loose reader gives back what was written -/
theorem fld_ser (t : Nat) (d r : List UInt8) (ht : 0 < t) (ht' : t < 128) (hd : d.length < 2097152) : fldL (fieldB t d ++ r) = some (t, d, r) := by
  have e0 : uvarintDec (fieldB t d ++ r) = (t, ((uvarint t).length : Int)) := by
    unfold fieldB; rw [List.append_assoc]; exact dec_ser t _ (by omega)
  have e1 : (fieldB t d ++ r).drop (uvarint t).length = uvarint d.length ++ (d ++ r) := by
    unfold fieldB; rw [List.append_assoc, List.drop_left]; simp
  have hp0 := Lib.uvarint_pos t
  have hp1 := Lib.uvarint_pos d.length
  have e2 := dec_ser d.length (d ++ r) hd
  unfold fldL
  rw [e0]
  simp only [Int.toNat_natCast]
  rw [e1, e2, if_neg (by omega), if_neg (by omega)]
  simp only [Int.toNat_natCast]
  rw [List.drop_left, if_neg (by omega), if_neg (by simp)]
  simp
theorem fld_end (r : List UInt8) : fldL (0 :: r) = some (0, [], r) := by
  have e : uvarintDec (0 :: r) = (0, 1) := by simp [uvarintDec, uvarintFrom]
  unfold fldL
  rw [e]
  simp

theorem fuel4 (n : Nat) (h : 3 ≤ n) : ∃ g, n + 1 = g + 4 := ⟨n - 3, by omega⟩
theorem sec_end (f : Nat) (r a b c : List UInt8) (n : Nat) : secL (f + 1) (0 :: r) a b c n = some ⟨a, b, c, n, r⟩ := by
  rw [secL, fld_end]; rfl
theorem sec_step (f t : Nat) (d r a b c : List UInt8) (n : Nat) (ht : 0 < t) (ht' : t < 7) (hd : d.length < 2097152) :
    secL (f + 1) (fieldB t d ++ r) a b c n = secL f r (if t = 1 then d else a) (if t = 2 then d else b) (if t = 4 then d else c) (n + 1) := by
  rw [secL, fld_ser t d r ht (by omega) hd]
  show (if t = 0 then _ else _) = _
  rw [if_neg (by omega), if_neg (by omega)]
theorem opt_nil (t : Nat) : optB t [] = [] := rfl
theorem opt_some (t : Nat) (d : List UInt8) (h : d ≠ []) : optB t d = fieldB t d := by
  unfold optB; rw [if_neg (by simpa using h)]
/-- A section with an identifier in it. -/
theorem sec_ser (f : Nat) (a b c r : List UInt8) (ha : a.length < 2097152) (hb : b.length < 2097152) (hc : c.length < 2097152) :
    ∃ n, 0 < n ∧ secL (f + 4) (optB 1 a ++ (fieldB 2 b ++ (optB 4 c ++ 0 :: r))) [] [] [] 0 = some ⟨a, b, c, n, r⟩ := by
  by_cases h1 : a = []
  · subst h1
    by_cases h4 : c = []
    · subst h4
      refine ⟨1, by omega, ?_⟩
      rw [opt_nil, opt_nil, List.nil_append, List.nil_append, sec_step (f + 3) 2 b _ _ _ _ _ (by omega) (by omega) hb]
      exact sec_end (f + 2) r _ _ _ _
    · refine ⟨2, by omega, ?_⟩
      rw [opt_nil, opt_some 4 c h4, List.nil_append, sec_step (f + 3) 2 b _ _ _ _ _ (by omega) (by omega) hb, sec_step (f + 2) 4 c _ _ _ _ _ (by omega) (by omega) hc]
      exact sec_end (f + 1) r _ _ _ _
  · by_cases h4 : c = []
    · subst h4
      refine ⟨2, by omega, ?_⟩
      rw [opt_some 1 a h1, opt_nil, List.nil_append, sec_step (f + 3) 1 a _ _ _ _ _ (by omega) (by omega) ha, sec_step (f + 2) 2 b _ _ _ _ _ (by omega) (by omega) hb]
      exact sec_end (f + 1) r _ _ _ _
    · refine ⟨3, by omega, ?_⟩
      rw [opt_some 1 a h1, opt_some 4 c h4, sec_step (f + 3) 1 a _ _ _ _ _ (by omega) (by omega) ha, sec_step (f + 2) 2 b _ _ _ _ _ (by omega) (by omega) hb, sec_step (f + 1) 4 c _ _ _ _ _ (by omega) (by omega) hc]
      exact sec_end f r _ _ _ _

theorem field_len (t : Nat) (d : List UInt8) : d.length + 2 ≤ (fieldB t d).length := by
  unfold fieldB
  have h0 := Lib.uvarint_pos t
  have h1 := Lib.uvarint_pos d.length
  simp; omega
theorem opt_len (t : Nat) (d : List UInt8) : d.length ≤ (optB t d).length := by
  unfold optB
  split
  · rename_i h; simp at h; simp [h]
  · have := field_len t d; omega
theorem cav_len (c : Cav) : c.loc.length + c.id.length + c.vid.length + 3 ≤ (cavB c).length := by
  have h0 := opt_len 1 c.loc
  have h1 := field_len 2 c.id
  have h2 := opt_len 4 c.vid
  unfold cavB; simp; omega
theorem cavs_cons (c : Cav) (cs : List Cav) : cavsB (c :: cs) = cavB c ++ cavsB cs := rfl
theorem cavs_len (cs : List Cav) : ∀ c ∈ cs, (cavB c).length ≤ (cavsB cs).length := by
  intro c hc
  induction cs with
  | nil => cases hc
  | cons x cs ih =>
    rw [cavs_cons, List.length_append]
    rcases List.mem_cons.1 hc with rfl | h
    · omega
    · have := ih h; omega

theorem cav_ser : ∀ (cs : List Cav) (f : Nat) (acc : List Cav) (r : List UInt8), (∀ c ∈ cs, (cavB c).length < 2097152) → cs.length < f → cavL f (cavsB cs ++ 0 :: r) acc = some (acc ++ cs, r) := by
  intro cs
  induction cs with
  | nil =>
    intro f acc r _ hf
    obtain ⟨f, rfl⟩ : ∃ g, f = g + 1 := ⟨f - 1, by simp at hf; omega⟩
    show cavL (f + 1) (0 :: r) acc = _
    rw [cavL, sec_end]
    simp
  | cons c cs ih =>
    intro f acc r hb hf
    obtain ⟨f, rfl⟩ : ∃ g, f = g + 1 := ⟨f - 1, by simp at hf; omega⟩
    have hc := cav_len c
    have hcb := hb c (by simp)
    have el : cavsB (c :: cs) ++ 0 :: r = optB 1 c.loc ++ (fieldB 2 c.id ++ (optB 4 c.vid ++ 0 :: (cavsB cs ++ 0 :: r))) := by
      rw [cavs_cons, cavB]; simp
    rw [el, cavL]
    have hlen : 3 ≤ (optB 1 c.loc ++ (fieldB 2 c.id ++ (optB 4 c.vid ++ 0 :: (cavsB cs ++ 0 :: r)))).length := by
      have := field_len 2 c.id
      simp; omega
    obtain ⟨g, hg⟩ : ∃ g, (optB 1 c.loc ++ (fieldB 2 c.id ++ (optB 4 c.vid ++ 0 :: (cavsB cs ++ 0 :: r)))).length + 1 = g + 4 := fuel4 _ hlen
    rw [hg]
    obtain ⟨n, hn, hs⟩ := sec_ser g c.loc c.id c.vid (cavsB cs ++ 0 :: r) (by omega) (by omega) (by omega)
    rw [hs]
    show (if n = 0 then _ else _) = _
    rw [if_neg (by omega)]
    show cavL f (cavsB cs ++ 0 :: r) (acc ++ [c]) = _
    rw [ih f (acc ++ [c]) r (fun x hx => hb x (by simp [hx])) (by simp at hf; omega)]
    simp

theorem cavs_count (cs : List Cav) : cs.length ≤ (cavsB cs).length := by
  induction cs with
  | nil => simp [cavsB]
  | cons c cs ih =>
    have := cav_len c
    rw [cavs_cons, List.length_append, List.length_cons]; omega

/-- WHAT WAS WRITTEN IS READ. -/
theorem loose_ser (m : Mac) (hs : m.sig.length = 32) (hl : (serB m).length ≤ 1048576) : loose (serB m).tail = some m := by
  have e : (serB m).tail = optB 1 m.loc ++ (fieldB 2 m.id ++ (optB 4 [] ++ 0 :: (cavsB m.cavs ++ (0 :: fieldB 6 m.sig)))) := rfl
  have h0 := opt_len 1 m.loc
  have h1 := field_len 2 m.id
  have h6 := field_len 6 m.sig
  unfold serB at hl
  simp at hl
  rw [e]
  obtain ⟨g, hg⟩ : ∃ g, (optB 1 m.loc ++ (fieldB 2 m.id ++ (optB 4 [] ++ 0 :: (cavsB m.cavs ++ (0 :: fieldB 6 m.sig))))).length + 1 = g + 4 := by
    apply fuel4
    simp; omega
  unfold loose
  rw [hg]
  obtain ⟨n, _, hs1⟩ := sec_ser g m.loc m.id [] (cavsB m.cavs ++ (0 :: fieldB 6 m.sig)) (by omega) (by omega) (by simp)
  rw [hs1]
  show (match cavL ((cavsB m.cavs ++ (0 :: fieldB 6 m.sig)).length + 1) (cavsB m.cavs ++ 0 :: fieldB 6 m.sig) [] with | none => none | some (cs, r) => _) = _
  have hcc := cavs_count m.cavs
  rw [cav_ser m.cavs _ [] (fieldB 6 m.sig) (fun c hc => by have := cavs_len m.cavs c hc; omega) (by simp; omega)]
  show (match fldL (fieldB 6 m.sig) with | none => none | some (_, sig, _) => _) = _
  have h := fld_ser 6 m.sig [] (by omega) (by omega) (by omega)
  rw [List.append_nil] at h
  rw [h]
  show (if m.sig.length = 32 then _ else _) = _
  rw [if_pos hs]
  rfl

/-! ### The strict grammar takes what is written, and nothing else -/
theorem uv_byte (t : Nat) (ht : t < 128) (l : List UInt8) : ∃ c : UInt8, c.toNat = t ∧ uvarint t ++ l = c :: l :=
  ⟨t.toUInt8, u8_nat t (by omega), by rw [uv1 ht]; rfl⟩
theorem field_cons (t : Nat) (d r : List UInt8) (ht : t < 128) : ∃ c : UInt8, c.toNat = t ∧ fieldB t d ++ r = c :: (uvarint d.length ++ (d ++ r)) := by
  obtain ⟨c, hc, e⟩ := uv_byte t ht (uvarint d.length ++ (d ++ r))
  exact ⟨c, hc, by rw [← e]; unfold fieldB; simp⟩
theorem of_byte (c : UInt8) (l d r : List UInt8) (h : rdL l = some (d, r)) : c :: l = fieldB c.toNat d ++ r ∨ 128 ≤ c.toNat := by
  by_cases hc : c.toNat < 128
  · left
    obtain ⟨e, _⟩ := rd_inv l d r h
    unfold fieldB
    rw [uv1 hc, byte_eq rfl, List.append_assoc, List.append_assoc, ← e]
    rfl
  · right; omega
/-- What does not open with the byte t. -/
def notHead (t : Nat) : List UInt8 → Prop
  | [] => True
  | c :: _ => c.toNat ≠ t
theorem opt_take (t : Nat) (d r : List UInt8) (ht : t < 128) (hd : d.length < 2097152) (hr : notHead t r) : optC t (optB t d ++ r) = some r := by
  by_cases h : d = []
  · subst h
    rw [opt_nil, List.nil_append]
    match r, hr with
    | [], _ => rfl
    | c :: r, hr => rw [optC, if_neg hr]
  · rw [opt_some t d h]
    obtain ⟨c, hc, e⟩ := field_cons t d r ht
    rw [e, optC, if_pos hc, rd_ser d r hd]
    show (if d.isEmpty = true then _ else _) = _
    rw [if_neg (by simpa using h)]
theorem opt_inv (t : Nat) (l r : List UInt8) (ht : t < 128) (h : optC t l = some r) : ∃ d, l = optB t d ++ r := by
  match l, h with
  | [], h =>
    simp [optC] at h
    exact ⟨[], by rw [opt_nil, h]; rfl⟩
  | c :: l, h =>
    rw [optC] at h
    by_cases hc : c.toNat = t
    · rw [if_pos hc] at h
      split at h
      · cases h
      · rename_i d r' hr
        split at h
        · cases h
        · rename_i hd
          simp only [Option.some.injEq] at h
          subst h
          refine ⟨d, ?_⟩
          rw [opt_some t d (by simpa using hd)]
          rcases of_byte c l d r' hr with e | e
          · rw [hc] at e; exact e
          · omega
    · rw [if_neg hc] at h
      simp only [Option.some.injEq] at h
      exact ⟨[], by rw [opt_nil, ← h]; rfl⟩
theorem id_take (d r : List UInt8) (hd : d.length < 2097152) : idC (fieldB 2 d ++ r) = some (d, r) := by
  obtain ⟨c, hc, e⟩ := field_cons 2 d r (by omega)
  rw [e, idC, if_pos hc, rd_ser d r hd]
theorem id_inv (l d r : List UInt8) (h : idC l = some (d, r)) : l = fieldB 2 d ++ r := by
  match l, h with
  | c :: l, h =>
    rw [idC] at h
    by_cases hc : c.toNat = 2
    · rw [if_pos hc] at h
      rcases of_byte c l d r h with e | e
      · rw [hc] at e; exact e
      · omega
    · rw [if_neg hc] at h; cases h
theorem end_take (r : List UInt8) : endC (0 :: r) = some r := rfl
theorem end_inv (l r : List UInt8) (h : endC l = some r) : l = 0 :: r := by
  match l, h with
  | c :: l, h =>
    rw [endC] at h
    by_cases hc : c.toNat = 0
    · rw [if_pos hc] at h
      simp only [Option.some.injEq] at h
      subst h
      have : c = 0 := UInt8.toNat_inj.1 hc
      rw [this]
    · rw [if_neg hc] at h; cases h
theorem head_field (t t' : Nat) (d r : List UInt8) (ht : t < 128) (h : t ≠ t') : notHead t' (fieldB t d ++ r) := by
  obtain ⟨c, hc, e⟩ := field_cons t d r ht
  rw [e]
  show c.toNat ≠ t'
  omega
theorem cav_take (c : Cav) (r : List UInt8) (h : (cavB c).length < 2097152) : cavC (cavB c ++ r) = some r := by
  have hl := cav_len c
  have e : cavB c ++ r = optB 1 c.loc ++ (fieldB 2 c.id ++ (optB 4 c.vid ++ (0 :: r))) := by unfold cavB; simp
  unfold cavC
  rw [e, opt_take 1 c.loc _ (by omega) (by omega) (head_field 2 1 _ _ (by omega) (by omega))]
  simp only
  rw [id_take c.id _ (by omega)]
  simp only
  rw [opt_take 4 c.vid _ (by omega) (by omega) (by show (0 : UInt8).toNat ≠ 4; decide)]
  rfl
theorem cav_inv (l r : List UInt8) (h : cavC l = some r) : ∃ c : Cav, l = cavB c ++ r := by
  unfold cavC at h
  split at h
  · cases h
  · rename_i l1 h1
    split at h
    · cases h
    · rename_i d l2 h2
      split at h
      · cases h
      · rename_i l3 h3
        obtain ⟨a, rfl⟩ := opt_inv 1 l l1 (by omega) h1
        have e2 := id_inv l1 d l2 h2
        obtain ⟨c, e3⟩ := opt_inv 4 l2 l3 (by omega) h3
        have e4 := end_inv l3 r h
        exact ⟨⟨a, d, c⟩, by rw [e2, e3, e4]; unfold cavB; simp⟩
theorem cav_head (c : Cav) (r : List UInt8) : ∃ (x : UInt8) (l : List UInt8), x.toNat ≠ 0 ∧ cavB c ++ r = x :: l := by
  have e : cavB c ++ r = optB 1 c.loc ++ (fieldB 2 c.id ++ (optB 4 c.vid ++ (0 :: r))) := by unfold cavB; simp
  rw [e]
  by_cases h : c.loc = []
  · rw [h, opt_nil, List.nil_append]
    obtain ⟨x, hx, e⟩ := field_cons 2 c.id (optB 4 c.vid ++ (0 :: r)) (by omega)
    exact ⟨x, _, by omega, e⟩
  · rw [opt_some 1 _ h]
    obtain ⟨x, hx, e⟩ := field_cons 1 c.loc (fieldB 2 c.id ++ (optB 4 c.vid ++ (0 :: r))) (by omega)
    exact ⟨x, _, by omega, e⟩
theorem cavs_take : ∀ (cs : List Cav) (f : Nat) (r : List UInt8), (∀ c ∈ cs, (cavB c).length < 2097152) → cs.length < f → cavsC f (cavsB cs ++ 0 :: r) = some r := by
  intro cs
  induction cs with
  | nil =>
    intro f r _ hf
    obtain ⟨f, rfl⟩ : ∃ g, f = g + 1 := ⟨f - 1, by simp at hf; omega⟩
    show cavsC (f + 1) (0 :: r) = _
    rw [cavsC]; rfl
  | cons c cs ih =>
    intro f r hb hf
    obtain ⟨f, rfl⟩ : ∃ g, f = g + 1 := ⟨f - 1, by simp at hf; omega⟩
    have hc := cav_take c (cavsB cs ++ 0 :: r) (hb c (by simp))
    obtain ⟨x, l, hx, e⟩ := cav_head c (cavsB cs ++ 0 :: r)
    rw [cavs_cons, List.append_assoc, e, cavsC, if_neg hx, ← e, hc]
    exact ih f r (fun y hy => hb y (by simp [hy])) (by simp at hf; omega)
theorem cavs_inv : ∀ (f : Nat) (l r : List UInt8), cavsC f l = some r → ∃ cs, l = cavsB cs ++ 0 :: r := by
  intro f
  induction f with
  | zero => intro l r h; simp [cavsC] at h
  | succ f ih =>
    intro l r h
    match l, h with
    | [], h => simp [cavsC] at h
    | c :: l, h =>
      rw [cavsC] at h
      by_cases hc : c.toNat = 0
      · rw [if_pos hc] at h
        simp only [Option.some.injEq] at h
        subst h
        have : c = 0 := UInt8.toNat_inj.1 hc
        exact ⟨[], by rw [this]; rfl⟩
      · rw [if_neg hc] at h
        split at h
        · cases h
        · rename_i r' h1
          obtain ⟨x, e1⟩ := cav_inv _ _ h1
          obtain ⟨cs, e2⟩ := ih r' r h
          exact ⟨x :: cs, by rw [e1, e2, cavs_cons]; simp⟩
theorem sig_take (s : List UInt8) (h : s.length = 32) : sigC (fieldB 6 s) = true := by
  have e : fieldB 6 s = 6 :: 32 :: s := by unfold fieldB; rw [h, uv1 (by omega), uv1 (by omega)]; rfl
  rw [e, sigC]
  simp [h]
theorem sig_inv (r : List UInt8) (h : sigC r = true) : ∃ s, s.length = 32 ∧ r = fieldB 6 s := by
  match r, h with
  | c :: c' :: s, h =>
    simp [sigC] at h
    obtain ⟨h1, h2, h3⟩ := h
    refine ⟨s, h1, ?_⟩
    have e1 : c = 6 := UInt8.toNat_inj.1 h2
    have e2 : c' = 32 := UInt8.toNat_inj.1 h3
    unfold fieldB; rw [h1, uv1 (by omega), uv1 (by omega), e1, e2]; rfl
  | [], h => simp [sigC] at h
  | [_], h => simp [sigC] at h

theorem canon_ser (m : Mac) (hs : m.sig.length = 32) (hl : (serB m).length ≤ 1048576) : canon (serB m) = some m.id := by
  have h0 := opt_len 1 m.loc
  have h1 := field_len 2 m.id
  have h6 := field_len 6 m.sig
  unfold serB at hl ⊢
  simp at hl
  rw [canon, if_pos (by decide)]
  unfold canonTail headC
  rw [opt_take 1 m.loc _ (by omega) (by omega) (head_field 2 1 _ _ (by omega) (by omega))]
  simp only
  rw [id_take m.id _ (by omega)]
  simp only
  rw [end_take]
  simp only
  have hcc := cavs_count m.cavs
  rw [cavs_take m.cavs _ (fieldB 6 m.sig) (fun c hc => by have := cavs_len m.cavs c hc; omega) (by simp; omega)]
  simp only
  rw [if_pos (sig_take m.sig hs)]
theorem canon_inv (l d : List UInt8) (h : canon l = some d) : ∃ m : Mac, l = serB m ∧ m.id = d ∧ m.sig.length = 32 := by
  match l, h with
  | c :: l, h =>
    rw [canon] at h
    by_cases hc : c.toNat = 2
    · rw [if_pos hc] at h
      have e0 : c = 2 := UInt8.toNat_inj.1 hc
      unfold canonTail at h
      split at h
      · cases h
      · rename_i d' l1 h1
        split at h
        · cases h
        · rename_i r h2
          split at h
          · rename_i h3
            simp only [Option.some.injEq] at h
            subst h
            unfold headC at h1
            split at h1
            · cases h1
            · rename_i l2 g1
              split at h1
              · cases h1
              · rename_i d2 l3 g2
                split at h1
                · cases h1
                · rename_i l4 g3
                  simp only [Option.some.injEq, Prod.mk.injEq] at h1
                  obtain ⟨rfl, rfl⟩ := h1
                  obtain ⟨a, e1⟩ := opt_inv 1 l l2 (by omega) g1
                  have e2 := id_inv l2 _ l3 g2
                  have e3 := end_inv l3 _ g3
                  obtain ⟨cs, e4⟩ := cavs_inv _ _ _ h2
                  obtain ⟨s, hs, e5⟩ := sig_inv r h3
                  exact ⟨⟨a, d2, cs, s⟩, by rw [e0, e1, e2, e3, e4, e5]; unfold serB; rfl, rfl, hs⟩
          · cases h
    · rw [if_neg hc] at h; cases h

/-- WHERE THE GRAMMAR TAKES THE BYTES, the loose reader reads a macaroon whose form they are, with the grammar's identifier. -/
theorem law_yes (l d : List UInt8) (hl : l.length ≤ 1048576) (h : canon l = some d) : ∃ m : Mac, loose l.tail = some m ∧ serB m = l ∧ m.id = d := by
  obtain ⟨m, rfl, hd, hs⟩ := canon_inv l d h
  exact ⟨m, loose_ser m hs hl, rfl, hd⟩
/-- WHERE IT DOES NOT, no macaroon has that form. -/
theorem law_no (l : List UInt8) (hl : l.length ≤ 1048576) (h : canon l = none) (m : Mac) (hs : m.sig.length = 32) : serB m ≠ l := by
  intro e
  subst e
  rw [canon_ser m hs hl] at h
  cases h
end Go.Proofs.Qxb6604478aFmt
