import Derived.Test.Qxb6604511aFmtSmallWalk
import Derived.Maps.AppendAt
namespace Go.Proofs.Qxb6604511aFmt
open Go.RowKit Go.Extern.Stop Go.Stop Go.Extern

/-! ### zzClone -/
theorem info9 : (Tryf.prog.info? 9).map (fun i => (i.zero, i.size, i.bytes)) = some (some (.string ⟨#[]⟩), 1, 16) := by kernel_rfl
def strs (xs : List ByteArray) : List Value := xs.map Value.string
theorem strs_get (xs : List ByteArray) (j : Nat) (h : j < xs.length) : (strs xs)[j]? = some (.string xs[j]) := by simp [strs, List.getElem?_eq_getElem h]
theorem cell_lt {w : World} {a : Addr} {v : Value} (h : w.cell? a = some v) : a.block < w.heap.size := by
  by_cases hl : a.block < w.heap.size
  · exact hl
  · have hn : w.heap[a.block]? = none := Array.getElem?_eq_none (by omega)
    simp [World.cell?, hn] at h
theorem lt_row {w : World} {g : Nat} {o : Obj} (h : w.heap[g]? = some o) : g < w.heap.size := by
  by_cases hl : g < w.heap.size
  · exact hl
  · rw [Array.getElem?_eq_none (by omega)] at h; cases h
theorem made_size (n : Nat) : (madeCells #[Value.string ⟨#[]⟩] n).size = n := by simp [madeCells]
theorem own_row {w : World} {B g n : Nat} {cur : Array Value} {xs : List ByteArray} (hB : B ≤ g) (hrow : w.heap[g]? = some (.cells cur 9 (0, 0))) (hsz : cur.size = n) (hn : n = xs.length) (hm : n ≤ maxLen) (hc : ∀ j (h : j < xs.length), cur[j]? = some (.string xs[j])) :
    w.ownsRow B 9 1 (.slice (some ⟨g, 0, none⟩) n n) n (strs xs) := by
  refine ⟨by simp [strs, hn], .inr ⟨g, n, cur, rfl, hB, hrow, Nat.le_refl _, hm, by omega, ?_⟩⟩
  apply List.ext_getElem?
  intro j
  rw [List.getElem?_take]
  by_cases hj : j < xs.length
  · rw [if_pos (by omega), strs_get xs j hj]
    simpa using hc j hj
  · rw [if_neg (by omega)]
    exact (List.getElem?_eq_none (by simp [strs]; omega)).symm
theorem own_cell {w : World} {B g n c : Nat} {xs : List ByteArray} (h : w.ownsRow B 9 1 (.slice (some ⟨g, 0, none⟩) n c) n (strs xs)) (j : Nat) (hj : j < xs.length) : w.cell? ⟨g, j, none⟩ = some (.string xs[j]) := by
  rcases h.2 with ⟨e, _⟩ | ⟨g', cap, cur, e, _, hh, hle, _, hsz, ht⟩
  · simp at e
  · simp only [Value.slice.injEq, Option.some.injEq, Addr.mk.injEq, and_true, true_and] at e
    obtain ⟨rfl, rfl⟩ := e
    rw [cell_of_row w g j cur 9 (0, 0) hh]
    have h2 : (cur.toList.take (n * 1))[j]? = (strs xs)[j]? := by rw [ht]
    have hl := h.1
    simp [strs] at hl
    rw [List.getElem?_take, if_pos (by omega), strs_get xs j hj] at h2
    simpa using h2
theorem own_ge {w : World} {B g n c : Nat} {xs : List Value} (h : w.ownsRow B 9 1 (.slice (some ⟨g, 0, none⟩) n c) n xs) : B ≤ g := by
  rcases h.2 with ⟨e, _⟩ | ⟨g', cap, cur, e, hb, _⟩
  · simp at e
  · simp only [Value.slice.injEq, Option.some.injEq, Addr.mk.injEq, and_true, true_and] at e
    omega
theorem own_kept {w w' : World} {base : Nat} {e : TypeId} {sz : Nat} {v : Value} {n : Nat} {xs : List Value} (h : w.ownsRow base e sz v n xs) (hk : ∀ k, v.ownBlock = some k → w'.heap[k]? = w.heap[k]?) : w'.ownsRow base e sz v n xs := by
  refine ⟨h.1, ?_⟩
  rcases h.2 with h | ⟨g, cap, cur, rfl, e2, e3, e4⟩
  · exact .inl h
  · exact .inr ⟨g, cap, cur, rfl, e2, (hk g rfl).trans e3, e4⟩
theorem own_lt {w : World} {base : Nat} {e : TypeId} {sz : Nat} {v : Value} {n : Nat} {xs : List Value} (h : w.ownsRow base e sz v n xs) : ∀ k, v.ownBlock = some k → base ≤ k ∧ k < w.heap.size := by
  intro k hk
  rcases h.2 with ⟨rfl, _⟩ | ⟨g, cap, cur, rfl, e2, e3, _⟩
  · simp [Value.ownBlock] at hk
  · simp [Value.ownBlock] at hk; subst hk; exact ⟨e2, lt_row e3⟩

/-- zzClone: nil stays nil; else a new row. -/
def clonePost (xs : List ByteArray) (w : World) (e : Ending) (w' : World) : Prop := (∃ v a n c, e = .returned v ∧ v = .slice a n c ∧ n = xs.length ∧ w'.ownsRow w.heap.size 9 1 v n (strs xs)) ∧ Below w.heap.size w w'
theorem clone7_nil (w : World) : Calls Tryf.prog 7 #[.slice none 0 0] w fun e w' => clonePost [] w e w' := by
  have he : ∀ w : World, (binOp .eql 22 (.slice none 0 0) (.slice none 0 0)).run Tryf.prog w = .ok (.bool true) w := fun _ => rfl
  go_enter Tryf.func7, Tryf.ntmps7
  go_wp2
  go_ret
  exact ⟨⟨_, none, 0, 0, rfl, rfl, rfl, rfl, .inl ⟨rfl, rfl⟩⟩, Below.refl _ _⟩
set_option maxHeartbeats 1000000 in
theorem clone7_some (a : Addr) (n c : Nat) (xs : List ByteArray) (w : World) (hn : n = xs.length) (hle : n ≤ 1048576) (hc : ∀ j (h : j < xs.length), w.cell? (a.add j) = some (.string xs[j])) :
    Calls Tryf.prog 7 #[.slice (some a) n c] w fun e w' => clonePost xs w e w' := by
  have hmk := run_make_row' (P := Tryf.prog) 22 9 (.string ⟨#[]⟩) 16 Tryf.underlying22 info9 rfl .i64 .i64 n (by omega) (by omega)
  have HN := hidp hn
  have HC := hidp hc
  clear hn hc
  have he : ∀ w : World, (binOp .eql 22 (.slice (some a) n c) (.slice none 0 0)).run Tryf.prog w = .ok (.bool false) w := fun _ => rfl
  go_enter Tryf.func7, Tryf.ntmps7
  go_wp2
  go_loopw [4] (fun vi wr => ∃ (i : Nat) (cur : Array Value), vi = .int .i64 (i : Int) ∧ i ≤ n ∧ wr.heap[w.heap.size]? = some (.cells cur 9 (0, 0)) ∧ cur.size = n ∧ Hid (∀ j (h : j < xs.length), j < i → cur[j]? = some (.string xs[j])) ∧ Below w.heap.size w wr) (fun vi _ => n - (intOf vi).toNat)
  case atStart => exact ⟨0, _, rfl, Nat.zero_le _, heap_alloc_new _ _, made_size n, hidp fun j _ h => by omega, (Below.refl _ _).alloc (Nat.le_refl _) _⟩
  case round =>
    obtain ⟨i, cur, rfl, hi, hrow, hsz, HI, hbl⟩ := hrel
    by_cases hlt : i < n
    · have hlt' : (i : Int) < (n : Int) := by omega
      have hiL : i < xs.length := by rw [← HN.out]; exact hlt
      have hci := HC.out i hiL
      have hcr := (World.cell?_of_block (w := w) (w' := wr) (a := a.add i) (hbl.block _ (cell_lt hci))).trans hci
      obtain ⟨ov, hold⟩ : ∃ ov, wr.cell? ⟨w.heap.size, i, none⟩ = some ov := ⟨_, by rw [cell_of_row wr _ i _ 9 (0, 0) hrow]; exact Array.getElem?_eq_getElem (by omega)⟩
      have hfr := frozen_of_row wr w.heap.size i cur 9 hrow
      have HROW := hidp hrow
      have HSZ := hidp hsz
      have HBL := hidp hbl
      obtain ⟨x, hx⟩ : ∃ x, xs[i] = x := ⟨_, rfl⟩
      rw [hx] at hcr
      have HXx := hidp hx
      clear hrow hsz hbl hci hx
      go_wp2
      go_roundw
      case rel =>
        refine ⟨i + 1, cur.setIfInBounds i (.string x), by go_num, by omega, heap_setCell_same wr _ i _ 9 _ HROW.out, by simp [HSZ.out], hidp fun j h hj => ?_, HBL.out.setCell (by simp) _⟩
        rw [Array.getElem?_setIfInBounds]
        split
        · rename_i he
          subst he
          rw [if_pos (by rw [HSZ.out]; exact hlt), HXx.out]
        · exact HI.out j h (by omega)
      case measure => simp [intOf]; omega
    · have hlt' : ¬ (i : Int) < (n : Int) := by omega
      have HROW := hidp hrow
      have HBL := hidp hbl
      have HSZ := hidp hsz
      clear hrow hsz hbl
      go_wp2
      go_ret
      exact ⟨⟨_, _, n, n, rfl, rfl, HN.out, own_row (Nat.le_refl _) HROW.out HSZ.out HN.out (by unfold maxLen; omega) fun j hj => HI.out j hj (by rw [← HN.out] at hj; omega)⟩, HBL.out⟩
theorem clone7 (v : Value) (xs : List ByteArray) (w : World) (hv : (v = .slice none 0 0 ∧ xs = []) ∨ ∃ a n c, v = .slice (some a) n c ∧ n = xs.length ∧ ∀ j (h : j < xs.length), w.cell? (a.add j) = some (.string xs[j])) (hle : xs.length ≤ 1048576) :
    Calls Tryf.prog 7 #[v] w fun e w' => clonePost xs w e w' := by
  rcases hv with ⟨rfl, rfl⟩ | ⟨a, n, c, rfl, hn, hc⟩
  · exact clone7_nil w
  · exact clone7_some a n c xs w hn (by omega) hc

/-! ### ZZnewFinding, ZZfacts, ZZadd -/
theorem new8 (a b : Option Addr) (n m c d : Nat) (u : Bool) (w : World) :
    Calls Tryf.prog 8 #[.slice a n c, .slice b m d, .bool u] w fun e w' => e = .returned (.pointer (some ⟨w.heap.size, 0, none⟩)) ∧ w' = w.alloc (.cells #[.slice a n c, .slice b m d, .bool u] 42) := by
  go_enter Tryf.func8, Tryf.ntmps8
  go_wp2
  go_ret
  exact ⟨rfl, rfl⟩
theorem facts10 (M : Nat) (v : Value) (w : World) (h : w.cell? ⟨M, 0, none⟩ = some v) : Calls Tryf.prog 10 #[.pointer (some ⟨M, 0, none⟩)] w fun e w' => e = .returned v ∧ w' = w := by
  go_enter Tryf.func10, Tryf.ntmps10
  go_wp2
  go_ret
  exact ⟨rfl, rfl⟩
theorem shortPost_ret {s : ByteArray} {e : Ending} (h : shortPost s e) (hs : s.size ≤ 1048576) : ∃ ret, e = .returned (.string ret) ∧ shortPost s (.returned (.string ret)) ∧ ret.size ≤ 1048800 := by
  have h0 := h
  unfold shortPost at h
  split at h
  · rename_i i hc
    obtain ⟨t, h1, h2, rfl⟩ := h
    have hi := cut_lt hc
    refine ⟨_, rfl, h0, ?_⟩
    simp only [ByteArray.size_append, ByteArray.size_extract]
    have e1 : dots.size = 8 := rfl
    have e2 : more.size = 5 := rfl
    omega
  · subst h
    exact ⟨_, rfl, h0, by omega⟩
theorem one_str (s : ByteArray) : ∀ u ∈ [Value.string s], u.oneCell' = true := by intro u hu; simp at hu; subst hu; rfl
/-- What an add leaves: the fact as it was recorded; the finding with one fact more; all else as it was. -/
def addPost (base M n : Nat) (v dv : Value) (u : Bool) (s : ByteArray) (xs : List Value) (w : World) (e : Ending) (w' : World) : Prop :=
  ∃ ret g c, e = .returned (.string ret) ∧ shortPost s (.returned (.string ret)) ∧ ret.size ≤ 1048800 ∧ w'.heap[M]? = some (.cells #[.slice (some ⟨g, 0, none⟩) (n + 1) c, dv, .bool u] 42 (0, 0)) ∧
    w'.ownsRow base 9 1 (.slice (some ⟨g, 0, none⟩) (n + 1) c) (n + 1) (xs ++ [.string ret]) ∧ g ≠ M ∧ (v.ownBlock = some g ∨ w.heap.size ≤ g) ∧ (∀ k, k < w.heap.size → k ≠ M → some k ≠ v.ownBlock → w'.heap[k]? = w.heap[k]?) ∧ Below base w w'
set_option maxHeartbeats 1000000 in
set_option maxRecDepth 100000 in
theorem add19 (F : Interp) (base M n c : Nat) (a : Option Addr) (dv : Value) (u : Bool) (s : ByteArray) (xs : List Value) (w : World) (hF : F.told.answers w.tape) (hs : s.size ≤ 1048576) (hM : w.heap[M]? = some (.cells #[.slice a n c, dv, .bool u] 42 (0, 0)))
    (ho : w.ownsRow base 9 1 (.slice a n c) n xs) (hne : (Value.slice a n c).ownBlock ≠ some M) (hbM : base ≤ M) (hn : n ≤ 1048576) :
    Calls Tryf.prog 19 #[.pointer (some ⟨M, 0, none⟩), .string s] w fun e w' => addPost base M n (.slice a n c) dv u s xs w e w' := by
  obtain ⟨i0, hi, hz0, hz1, hz2⟩ := info_parts info9
  have hMlt := lt_row hM
  have hsh := (short21 F s w hF hs).mono (R' := fun e w' => ∃ ret, e = .returned (.string ret) ∧ shortPost s (.returned (.string ret)) ∧ ret.size ≤ 1048800 ∧ Below w.heap.size w w') fun e w' ⟨h1, h2⟩ => by
    obtain ⟨ret, e1, e2, e3⟩ := shortPost_ret h1 hs
    exact ⟨ret, e1, e2, e3, h2⟩
  have HM := hidp hM
  have HO := hidp ho
  have HNE := hidp hne
  clear hM ho hne
  go_enter Tryf.func19, Tryf.ntmps19
  go_wp2_with fail
  refine hsh.mono ?_
  rintro e w1 ⟨ret, rfl, hp, hr, hb1⟩
  have HP := hidp hp
  have HB1 := hidp hb1
  have hz := hb1.size
  have HM1 := hidp ((hb1.block M hMlt).trans HM.out)
  have hc1 : w1.cell? ⟨M, 0, none⟩ = some (.slice a n c) := by rw [cell_of_row w1 M 0 _ 42 (0, 0) HM1.out]; rfl
  have HO1 := hidp (own_kept HO.out (w' := w1) fun k hk => hb1.block k (own_lt HO.out k hk).2)
  clear hp hb1 hsh
  go_wp2_with (at_builtin; refine wpList_append_lies _ rfl _ _ 22 rfl base 9 i0 (.string ⟨#[]⟩) 1 16 Tryf.underlying22 hi hz0 hz1 hz2 rfl (by decide) _ _ _ rfl (HO1.out.alloc _) ⟨w1.heap.size, 0, none⟩ 1 1 [Value.string ret] rfl rfl (cell_one_new _ _ _) (one_str ret) (by decide) ?c3 ?c4 ?c5 _ rfl ?_)
  case c3 => unfold maxLen; omega
  case c4 => omega
  case c5 => first | omega | (simp; omega)
  intro g c2 w2 hown hgrow hat hlt
  have hkeep : ∀ k, k < w.heap.size → some k ≠ (Value.slice a n c).ownBlock → w2.heap[k]? = w.heap[k]? := fun k h1 h2 => (hgrow.block k (by simp; omega) h2).trans ((Below.heap_alloc _ _ _ (by omega)).trans (HB1.out.block k h1))
  have HM2 := hidp ((hkeep M hMlt (fun h => HNE.out h.symm)).trans HM.out)
  have hc2 : w2.cell? ⟨M, 0, none⟩ = some (.slice a n c) := by rw [cell_of_row w2 M 0 _ 42 (0, 0) HM2.out]; rfl
  have hf2 := frozen_of_row w2 M 0 _ 42 HM2.out
  have HK := hidp hkeep
  have HOW := hidp hown
  have hgM : g ≠ M := by
    rcases hat with h | h
    · intro e; subst e; exact HNE.out h
    · omega
  have hgA : (Value.slice a n c).ownBlock = some g ∨ w.heap.size ≤ g := by
    rcases hat with h | h
    · exact .inl h
    · right; omega
  have HB2 := hidp (((HB1.out.alloc (by omega) _).mono (show base ≤ w.heap.size by omega)).grown hgrow (by simp; omega) (fun k e => (own_lt HO.out k e).1))
  clear hkeep hown hgrow hat hlt hc1
  go_wp2
  go_ret
  refine ⟨ret, g, c2, rfl, HP.out, hr, ?_, ?_, hgM, hgA, fun k h1 h2 h3 => ?_, HB2.out.setCell hbM _⟩
  · rw [heap_setCell_same w2 M 0 _ 42 _ HM2.out]; rfl
  · exact own_kept HOW.out fun k hk => Below.heap_setCell _ _ _ _ (by simp [Value.ownBlock] at hk; simp; omega)
  · exact (Below.heap_setCell _ _ _ _ (by simpa using h2)).trans (HK.out k h1 h3)
theorem add9 (F : Interp) (base M n c : Nat) (a : Option Addr) (dv : Value) (u : Bool) (s : ByteArray) (xs : List Value) (w : World) (hF : F.told.answers w.tape) (hs : s.size ≤ 1048576) (hM : w.heap[M]? = some (.cells #[.slice a n c, dv, .bool u] 42 (0, 0)))
    (ho : w.ownsRow base 9 1 (.slice a n c) n xs) (hne : (Value.slice a n c).ownBlock ≠ some M) (hbM : base ≤ M) (hn : n ≤ 1048576) :
    Calls Tryf.prog 9 #[.pointer (some ⟨M, 0, none⟩), .string s] w fun e w' => addPost base M n (.slice a n c) dv u s xs w e w' := by
  have h := add19 F base M n c a dv u s xs w hF hs hM ho hne hbM hn
  clear hF hM ho hne
  go_enter Tryf.func9, Tryf.ntmps9
  go_wp2_with fail
  refine h.mono ?_
  rintro e w1 hp
  have hp' := hp
  obtain ⟨ret, g, c2, rfl, _⟩ := hp'
  have HP := hidp hp
  clear hp h
  go_wp2
  go_ret
  exact HP.out
end Go.Proofs.Qxb6604511aFmt
