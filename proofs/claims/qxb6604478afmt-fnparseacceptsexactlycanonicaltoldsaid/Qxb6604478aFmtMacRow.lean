import Derived.Test.Qxb6604478aFmtBound
import Derived.Test.Qxb6604478aFmtSmallWalk
import Derived.Great.BuildSlice
import Derived.Great.Walk
import Derived.Laws.CopyOwn
namespace Go.Proofs.Qxb6604478aFmt
open Go.RowKit

/-! ### The macaroon's variable: three cells and 32 bytes -/
def macRow (s i c : Value) (zs : Array Value) : Array Value := #[s, i, c] ++ zs
def zero32 : Array Value := Array.replicate 32 (.int .u8 0)
def zero35 : Array Value := macRow (.string ⟨#[]⟩) (.slice none 0 0) (.slice none 0 0) zero32
theorem macBuilt (s : ByteArray) (a : Option Addr) (n c : Nat) : Tryf.prog.built 49 [(0, .string s), (1, .slice a n c)] = some (macRow (.string s) (.slice a n c) (.slice none 0 0) zero32) := by kernel_rfl
theorem macRow_size (s i c : Value) : (macRow s i c zero32).size = 35 := by simp [macRow, zero32]
theorem info49 : (Tryf.prog.info? 49).map (·.size) = some 35 := by kernel_rfl
theorem macRow_one (s : ByteArray) (a b : Option Addr) (n m c d : Nat) : (macRow (.string s) (.slice a n c) (.slice b m d) zero32).all (·.oneCell') = true := by kernel_rfl
theorem info49' (s i c : Value) : (Tryf.prog.info? 49).map (·.size) = some (macRow s i c zero32).size := by rw [macRow_size]; exact info49
theorem zero35_size (s i c : Value) : zero35.size = (macRow s i c zero32).size := by unfold zero35; rw [macRow_size, macRow_size]
theorem macBuiltAt (a : Act) (s : ByteArray) (ad : Option Addr) (n c : Nat) (h1 : a.eval (.tmp 39) = .string s) (h2 : a.eval (.tmp 41) = .slice ad n c) :
    Tryf.prog.built 49 (#[(0, Operand.tmp 39), (1, Operand.tmp 41)].map fun (i, x) => (i, a.eval x)).toList = some (macRow (.string s) (.slice ad n c) (.slice none 0 0) zero32) := by
  simp only [List.map_toArray, List.map_cons, List.map_nil, h1, h2]
  exact macBuilt s ad n c
theorem macAlloc (ρ : Operand → Value) (o : Oper) (ho : o.op = .alloc 49) (w : World) : (execOp ρ o).run Tryf.prog w = .ok (.value (.pointer (some ⟨w.heap.size, 0, none⟩))) (w.alloc (.cells zero35 49)) := by
  unfold execOp
  rw [ho]
  kernel_rfl
theorem macRow_set2 (s i c v : Value) (zs : Array Value) : (macRow s i c zs).setIfInBounds 2 v = macRow s i v zs := by
  apply Array.toList_inj.1
  simp [macRow]
theorem macRow_0 (s i c : Value) (zs : Array Value) : (macRow s i c zs)[0]? = some s := by simp [macRow, Array.getElem?_append]
theorem macRow_1 (s i c : Value) (zs : Array Value) : (macRow s i c zs)[1]? = some i := by simp [macRow, Array.getElem?_append]
theorem macRow_2 (s i c : Value) (zs : Array Value) : (macRow s i c zs)[2]? = some c := by simp [macRow, Array.getElem?_append]
theorem macRow_sig (s i c : Value) (g : List UInt8) (j : Nat) (h : j < g.length) : (macRow s i c (Lib.byteCells g).toArray)[3 + j]? = some (.int .u8 ((g[j]).toNat : Int)) := by
  rw [Nat.add_comm]; simp [macRow, Lib.byteCells, List.getElem?_eq_getElem h]
theorem macRow_copy (s i c : Value) (g : List UInt8) (h : g.length = 32) : ((macRow s i c zero32).toList.take 3 ++ (Lib.byteCells g ++ (macRow s i c zero32).toList.drop (3 + (Lib.byteCells g).length))).toArray = macRow s i c (Lib.byteCells g).toArray := by
  apply Array.toList_inj.1
  simp [macRow, zero32, Lib.byteCells_length, h]
theorem wpList_copy_at {P : Program} {w : World} {ops : Array Oper} {rest : List Oper} {o : Oper} {a : Act} {Q : Exit → Act → World → Prop} (hgd : o.guard = none) (d s : Operand) (dT sT : TypeId)
    (ho : o.op = .call { callee := .builtin .copy, args := #[d, s], argTypes := #[dT, sT] }) (elem : TypeId) (hu : P.underlying dT = some (.slice elem)) (hsz : (P.info? elem).map (·.size) = some 1)
    (g off dLen dCap : Nat) (ad : Addr) (sLen sCap : Nat) (hd : a.eval d = .slice (some ⟨g, off, none⟩) dLen dCap) (hs : a.eval s = .slice (some ad) sLen sCap)
    (cur : Array Value) (t : TypeId) (hg : w.heap[g]? = some (.cells cur t (0, 0))) (cs : List Value) (hn : cs.length = Nat.min sLen dLen)
    (hsrc : ∀ j v, cs[j]? = some v → w.cell? (ad.add j) = some v) (hfit : off + cs.length ≤ cur.size) (h1 : ∀ v ∈ cs, v.oneCell' = true) (k : Nat) (hk : cs.length = k)
    (h : ∀ w', Hid (w' = w.setRow g (cur.toList.take off ++ (cs ++ cur.toList.drop (off + cs.length))).toArray) → wpList P ops Q rest (a.put o.dst (goInt k)) w') : wpList P ops Q (o :: rest) a w := by
  subst hk
  exact wpList_copy_own hgd d s dT sT ho elem hu hsz g off dLen dCap ad sLen sCap hd hs cur t hg cs hn hsrc hfit h1 (h _ (hidp rfl))
/-- The caveats' cells: three a caveat. -/
def CavRow (w : World) (xs : List Value) (acc : List Cav) : Prop := ∀ i (h : i < acc.length), ∃ (s : ByteArray) (iv vv : Value), xs[i * 3]? = some (.string s) ∧ xs[i * 3 + 1]? = some iv ∧ xs[i * 3 + 2]? = some vv ∧ s.data.toList = acc[i].loc ∧ DV w iv acc[i].id ∧ DV w vv acc[i].vid
theorem CavRow.snoc {w : World} {xs : List Value} {acc : List Cav} (h : CavRow w xs acc) (hl : xs.length = acc.length * 3) (s : ByteArray) (iv vv : Value) (x : Cav) (h1 : s.data.toList = x.loc) (h2 : DV w iv x.id) (h3 : DV w vv x.vid) :
    CavRow w (xs ++ [.string s, iv, vv]) (acc ++ [x]) := by
  intro i hi
  rcases Nat.lt_or_ge i acc.length with hlt | hge
  · obtain ⟨s', iv', vv', e0, e1, e2, e3, e4, e5⟩ := h i hlt
    rw [List.getElem_append_left hlt]
    exact ⟨s', iv', vv', by rw [List.getElem?_append_left (by omega)]; exact e0, by rw [List.getElem?_append_left (by omega)]; exact e1, by rw [List.getElem?_append_left (by omega)]; exact e2, e3, e4, e5⟩
  · have he : i = acc.length := by simp at hi; omega
    subst he
    rw [List.getElem_append_right (Nat.le_refl _)]
    refine ⟨s, iv, vv, ?_, ?_, ?_, by simpa using h1, by simpa using h2, by simpa using h3⟩
    · rw [List.getElem?_append_right (by omega), hl]; simp
    · rw [List.getElem?_append_right (by omega), hl, Nat.add_sub_cancel_left]; rfl
    · rw [List.getElem?_append_right (by omega), hl, Nat.add_sub_cancel_left]; rfl
theorem DV.up {w w' : World} {v : Value} {d : List UInt8} (h : DV w v d) (hb : Below w.heap.size w w') : DV w' v d := by
  rcases h with h | ⟨D, o, m, c, e1, e2, e3, e4⟩
  · exact .inl h
  · exact .inr ⟨D, o, m, c, e1, e2, by have := hb.size; omega, fun j hj => (hb.cell (p := ⟨D, o + j, none⟩) e3).trans (e4 j hj)⟩
theorem CavRow.at {w w' : World} {xs : List Value} {acc : List Cav} {v : Value} {base : Nat} (h : CavRow w xs acc) (hb : Below w.heap.size w w') (ho : w'.ownsRow base 51 3 v acc.length xs) : CavsAt w' v acc := by
  rcases ho.2 with ⟨e, h0⟩ | ⟨g, cap, cur, e, hg, hh, hle, hmx, hsz, ht⟩
  · exact .inl ⟨e, List.eq_nil_of_length_eq_zero h0⟩
  · refine .inr ⟨g, acc.length, cap, e, rfl, lt_of_block hh, fun i hi => ?_⟩
    obtain ⟨s, iv, vv, e0, e1, e2, e3, e4, e5⟩ := h i hi
    have hc : ∀ k u, xs[k]? = some u → w'.cell? ⟨g, k, none⟩ = some u := by
      intro k u hk
      rw [cell_of_row w' g k cur 51 (0, 0) hh]
      rw [← ht] at hk
      rw [List.getElem?_take] at hk
      split at hk
      · rw [← hk]; simp
      · cases hk
    exact ⟨s, iv, vv, hc _ _ e0, hc _ _ e1, hc _ _ e2, e3, e4.up hb, e5.up hb⟩
theorem MacAt.up {w w' : World} {M : Nat} {m : Mac} (h : MacAt w M m) (hb : Below w.heap.size w w') : MacAt w' M m := by
  obtain ⟨h1, ⟨s, h2, h2'⟩, ⟨v, h3, h3'⟩, ⟨c, h4, h4'⟩, h5, h6⟩ := h
  refine ⟨by have := hb.size; omega, ⟨s, (hb.cell (p := ⟨M, 0, none⟩) h1).trans h2, h2'⟩, ⟨v, (hb.cell (p := ⟨M, 1, none⟩) h1).trans h3, h3'.up hb⟩, ⟨c, (hb.cell (p := ⟨M, 2, none⟩) h1).trans h4, ?_⟩, fun j hj => (hb.cell (p := ⟨M, 3 + j, none⟩) h1).trans (h5 j hj), h6⟩
  rcases h4' with h | ⟨C, k, cc, e1, e2, e3, e4⟩
  · exact .inl h
  · refine .inr ⟨C, k, cc, e1, e2, by have := hb.size; omega, fun i hi => ?_⟩
    obtain ⟨s', iv, vv, g0, g1, g2, g3, g4, g5⟩ := e4 i hi
    exact ⟨s', iv, vv, (hb.cell (p := ⟨C, i * 3, none⟩) e3).trans g0, (hb.cell (p := ⟨C, i * 3 + 1, none⟩) e3).trans g1, (hb.cell (p := ⟨C, i * 3 + 2, none⟩) e3).trans g2, g3, g4.up hb, g5.up hb⟩
theorem Buf.dv {w : World} {B g n c : Nat} {l : List UInt8} (h : Buf w B g n c l) : DV w (.slice (some ⟨g, 0, none⟩) n c) l := by
  have hlt := h.lt
  rcases h.2.2 with ⟨e, _⟩ | ⟨g', cap, cur, e, _, hh, hle, hmx, hsz, ht⟩
  · simp at e
  · simp only [Value.slice.injEq, Option.some.injEq, Addr.mk.injEq, and_true, true_and] at e
    obtain ⟨rfl, rfl⟩ := e
    refine .inr ⟨g, 0, n, c, rfl, h.1, hlt, fun j hj => ?_⟩
    rw [Nat.zero_add, cell_of_row w g j cur 5 (0, 0) hh]
    have h2 : (cur.toList.take (n * 1))[j]? = (Lib.byteCells l)[j]? := by rw [ht]
    rw [List.getElem?_take, if_pos (by rw [h.1]; omega)] at h2
    simp only [Array.getElem?_toList] at h2
    rw [h2]
    simp [Lib.byteCells, List.getElem?_eq_getElem hj]
theorem info51 : (Tryf.prog.info? 51).map (fun i => (i.zero, i.size, i.bytes)) = some (some (.agg #[.string ⟨#[]⟩, .slice none 0 0, .slice none 0 0]), 3, 64) := by kernel_rfl
theorem cell_three_new (w : World) (x y z : Value) (t : TypeId) : ∀ j u, [x, y, z][j]? = some u → (w.alloc (.cells #[x, y, z] t)).cell? ((⟨w.heap.size, 0, none⟩ : Addr).add j) = some u := by
  intro j u hj
  match j, hj with
  | 0, hj => simp at hj; subst hj; simp [Addr.add]
  | 1, hj => simp at hj; subst hj; simp [Addr.add]
  | 2, hj => simp at hj; subst hj; simp [Addr.add]
theorem three_one (s : ByteArray) (a b : Option Addr) (n m c d : Nat) : ∀ u ∈ [Value.string s, .slice a n c, .slice b m d], u.oneCell' = true := by
  intro u hu
  simp at hu
  rcases hu with rfl | rfl | rfl <;> rfl
end Go.Proofs.Qxb6604478aFmt
