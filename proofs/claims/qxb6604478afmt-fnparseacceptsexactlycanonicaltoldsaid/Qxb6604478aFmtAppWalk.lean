import Derived.Test.Qxb6604478aFmtRows
import Derived.Test.Qxb6604478aFmtLaw
import Derived.Lib.VarintMem
import Derived.Deep.AppendLies
import Derived.OwnWalk
import Derived.WalkKit
import Derived.WalkSpells
import Derived.WalkLawsBesides
namespace Go.Proofs.Qxb6604478aFmt
open Go.RowKit

/-! ### The writers: binary.AppendUvarint, appendField, appendOptional -/
/-- The buffer: a slice of the call's own that holds the bytes l. -/
def Buf (w : World) (B : Nat) (g n c : Nat) (l : List UInt8) : Prop := n = l.length ∧ w.ownsRow B 5 1 (.slice (some ⟨g, 0, none⟩) n c) n (Lib.byteCells l)
/-- From (w, buffer at g) to (w', buffer at g'): nothing old has turned but block g; the new buffer lies in g or in new memory. -/
def Stp (w : World) (g : Nat) (w' : World) (g' : Nat) : Prop := w.grownBy w' (some g) ∧ (g' = g ∨ w.heap.size ≤ g')
theorem Stp.refl (w : World) (g : Nat) : Stp w g w g := ⟨⟨rfl, rfl, rfl, Nat.le_refl _, fun _ _ _ => rfl⟩, .inl rfl⟩
theorem Stp.trans {w w1 w2 : World} {g g1 g2 : Nat} (h : Stp w g w1 g1) (k : Stp w1 g1 w2 g2) : Stp w g w2 g2 := by
  obtain ⟨h1, h2⟩ := h
  obtain ⟨k1, k2⟩ := k
  have hs := h1.size
  refine ⟨⟨k1.os.trans h1.os, k1.tape.trans h1.tape, k1.output.trans h1.output, Nat.le_trans h1.size k1.size, fun i hi hr => ?_⟩, by omega⟩
  rw [k1.block i (by omega) (by simp at hr ⊢; omega)]
  exact h1.block i hi hr
theorem Stp.alloc {w w1 : World} {g g1 : Nat} (h : Stp w g w1 g1) (o : Obj) : Stp w g (w1.alloc o) g1 :=
  ⟨⟨h.1.os, h.1.tape, h.1.output, by have := h.1.size; simp; omega, fun k hk hr => (Below.heap_alloc _ _ _ (by have := h.1.size; omega)).trans (h.1.block k hk hr)⟩, h.2⟩
theorem Stp.of {w w' : World} {g g' H : Nat} {n c : Nat} (hg : w.grownBy w' (Value.slice (some ⟨g, 0, none⟩) n c).ownBlock) (hat : (Value.slice (some ⟨g, 0, none⟩) n c).ownBlock = some g' ∨ g' = H) (hH : w.heap.size ≤ H) : Stp w g w' g' := by
  refine ⟨hg, ?_⟩
  rcases hat with h | h
  · simp [Value.ownBlock] at h; exact .inl h.symm
  · right; omega
theorem info5 : (Tryf.prog.info? 5).map (fun i => (i.zero, i.size, i.bytes)) = some (some (.int .u8 0), 1, 1) := by kernel_rfl
theorem Buf.alloc {w : World} {B g n c : Nat} {l : List UInt8} (h : Buf w B g n c l) (o : Obj) : Buf (w.alloc o) B g n c l := ⟨h.1, World.ownsRow.alloc h.2 o⟩
theorem buf_of {w : World} {B g c n : Nat} {l : List UInt8} {xs : List Value} (h : w.ownsRow B 5 1 (.slice (some ⟨g, 0, none⟩) n c) n xs) (hn : n = l.length) (hx : xs = Lib.byteCells l) : Buf w B g n c l := by subst hx; exact ⟨hn, h⟩
theorem Buf.le {w : World} {B g n c : Nat} {l : List UInt8} (h : Buf w B g n c l) : n ≤ c := by
  rcases h.2.2 with ⟨e, _⟩ | ⟨g', cap, cur, e, _, _, hle, _⟩
  · simp at e
  · simp only [Value.slice.injEq, Option.some.injEq, Addr.mk.injEq, and_true, true_and] at e
    omega
theorem hidp {p : Prop} (h : p) : Hid p := h

set_option maxHeartbeats 2000000 in
set_option maxRecDepth 100000 in
theorem uv22 (B g n c : Nat) (l : List UInt8) (x : Nat) (w : World) (hx : x < 18446744073709551616) (hb : Buf w B g n c l) (hB : B ≤ w.heap.size) (hlim : l.length ≤ 100000000) :
    Calls Tryf.prog 22 #[.slice (some ⟨g, 0, none⟩) n c, .int .u64 (x : Int)] w fun e w' => ∃ g' n' c', e = .returned (.slice (some ⟨g', 0, none⟩) n' c') ∧ Buf w' B g' n' c' (l ++ Lib.uvarint x) ∧ Stp w g w' g' := by
  obtain ⟨i0, hi, hz0, hz1, hz2⟩ := info_parts info5
  have hlen := Lib.uvarint_length64 hx
  go_enter Tryf.func22, Tryf.ntmps22
  go_wp2
  go_loopw [0, 1] (fun vb vx wr => ∃ (y : Nat) (pre : List UInt8) (g1 n1 c1 : Nat), vx = .int .u64 (y : Int) ∧ y ≤ x ∧ Hid (Lib.uvarint x = pre ++ Lib.uvarint y) ∧ vb = .slice (some ⟨g1, 0, none⟩) n1 c1 ∧ Buf wr B g1 n1 c1 (l ++ pre) ∧ Stp w g wr g1) (fun _ vx _ => (intOf vx).toNat)
  case atStart => exact ⟨x, [], g, n, c, rfl, Nat.le_refl _, hidp rfl, rfl, by rw [List.append_nil]; exact hb, Stp.refl _ _⟩
  case round =>
    obtain ⟨y, pre, g1, n1, c1, rfl, hy, HSP, rfl, hbuf, hst⟩ := hrel
    have hpl : pre.length + (Lib.uvarint y).length ≤ 10 := by
      have h2 := congrArg List.length HSP.out
      rw [List.length_append] at h2
      omega
    have hyp := Lib.uvarint_pos y
    have hsz := hst.1.size
    obtain ⟨hn1, hown⟩ := hbuf
    have HN1 := hidp hn1
    have hn1' : n1 ≤ 100000020 := by rw [hn1]; simp; omega
    by_cases h128 : 128 ≤ y
    · have hor : bits .or .u8 ((y : Int) % 256) 128 = ((y % 128 + 128 : Nat) : Int) := by
        rw [Lib.u8_or128_any _ (by omega) (by omega)]; omega
      have HOW := hidp hown
      have HST := hidp hst
      clear hown hst hn1
      go_wp2_with (at_builtin; refine wpList_append_lies _ rfl _ _ 22 rfl B 5 i0 (.int .u8 0) 1 1 Tryf.underlying22 hi hz0 hz1 hz2 rfl (by decide) _ _ _ rfl (HOW.out.alloc _) ⟨wr.heap.size, 0, none⟩ 1 1 [Value.int .u8 ((y % 128 + 128 : Nat) : Int)] rfl rfl ?c1 ?c2 (by decide) ?c3 ?c4 ?c5 _ rfl ?_)
      case c1 =>
        intro j u hj
        match j, hj with
        | 0, hj => simp at hj; subst hj; simp [Addr.add]
      case c2 => intro u hu; simp at hu; subst hu; rfl
      case c3 => unfold maxLen; omega
      case c4 => omega
      case c5 => simp; omega
      intro g2 c2 w1 hown' hgrow hat hlt
      have HS := hidp (HST.out.trans (((Stp.refl wr g1).alloc _).trans (Stp.of hgrow hat (by simp))))
      have HO := hidp hown'
      clear hown' hgrow hat hlt
      go_wp2
      go_roundw
      case rel =>
        refine ⟨y / 128, pre ++ [(y % 128 + 128).toUInt8], g2, n1 + 1, c2, by go_num, by omega, hidp (by rw [HSP.out, Lib.uvarint_big h128]; simp), rfl, ?_, HS.out⟩
        refine buf_of HO.out (by have := HN1.out; simp at this ⊢; omega) ?_
        have ec : ((y % 128 + 128 : Nat) : Int) = (y : Int) % 128 + 128 := by omega
        rw [← List.append_assoc, Lib.byteCells_snoc (l ++ pre) (by omega), ec]
      case measure => simp [intOf]; omega
    · have hsm : Lib.uvarint y = [y.toUInt8] := Lib.uvarint_small (by omega)
      have HSM := hidp hsm
      have HOW := hidp hown
      have HST := hidp hst
      clear hown hst hn1 hsm
      go_wp2_with (at_builtin; refine wpList_append_lies _ rfl _ _ 22 rfl B 5 i0 (.int .u8 0) 1 1 Tryf.underlying22 hi hz0 hz1 hz2 rfl (by decide) _ _ _ rfl (HOW.out.alloc _) ⟨wr.heap.size, 0, none⟩ 1 1 [Value.int .u8 (y : Int)] rfl rfl ?c1 ?c2 (by decide) ?c3 ?c4 ?c5 _ rfl ?_)
      case c1 =>
        intro j u hj
        match j, hj with
        | 0, hj => simp at hj; subst hj; simp [Addr.add]
      case c2 => intro u hu; simp at hu; subst hu; rfl
      case c3 => unfold maxLen; omega
      case c4 => omega
      case c5 => simp; omega
      intro g2 c2 w1 hown' hgrow hat hlt
      have HS := hidp (HST.out.trans (((Stp.refl wr g1).alloc _).trans (Stp.of hgrow hat (by simp))))
      have HO := hidp hown'
      clear hown' hgrow hat hlt
      go_wp2
      go_ret
      refine ⟨g2, n1 + 1, c2, rfl, ?_, HS.out⟩
      rw [HSP.out, HSM.out, ← List.append_assoc]
      refine buf_of HO.out (by have := HN1.out; simp at this ⊢; omega) ?_
      rw [Lib.byteCells_snoc (l ++ pre) (by omega)]

/-- Bytes to be appended: nil, or a piece of a block other than the buffer's. -/
def Lies (w : World) (D o : Nat) (d : List UInt8) : Prop := ∀ j (h : j < d.length), w.cell? ⟨D, o + j, none⟩ = some (.int .u8 ((d[j]).toNat : Int))
def DatS (w : World) (g : Nat) (v : Value) (d : List UInt8) : Prop := (v = .slice none 0 0 ∧ d = []) ∨ ∃ D o m c, v = .slice (some ⟨D, o, none⟩) m c ∧ m = d.length ∧ D ≠ g ∧ D < w.heap.size ∧ Lies w D o d
theorem lies_news {w : World} {D o : Nat} {d : List UInt8} (h : Lies w D o d) : ∀ j u, (Lib.byteCells d)[j]? = some u → w.cell? ((⟨D, o, none⟩ : Addr).add j) = some u := by
  intro j u hu
  have hadd : (⟨D, o, none⟩ : Addr).add j = ⟨D, o + j, none⟩ := by unfold Addr.add; split <;> simp_all
  rcases Nat.lt_or_ge j d.length with hj | hj
  · rw [hadd, h j hj]
    rw [← hu]
    simp [Lib.byteCells, List.getElem?_eq_getElem hj]
  · rw [List.getElem?_eq_none (by rw [Lib.byteCells_length]; exact hj)] at hu; cases hu
theorem bytes_one (d : List UInt8) : ∀ u ∈ Lib.byteCells d, u.oneCell' = true := by
  intro u hu
  obtain ⟨_, _, rfl⟩ := List.mem_map.1 hu
  rfl
theorem Lies.stp {w w' : World} {g g' D o : Nat} {d : List UInt8} (h : Lies w D o d) (hs : Stp w g w' g') (hD : D < w.heap.size) (hg : D ≠ g) : Lies w' D o d := by
  intro j hj
  rw [World.cell?_of_block (w := w) (hs.1.block D hD (by simpa using hg))]
  exact h j hj

set_option maxHeartbeats 1000000 in
set_option maxRecDepth 100000 in
theorem field19 (B g n c t : Nat) (l d : List UInt8) (v : Value) (w : World) (ht : t < 18446744073709551616) (hb : Buf w B g n c l) (hB : B ≤ w.heap.size) (hlim : l.length ≤ 50000000) (hd : DatS w g v d) (hdl : d.length ≤ 10000000) :
    Calls Tryf.prog 19 #[.slice (some ⟨g, 0, none⟩) n c, .int .u64 (t : Int), v] w fun e w' => ∃ g' n' c', e = .returned (.slice (some ⟨g', 0, none⟩) n' c') ∧ Buf w' B g' n' c' (l ++ fieldB t d) ∧ Stp w g w' g' := by
  obtain ⟨i0, hi, hz0, hz1, hz2⟩ := info_parts info5
  have hl1 := Lib.uvarint_length64 ht
  have hl2 := Lib.uvarint_length64 (show d.length < 18446744073709551616 by omega)
  have hc1 := uv22 B g n c l t w ht hb hB (by omega)
  rcases hd with ⟨rfl, rfl⟩ | ⟨D, o, m, cd, rfl, hm, hDg, hDw, hdat⟩
  · go_enter Tryf.func19, Tryf.ntmps19
    go_wp2_with fail
    refine hc1.mono ?_
    rintro e w1 ⟨g1, n1, c1, rfl, hb1, hs1⟩
    have hz1' := hs1.1.size
    have hc2 := uv22 B g1 n1 c1 (l ++ Lib.uvarint t) 0 w1 (by decide) hb1 (by omega) (by simp; omega)
    go_wp2_with fail
    refine hc2.mono ?_
    rintro e w2 ⟨g2, n2, c2, rfl, hb2, hs2⟩
    have hnc := hb2.le
    go_wp2
    go_ret
    refine ⟨g2, n2, c2, rfl, ?_, hs1.trans hs2⟩
    have e : l ++ fieldB t [] = l ++ Lib.uvarint t ++ Lib.uvarint 0 := by unfold fieldB; simp
    rw [e]; exact hb2
  · subst hm
    by_cases h0 : d.length = 0
    · have hdn : d = [] := List.eq_nil_of_length_eq_zero h0
      subst hdn
      go_enter Tryf.func19, Tryf.ntmps19
      go_wp2_with fail
      refine hc1.mono ?_
      rintro e w1 ⟨g1, n1, c1, rfl, hb1, hs1⟩
      have hz1' := hs1.1.size
      have hc2 := uv22 B g1 n1 c1 (l ++ Lib.uvarint t) 0 w1 (by decide) hb1 (by omega) (by simp; omega)
      go_wp2_with fail
      refine hc2.mono ?_
      rintro e w2 ⟨g2, n2, c2, rfl, hb2, hs2⟩
      have hnc := hb2.le
      go_wp2
      go_ret
      refine ⟨g2, n2, c2, rfl, ?_, hs1.trans hs2⟩
      have e : l ++ fieldB t [] = l ++ Lib.uvarint t ++ Lib.uvarint 0 := by unfold fieldB; simp
      rw [e]; exact hb2
    · have hdp : 0 < d.length := by omega
      go_enter Tryf.func19, Tryf.ntmps19
      go_wp2_with fail
      refine hc1.mono ?_
      rintro e w1 ⟨g1, n1, c1, rfl, hb1, hs1⟩
      have hz1' := hs1.1.size
      have hc2 := uv22 B g1 n1 c1 (l ++ Lib.uvarint t) d.length w1 (by omega) hb1 (by omega) (by simp; omega)
      go_wp2_with fail
      refine hc2.mono ?_
      rintro e w2 ⟨g2, n2, c2, rfl, hb2, hs2⟩
      have hs := hs1.trans hs2
      have hz2' := hs.1.size
      have HOW := hidp hb2.2
      have HLI := hidp (hdat.stp hs hDw hDg)
      have HN2 := hidp hb2.1
      have hn2' : n2 ≤ 60000000 := by have := hb2.1; simp at this; omega
      have HST := hidp hs
      clear hb2 hs hs2 hs1 hb1 hc1 hc2 hdat
      go_wp2_with (at_builtin; refine wpList_append_lies _ rfl _ _ 22 rfl B 5 i0 (.int .u8 0) 1 1 Tryf.underlying22 hi hz0 hz1 hz2 rfl (by decide) _ _ _ rfl HOW.out ⟨D, o, none⟩ d.length cd (Lib.byteCells d) rfl (by rw [Lib.byteCells_length]; simp) (lies_news HLI.out) (bytes_one d) hdp ?c3 ?c4 ?c5 _ rfl ?_)
      case c3 => unfold maxLen; omega
      case c4 => omega
      case c5 => omega
      intro g3 c3 w3 hown' hgrow hat hlt
      have HS := hidp (HST.out.trans (Stp.of hgrow hat (Nat.le_refl _)))
      have HO := hidp hown'
      clear hown' hgrow hat hlt
      go_wp2
      go_ret
      refine ⟨g3, n2 + d.length, c3, rfl, ?_, HS.out⟩
      refine buf_of HO.out (by have := HN2.out; unfold fieldB; simp at this ⊢; omega) ?_
      unfold fieldB
      simp [Lib.byteCells_append]

set_option maxHeartbeats 1000000 in
set_option maxRecDepth 100000 in
theorem opt18 (B g n c t : Nat) (l d : List UInt8) (v : Value) (w : World) (ht : t < 18446744073709551616) (hb : Buf w B g n c l) (hB : B ≤ w.heap.size) (hlim : l.length ≤ 50000000) (hd : DatS w g v d) (hdl : d.length ≤ 10000000) :
    Calls Tryf.prog 18 #[.slice (some ⟨g, 0, none⟩) n c, .int .u64 (t : Int), v] w fun e w' => ∃ g' n' c', e = .returned (.slice (some ⟨g', 0, none⟩) n' c') ∧ Buf w' B g' n' c' (l ++ optB t d) ∧ Stp w g w' g' := by
  have hc := field19 B g n c t l d v w ht hb hB hlim hd hdl
  by_cases h0 : d.length = 0
  · have hdn : d = [] := List.eq_nil_of_length_eq_zero h0
    subst hdn
    have hv : ∃ a c', v = .slice a 0 c' := by
      rcases hd with ⟨rfl, _⟩ | ⟨D, o, m, cd, rfl, rfl, _⟩
      · exact ⟨_, _, rfl⟩
      · exact ⟨_, _, rfl⟩
    obtain ⟨a, c', rfl⟩ := hv
    go_enter Tryf.func18, Tryf.ntmps18
    go_wp2
    go_ret
    exact ⟨g, n, c, rfl, by rw [opt_nil, List.append_nil]; exact hb, Stp.refl _ _⟩
  · have hv : ∃ a m c', v = .slice a m c' ∧ 0 < m := by
      rcases hd with ⟨_, rfl⟩ | ⟨D, o, m, cd, rfl, rfl, _⟩
      · simp at h0
      · exact ⟨_, _, _, rfl, by omega⟩
    obtain ⟨a, m, c', rfl, hm⟩ := hv
    have hm' : ((m : Int) == 0) = false := by simp; omega
    rw [opt_some t d (fun h => h0 (by rw [h]; rfl))]
    go_enter Tryf.func18, Tryf.ntmps18
    go_wp2_with (go_at_call 19; refine hc.mono ?_; rintro e w1 ⟨g1, n1, c1, rfl, hb1, hs1⟩)
    go_ret
    exact ⟨_, _, _, rfl, by assumption, by assumption⟩
end Go.Proofs.Qxb6604478aFmt
