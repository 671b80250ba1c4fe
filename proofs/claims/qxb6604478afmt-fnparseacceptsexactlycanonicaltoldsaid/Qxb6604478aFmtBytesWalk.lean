import Derived.Test.Qxb6604478aFmtAppWalk
import Derived.Lib.ConvBytes
namespace Go.Proofs.Qxb6604478aFmt
open Go.RowKit

/-! ### (*Macaroon).Bytes -/
/-- Bytes in old memory: nil, or a piece of a block. -/
def DV (w : World) (v : Value) (d : List UInt8) : Prop := (v = .slice none 0 0 ∧ d = []) ∨ ∃ D o m c, v = .slice (some ⟨D, o, none⟩) m c ∧ m = d.length ∧ D < w.heap.size ∧ Lies w D o d
theorem DV.below {w wr : World} {v : Value} {d : List UInt8} {g : Nat} (h : DV w v d) (hb : Below w.heap.size w wr) (hg : w.heap.size ≤ g) : DatS wr g v d := by
  rcases h with h | ⟨D, o, m, c, e1, e2, e3, e4⟩
  · exact .inl h
  · exact .inr ⟨D, o, m, c, e1, e2, by omega, by have := hb.size; omega, fun j hj => (hb.cell (p := ⟨D, o + j, none⟩) e3).trans (e4 j hj)⟩
theorem Buf.ge {w : World} {B g n c : Nat} {l : List UInt8} (h : Buf w B g n c l) : B ≤ g := by
  rcases h.2.2 with ⟨e, _⟩ | ⟨g', cap, cur, e, hb, _⟩
  · simp at e
  · simp only [Value.slice.injEq, Option.some.injEq, Addr.mk.injEq, and_true, true_and] at e
    omega
theorem Stp.below {B : Nat} {w wr w' : World} {g g' : Nat} (h : Below B w wr) (hs : Stp wr g w' g') (hg : B ≤ g) (hB : B ≤ wr.heap.size) : Below B w w' :=
  h.grown hs.1 hB (fun k e => by simp at e; omega)
theorem conv_dat (w : World) (s : ByteArray) (g c H : Nat) (hg : g < w.heap.size) (hH : H = w.heap.size) : DatS (Lib.bytesWorld w 5 s) g (.slice (some ⟨H, 0, none⟩) s.size c) s.data.toList := by
  subst hH
  refine .inr ⟨w.heap.size, 0, s.size, c, rfl, by simp, by omega, by rw [Lib.bytesWorld_size]; omega, fun j hj => ?_⟩
  rw [Nat.zero_add, Lib.bytesWorld_cell w 5 s j (by simpa using hj)]
  have hj' : j < s.data.toList.length := hj
  rw [List.getD_eq_getElem?_getD, List.getElem?_eq_getElem hj']
  rfl
theorem conv_stp (w : World) (s : ByteArray) (g : Nat) : Stp w g (Lib.bytesWorld w 5 s) g :=
  ⟨⟨rfl, rfl, rfl, by rw [Lib.bytesWorld_size]; omega, fun k hk _ => Lib.bytesWorld_at_old w 5 s k hk⟩, .inl rfl⟩
theorem Buf.conv {w : World} {B g n c : Nat} {l : List UInt8} (h : Buf w B g n c l) (s : ByteArray) : Buf (Lib.bytesWorld w 5 s) B g n c l := by
  refine ⟨h.1, h.2.1, ?_⟩
  rcases h.2.2 with ⟨e, h0⟩ | ⟨g', cap, cur, e, hb, hh, hr⟩
  · exact .inl ⟨e, h0⟩
  · refine .inr ⟨g', cap, cur, e, hb, ?_, hr⟩
    rw [Lib.bytesWorld_at_old w 5 s g' (lt_of_block hh)]; exact hh
theorem Buf.lt {w : World} {B g n c : Nat} {l : List UInt8} (h : Buf w B g n c l) : g < w.heap.size := by
  rcases h.2.2 with ⟨e, _⟩ | ⟨g', cap, cur, e, _, hh, _⟩
  · simp at e
  · simp only [Value.slice.injEq, Option.some.injEq, Addr.mk.injEq, and_true, true_and] at e
    have := lt_of_block hh
    omega

theorem optI (ti : Int) (B g n c t : Nat) (l d : List UInt8) (v : Value) (w : World) (hti : ti = (t : Int)) (ht : t < 18446744073709551616) (hb : Buf w B g n c l) (hB : B ≤ w.heap.size) (hlim : l.length ≤ 50000000) (hd : DatS w g v d) (hdl : d.length ≤ 10000000) :
    Calls Tryf.prog 18 #[.slice (some ⟨g, 0, none⟩) n c, .int .u64 ti, v] w fun e w' => ∃ g' n' c', e = .returned (.slice (some ⟨g', 0, none⟩) n' c') ∧ Buf w' B g' n' c' (l ++ optB t d) ∧ Stp w g w' g' := by
  subst hti; exact opt18 B g n c t l d v w ht hb hB hlim hd hdl
theorem fieldI (ti : Int) (B g n c t : Nat) (l d : List UInt8) (v : Value) (w : World) (hti : ti = (t : Int)) (ht : t < 18446744073709551616) (hb : Buf w B g n c l) (hB : B ≤ w.heap.size) (hlim : l.length ≤ 50000000) (hd : DatS w g v d) (hdl : d.length ≤ 10000000) :
    Calls Tryf.prog 19 #[.slice (some ⟨g, 0, none⟩) n c, .int .u64 ti, v] w fun e w' => ∃ g' n' c', e = .returned (.slice (some ⟨g', 0, none⟩) n' c') ∧ Buf w' B g' n' c' (l ++ fieldB t d) ∧ Stp w g w' g' := by
  subst hti; exact field19 B g n c t l d v w ht hb hB hlim hd hdl
theorem DV.sl {w : World} {v : Value} {d : List UInt8} (h : DV w v d) : ∃ a m c, v = .slice a m c := by
  rcases h with ⟨rfl, _⟩ | ⟨D, o, m, c, rfl, _⟩ <;> exact ⟨_, _, _, rfl⟩
theorem cavs_take_succ (cs : List Cav) (i : Nat) (h : i < cs.length) : cavsB (cs.take (i + 1)) = cavsB (cs.take i) ++ cavB cs[i] := by
  unfold cavsB
  rw [List.take_succ_eq_append_getElem h, List.map_append, List.flatten_append]
  simp
theorem cavs_take_le (cs : List Cav) (i : Nat) : (cavsB (cs.take i)).length ≤ (cavsB cs).length := by
  have h : cavsB cs = cavsB (cs.take i) ++ cavsB (cs.drop i) := by
    unfold cavsB
    rw [← List.flatten_append, ← List.map_append, List.take_append_drop]
  rw [h]; simp
theorem one_zero : ∀ u ∈ [Value.int .u8 0], u.oneCell' = true := by intro u hu; simp at hu; subst hu; rfl
def CavAt (w : World) (C i : Nat) (x : Cav) : Prop := ∃ (s : ByteArray) (iv vv : Value), w.cell? ⟨C, i * 3, none⟩ = some (.string s) ∧ w.cell? ⟨C, i * 3 + 1, none⟩ = some iv ∧ w.cell? ⟨C, i * 3 + 2, none⟩ = some vv ∧ s.data.toList = x.loc ∧ DV w iv x.id ∧ DV w vv x.vid
def CavsAt (w : World) (v : Value) (cs : List Cav) : Prop := (v = .slice none 0 0 ∧ cs = []) ∨ ∃ C k cc, v = .slice (some ⟨C, 0, none⟩) k cc ∧ k = cs.length ∧ C < w.heap.size ∧ ∀ i (h : i < cs.length), CavAt w C i cs[i]
structure MacAt (w : World) (M : Nat) (m : Mac) : Prop where
  lt : M < w.heap.size
  loc : ∃ s : ByteArray, w.cell? ⟨M, 0, none⟩ = some (.string s) ∧ s.data.toList = m.loc
  id : ∃ v, w.cell? ⟨M, 1, none⟩ = some v ∧ DV w v m.id
  cavs : ∃ v, w.cell? ⟨M, 2, none⟩ = some v ∧ CavsAt w v m.cavs
  sig : Lies w M 3 m.sig
  sigLen : m.sig.length = 32

set_option maxHeartbeats 1000000 in
set_option maxRecDepth 100000 in
theorem bytes9 (M : Nat) (m : Mac) (w : World) (hm : MacAt w M m) (hlen : (serB m).length ≤ 40000000) (hl1 : m.loc.length ≤ 10000000) (hl2 : m.id.length ≤ 10000000) (hl3 : ∀ x ∈ m.cavs, x.loc.length ≤ 10000000 ∧ x.id.length ≤ 10000000 ∧ x.vid.length ≤ 10000000) :
    Calls Tryf.prog 9 #[.pointer (some ⟨M, 0, none⟩)] w fun e w' => ∃ g n c, e = .returned (.slice (some ⟨g, 0, none⟩) n c) ∧ Buf w' w.heap.size g n c (serB m) ∧ Below w.heap.size w w' := by
  obtain ⟨i0, hi, hz0, hz1, hz2⟩ := info_parts info5
  have hcv := fun (w : World) (s : ByteArray) => Lib.run_convert_string_bytes (P := Tryf.prog) w 9 22 5 s Tryf.underlying9 Tryf.underlying22 Tryf.underlying5
  obtain ⟨hMw, ⟨s0, hM0, hs0⟩, ⟨iv, hM1, hiv⟩, ⟨cv, hM2, hcvs⟩, hsig, hsl⟩ := hm
  have HM1 := hidp hM1
  have HM2 := hidp hM2
  have HS0 := hidp hs0
  clear hM1 hM2 hs0
  have hser : (serB m).length = 1 + (optB 1 m.loc).length + (fieldB 2 m.id).length + 1 + (cavsB m.cavs).length + 1 + (fieldB 6 m.sig).length := by unfold serB; simp; omega
  have HSE := hidp hser
  clear hser
  -- the first byte
  have hb0 : Buf (w.alloc (.cells #[.int .u8 2] 5)) w.heap.size w.heap.size 1 1 [2] := ⟨rfl, World.ownsRow_lit w #[.int .u8 2] 1 (Nat.le_refl _) (by decide) rfl⟩
  have hbl0 : Below w.heap.size w (w.alloc (.cells #[.int .u8 2] 5)) := (Below.refl _ _).alloc (Nat.le_refl _) _
  -- the location
  have hb1 := hb0.conv s0
  have hst1 := conv_stp (w.alloc (.cells #[.int .u8 2] 5)) s0 w.heap.size
  have hbl1 := hst1.below hbl0 (Nat.le_refl _) (by simp)
  have hc1 := optI 1 w.heap.size w.heap.size 1 1 1 [2] s0.data.toList _ _ rfl (by decide) hb1 (by rw [Lib.bytesWorld_size]; simp; omega) (by simp) (conv_dat (w.alloc (.cells #[.int .u8 2] 5)) s0 w.heap.size (grownCap (w.alloc (.cells #[.int .u8 2] 5)) s0.size 0 5) (w.heap.size + 1) (by simp) (by simp)) (by rw [HS0.out]; exact hl1)
  rw [HS0.out] at hc1
  have HBL1 := hidp hbl1
  clear hb1 hst1 hb0 hbl0 hbl1
  go_enter Tryf.func9, Tryf.ntmps9
  go_wp2_with fail
  refine hc1.mono ?_
  rintro e w1 ⟨g1, n1, c1, rfl, hb1, hs1⟩
  have hbl1 := hs1.below HBL1.out (Nat.le_refl _) (by rw [Lib.bytesWorld_size]; simp; omega)
  have hz1 := hbl1.size
  have hM1 := (hbl1.cell (p := ⟨M, 1, none⟩) hMw).trans HM1.out
  have hc2 := fieldI 2 w.heap.size g1 n1 c1 2 _ m.id iv w1 rfl (by decide) hb1 hz1 (by have := HSE.out; simp; omega) (hiv.below hbl1 hb1.ge) hl2
  clear hc1 hs1
  go_wp2_with fail
  refine hc2.mono ?_
  rintro e w2 ⟨g2, n2, c2, rfl, hb2, hs2⟩
  have hbl2 := hs2.below hbl1 hb1.ge hz1
  have hz2' := hbl2.size
  clear hc2 hs2 hM1 hb1 hbl1 hz1
  have HOW := hidp hb2.2
  have HB2 := hidp hb2
  have HBL2 := hidp hbl2
  have hn2' : n2 ≤ 50000000 := by have h1 := hb2.1; have h2 := HSE.out; simp at h1; omega
  clear hb2 hbl2
  go_wp2_with (at_builtin; refine wpList_append_lies _ rfl _ _ 22 rfl w.heap.size 5 i0 (.int .u8 0) 1 1 Tryf.underlying22 hi hz0 hz1 hz2 rfl (by decide) _ _ _ rfl (HOW.out.alloc _) ⟨w2.heap.size, 0, none⟩ 1 1 [Value.int .u8 0] rfl rfl (cell_one_new _ _ _) one_zero (by decide) ?c3 ?c4 ?c5 _ rfl ?_)
  case c3 => unfold maxLen; omega
  case c4 => omega
  case c5 => first | omega | (simp; omega)
  intro g3 c3 w3 hown' hgrow hat hlt
  have hs3 : Stp w2 g2 w3 g3 := ((Stp.refl w2 g2).alloc _).trans (Stp.of hgrow hat (by simp))
  have hbl3 := hs3.below HBL2.out HB2.out.ge hz2'
  obtain ⟨P0, hP0⟩ : ∃ P0, P0 = [2] ++ optB 1 m.loc ++ fieldB 2 m.id ++ [0] := ⟨_, rfl⟩
  have hb3 : Buf w3 w.heap.size g3 (n2 + 1) c3 P0 := by
    rw [hP0]
    refine buf_of hown' (by have := HB2.out.1; simp at this ⊢; omega) ?_
    rw [Lib.byteCells_append _ [0]]; rfl
  have hM2 := (hbl3.cell (p := ⟨M, 2, none⟩) hMw).trans HM2.out
  have HP0 := hidp hP0
  have HB3 := hidp hb3
  have HBL3 := hidp hbl3
  have hz3 := hbl3.size
  clear hown' hgrow hat hlt hs3 HOW HB2 HBL2 HBL1 hb3 hP0 hz2' hn2' hbl3
  obtain ⟨ca, k, cc, rfl, hk', hcav⟩ : ∃ ca k cc, cv = .slice ca k cc ∧ k = m.cavs.length ∧ (0 < k → ∃ C, ca = some ⟨C, 0, none⟩ ∧ C < w.heap.size ∧ ∀ i (h : i < m.cavs.length), CavAt w C i m.cavs[i]) := by
    rcases hcvs with ⟨rfl, hnil⟩ | ⟨C, k, cc, rfl, hk', hCw, hcell⟩
    · exact ⟨none, 0, 0, rfl, by rw [hnil]; rfl, fun h => by omega⟩
    · exact ⟨_, k, cc, rfl, hk', fun _ => ⟨C, rfl, hCw, hcell⟩⟩
  have hk40 : k ≤ 40000000 := by
    have h1 := cavs_count m.cavs
    have h2 := HSE.out
    omega
  have HK := hidp hk'
  clear hk' hcvs
  go_wp2_with fail
  go_loopw [3, 5, 28] (fun vb v5 vi wr => ∃ i g n c : Nat, vi = .int .i64 (i : Int) ∧ i ≤ k ∧ vb = .slice (some ⟨g, 0, none⟩) n c ∧ Buf wr w.heap.size g n c (P0 ++ cavsB (m.cavs.take i)) ∧ Below w.heap.size w wr) (fun _ _ vi _ => k - (intOf vi).toNat)
  case atStart => exact ⟨0, g3, n2 + 1, c3, rfl, Nat.zero_le _, rfl, by simpa [cavsB] using HB3.out, HBL3.out⟩
  case round =>
    obtain ⟨i, g, n, c, rfl, hik, rfl, hb, hbl⟩ := hrel
    by_cases hlt : i < k
    · obtain ⟨C, rfl, hCw, hcell⟩ := hcav (by omega)
      have hlt' : (i : Int) < (k : Int) := by omega
      have hilt : i < m.cavs.length := by rw [← HK.out]; exact hlt
      have hxl := hl3 m.cavs[i] (List.getElem_mem hilt)
      have htl := cavs_take_le m.cavs (i + 1)
      rw [cavs_take_succ m.cavs i hilt] at htl
      obtain ⟨s, iv2, vv2, e0, e1, e2, e3, e4, e5⟩ := hcell i hilt
      obtain ⟨x, hx⟩ : ∃ x, m.cavs[i] = x := ⟨_, rfl⟩
      have HTS := hidp (show cavsB (m.cavs.take (i + 1)) = cavsB (m.cavs.take i) ++ cavB x by rw [cavs_take_succ m.cavs i hilt, hx])
      rw [hx] at hxl htl e3 e4 e5
      have hpl : (P0 ++ cavsB (m.cavs.take i)).length + (cavB x).length ≤ 40000000 := by
        have h1 := HSE.out
        rw [HP0.out]; simp at htl ⊢; omega
      have hcl : (cavB x).length = (optB 1 x.loc).length + (fieldB 2 x.id).length + (optB 4 x.vid).length + 1 := by unfold cavB; simp; omega
      obtain ⟨Pi, hPi⟩ : ∃ Pi, P0 ++ cavsB (m.cavs.take i) = Pi := ⟨_, rfl⟩
      have HPi := hidp hPi
      rw [hPi] at hb hpl
      have HPL := hidp (show Pi.length + (optB 1 x.loc).length + (fieldB 2 x.id).length + (optB 4 x.vid).length + 1 ≤ 40000000 by omega)
      have hx0 := (hbl.cell (p := ⟨C, i * 3, none⟩) hCw).trans e0
      have hx1 := (hbl.cell (p := ⟨C, i * 3 + 1, none⟩) hCw).trans e1
      have hx2 := (hbl.cell (p := ⟨C, i * 3 + 2, none⟩) hCw).trans e2
      obtain ⟨a1, m1, q1, rfl⟩ := e4.sl
      obtain ⟨a2, m2, q2, rfl⟩ := e5.sl
      obtain ⟨X, hX⟩ : ∃ X, X = Obj.cells #[.string s, .slice a1 m1 q1, .slice a2 m2 q2] 51 := ⟨_, rfl⟩
      have hz := hbl.size
      have hgx := hb.lt
      have hbw := (hb.alloc X).conv s
      have hblw := (conv_stp (wr.alloc X) s g).below (hbl.alloc hz X) hb.ge (by simp; omega)
      have hc1 := optI 1 w.heap.size g n c 1 Pi s.data.toList _ _ rfl (by decide) hbw (by rw [Lib.bytesWorld_size]; simp; omega) (by have := HPL.out; omega) (conv_dat (wr.alloc X) s g (grownCap (wr.alloc X) s.size 0 5) (wr.heap.size + 1) (by simp; omega) (by simp)) (by rw [e3]; exact hxl.1)
      have hbox := Lib.bytesWorld_at_old (wr.alloc X) 5 s wr.heap.size (by simp)
      rw [heap_alloc_new] at hbox
      rw [e3] at hc1
      have HBW := hidp hblw
      have HBOX := hidp hbox
      have HSZ := hidp (show (Lib.bytesWorld (wr.alloc X) 5 s).heap.size = wr.heap.size + 1 + 1 by rw [Lib.bytesWorld_size]; simp)
      clear hPi hx hcl hpl htl e0 e1 e2 e3 hbw hblw hbox
      subst hX
      go_wp2_with fail
      refine hc1.mono ?_
      rintro e w4 ⟨g4, n4, c4, rfl, hb4, hs4⟩
      have hg0 := hb.ge
      have hbl4 := hs4.below HBW.out hg0 (by have := HSZ.out; omega)
      have hbox4 := (hs4.1.block wr.heap.size (by have := HSZ.out; omega) (by simp; omega)).trans HBOX.out
      have hz4 := hbl4.size
      have hX4 : wr.heap.size < w4.heap.size := by have h1 := hs4.1.size; have h2 := HSZ.out; omega
      have hq1 : w4.cell? ⟨wr.heap.size, 1, none⟩ = some (.slice a1 m1 q1) := by rw [cell_of_row w4 wr.heap.size 1 _ 51 (0, 0) hbox4]; rfl
      have hg4 : g4 ≠ wr.heap.size := by have h2 := HSZ.out; rcases hs4.2 with h | h <;> omega
      have hc2 := fieldI 2 w.heap.size g4 n4 c4 2 (Pi ++ optB 1 x.loc) x.id (.slice a1 m1 q1) w4 rfl (by decide) hb4 hz4 (by have := HPL.out; simp; omega) (e4.below hbl4 hb4.ge) hxl.2.1
      have HB4 := hidp hb4
      have HBL4 := hidp hbl4
      have HBX4 := hidp hbox4
      clear hc1 hs4 hb hbl hbox4 HBW HBOX HSZ hx0 hx1 hx2 hb4 hbl4
      go_wp2_with fail
      refine hc2.mono ?_
      rintro e w5 ⟨g5, n5, c5, rfl, hb5, hs5⟩
      have hbl5 := hs5.below HBL4.out HB4.out.ge hz4
      have hbox5 := (hs5.1.block wr.heap.size hX4 (by simpa using hg4.symm)).trans HBX4.out
      have hz5 := hbl5.size
      have hg5 : g5 ≠ wr.heap.size := by rcases hs5.2 with h | h <;> omega
      have hq2 : w5.cell? ⟨wr.heap.size, 2, none⟩ = some (.slice a2 m2 q2) := by rw [cell_of_row w5 wr.heap.size 2 _ 51 (0, 0) hbox5]; rfl
      have hc3 := optI 4 w.heap.size g5 n5 c5 4 (Pi ++ optB 1 x.loc ++ fieldB 2 x.id) x.vid (.slice a2 m2 q2) w5 rfl (by decide) hb5 hz5 (by have := HPL.out; simp; omega) (e5.below hbl5 hb5.ge) hxl.2.2
      have HB5 := hidp hb5
      have HBL5 := hidp hbl5
      clear hc2 hs5 hq1 hb5 hbl5 HB4 HBL4 HBX4 hbox5
      go_wp2_with fail
      refine hc3.mono ?_
      rintro e w6 ⟨g6, n6, c6, rfl, hb6, hs6⟩
      have hbl6 := hs6.below HBL5.out HB5.out.ge hz5
      have hz6 := hbl6.size
      have HOW6 := hidp hb6.2
      have HB6 := hidp hb6
      have HBL6 := hidp hbl6
      have hn6 : n6 ≤ 40000000 := by have h1 := hb6.1; have h2 := HPL.out; simp at h1; omega
      clear hc3 hs6 hq2 hb6 hbl6 HB5 HBL5
      go_wp2_with (at_builtin; refine wpList_append_lies _ rfl _ _ 22 rfl w.heap.size 5 i0 (.int .u8 0) 1 1 Tryf.underlying22 hi hz0 hz1 hz2 rfl (by decide) _ _ _ rfl (HOW6.out.alloc _) ⟨w6.heap.size, 0, none⟩ 1 1 [Value.int .u8 0] rfl rfl (cell_one_new _ _ _) one_zero (by decide) ?d3 ?d4 ?d5 _ rfl ?_)
      case d3 => unfold maxLen; omega
      case d4 => omega
      case d5 => first | omega | (simp; omega)
      intro g7 c7 w7 hown' hgrow hat hlt7
      have hs7 : Stp w6 g6 w7 g7 := ((Stp.refl w6 g6).alloc _).trans (Stp.of hgrow hat (by simp))
      have HBL7 := hidp (hs7.below HBL6.out HB6.out.ge hz6)
      have HB7 : Hid (Buf w7 w.heap.size g7 (n6 + 1) c7 (P0 ++ cavsB (m.cavs.take (i + 1)))) := by
        apply hidp
        rw [HTS.out, ← List.append_assoc, HPi.out]
        refine buf_of hown' (by have h1 := HB6.out.1; unfold cavB; simp at h1 ⊢; omega) ?_
        unfold cavB
        simp [Lib.byteCells]
      clear hown' hgrow hat hlt7 hs7 HB6 HBL6 HOW6
      go_wp2
      go_roundw
      case rel => exact ⟨i + 1, g7, n6 + 1, c7, by go_num, by omega, rfl, HB7.out, HBL7.out⟩
      case measure => simp [intOf]; omega
    · have hke : i = k := by omega
      have hb' : Buf wr w.heap.size g n c (P0 ++ cavsB m.cavs) := by
        rw [hke, HK.out, List.take_length] at hb; exact hb
      have HB := hidp hb'
      have HBL := hidp hbl
      have hlt' : ¬ (i : Int) < (k : Int) := by omega
      have hz := hbl.size
      have HOW7 := hidp hb'.2
      have hn7 : n ≤ 40000000 := by have h1 := hb'.1; have h2 := HSE.out; rw [HP0.out] at h1; simp at h1; omega
      clear hb hbl hb' hke hcav
      go_wp2_with (at_builtin; refine wpList_append_lies _ rfl _ _ 22 rfl w.heap.size 5 i0 (.int .u8 0) 1 1 Tryf.underlying22 hi hz0 hz1 hz2 rfl (by decide) _ _ _ rfl (HOW7.out.alloc _) ⟨wr.heap.size, 0, none⟩ 1 1 [Value.int .u8 0] rfl rfl (cell_one_new _ _ _) one_zero (by decide) ?f3 ?f4 ?f5 _ rfl ?_)
      case f3 => unfold maxLen; omega
      case f4 => omega
      case f5 => first | omega | (simp; omega)
      intro g8 c8 w8 hown' hgrow hat hlt8
      have hs8 : Stp wr g w8 g8 := ((Stp.refl wr g).alloc _).trans (Stp.of hgrow hat (by simp))
      have hbl8 := hs8.below HBL.out HB.out.ge hz
      have hb8 : Buf w8 w.heap.size g8 (n + 1) c8 (P0 ++ cavsB m.cavs ++ [0]) := by
        refine buf_of hown' (by have h1 := HB.out.1; simp at h1 ⊢; omega) ?_
        rw [Lib.byteCells_append _ [0]]; rfl
      have hz8 := hbl8.size
      have hc9 := fieldI 6 w.heap.size g8 (n + 1) c8 6 (P0 ++ cavsB m.cavs ++ [0]) m.sig (.slice (some ⟨M, 3, none⟩) 32 32) w8 rfl (by decide) hb8 hz8 (by have h1 := hb8.1; omega) (.inr ⟨M, 3, 32, 32, rfl, hsl.symm, by have := hb8.ge; omega, by omega, fun j hj => (hbl8.cell (p := ⟨M, 3 + j, none⟩) hMw).trans (hsig j hj)⟩) (by rw [hsl]; omega)
      have HBL8 := hidp hbl8
      have HB8 := hidp hb8
      clear hown' hgrow hat hlt8 hs8 hbl8 hb8
      go_wp2_with fail
      refine hc9.mono ?_
      rintro e w9 ⟨g9, n9, c9, rfl, hb9, hs9⟩
      have HBL9 := hidp (hs9.below HBL8.out HB8.out.ge hz8)
      have HB9 := hidp hb9
      clear hc9 hs9 hb9
      go_wp2
      go_ret
      refine ⟨g9, n9, c9, rfl, ?_, HBL9.out⟩
      have es : serB m = P0 ++ cavsB m.cavs ++ [0] ++ fieldB 6 m.sig := by rw [HP0.out]; unfold serB; simp
      rw [es]; exact HB9.out
end Go.Proofs.Qxb6604478aFmt
