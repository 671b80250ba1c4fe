import Derived.Test.Qxb6604478aFmtFieldWalk
import Derived.Deep.LoopGhost
namespace Go.Proofs.Qxb6604478aFmt
open Go.RowKit Go.Extern.Stop Go.Stop Go.Extern
open Go.Lib (uvarintDec uvarintFrom)

/-! ### (*reader).section -/
/-- A field's value: nil, or a piece of the block B that holds d. -/
def DatV (w : World) (B : Nat) (v : Value) (d : List UInt8) : Prop := (v = .slice none 0 0 ∧ d = []) ∨ ∃ od, v = .slice (some ⟨B, od, none⟩) d.length d.length ∧ HasAt w B od d
theorem DatV.kept {w w' : World} {B : Nat} {v : Value} {d : List UInt8} {row : Option Nat} (h : DatV w B v d) (hg : w.grownBy w' row) (hB : some B ≠ row) : DatV w' B v d := by
  rcases h with h | ⟨od, e, ha⟩
  · exact .inl h
  · exact .inr ⟨od, e, ha.kept hg hB⟩
def IsSl (v : Value) : Prop := ∃ a n c, v = .slice a n c
theorem DatV.sl {w : World} {B : Nat} {v : Value} {d : List UInt8} (h : DatV w B v d) : IsSl v := by
  rcases h with ⟨rfl, _⟩ | ⟨od, rfl, _⟩ <;> exact ⟨_, _, _, rfl⟩
/-- The section's variable: seven slices, of which 1, 2 and 4 hold a, b, c. -/
def SecAt (w : World) (B S : Nat) (a b c : List UInt8) : Prop := ∃ v0 v1 v2 v3 v4 v5 v6, w.heap[S]? = some (.cells #[v0, v1, v2, v3, v4, v5, v6] 42 (0, 0)) ∧ IsSl v0 ∧ DatV w B v1 a ∧ DatV w B v2 b ∧ IsSl v3 ∧ DatV w B v4 c ∧ IsSl v5 ∧ IsSl v6
def RdAt (w : World) (B R : Nat) (l : List UInt8) : Prop := ∃ o, w.heap[R]? = some (.cells #[.slice (some ⟨B, o, none⟩) l.length l.length] 40 (0, 0)) ∧ HasAt w B o l
def nil7 : Array Value := #[.slice none 0 0, .slice none 0 0, .slice none 0 0, .slice none 0 0, .slice none 0 0, .slice none 0 0, .slice none 0 0]
def secPost (B R : Nat) (l : List UInt8) (w : World) (e : Ending) (w' : World) : Prop := match secL (l.length + 1) l [] [] [] 0 with
  | none => (∃ a s, e = .returned (.tuple #[.agg nil7, .int .i64 0, .iface 57 (.pointer (some a))]) ∧ w'.cell? a = some (.string s)) ∧ w.grownBy w' (some R)
  | some s => (∃ v0 v1 v2 v3 v4 v5 v6, e = .returned (.tuple #[.agg #[v0, v1, v2, v3, v4, v5, v6], .int .i64 (s.n : Int), .nilIface]) ∧ IsSl v0 ∧ DatV w' B v1 s.f1 ∧ DatV w' B v2 s.f2 ∧ IsSl v3 ∧ DatV w' B v4 s.f4 ∧ IsSl v5 ∧ IsSl v6) ∧
      RdAt w' B R s.rest ∧ w.grownBy w' (some R)

theorem gb_setRow {w w1 : World} {r : Option Nat} (h : w.grownBy w1 r) (g : Nat) (hg : w.heap.size ≤ g) (cs : Array Value) : w.grownBy (w1.setRow g cs) r :=
  ⟨h.os, h.tape, h.output, by have := h.size; simp; omega, fun k hk hr => (setRow_other w1 g k cs (by omega)).trans (h.block k hk hr)⟩
theorem gb_cell {w w1 : World} {R : Nat} (h : w.grownBy w1 (some R)) (a : Addr) (ha : w.heap.size ≤ a.block) (v : Value) : w.grownBy (w1.setCell a v) (some R) := gb_set h a (.inr ha) v
theorem isSl_nil : IsSl (.slice none 0 0) := ⟨_, _, _, rfl⟩
theorem info42 : (Tryf.prog.info? 42).map (·.size) = some 7 := by kernel_rfl
theorem sl_one {v : Value} (h : IsSl v) : v.oneCell' = true := by obtain ⟨a, n, c, rfl⟩ := h; rfl
theorem nil7_one : nil7.all (·.oneCell') = true := by kernel_rfl
theorem results_row3 {fn : Func} {p u v : Tmp} {ty : TypeId} (h : fn.results = #[.cell p ty, .tmp u, .tmp v]) (tmps : Array Value) (w : World) (g : Nat) (cs : Array Value)
    (hp : tmps.getD p undef = .pointer (some ⟨g, 0, none⟩)) (hl : (loadVar ty ⟨g, 0, none⟩).run Tryf.prog w = .ok (.agg cs) w) :
    (results fn tmps).run Tryf.prog w = .ok (.tuple #[.agg cs, tmps.getD u undef, tmps.getD v undef]) w := by
  have hp' : tmps[p]?.getD undef = .pointer (some ⟨g, 0, none⟩) := by simpa using hp
  simp [results, h, hp', asAddr, hl]
theorem load42 (w : World) (g : Nat) (cs : Array Value) (hs : cs.size = 7) (hg : w.heap[g]? = some (.cells cs 42 (0, 0))) : (loadVar 42 ⟨g, 0, none⟩).run Tryf.prog w = .ok (.agg cs) w :=
  run_loadVar_row w g 42 42 cs (0, 0) _ hg Tryf.underlying42 rfl (by rw [hs]; exact info42)
theorem far_cell {w1 : World} {g : Nat} {cs : Array Value} {a : Addr} {v : Value} (h : w1.cell? a = some v) (hne : a.block ≠ g) : (w1.setRow g cs).cell? a = some v := by
  rw [World.cell?_of_block (w := w1) (setRow_other w1 g a.block cs hne)]; exact h
theorem fld_zero {l d r : List UInt8} (h : fldL l = some (0, d, r)) : d = [] := by
  unfold fldL at h
  split at h
  · cases h
  · split at h
    · simp only [Option.some.injEq, Prod.mk.injEq] at h; exact h.2.1.symm
    · rename_i h0
      split at h
      · cases h
      · split at h
        · cases h
        · simp only [Option.some.injEq, Prod.mk.injEq] at h; exact absurd h.1 h0
theorem fld_less {l d r : List UInt8} {t : Nat} (h : fldL l = some (t, d, r)) : r.length < l.length := by
  unfold fldL at h
  split at h
  · cases h
  · rename_i hn
    obtain ⟨k, hk, hk0, hkl⟩ := dec_nat l hn
    rw [hk] at h
    simp only [Int.toNat_natCast] at h
    split at h
    · simp only [Option.some.injEq, Prod.mk.injEq] at h
      rw [← h.2.2]; simp; omega
    · split at h
      · cases h
      · split at h
        · cases h
        · simp only [Option.some.injEq, Prod.mk.injEq] at h
          rw [← h.2.2]; simp; omega
theorem secPost_none {B R : Nat} {l : List UInt8} {w w' : World} (h : secL (l.length + 1) l [] [] [] 0 = none) (a : Addr) (s : ByteArray) (hc : w'.cell? a = some (.string s)) (hg : w.grownBy w' (some R)) :
    secPost B R l w (.returned (.tuple #[.agg nil7, .int .i64 0, .iface 57 (.pointer (some a))])) w' := by
  unfold secPost; rw [h]; exact ⟨⟨a, s, rfl, hc⟩, hg⟩

set_option maxHeartbeats 4000000 in
set_option maxRecDepth 100000 in
theorem sec14 (F : Interp) (B R : Nat) (l : List UInt8) (w : World) (hF : F.answers w.tape) (hN : l.length ≤ 1048576) (hR : RdAt w B R l) (hBR : B ≠ R) (hBw : B < w.heap.size) (hRw : R < w.heap.size) :
    Calls Tryf.prog 14 #[.pointer (some ⟨R, 0, none⟩)] w fun e w' => secPost B R l w e w' := by
  have HR := hide hR
  clear hR
  go_enter Tryf.func14, Tryf.ntmps14
  go_wp2
  go_loopg [6] (l.length + 1) (fun k vn wr => ∃ (l1 a b c : List UInt8) (n : Nat), vn = .int .i64 (n : Int) ∧ n + l1.length ≤ l.length ∧ RdAt wr B R l1 ∧ SecAt wr B (w.heap.size + 1) a b c ∧ wr.heap[w.heap.size]? = some (.cells nil7 42 (0, 0)) ∧ w.grownBy wr (some R) ∧ l1.length < k ∧ Hid (secL (l.length + 1) l [] [] [] 0 = secL k l1 a b c n))
  case atStart =>
    have hg0 : w.grownBy ((w.alloc (.cells nil7 42)).alloc (.cells nil7 42)) (some R) := gb_alloc (gb_alloc (gb_refl _ _) _) _
    refine ⟨l, [], [], [], 0, rfl, by omega, ?_, ?_, ?_, hg0, by omega, hide rfl⟩
    · obtain ⟨o, h1, h2⟩ := HR.out
      refine ⟨o, ?_, fun j hj => ?_⟩
      · rw [Below.heap_alloc _ _ _ (by simp; omega), Below.heap_alloc _ _ _ hRw]; exact h1
      · rw [World.cell?_of_block (w := w)]
        · exact h2 j hj
        · exact (Below.heap_alloc _ _ _ (by simp; omega)).trans (Below.heap_alloc _ _ _ hBw)
    · exact ⟨_, _, _, _, _, _, _, heap_alloc2_new w _ _, isSl_nil, .inl ⟨rfl, rfl⟩, .inl ⟨rfl, rfl⟩, isSl_nil, .inl ⟨rfl, rfl⟩, isSl_nil, isSl_nil⟩
    · exact heap_alloc2_old w _ _
  case round =>
    obtain ⟨l1, a, b, c, n, rfl, hnl, hrd, hsec, hS0, hg, hk, HC⟩ := hrel
    obtain ⟨gk, rfl⟩ : ∃ g, gk = g + 1 := ⟨gk - 1, by omega⟩
    obtain ⟨o, hR1, hA1⟩ := hrd
    have hsz := hg.size
    have hszS : w.heap.size + 1 < wr.heap.size := by obtain ⟨_, _, _, _, _, _, _, h, _⟩ := hsec; exact lt_of_block h
    have hFr : F.answers wr.tape := by rw [hg.tape]; exact hF
    have hcall := field16 F B o R l1 wr hFr (by omega) hR1 hA1 hBR
    cases hf : fldL l1 with
    | none =>
      have HE := hide (show secL (l.length + 1) l [] [] [] 0 = none by rw [HC.out, secL, hf])
      have hcall' : Calls Tryf.prog 16 #[.pointer (some ⟨R, 0, none⟩)] wr fun e w' => ∃ a s, e = .returned (.tuple #[.int .u64 0, .slice none 0 0, .iface 57 (.pointer (some a))]) ∧ w'.cell? a = some (.string s) ∧ wr.heap.size ≤ a.block ∧ wr.grownBy w' (some R) :=
        hcall.mono fun e w' hp => by
          unfold fldPost at hp; rw [hf] at hp
          obtain ⟨⟨a, s, h1, h2, h4⟩, h3⟩ := hp
          exact ⟨a, s, h1, h2, h4, h3⟩
      have HS0 := hide hS0
      have HG := hide hg
      clear hcall hf hS0 hsec hR1 hA1 hg HC
      go_wp2_with fail
      refine hcall'.mono ?_
      rintro e w1 ⟨a1, s1, rfl, hc1, hn1, hg1⟩
      have HG1 := hide (gb_trans HG.out hg1)
      have HC1 := hide hc1
      have HS1 := hide ((hg1.block w.heap.size (by omega) (by simp; omega)).trans HS0.out)
      clear hg1 hc1
      go_wp2_with (refine wpList_store_row rfl 42 (.tmp 2) (.tmp 20) rfl w.heap.size nil7 rfl rfl 42 nil7 HS1.out info42 rfl nil7_one ?_)
      have HS2 := hide (setRow_heap w1 w.heap.size nil7 nil7 42 _ HS1.out)
      refine bodyPost_ret (v := .tuple #[.agg nil7, .int .i64 0, .iface 57 (.pointer (some a1))]) (results_row3 Tryf.results14 _ _ w.heap.size nil7 rfl (load42 _ _ nil7 rfl HS2.out)) rfl ?_
      exact secPost_none HE.out a1 s1 (far_cell HC1.out (by omega)) (gb_setRow HG1.out _ (Nat.le_refl _) _)
    | some tdr =>
      obtain ⟨t, d, r⟩ := tdr
      have hdn : t = 0 → d = [] := fun h0 => fld_zero (by rw [hf, h0])
      have hrl : r.length < l1.length := fld_less hf
      have HF := hide (show secL (gk + 1) l1 a b c n = (if t = 0 then some ⟨a, b, c, n, r⟩ else if 7 ≤ t then none else secL gk r (if t = 1 then d else a) (if t = 2 then d else b) (if t = 4 then d else c) (n + 1)) by rw [secL, hf])
      have hcall' : Calls Tryf.prog 16 #[.pointer (some ⟨R, 0, none⟩)] wr fun e w' => ∃ dv, e = .returned (.tuple #[.int .u64 (t : Int), dv, .nilIface]) ∧ IsSl dv ∧ DatV w' B dv d ∧ RdAt w' B R r ∧ wr.grownBy w' (some R) :=
        hcall.mono fun e w' hp => by
          unfold fldPost at hp; rw [hf] at hp
          obtain ⟨⟨dv, h1, h2⟩, ⟨o', h3, h4⟩, h5⟩ := hp
          have hB : some B ≠ some R := by simpa using hBR
          refine ⟨dv, h1, ?_, ?_, ⟨o', h3, h4.kept h5 hB⟩, h5⟩
          · rcases h2 with ⟨_, rfl⟩ | ⟨od, rfl, _⟩ <;> exact ⟨_, _, _, rfl⟩
          · rcases h2 with ⟨h0, rfl⟩ | ⟨od, rfl, h6⟩
            · exact .inl ⟨rfl, hdn h0⟩
            · exact .inr ⟨od, rfl, h6.kept h5 hB⟩
      obtain ⟨v0, v1, v2, v3, v4, v5, v6, hS, h0, h1, h2, h3, h4, h5, h6⟩ := hsec
      have HS := hide hS
      have HS0 := hide hS0
      have HG := hide hg
      clear hcall hf hS0 hS hR1 hA1 hg
      go_wp2_with fail
      refine hcall'.mono ?_
      rintro e w1 ⟨dv, rfl, ⟨da, dn, dc, rfl⟩, hdv, hrd1, hg1⟩
      have HG1 := hide (gb_trans HG.out hg1)
      have HRD := hide hrd1
      have HDV := hide hdv
      have HS01 := hide ((hg1.block w.heap.size (by omega) (by simp; omega)).trans HS0.out)
      have HS1 := hide ((hg1.block (w.heap.size + 1) (by omega) (by simp; omega)).trans HS.out)
      have hsz1 := hg1.size
      have hBR' : some B ≠ some R := by simpa using hBR
      replace h1 := h1.kept hg1 hBR'
      replace h2 := h2.kept hg1 hBR'
      replace h4 := h4.kept hg1 hBR'
      have hBS : some B ≠ some (w.heap.size + 1) := by simp; omega
      clear hg1 hrd1 hdv hcall'
      by_cases ht0 : t = 0
      · subst ht0
        have HE := hide (show secL (l.length + 1) l [] [] [] 0 = some ⟨a, b, c, n, r⟩ by rw [HC.out, HF.out, if_pos rfl])
        have hone : (#[v0, v1, v2, v3, v4, v5, v6] : Array Value).all (·.oneCell') = true := by simp [sl_one h0, sl_one h1.sl, sl_one h2.sl, sl_one h3, sl_one h4.sl, sl_one h5, sl_one h6]
        have HO := hide hone
        clear hone
        go_wp2_with (first | (refine wpList_load_row rfl 42 (.tmp 5) rfl (w.heap.size + 1) rfl 42 #[v0, v1, v2, v3, v4, v5, v6] (0, 0) _ HS1.out Tryf.underlying42 rfl info42 ?_) | (refine wpList_store_row rfl 42 (.tmp 2) (.tmp 24) rfl w.heap.size #[v0, v1, v2, v3, v4, v5, v6] rfl rfl 42 nil7 HS01.out info42 rfl HO.out ?_))
        have HS2 := hide (setRow_heap w1 w.heap.size nil7 #[v0, v1, v2, v3, v4, v5, v6] 42 _ HS01.out)
        refine bodyPost_ret (v := .tuple #[.agg #[v0, v1, v2, v3, v4, v5, v6], .int .i64 (n : Int), .nilIface]) (results_row3 Tryf.results14 _ _ w.heap.size #[v0, v1, v2, v3, v4, v5, v6] rfl (load42 _ _ _ rfl HS2.out)) rfl ?_
        unfold secPost
        rw [HE.out]
        have hg2 : w1.grownBy (w1.setRow w.heap.size #[v0, v1, v2, v3, v4, v5, v6]) (some w.heap.size) := ⟨rfl, rfl, rfl, by simp, fun k _ hr => setRow_other w1 w.heap.size k _ (by simpa using hr)⟩
        have hBS0 : some B ≠ some w.heap.size := by simp; omega
        obtain ⟨o2, e1, e2⟩ := HRD.out
        exact ⟨⟨_, _, _, _, _, _, _, rfl, h0, h1.kept hg2 hBS0, h2.kept hg2 hBS0, h3, h4.kept hg2 hBS0, h5, h6⟩, ⟨o2, (hg2.block R (by omega) (by simp; omega)).trans e1, e2.kept hg2 hBS0⟩, gb_setRow HG1.out _ (Nat.le_refl _) _⟩
      · have ht0' : ((t : Int) == 0) = false := by simp; omega
        by_cases ht7 : 7 ≤ t
        · have HE := hide (show secL (l.length + 1) l [] [] [] 0 = none by rw [HC.out, HF.out, if_neg ht0, if_pos ht7])
          have ht7' : (7 : Int) ≤ (t : Int) := by omega
          have hF1 : F.answers w1.tape := by rw [HG1.out.tape]; exact hF
          go_wp2_with fail
          refine (errorf3 F _ (t : Int) _ (by exact hF1) (by go_simp)).mono ?_
          rintro e w2 ⟨s2, rfl, hw2⟩
          have hg12 : w1.grownBy w2 none := by rw [hw2]; exact gb_drew (gb_alloc (gb_alloc (gb_refl _ _) _) _)
          have HS02 := hide ((hg12.block w.heap.size (by omega) (by simp)).trans HS01.out)
          have HG2 := hide (show w.grownBy w2 (some R) from ⟨hg12.os.trans HG1.out.os, hg12.tape.trans HG1.out.tape, hg12.output.trans HG1.out.output, Nat.le_trans HG1.out.size hg12.size, fun k hk hr => (hg12.block k (by omega) (by simp)).trans (HG1.out.block k hk hr)⟩)
          have HC2 := hide (show w2.cell? ⟨w1.heap.size + 1, 0, none⟩ = some (.string s2) by rw [hw2]; exact new_cell_at _ _ _ _ (by simp))
          clear hw2 hg12
          go_wp2_with (refine wpList_store_row rfl 42 (.tmp 2) (.tmp 28) rfl w.heap.size nil7 rfl rfl 42 nil7 HS02.out info42 rfl nil7_one ?_)
          have HS3 := hide (setRow_heap w2 w.heap.size nil7 nil7 42 _ HS02.out)
          refine bodyPost_ret (v := .tuple #[.agg nil7, .int .i64 0, .iface 57 (.pointer (some ⟨w1.heap.size + 1, 0, none⟩))]) (results_row3 Tryf.results14 _ _ w.heap.size nil7 rfl (load42 _ _ nil7 rfl HS3.out)) rfl ?_
          exact secPost_none HE.out _ s2 (far_cell HC2.out (by simp; omega)) (gb_setRow HG2.out _ (Nat.le_refl _) _)
        · have ht7' : (t : Int) < 7 := by omega
          replace HF := hide (HF.out.trans ((if_neg ht0).trans (if_neg ht7)))
          rcases (show t = 1 ∨ t = 2 ∨ t = 3 ∨ t = 4 ∨ t = 5 ∨ t = 6 by omega) with rfl | rfl | rfl | rfl | rfl | rfl
          · have hcS : w1.cell? ⟨w.heap.size + 1, 1, none⟩ = some v1 := by rw [cell_of_row w1 (w.heap.size + 1) 1 _ 42 (0, 0) HS1.out]; rfl
            have hfS : w1.frozen? ⟨w.heap.size + 1, 1, none⟩ = false := frozen_of_row w1 (w.heap.size + 1) 1 _ 42 HS1.out
            go_wp2_with fail
            go_roundg gk
            case measure => omega
            case rel =>
              have hgS : w1.grownBy (w1.setCell ⟨w.heap.size + 1, 1, none⟩ (.slice da dn dc)) (some (w.heap.size + 1)) := gb_set (gb_refl _ _) _ (.inl rfl) _
              refine ⟨r, d, b, c, n + 1, by go_num, by omega, ?_, ⟨_, _, _, _, _, _, _, heap_setCell_same w1 (w.heap.size + 1) 1 _ 42 _ HS1.out, h0, HDV.out.kept hgS hBS, h2.kept hgS hBS, h3, h4.kept hgS hBS, h5, h6⟩, ?_, gb_cell HG1.out _ (by simp) _, by omega, hide (by rw [HC.out, HF.out]; rfl)⟩
              · obtain ⟨o2, e1, e2⟩ := HRD.out
                exact ⟨o2, (Below.heap_setCell _ _ _ _ (by simp; omega)).trans e1, e2.kept hgS hBS⟩
              · exact (Below.heap_setCell _ _ _ _ (by simp)).trans HS01.out
          · have hcS : w1.cell? ⟨w.heap.size + 1, 2, none⟩ = some v2 := by rw [cell_of_row w1 (w.heap.size + 1) 2 _ 42 (0, 0) HS1.out]; rfl
            have hfS : w1.frozen? ⟨w.heap.size + 1, 2, none⟩ = false := frozen_of_row w1 (w.heap.size + 1) 2 _ 42 HS1.out
            go_wp2_with fail
            go_roundg gk
            case measure => omega
            case rel =>
              have hgS : w1.grownBy (w1.setCell ⟨w.heap.size + 1, 2, none⟩ (.slice da dn dc)) (some (w.heap.size + 1)) := gb_set (gb_refl _ _) _ (.inl rfl) _
              refine ⟨r, a, d, c, n + 1, by go_num, by omega, ?_, ⟨_, _, _, _, _, _, _, heap_setCell_same w1 (w.heap.size + 1) 2 _ 42 _ HS1.out, h0, h1.kept hgS hBS, HDV.out.kept hgS hBS, h3, h4.kept hgS hBS, h5, h6⟩, ?_, gb_cell HG1.out _ (by simp) _, by omega, hide (by rw [HC.out, HF.out]; rfl)⟩
              · obtain ⟨o2, e1, e2⟩ := HRD.out
                exact ⟨o2, (Below.heap_setCell _ _ _ _ (by simp; omega)).trans e1, e2.kept hgS hBS⟩
              · exact (Below.heap_setCell _ _ _ _ (by simp)).trans HS01.out
          · have hcS : w1.cell? ⟨w.heap.size + 1, 3, none⟩ = some v3 := by rw [cell_of_row w1 (w.heap.size + 1) 3 _ 42 (0, 0) HS1.out]; rfl
            have hfS : w1.frozen? ⟨w.heap.size + 1, 3, none⟩ = false := frozen_of_row w1 (w.heap.size + 1) 3 _ 42 HS1.out
            go_wp2_with fail
            go_roundg gk
            case measure => omega
            case rel =>
              have hgS : w1.grownBy (w1.setCell ⟨w.heap.size + 1, 3, none⟩ (.slice da dn dc)) (some (w.heap.size + 1)) := gb_set (gb_refl _ _) _ (.inl rfl) _
              refine ⟨r, a, b, c, n + 1, by go_num, by omega, ?_, ⟨_, _, _, _, _, _, _, heap_setCell_same w1 (w.heap.size + 1) 3 _ 42 _ HS1.out, h0, h1.kept hgS hBS, h2.kept hgS hBS, ⟨_, _, _, rfl⟩, h4.kept hgS hBS, h5, h6⟩, ?_, gb_cell HG1.out _ (by simp) _, by omega, hide (by rw [HC.out, HF.out]; rfl)⟩
              · obtain ⟨o2, e1, e2⟩ := HRD.out
                exact ⟨o2, (Below.heap_setCell _ _ _ _ (by simp; omega)).trans e1, e2.kept hgS hBS⟩
              · exact (Below.heap_setCell _ _ _ _ (by simp)).trans HS01.out
          · have hcS : w1.cell? ⟨w.heap.size + 1, 4, none⟩ = some v4 := by rw [cell_of_row w1 (w.heap.size + 1) 4 _ 42 (0, 0) HS1.out]; rfl
            have hfS : w1.frozen? ⟨w.heap.size + 1, 4, none⟩ = false := frozen_of_row w1 (w.heap.size + 1) 4 _ 42 HS1.out
            go_wp2_with fail
            go_roundg gk
            case measure => omega
            case rel =>
              have hgS : w1.grownBy (w1.setCell ⟨w.heap.size + 1, 4, none⟩ (.slice da dn dc)) (some (w.heap.size + 1)) := gb_set (gb_refl _ _) _ (.inl rfl) _
              refine ⟨r, a, b, d, n + 1, by go_num, by omega, ?_, ⟨_, _, _, _, _, _, _, heap_setCell_same w1 (w.heap.size + 1) 4 _ 42 _ HS1.out, h0, h1.kept hgS hBS, h2.kept hgS hBS, h3, HDV.out.kept hgS hBS, h5, h6⟩, ?_, gb_cell HG1.out _ (by simp) _, by omega, hide (by rw [HC.out, HF.out]; rfl)⟩
              · obtain ⟨o2, e1, e2⟩ := HRD.out
                exact ⟨o2, (Below.heap_setCell _ _ _ _ (by simp; omega)).trans e1, e2.kept hgS hBS⟩
              · exact (Below.heap_setCell _ _ _ _ (by simp)).trans HS01.out
          · have hcS : w1.cell? ⟨w.heap.size + 1, 5, none⟩ = some v5 := by rw [cell_of_row w1 (w.heap.size + 1) 5 _ 42 (0, 0) HS1.out]; rfl
            have hfS : w1.frozen? ⟨w.heap.size + 1, 5, none⟩ = false := frozen_of_row w1 (w.heap.size + 1) 5 _ 42 HS1.out
            go_wp2_with fail
            go_roundg gk
            case measure => omega
            case rel =>
              have hgS : w1.grownBy (w1.setCell ⟨w.heap.size + 1, 5, none⟩ (.slice da dn dc)) (some (w.heap.size + 1)) := gb_set (gb_refl _ _) _ (.inl rfl) _
              refine ⟨r, a, b, c, n + 1, by go_num, by omega, ?_, ⟨_, _, _, _, _, _, _, heap_setCell_same w1 (w.heap.size + 1) 5 _ 42 _ HS1.out, h0, h1.kept hgS hBS, h2.kept hgS hBS, h3, h4.kept hgS hBS, ⟨_, _, _, rfl⟩, h6⟩, ?_, gb_cell HG1.out _ (by simp) _, by omega, hide (by rw [HC.out, HF.out]; rfl)⟩
              · obtain ⟨o2, e1, e2⟩ := HRD.out
                exact ⟨o2, (Below.heap_setCell _ _ _ _ (by simp; omega)).trans e1, e2.kept hgS hBS⟩
              · exact (Below.heap_setCell _ _ _ _ (by simp)).trans HS01.out
          · have hcS : w1.cell? ⟨w.heap.size + 1, 6, none⟩ = some v6 := by rw [cell_of_row w1 (w.heap.size + 1) 6 _ 42 (0, 0) HS1.out]; rfl
            have hfS : w1.frozen? ⟨w.heap.size + 1, 6, none⟩ = false := frozen_of_row w1 (w.heap.size + 1) 6 _ 42 HS1.out
            go_wp2_with fail
            go_roundg gk
            case measure => omega
            case rel =>
              have hgS : w1.grownBy (w1.setCell ⟨w.heap.size + 1, 6, none⟩ (.slice da dn dc)) (some (w.heap.size + 1)) := gb_set (gb_refl _ _) _ (.inl rfl) _
              refine ⟨r, a, b, c, n + 1, by go_num, by omega, ?_, ⟨_, _, _, _, _, _, _, heap_setCell_same w1 (w.heap.size + 1) 6 _ 42 _ HS1.out, h0, h1.kept hgS hBS, h2.kept hgS hBS, h3, h4.kept hgS hBS, h5, ⟨_, _, _, rfl⟩⟩, ?_, gb_cell HG1.out _ (by simp) _, by omega, hide (by rw [HC.out, HF.out]; rfl)⟩
              · obtain ⟨o2, e1, e2⟩ := HRD.out
                exact ⟨o2, (Below.heap_setCell _ _ _ _ (by simp; omega)).trans e1, e2.kept hgS hBS⟩
              · exact (Below.heap_setCell _ _ _ _ (by simp)).trans HS01.out
end Go.Proofs.Qxb6604478aFmt
