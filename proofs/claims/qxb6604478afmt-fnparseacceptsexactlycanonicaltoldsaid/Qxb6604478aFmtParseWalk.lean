import Derived.Test.Qxb6604478aFmtMacRow
import Derived.Laws.CopyOwn
import Derived.Deep.DeepCutAuto
namespace Go.Proofs.Qxb6604478aFmt
open Go.RowKit Go.Extern.Stop Go.Stop Go.Extern

/-! ### Parse -/
theorem cell_lt {w : World} {a : Addr} {v : Value} (h : w.cell? a = some v) : a.block < w.heap.size := by
  by_cases hl : a.block < w.heap.size
  · exact hl
  · have hn : w.heap[a.block]? = none := Array.getElem?_eq_none (by omega)
    simp [World.cell?, hn] at h
def failed (e : Ending) : Prop := ∃ ty a, (ty = 57 ∨ ty = 62) ∧ e = .returned (.tuple #[.pointer none, .iface ty (.pointer (some a))])
def parsePost (L : List UInt8) (w : World) (e : Ending) (w' : World) : Prop :=
  ((∃ M m, loose L.tail = some m ∧ serB m = L ∧ e = .returned (.tuple #[.pointer (some ⟨M, 0, none⟩), .nilIface]) ∧ MacAt w' M m) ∨
    ((∀ m, loose L.tail = some m → serB m ≠ L) ∧ failed e)) ∧ Below w.heap.size w w'

theorem cell_keep2 {w : World} {a : Addr} {v : Value} (h : w.cell? a = some v) (o1 o2 : Obj) : ((w.alloc o1).alloc o2).cell? a = some v := by
  have hl := cell_lt h
  rw [World.cell?_of_block (w := w) ((Below.heap_alloc _ _ _ (by simp; omega)).trans (Below.heap_alloc _ _ _ hl))]; exact h
theorem cell_keep {w : World} {a : Addr} {v : Value} (h : w.cell? a = some v) (o : Obj) : (w.alloc o).cell? a = some v := by
  rw [World.cell?_of_block (w := w) (Below.heap_alloc _ _ _ (cell_lt h))]; exact h
theorem own_kept {w w' : World} {base : Nat} {e : TypeId} {sz : Nat} {v : Value} {n : Nat} {xs : List Value} (h : w.ownsRow base e sz v n xs) (hk : ∀ k, base ≤ k → k < w.heap.size → w'.heap[k]? = w.heap[k]?) : w'.ownsRow base e sz v n xs := by
  refine ⟨h.1, ?_⟩
  rcases h.2 with h | ⟨g, cap, cur, e1, e2, e3, e4⟩
  · exact .inl h
  · exact .inr ⟨g, cap, cur, e1, e2, (hk g e2 (lt_of_block e3)).trans e3, e4⟩
theorem own_block {w : World} {base : Nat} {e : TypeId} {sz : Nat} {v : Value} {n : Nat} {xs : List Value} (h : w.ownsRow base e sz v n xs) : ∀ k, v.ownBlock = some k → base ≤ k := by
  intro k hk
  rcases h.2 with ⟨rfl, _⟩ | ⟨g, cap, cur, rfl, e2, _⟩
  · simp [Value.ownBlock] at hk
  · simp [Value.ownBlock] at hk; omega
theorem RdAt.kept {w w' : World} {B R : Nat} {l : List UInt8} (h : RdAt w B R l) (h1 : w'.heap[R]? = w.heap[R]?) (h2 : w'.heap[B]? = w.heap[B]?) : RdAt w' B R l := by
  obtain ⟨o, e1, e2⟩ := h
  exact ⟨o, h1.trans e1, fun j hj => (World.cell?_of_block (w := w) h2).trans (e2 j hj)⟩
theorem DatV.old {w w' : World} {B : Nat} {v : Value} {d : List UInt8} (h : DatV w' B v d) (hb : Below w.heap.size w w') (hB : B < w.heap.size) : DV w v d := by
  rcases h with h | ⟨od, rfl, ha⟩
  · exact .inl h
  · exact .inr ⟨B, od, _, _, rfl, rfl, hB, fun j hj => (hb.cell (p := ⟨B, od + j, none⟩) hB).symm.trans (ha j hj)⟩

theorem size5 : (Tryf.prog.info? 5).map (·.size) = some 1 := by kernel_rfl
theorem parse_empty (a : Option Addr) (c : Nat) (w : World) : Calls Tryf.prog 7 #[.slice a 0 c] w fun e w' => parsePost [] w e w' := by
  have hc := new13 ⟨#[110, 111, 116, 32, 97, 32, 86, 50, 32, 109, 97, 99, 97, 114, 111, 111, 110]⟩ w
  go_enter Tryf.func7, Tryf.ntmps7
  go_wp2_with fail
  refine hc.mono ?_
  rintro e w1 ⟨rfl, rfl⟩
  go_wp2
  go_ret2
  exact ⟨.inr ⟨fun m _ h => by simp [serB] at h, _, _, .inl rfl, rfl⟩, (Below.refl _ _).alloc (Nat.le_refl _) _⟩

set_option maxHeartbeats 4000000 in
set_option maxRecDepth 100000 in
theorem parse7 (F : Interp) (B n : Nat) (L : List UInt8) (w : World) (hF : F.answers w.tape) (hN : L.length ≤ 1048576) (h0 : 0 < L.length) (hn : n = L.length) (hB : B < w.heap.size) (hA : HasAt w B 0 L) :
    Calls Tryf.prog 7 #[.slice (some ⟨B, 0, none⟩) n n] w fun e w' => parsePost L w e w' := by
  obtain ⟨b, T, rfl⟩ : ∃ b T, L = b :: T := by cases L with
    | nil => simp at h0
    | cons b T => exact ⟨b, T, rfl⟩
  have hc0 : w.cell? ⟨B, 0, none⟩ = some (.int .u8 (b.toNat : Int)) := hA 0 (by simp)
  have hT : HasAt w B 1 T := (hA.drop 1)
  have HT := hidp hT
  have HA := hidp hA
  have HN := hidp hn
  have hn0 : 0 < n := by rw [hn]; exact h0
  have hnle : n ≤ 1048576 := by rw [hn]; exact hN
  have hTl : T.length = n - 1 := by rw [hn]; simp
  have HTl := hidp hTl
  clear hA hT hn hTl h0
  obtain ⟨x, hx⟩ : ∃ x, b.toNat = x := ⟨_, rfl⟩
  rw [hx] at hc0
  have HX := hidp hx
  clear hx
  have hnz : ((n : Int) == 0) = false := by simp; omega
  by_cases hx2 : x = 2
  · subst hx2
    go_enter Tryf.func7, Tryf.ntmps7
    go_upto_region 3 with fail
    go_cut [4] (fun s4 wx => s4 = .pointer (some ⟨w.heap.size, 0, none⟩) ∧ RdAt wx B w.heap.size T ∧ Below w.heap.size w wx ∧ wx.heap.size = w.heap.size + 1)
    case first =>
      by_cases h1 : n = 1
      · subst h1
        go_wp2_with fail
        go_meet
        case rel =>
          have hT0 : T = [] := List.eq_nil_of_length_eq_zero HTl.out
          subst hT0
          exact ⟨rfl, ⟨0, heap_alloc_new _ _, HasAt.nil _ _ _⟩, (Below.refl _ _).alloc (Nat.le_refl _) _, by simp⟩
      · have hn1 : 1 < n := by omega
        have hn2 : (1 : Int) ≤ (n : Int) := by omega
        have hn3 : ¬ (1 = n) := by omega
        have hn4 : ¬ (n = 1) := h1
        go_wp2_with fail
        go_meet
        case rel =>
          refine ⟨rfl, ⟨1, ?_, ?_⟩, (Below.refl _ _).alloc (Nat.le_refl _) _, by simp⟩
          · rw [HTl.out]; exact heap_alloc_new _ _
          · intro j hj; rw [Below.cell ((Below.refl _ _).alloc (Nat.le_refl _) _) hB]; exact HT.out j hj
    case rest =>
      obtain ⟨rfl, hrd, hbl, hsz⟩ := hcut
      have hTle : T.length ≤ 1048576 := by have := HTl.out; omega
      have hFc : F.answers wc.tape := by rw [hbl.tape]; exact hF
      have hcall := sec14 F B w.heap.size T wc hFc hTle hrd (by omega) (by omega) (by omega)
      have HBL := hidp hbl
      have hszc : w.heap.size < wc.heap.size := by omega
      clear hrd hbl hsz hc0
      cases hs : secL (T.length + 1) T [] [] [] 0 with
      | none =>
        have HE := hidp (show loose T = none by unfold loose; rw [hs])
        have hcall' : Calls Tryf.prog 14 #[.pointer (some ⟨w.heap.size, 0, none⟩)] wc fun e w' => ∃ a s, e = .returned (.tuple #[.agg nil7, .int .i64 0, .iface 57 (.pointer (some a))]) ∧ w'.cell? a = some (.string s) ∧ wc.grownBy w' (some w.heap.size) :=
          hcall.mono fun e w' hp => by
            unfold secPost at hp; rw [hs] at hp
            obtain ⟨⟨a, s, h1, h2⟩, h3⟩ := hp
            exact ⟨a, s, h1, h2, h3⟩
        clear hcall hs
        go_wp2_with fail
        refine hcall'.mono ?_
        rintro e w1 ⟨a1, s1, rfl, hc1, hg1⟩
        have HB1 := hidp (HBL.out.grown hg1 (by omega) (fun k e => by simp at e; omega))
        have hz1 := hg1.size
        have hF1 : F.answers w1.tape := by rw [hg1.tape]; exact hFc
        clear hg1
        unfold nil7
        go_wp2_with fail
        refine (errorf0 F _ a1 s1 _ (by exact hF1) (by go_simp) (cell_keep2 hc1 _ _)).mono ?_
        rintro e w2 ⟨s2, rfl, hw2⟩
        have HB2 := hidp (show Below w.heap.size w w2 by rw [hw2]; exact ((((HB1.out.alloc (by omega) _).alloc (by simp; omega) _).alloc (by simp; omega) _).drew))
        clear hw2
        go_wp2
        go_ret2
        exact ⟨.inr ⟨fun m h => (by have := HE.out; rw [List.tail_cons, this] at h; cases h), _, _, .inr rfl, rfl⟩, HB2.out⟩
      | some s =>
        have HS := hidp hs
        have hcall' : Calls Tryf.prog 14 #[.pointer (some ⟨w.heap.size, 0, none⟩)] wc fun e w' => ∃ v0 v1 v2 v3 v4 v5 v6, e = .returned (.tuple #[.agg #[v0, v1, v2, v3, v4, v5, v6], .int .i64 (s.n : Int), .nilIface]) ∧ (IsSl v0 ∧ IsSl v1 ∧ IsSl v2 ∧ IsSl v3 ∧ IsSl v4 ∧ IsSl v5 ∧ IsSl v6) ∧ DV w v1 s.f1 ∧ DV w v2 s.f2 ∧ RdAt w' B w.heap.size s.rest ∧ Below w.heap.size w w' ∧ wc.heap.size ≤ w'.heap.size :=
          hcall.mono fun e w' hp => by
            unfold secPost at hp; rw [hs] at hp
            obtain ⟨⟨v0, v1, v2, v3, v4, v5, v6, h1, g0, g1, g2, g3, g4, g5, g6⟩, h2, h3⟩ := hp
            have hb := HBL.out.grown h3 (by omega) (fun k e => by simp at e; omega)
            exact ⟨v0, v1, v2, v3, v4, v5, v6, h1, ⟨g0, g1.sl, g2.sl, g3, g4.sl, g5, g6⟩, g1.old hb hB, g2.old hb hB, h2, hb, h3.size⟩
        clear hcall hs
        go_wp2_with fail
        refine hcall'.mono ?_
        rintro e w1 ⟨v0, v1, v2, v3, v4, v5, v6, rfl, ⟨⟨a0, n0, c0, rfl⟩, ⟨a1, n1, c1, rfl⟩, ⟨a2, n2, c2, rfl⟩, ⟨a3, n3, c3, rfl⟩, ⟨a4, n4, c4, rfl⟩, ⟨a5, n5, c5, rfl⟩, ⟨a6, n6, c6, rfl⟩⟩, hd1, hd2, hrd, hbl, hz1⟩
        obtain ⟨s1, hs1⟩ : ∃ s1 : ByteArray, s1.data.toList = s.f1 ∧ ∀ wx, Below w.heap.size w wx → (convert 22 9 (.slice a1 n1 c1)).run Tryf.prog wx = .ok (.string s1) wx := ⟨⟨s.f1.toArray⟩, by simp, fun wx hx => conv_str wx _ _ (hd1.up hx)⟩
        have hcv := hs1.2 (w1.alloc (.cells #[.slice a0 n0 c0, .slice a1 n1 c1, .slice a2 n2 c2, .slice a3 n3 c3, .slice a4 n4 c4, .slice a5 n5 c5, .slice a6 n6 c6] 42)) (hbl.alloc (by omega) _)
        have HS1 := hidp hs1.1
        have HD2 := hidp hd2
        have HRD := hidp hrd
        have HBL1 := hidp hbl
        clear hs1 hd1 hd2 hrd hbl hcall'
        obtain ⟨X, hX⟩ : ∃ X, X = Obj.cells #[.slice a0 n0 c0, .slice a1 n1 c1, .slice a2 n2 c2, .slice a3 n3 c3, .slice a4 n4 c4, .slice a5 n5 c5, .slice a6 n6 c6] 42 := ⟨_, rfl⟩
        have hM0 : ((w1.alloc X).alloc (.cells zero35 49)).heap[w1.heap.size + 1]? = some (.cells zero35 49 (0, 0)) := heap_alloc2_new w1 _ _
        rw [hX] at hM0
        have HM0 := hidp hM0
        clear hM0
        go_wp2_with (first | (refine wpList_buildTo rfl 49 _ rfl (some 42) rfl (macRow (.string s1) (.slice a2 n2 c2) (.slice none 0 0) zero32) (macBuiltAt _ s1 a2 n2 c2 rfl rfl) ?_) | (refine wpList_allocTo rfl (some 8) rfl (.pointer (some ⟨w1.heap.size + 1, 0, none⟩)) (.cells zero35 49) (macAlloc _ _ rfl _) ?_) | (refine wpList_store_rowTo rfl 49 (.tmp 8) (.tmp 42) rfl rfl (w1.heap.size + 1) (macRow (.string s1) (.slice a2 n2 c2) (.slice none 0 0) zero32) rfl rfl 49 zero35 HM0.out (info49' _ _ _) (zero35_size _ _ _) (macRow_one _ _ _ _ _ _ _) ?_))
        have HM1 := hidp (setRow_heap _ (w1.heap.size + 1) zero35 (macRow (.string s1) (.slice a2 n2 c2) (.slice none 0 0) zero32) 49 _ HM0.out)
        have hss := sec_size _ _ _ _ _ _ _ HS.out
        simp at hss
        clear hcv
        go_loopg [] (s.rest.length + 1) (fun k wr => ∃ (l1 : List UInt8) (acc : List Cav) (ca : Option Addr) (ck cc : Nat) (xs : List Value), ck = acc.length ∧ RdAt wr B w.heap.size l1 ∧ wr.heap[w1.heap.size + 1]? = some (.cells (macRow (.string s1) (.slice a2 n2 c2) (.slice ca ck cc) zero32) 49 (0, 0)) ∧ wr.ownsRow (w1.heap.size + 2) 51 3 (.slice ca ck cc) ck xs ∧ CavRow w xs acc ∧ Below w.heap.size w wr ∧ w1.heap.size + 1 < wr.heap.size ∧ acc.length + l1.length ≤ T.length ∧ l1.length < k ∧ Hid (cavL (s.rest.length + 1) s.rest [] = cavL k l1 acc))
        case atStart =>
          refine ⟨s.rest, [], none, 0, 0, [], rfl, ?_, HM1.out, ⟨rfl, .inl ⟨rfl, rfl⟩⟩, fun i hi => absurd hi (Nat.not_lt_zero _), ?_, ?_, by simp; omega, Nat.lt_succ_self _, hidp rfl⟩
          · obtain ⟨o, e1, e2⟩ := HRD.out
            refine ⟨o, ?_, fun j hj => ?_⟩
            · rw [setRow_other _ _ _ _ (by omega), Below.heap_alloc _ _ _ (by simp; omega), Below.heap_alloc _ _ _ (by omega)]; exact e1
            · rw [World.cell?_of_block (w := w1)]
              · exact e2 j hj
              · rw [setRow_other _ _ _ _ (by simp; omega), Below.heap_alloc _ _ _ (by simp; omega), Below.heap_alloc _ _ _ (by simp; omega)]
          · exact below_setRow ((HBL1.out.alloc (by omega) _).alloc (by simp; omega) _) (by omega) _
          · simp
        case round =>
          obtain ⟨l1, acc, ca, ck, cc, xs, hck, hrd, hMr, hown, hcr, hbl, hMs, hal, hk, HC⟩ := hrel
          obtain ⟨gk, rfl⟩ : ∃ g, gk = g + 1 := ⟨gk - 1, by omega⟩
          have hFr : F.answers wr.tape := by rw [hbl.tape]; exact hF
          have hcall := sec14 F B w.heap.size l1 wr hFr (by omega) hrd (by omega) (by omega) (by omega)
          have HCK := hidp hck
          have hck' : ck ≤ 1048576 := by omega
          clear hck hrd
          cases hs : secL (l1.length + 1) l1 [] [] [] 0 with
          | none =>
            have HE := hidp (show loose T = none by unfold loose; rw [HS.out]; dsimp only; rw [HC.out, cavL, hs])
            have hcall' : Calls Tryf.prog 14 #[.pointer (some ⟨w.heap.size, 0, none⟩)] wr fun e w' => ∃ a s, e = .returned (.tuple #[.agg nil7, .int .i64 0, .iface 57 (.pointer (some a))]) ∧ w'.cell? a = some (.string s) ∧ wr.grownBy w' (some w.heap.size) :=
              hcall.mono fun e w' hp => by
                unfold secPost at hp; rw [hs] at hp
                obtain ⟨⟨a, s, h1, h2⟩, h3⟩ := hp
                exact ⟨a, s, h1, h2, h3⟩
            have HBr := hidp hbl
            have HMr := hidp hMr
            clear hcall hs hown hcr hbl hMr HC
            go_wp2_with fail
            refine hcall'.mono ?_
            rintro e w2 ⟨a9, s9, rfl, hc9, hg2⟩
            have HB2 := hidp (HBr.out.grown hg2 (by omega) (fun k e => by simp at e; omega))
            have hz2 := hg2.size
            have hF2 : F.answers w2.tape := by rw [hg2.tape]; exact hFr
            have hM2 : w2.cell? ⟨w1.heap.size + 1, 2, none⟩ = some (.slice ca ck cc) := by
              rw [cell_of_row w2 _ 2 _ 49 (0, 0) ((hg2.block _ hMs (by simp; omega)).trans HMr.out)]; exact macRow_2 _ _ _ _
            clear hg2
            unfold nil7
            have hM3 := cell_keep hM2 (Obj.cells #[.slice none 0 0, .slice none 0 0, .slice none 0 0, .slice none 0 0, .slice none 0 0, .slice none 0 0, .slice none 0 0] 42)
            go_wp2_with fail
            refine (errorf1 F _ ((ck : Int) + 1) a9 s9 _ (by exact hF2) (by go_simp) (by go_simp) (cell_keep2 hc9 _ _)).mono ?_
            rintro e w3 ⟨s3, rfl, hw3⟩
            have HB3 := hidp (show Below w.heap.size w w3 by rw [hw3]; exact ((((HB2.out.alloc (by omega) _).alloc (by simp; omega) _).alloc (by simp; omega) _).drew))
            clear hw3
            go_wp2
            go_ret2
            exact ⟨.inr ⟨fun m h => (by have := HE.out; rw [List.tail_cons, this] at h; cases h), _, _, .inr rfl, rfl⟩, HB3.out⟩
          | some s2 =>
            have hss2 := sec_size _ _ _ _ _ _ _ hs
            simp at hss2
            have HC2 := hidp (show cavL (gk + 1) l1 acc = if s2.n = 0 then some (acc, s2.rest) else cavL gk s2.rest (acc ++ [⟨s2.f1, s2.f2, s2.f4⟩]) by rw [cavL, hs])
            have HBr := hidp hbl
            have hcall' : Calls Tryf.prog 14 #[.pointer (some ⟨w.heap.size, 0, none⟩)] wr fun e w' => ∃ v0 v1 v2 v3 v4 v5 v6, e = .returned (.tuple #[.agg #[v0, v1, v2, v3, v4, v5, v6], .int .i64 (s2.n : Int), .nilIface]) ∧ (IsSl v0 ∧ IsSl v1 ∧ IsSl v2 ∧ IsSl v3 ∧ IsSl v4 ∧ IsSl v5 ∧ IsSl v6) ∧ DV w v1 s2.f1 ∧ DV w v2 s2.f2 ∧ DV w v4 s2.f4 ∧ RdAt w' B w.heap.size s2.rest ∧ Below w.heap.size w w' ∧ wr.grownBy w' (some w.heap.size) :=
              hcall.mono fun e w' hp => by
                unfold secPost at hp; rw [hs] at hp
                obtain ⟨⟨v0, v1, v2, v3, v4, v5, v6, h1, g0, g1, g2, g3, g4, g5, g6⟩, h2, h3⟩ := hp
                have hb := HBr.out.grown h3 (by omega) (fun k e => by simp at e; omega)
                exact ⟨v0, v1, v2, v3, v4, v5, v6, h1, ⟨g0, g1.sl, g2.sl, g3, g4.sl, g5, g6⟩, g1.old hb hB, g2.old hb hB, g4.old hb hB, h2, hb, h3⟩
            have HMr := hidp hMr
            have HOW := hidp hown
            have HCR := hidp hcr
            clear hcall hs hMr hown hcr hbl
            go_wp2_with fail
            refine hcall'.mono ?_
            rintro e w2 ⟨v0, v1, v2, v3, v4, v5, v6, rfl, ⟨⟨b0, m0, d0, rfl⟩, ⟨b1, m1, d1, rfl⟩, ⟨b2, m2, d2, rfl⟩, ⟨b3, m3, d3, rfl⟩, ⟨b4, m4, d4, rfl⟩, ⟨b5, m5, d5, rfl⟩, ⟨b6, m6, d6, rfl⟩⟩, hd1, hd2, hd4, hrd2, hbl2, hg2⟩
            have HG2 := hidp hg2
            have HB2 := hidp hbl2
            have HRD2 := hidp hrd2
            have HD1 := hidp hd1
            have HD2' := hidp hd2
            have HD4 := hidp hd4
            have hz2 := hg2.size
            have hMh := (hg2.block _ hMs (by simp; omega)).trans HMr.out
            have HMh := hidp hMh
            have hM2 : w2.cell? ⟨w1.heap.size + 1, 2, none⟩ = some (.slice ca ck cc) := by
              rw [cell_of_row w2 _ 2 _ 49 (0, 0) hMh]; exact macRow_2 _ _ _ _
            have HOW2 : Hid (w2.ownsRow (w1.heap.size + 2) 51 3 (.slice ca ck cc) ck xs) := by
              apply hidp
              refine ⟨HOW.out.1, ?_⟩
              rcases HOW.out.2 with h | ⟨g, cap, cur, e1, e2, e3, e4⟩
              · exact .inl h
              · exact .inr ⟨g, cap, cur, e1, e2, (hg2.block g (lt_of_block e3) (by simp; omega)).trans e3, e4⟩
            clear hcall' hd1 hd2 hd4 hrd2 hbl2 hg2 hMh HBr HMr HOW
            by_cases hn0' : s2.n = 0
            · have HL := hidp (show cavL (s.rest.length + 1) s.rest [] = some (acc, s2.rest) by rw [HC.out, HC2.out, if_pos hn0'])
              have hn0i : ((s2.n : Int) == 0) = true := by simp [hn0']
              have hrb := HRD2.out.kept (w' := w2.alloc (Obj.cells #[.slice b0 m0 d0, .slice b1 m1 d1, .slice b2 m2 d2, .slice b3 m3 d3, .slice b4 m4 d4, .slice b5 m5 d5, .slice b6 m6 d6] 42)) (Below.heap_alloc _ _ _ (by omega)) (Below.heap_alloc _ _ _ (by omega))
              obtain ⟨o, hR1, hA1⟩ := hrb
              have hF2 : F.answers w2.tape := by rw [HB2.out.tape]; exact hF
              have hcall := field16 F B o w.heap.size s2.rest _ (by exact hF2) (by omega) hR1 hA1 (by omega)
              have HBX := hidp (HB2.out.alloc (show w.heap.size ≤ w2.heap.size by omega) (Obj.cells #[.slice b0 m0 d0, .slice b1 m1 d1, .slice b2 m2 d2, .slice b3 m3 d3, .slice b4 m4 d4, .slice b5 m5 d5, .slice b6 m6 d6] 42))
              clear hR1 hA1 hn0'
              cases hf : fldL s2.rest with
              | none =>
                have HE := hidp (show loose T = none by unfold loose; rw [HS.out]; dsimp only; rw [HL.out]; dsimp only; rw [hf])
                have hcall' := hcall.mono (R' := fun e w' => ∃ a, e = .returned (.tuple #[.int .u64 0, .slice none 0 0, .iface 57 (.pointer (some a))]) ∧ Below w.heap.size w w') fun e w' hp => by
                  unfold fldPost at hp; rw [hf] at hp
                  obtain ⟨⟨a, s, h1, h2, h4⟩, h3⟩ := hp
                  exact ⟨a, h1, HBX.out.grown h3 (by simp; omega) (fun k e => by simp at e; omega)⟩
                clear hcall hf
                go_wp2_with fail
                refine hcall'.mono ?_
                rintro e w3 ⟨a9, rfl, hb3⟩
                have HB3 := hidp hb3
                have hc := new13 ⟨#[109, 97, 99, 97, 114, 111, 111, 110, 32, 100, 111, 101, 115, 32, 110, 111, 116, 32, 101, 110, 100, 32, 105, 110, 32, 97, 32, 115, 105, 103, 110, 97, 116, 117, 114, 101, 32, 111, 102, 32, 51, 50, 32, 98, 121, 116, 101, 115]⟩ w3
                clear hb3 hcall'
                go_wp2_with fail
                refine hc.mono ?_
                rintro e w4 ⟨rfl, rfl⟩
                have hz3 := HB3.out.size
                go_wp2
                go_ret2
                exact ⟨.inr ⟨fun m h => (by have := HE.out; rw [List.tail_cons, this] at h; cases h), _, _, .inl rfl, rfl⟩, HB3.out.alloc hz3 _⟩
              | some tdr =>
                obtain ⟨t, sig, r⟩ := tdr
                have HLo := hidp (show loose T = if sig.length = 32 then some ⟨s.f1, s.f2, acc, sig⟩ else none by unfold loose; rw [HS.out]; dsimp only; rw [HL.out]; dsimp only; rw [hf])
                have hdn : t = 0 → sig = [] := fun h0 => fld_zero (by rw [hf, h0])
                have hcall' := hcall.mono (R' := fun e w' => ∃ dv, e = .returned (.tuple #[.int .u64 (t : Int), dv, .nilIface]) ∧ DV w dv sig ∧ Below w.heap.size w w' ∧ (∀ k, k < w2.heap.size → k ≠ w.heap.size → w'.heap[k]? = w2.heap[k]?) ∧ w2.heap.size ≤ w'.heap.size) fun e w' hp => by
                  unfold fldPost at hp; rw [hf] at hp
                  obtain ⟨⟨dv, h1, h2⟩, _, h5⟩ := hp
                  refine ⟨dv, h1, ?_, HBX.out.grown h5 (by simp; omega) (fun k e => by simp at e; omega), fun k h1 h2 => (h5.block k (by simp; omega) (by simpa using h2)).trans (Below.heap_alloc _ _ _ h1), by have := h5.size; simp at this; omega⟩
                  rcases h2 with ⟨h0, rfl⟩ | ⟨od, rfl, h6⟩
                  · exact .inl ⟨rfl, hdn h0⟩
                  · exact .inr ⟨B, od, _, _, rfl, rfl, hB, fun j hj => (HBX.out.cell (p := ⟨B, od + j, none⟩) hB).symm.trans (h6 j hj)⟩
                clear hcall hf hdn
                go_wp2_with fail
                refine hcall'.mono ?_
                rintro e w3 ⟨dv, rfl, hdv, hb3, hk3, hz3⟩
                obtain ⟨da, dn, dc, rfl, hdn, hdat⟩ := hdv.view
                have HDN := hidp hdn
                have HDV := hidp hdv
                have HB3 := hidp hb3
                have HK3 := hidp hk3
                have HDAT := hidp hdat
                clear hdn hdv hb3 hk3 hdat hcall'
                have hzw := HB3.out.size
                by_cases h32 : dn = 32
                · subst h32
                  obtain ⟨D, od, rfl, hlie⟩ := HDAT.out (by decide)
                  have hsl : sig.length = 32 := HDN.out.symm
                  have HSL := hidp hsl
                  have hbl : (Lib.byteCells sig).length = 32 := by rw [Lib.byteCells_length]; exact hsl
                  have hMh3 := (HK3.out (w1.heap.size + 1) (by omega) (by omega)).trans HMh.out
                  have HMh3 := hidp hMh3
                  have hown3 := own_kept HOW2.out (w' := w3) fun k h1 h2 => HK3.out k h2 (by omega)
                  have HO3 := hidp hown3
                  have hDw : D < w3.heap.size := by
                    rcases HDV.out with ⟨e, _⟩ | ⟨D', o', m', c', e, _, h, _⟩
                    · simp at e
                    · simp only [Value.slice.injEq, Option.some.injEq, Addr.mk.injEq, and_true] at e
                      obtain ⟨⟨rfl, _⟩, _⟩ := e
                      omega
                  have HSRC := hidp (lies_news (w := w3) (D := D) (o := od) (d := sig) (by
                    rcases HDV.out.up HB3.out with ⟨e, _⟩ | ⟨D', o', m', c', e, _, _, h⟩
                    · simp at e
                    · simp only [Value.slice.injEq, Option.some.injEq, Addr.mk.injEq, and_true] at e
                      obtain ⟨⟨rfl, rfl⟩, _⟩ := e
                      exact h))
                  have HBLen := hidp hbl
                  have HLo2 := hidp (HLo.out.trans (if_pos hsl))
                  clear hsl hMh3 hown3 hbl hlie
                  obtain ⟨w4, HW4, hrun⟩ : ∃ w4, Hid (w4 = w3.setRow (w1.heap.size + 1) (macRow (.string s1) (.slice a2 n2 c2) (.slice ca ck cc) (Lib.byteCells sig).toArray)) ∧ (Builtin.copy_ #[22, 22] 3 #[.slice (some ⟨w1.heap.size + 1, 3, none⟩) 32 32, .slice (some ⟨D, od, none⟩) 32 dc]).run Tryf.prog w3 = .ok (.int .i64 32) w4 := by
                    refine ⟨_, hidp rfl, ?_⟩
                    have h := run_copy_row (P := Tryf.prog) w3 22 22 3 5 (w1.heap.size + 1) 3 32 32 ⟨D, od, none⟩ 32 dc (macRow (.string s1) (.slice a2 n2 c2) (.slice ca ck cc) zero32) 49 (Lib.byteCells sig) Tryf.underlying22 size5 HMh3.out HBLen.out HSRC.out (by rw [HBLen.out, macRow_size]; omega) (bytes_one sig)
                    rw [List.append_assoc, macRow_copy _ _ _ _ HSL.out, HBLen.out] at h
                    exact h
                  have hM4 := setRow_heap w3 (w1.heap.size + 1) _ (macRow (.string s1) (.slice a2 n2 c2) (.slice ca ck cc) (Lib.byteCells sig).toArray) 49 _ HMh3.out
                  rw [← HW4.out] at hM4
                  have hb4 : Below w.heap.size w w4 := by rw [HW4.out]; exact below_setRow HB3.out (by omega) _
                  have hz4 : w4.heap.size = w3.heap.size := by rw [HW4.out]; simp
                  have hk4 : ∀ k, k ≠ w1.heap.size + 1 → w4.heap[k]? = w3.heap[k]? := fun k h => by rw [HW4.out]; exact setRow_other w3 _ k _ h
                  have hmac : MacAt w4 (w1.heap.size + 1) ⟨s.f1, s.f2, acc, sig⟩ := by
                    refine ⟨by omega, ⟨s1, ?_, HS1.out⟩, ⟨.slice a2 n2 c2, ?_, HD2.out.up hb4⟩, ⟨.slice ca ck cc, ?_, ?_⟩, fun j hj => ?_, HSL.out⟩
                    · rw [cell_of_row w4 _ 0 _ 49 (0, 0) hM4]; exact macRow_0 _ _ _ _
                    · rw [cell_of_row w4 _ 1 _ 49 (0, 0) hM4]; exact macRow_1 _ _ _ _
                    · rw [cell_of_row w4 _ 2 _ 49 (0, 0) hM4]; exact macRow_2 _ _ _ _
                    · have ho := own_kept HO3.out (w' := w4) fun k h1 h2 => hk4 k (by omega)
                      rw [HCK.out] at ho ⊢
                      exact HCR.out.at hb4 ho
                    · rw [cell_of_row w4 _ (3 + j) _ 49 (0, 0) hM4]; exact macRow_sig _ _ _ _ _ hj
                  have hsz := loose_size T _ hTle HLo2.out
                  have hby := bytes9 (w1.heap.size + 1) ⟨s.f1, s.f2, acc, sig⟩ w4 hmac hsz.1 hsz.2.1 hsz.2.2.1 hsz.2.2.2
                  have HMac := hidp hmac
                  have HB4 := hidp hb4
                  have hzz : w.heap.size ≤ w4.heap.size := by omega
                  obtain ⟨S, hS⟩ : ∃ S, serB ⟨s.f1, s.f2, acc, sig⟩ = S := ⟨_, rfl⟩
                  have HSr := hidp hS
                  rw [hS] at hby
                  clear hmac hb4 hM4 hk4 hz4 HW4 hsz hS HMh3 HO3
                  go_wp2_with fail
                  refine hby.mono ?_
                  rintro e w5 ⟨g5, n5', c5', rfl, hbuf, hb5⟩
                  have hb5' : Below w.heap.size w w5 := HB4.out.trans (hb5.mono hzz)
                  have heq := equal17 (.slice (some ⟨g5, 0, none⟩) n5' c5') (.slice (some ⟨B, 0, none⟩) n n) S (b :: T) w5 hbuf.dv (.inr ⟨B, 0, n, n, rfl, HN.out, by have := hb5'.size; omega, fun j hj => (hb5'.cell (p := ⟨B, 0 + j, none⟩) hB).trans (HA.out j hj)⟩)
                  have HB5 := hidp hb5'
                  have HMac5 := hidp (HMac.out.up hb5)
                  have hzz5 : w.heap.size ≤ w5.heap.size := hb5'.size
                  clear hbuf hb5 hb5' hby hrun
                  go_wp2_with fail
                  refine heq.mono ?_
                  rintro e w6 ⟨rfl, rfl⟩
                  by_cases hSe : S = b :: T
                  · have hse : (S == b :: T) = true := by simp [hSe]
                    go_wp2
                    go_ret2
                    refine ⟨.inl ⟨w1.heap.size + 1, ⟨s.f1, s.f2, acc, sig⟩, HLo2.out, HSr.out.trans hSe, rfl, HMac5.out⟩, HB5.out⟩
                  · have hse : (S == b :: T) = false := by simp [hSe]
                    have hc := new13 ⟨#[109, 97, 99, 97, 114, 111, 111, 110, 32, 105, 115, 32, 110, 111, 116, 32, 105, 110, 32, 99, 97, 110, 111, 110, 105, 99, 97, 108, 32, 86, 50, 32, 102, 111, 114, 109]⟩ w6
                    go_wp2_with fail
                    refine hc.mono ?_
                    rintro e w7 ⟨rfl, rfl⟩
                    go_wp2
                    go_ret2
                    refine ⟨.inr ⟨fun m h => ?_, _, _, .inl rfl, rfl⟩, HB5.out.alloc hzz5 _⟩
                    rw [List.tail_cons, HLo2.out] at h
                    simp only [Option.some.injEq] at h
                    subst h
                    rw [HSr.out]; exact hSe
                · have hc := new13 ⟨#[109, 97, 99, 97, 114, 111, 111, 110, 32, 100, 111, 101, 115, 32, 110, 111, 116, 32, 101, 110, 100, 32, 105, 110, 32, 97, 32, 115, 105, 103, 110, 97, 116, 117, 114, 101, 32, 111, 102, 32, 51, 50, 32, 98, 121, 116, 101, 115]⟩ w3
                  have h32i : ((dn : Int) != 32) = true := by simp; omega
                  go_wp2_with fail
                  refine hc.mono ?_
                  rintro e w4 ⟨rfl, rfl⟩
                  go_wp2
                  go_ret2
                  refine ⟨.inr ⟨fun m h => ?_, _, _, .inl rfl, rfl⟩, HB3.out.alloc hzw _⟩
                  have := HLo.out
                  rw [if_neg (by rw [← HDN.out]; exact h32)] at this
                  rw [List.tail_cons, this] at h; cases h
            · have hn0i : ((s2.n : Int) == 0) = false := by simp; omega
              have hM3 := cell_keep hM2 (Obj.cells #[.slice b0 m0 d0, .slice b1 m1 d1, .slice b2 m2 d2, .slice b3 m3 d3, .slice b4 m4 d4, .slice b5 m5 d5, .slice b6 m6 d6] 42)
              obtain ⟨s3, hs3⟩ : ∃ s3 : ByteArray, s3.data.toList = s2.f1 ∧ ∀ wx, Below w.heap.size w wx → (convert 22 9 (.slice b1 m1 d1)).run Tryf.prog wx = .ok (.string s3) wx := ⟨⟨s2.f1.toArray⟩, by simp, fun wx hx => conv_str wx _ _ (HD1.out.up hx)⟩
              have hcv := hs3.2 (w2.alloc (.cells #[.slice b0 m0 d0, .slice b1 m1 d1, .slice b2 m2 d2, .slice b3 m3 d3, .slice b4 m4 d4, .slice b5 m5 d5, .slice b6 m6 d6] 42)) (HB2.out.alloc (by omega) _)
              have HS3 := hidp hs3.1
              clear hs3
              obtain ⟨i0, hi, hy0, hy1, hy2⟩ := info_parts info51
              have HI := hidp hi
              clear hi
              go_wp2_with (at_builtin; refine wpList_append_lies _ rfl _ _ 46 rfl (w1.heap.size + 2) 51 i0 (.agg #[.string ⟨#[]⟩, .slice none 0 0, .slice none 0 0]) 3 64 Tryf.underlying46 HI.out hy0 hy1 hy2 rfl (by decide) _ _ _ rfl ((HOW2.out.alloc _).alloc _) ⟨w2.heap.size + 1, 0, none⟩ 1 1 [.string s3, .slice b2 m2 d2, .slice b4 m4 d4] rfl rfl (by have h := cell_three_new (w2.alloc (.cells #[.slice b0 m0 d0, .slice b1 m1 d1, .slice b2 m2 d2, .slice b3 m3 d3, .slice b4 m4 d4, .slice b5 m5 d5, .slice b6 m6 d6] 42)) (.string s3) (.slice b2 m2 d2) (.slice b4 m4 d4) 51; simpa using h) (three_one _ _ _ _ _ _ _) (by decide) ?c3 ?c4 ?c5 _ rfl ?_)
              case c3 => unfold maxLen; omega
              case c4 => omega
              case c5 => first | omega | (simp; omega)
              intro g3 c3' w3 hown3 hgrow hat hlt3
              have hob := own_block HOW2.out
              have HB3 := hidp (((HB2.out.alloc (by omega) _).alloc (by simp; omega) _).grown hgrow (by simp; omega) (fun k e => by have := hob k e; omega))
              have hob' : ∀ k, k < w1.heap.size + 2 → some k ≠ (Value.slice ca ck cc).ownBlock := fun k hk e => by have := hob k e.symm; omega
              have hkeep : ∀ k, k < w2.heap.size → k < w1.heap.size + 2 → w3.heap[k]? = w2.heap[k]? := fun k h1 h2 => (hgrow.block k (by simp; omega) (hob' k h2)).trans ((Below.heap_alloc _ _ _ (by simp; omega)).trans (Below.heap_alloc _ _ _ h1))
              have hMh3 := (hkeep (w1.heap.size + 1) (by omega) (by omega)).trans HMh.out
              have HMh3 := hidp hMh3
              have HRD3 := hidp (HRD2.out.kept (hkeep w.heap.size (by omega) (by omega)) (hkeep B (by omega) (by omega)))
              have hcM : w3.cell? ⟨w1.heap.size + 1, 2, none⟩ = some (.slice ca ck cc) := by
                rw [cell_of_row w3 _ 2 _ 49 (0, 0) hMh3]; exact macRow_2 _ _ _ _
              have hfM : w3.frozen? ⟨w1.heap.size + 1, 2, none⟩ = false := frozen_of_row w3 _ 2 _ 49 hMh3
              have HO3 := hidp hown3
              have hz3 : w2.heap.size ≤ w3.heap.size := by have := hgrow.size; simp at this; omega
              clear hown3 hgrow hat hlt3 hMh3 hkeep hob hob' hcv hM2 hM3
              go_wp2
              go_roundg gk
              case measure => omega
              case rel =>
                refine ⟨s2.rest, acc ++ [⟨s2.f1, s2.f2, s2.f4⟩], some ⟨g3, 0, none⟩, ck + 1, c3', xs ++ [.string s3, .slice b2 m2 d2, .slice b4 m4 d4], ?_, ?_, ?_, ?_, ?_, ?_, ?_, ?_, ?_, ?_⟩
                · have := HCK.out; simp; omega
                · exact HRD3.out.kept (Below.heap_setCell _ _ _ _ (by simp; omega)) (Below.heap_setCell _ _ _ _ (by simp; omega))
                · rw [heap_setCell_same w3 _ 2 _ 49 _ HMh3.out, macRow_set2]
                · exact own_kept HO3.out fun k h1 _ => Below.heap_setCell _ _ _ _ (by simp; omega)
                · exact HCR.out.snoc (by have h1 := HOW2.out.1; have h2 := HCK.out; omega) s3 _ _ ⟨s2.f1, s2.f2, s2.f4⟩ HS3.out HD2'.out HD4.out
                · exact HB3.out.setCell (by simp; omega) _
                · simp; omega
                · simp; omega
                · omega
                · exact hidp (by rw [HC.out, HC2.out, if_neg hn0'])
  · have hx2' : ((x : Int) != 2) = true := by simp; omega
    have hc := new13 ⟨#[110, 111, 116, 32, 97, 32, 86, 50, 32, 109, 97, 99, 97, 114, 111, 111, 110]⟩ w
    go_enter Tryf.func7, Tryf.ntmps7
    go_wp2_with fail
    refine hc.mono ?_
    rintro e w1 ⟨rfl, rfl⟩
    go_wp2
    go_ret2
    refine ⟨.inr ⟨fun m _ h => ?_, _, _, .inl rfl, rfl⟩, (Below.refl _ _).alloc (Nat.le_refl _) _⟩
    simp [serB] at h
    apply hx2
    rw [← HX.out, ← h.1]; rfl
end Go.Proofs.Qxb6604478aFmt
