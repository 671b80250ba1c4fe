import Derived.Test.Qxb6604511aFmtResWalk
namespace Go.Proofs.Qxb6604511aFmt
open Go.RowKit Go.Extern.Stop Go.Stop Go.Extern

/-! ### FnAddThenResultScript -/
/-- What holds ahead of round i: rets and facts own the same i texts, in two rows that are not the finding's. -/
def Inv (base M : Nat) (u : Bool) (i : Nat) (vr : Value) (wr : World) : Prop := ∃ (rs : List ByteArray) (ra fa : Option Addr) (rn rc fn fc : Nat), vr = .slice ra rn rc ∧ rn = i ∧ fn = i ∧ rs.length = i ∧ wr.ownsRow base 9 1 (.slice ra rn rc) rn (strs rs) ∧
  wr.heap[M]? = some (.cells #[.slice fa fn fc, .slice none 0 0, .bool u] 42 (0, 0)) ∧ wr.ownsRow base 9 1 (.slice fa fn fc) fn (strs rs) ∧ (Value.slice fa fn fc).ownBlock ≠ some M ∧ (Value.slice ra rn rc).ownBlock ≠ some M ∧ (∀ k, (Value.slice ra rn rc).ownBlock = some k → (Value.slice fa fn fc).ownBlock ≠ some k) ∧ ∀ x ∈ rs, x.size ≤ 1048800

theorem inv_step {M : Nat} {u : Bool} {i rn rc fn c5 g g7 c7 : Nat} {ra : Option Addr} {rs : List ByteArray} {ret : ByteArray} {w6 w7 : World} {X : Obj} (hrn : rn = i) (hfn : fn = i) (hrl : rs.length = i) (hro : w6.ownsRow M 9 1 (.slice ra rn rc) rn (strs rs))
    (hfo : w6.ownsRow M 9 1 (.slice (some ⟨g, 0, none⟩) (fn + 1) c5) (fn + 1) (strs (rs ++ [ret]))) (hM : w6.heap[M]? = some (.cells #[.slice (some ⟨g, 0, none⟩) (fn + 1) c5, .slice none 0 0, .bool u] 42 (0, 0)))
    (hrM : (Value.slice ra rn rc).ownBlock ≠ some M) (hgr : ∀ k, (Value.slice ra rn rc).ownBlock = some k → k ≠ g) (hgM : g ≠ M) (hrs : ∀ x ∈ rs, x.size ≤ 1048800) (hrt : ret.size ≤ 1048800)
    (hown7 : w7.ownsRow M 9 1 (.slice (some ⟨g7, 0, none⟩) (rn + 1) c7) (rn + 1) (strs rs ++ [.string ret])) (hgrow : (w6.alloc X).grownBy w7 (Value.slice ra rn rc).ownBlock) (hat : (Value.slice ra rn rc).ownBlock = some g7 ∨ g7 = w6.heap.size + 1) :
    Inv M M u (i + 1) (.slice (some ⟨g7, 0, none⟩) (rn + 1) c7) w7 := by
  have hkeep : ∀ k, k < w6.heap.size → some k ≠ (Value.slice ra rn rc).ownBlock → w7.heap[k]? = w6.heap[k]? := fun k h1 h2 => (hgrow.block k (by simp; omega) h2).trans (Below.heap_alloc _ _ _ h1)
  have hMl := lt_row hM
  have hgl := (own_lt hfo g rfl).2
  have hg7M : g7 ≠ M := by
    rcases hat with h | h
    · intro e; subst e; exact hrM h
    · omega
  have hg7g : g7 ≠ g := by
    rcases hat with h | h
    · exact hgr g7 h
    · omega
  refine ⟨rs ++ [ret], some ⟨g7, 0, none⟩, some ⟨g, 0, none⟩, rn + 1, c7, fn + 1, c5, rfl, by omega, by omega, by simp; omega, by rw [← strs_snoc]; exact hown7, ?_, ?_, ?_, ?_, ?_, ?_⟩
  · exact (hkeep M hMl (fun h => hrM h.symm)).trans hM
  · exact own_kept hfo fun k hk => by
      simp only [Value.ownBlock, Option.some.injEq] at hk
      subst hk
      exact hkeep _ hgl (fun h => hgr g h.symm rfl)
  · simpa [Value.ownBlock] using hgM
  · simpa [Value.ownBlock] using hg7M
  · intro k hk
    simp only [Value.ownBlock, Option.some.injEq] at hk
    intro h
    simp only [Value.ownBlock, Option.some.injEq] at h
    omega
  · intro x hx
    simp at hx
    rcases hx with hx | rfl
    · exact hrs x hx
    · exact hrt

theorem new3 (w : World) (x y z : Value) (t : TypeId) : (w.alloc (.cells #[x, y, z] t)).cell? ⟨w.heap.size, 2, none⟩ = some z := by simp
set_option maxHeartbeats 4000000 in
set_option maxRecDepth 100000 in
theorem law4 (F : Interp) (v : Value) (xs : List ByteArray) (u : Bool) (row : ByteArray) (w : World) (hF : F.told.answers w.tape) (hv : StrIn w v xs) :
    Calls Tryf.prog 4 #[v, .bool u, .string row] w fun e w' => lawPost w e w' := by
  obtain ⟨i0, hi0, hz0, hz1, hz2⟩ := info_parts info9
  obtain ⟨a, n, c, rfl, hn, _⟩ := hv.strs
  have hz15 := zz15 u _ xs row w hv.strs
  have HV := hidp hv
  have HN := hidp hn
  have HI := hidp hi0
  clear hv hn hi0
  go_enter Tryf.func4, Tryf.ntmps4
  go_wp2_with fail
  refine hz15.mono ?_
  rintro e w0 ⟨⟨b, rfl, hb⟩, rfl⟩
  cases b with
  | false =>
    go_wp2
    go_ret
    exact ⟨rfl, Below.refl _ _⟩
  | true =>
    have hsz := hb rfl
    clear hz15 hb
    by_cases hn6 : 65536 < n
    · have hn6' : (65536 : Int) < (n : Int) := by omega
      go_wp2
      go_ret
      exact ⟨rfl, Below.refl _ _⟩
    · have hn6' : ¬ (65536 : Int) < (n : Int) := by omega
      by_cases hr6 : 65536 < row.size
      · have hr6' : (65536 : Int) < (row.size : Int) := by omega
        go_wp2
        go_ret
        exact ⟨rfl, Below.refl _ _⟩
      · have hr6' : ¬ (65536 : Int) < (row.size : Int) := by omega
        have hz6 := zz6 _ xs w0 HV.out.strs (by have := HN.out; omega) (by omega)
        go_wp2_with fail
        refine hz6.mono ?_
        rintro e w1 ⟨⟨r, rfl, hr⟩, rfl⟩
        clear hz6
        by_cases hrf : 1048576 < r + row.size
        · have hrf' : (1048576 : Int) < (r : Int) + (row.size : Int) := by omega
          go_wp2
          go_ret
          exact ⟨rfl, Below.refl _ _⟩
        · have hrf' : ¬ (1048576 : Int) < (r : Int) + (row.size : Int) := by omega
          have hcl := clone7 _ xs w1 HV.out (by omega)
          go_wp2_with fail
          refine hcl.mono ?_
          rintro e w2 ⟨⟨v1, a1, n1, c1, rfl, rfl, hn1, hown1⟩, hb2⟩
          have HO1 := hidp hown1
          have HN1 := hidp hn1
          have HB2 := hidp hb2
          have hz2' := hb2.size
          have hn1' : n1 ≤ 65536 := by have h1 := HN.out; omega
          have hnw := new8 none none 0 0 0 0 u w2
          clear hcl hown1 hn1 hb2
          go_wp2_with fail
          refine hnw.mono ?_
          rintro e w3 ⟨rfl, hw3⟩
          have HW3 := hidp hw3
          have hmk := run_make (P := Tryf.prog) w3 22 9 i0 (.string ⟨#[]⟩) Tryf.underlying22 HI.out hz0 .i64 .i64 0 (n1 : Int) (by omega) (by omega) (by rw [hz2]; omega) (by omega)
          rw [hz1] at hmk
          simp only [Int.toNat_natCast, Int.toNat_zero, Nat.mul_one] at hmk
          obtain ⟨X, hX⟩ : ∃ X, X = Obj.cells (madeCells (Value.string ⟨#[]⟩).cells n1) 9 := ⟨_, rfl⟩
          rw [← hX] at hmk
          have hInv : Inv w2.heap.size w2.heap.size u 0 (.slice (some ⟨w3.heap.size, 0, none⟩) 0 n1) (w3.alloc X) := by
            refine ⟨[], some ⟨w3.heap.size, 0, none⟩, none, 0, n1, 0, 0, rfl, rfl, rfl, rfl, ⟨rfl, .inr ⟨w3.heap.size, n1, madeCells (Value.string ⟨#[]⟩).cells n1, rfl, ?_, ?_, Nat.zero_le _, ?_, ?_, rfl⟩⟩, ?_, ⟨rfl, .inl ⟨rfl, rfl⟩⟩, by simp [Value.ownBlock], ?_, fun k _ => by simp [Value.ownBlock], by simp⟩
            · rw [HW3.out]; simp
            · rw [heap_alloc_new, hX]
            · unfold maxLen; omega
            · rw [size_madeCells]; omega
            · rw [Below.heap_alloc _ _ _ (by rw [HW3.out]; simp), HW3.out]; exact heap_alloc_new _ _
            · rw [HW3.out]; simp [Value.ownBlock]
          have HInv := hidp hInv
          have HBL0 := hidp (show Below w2.heap.size w2 (w3.alloc X) by
            have h1 : Below w2.heap.size w2 w3 := by rw [HW3.out]; exact (Below.refl _ _).alloc (Nat.le_refl _) _
            exact h1.alloc h1.size X)
          clear hw3 hInv hX
          go_wp2_with fail
          go_loopw [8, 9] (fun vr vi wr => ∃ i : Nat, vi = .int .i64 (i : Int) ∧ i ≤ n1 ∧ Inv w2.heap.size w2.heap.size u i vr wr ∧ Below w2.heap.size w2 wr) (fun _ vi _ => n1 - (intOf vi).toNat)
          case atStart => exact ⟨0, rfl, Nat.zero_le _, HInv.out, HBL0.out⟩
          case round =>
            obtain ⟨i, rfl, hi, hinv, hbl⟩ := hrel
            obtain ⟨rs, ra, fa, rn, rc, fn, fc, rfl, hrn, hfn, hrl, hro, hM, hfo, hfM, hrM, hrf2, hrs⟩ := hinv
            have hMl := lt_row hM
            have hFr : F.told.answers wr.tape := by rw [hbl.tape, HB2.out.tape]; exact hF
            have hz := hbl.size
            by_cases hlt : i < n1
            · have hoa := own_kept HO1.out (w' := wr) fun k hk => hbl.block k (own_lt HO1.out k hk).2
              obtain ⟨a1', n1', c1', e1, hnq, hcf⟩ := (own_in HN1.out hoa).strs
              simp only [Value.slice.injEq] at e1
              obtain ⟨rfl, rfl, rfl⟩ := e1
              clear hnq
              obtain ⟨ad, rfl, hcs⟩ := hcf (by omega)
              have hiL : i < xs.length := by rw [← HN1.out]; exact hlt
              have hci := hcs i hiL
              have hxs := sizes_mem xs i hiL
              obtain ⟨x, hx⟩ : ∃ x, xs[i] = x := ⟨_, rfl⟩
              rw [hx] at hci hxs
              have hxb : x.size ≤ 1048576 := by omega
              have hlt' : (i : Int) < (n1 : Int) := by omega
              have had := add9 F w2.heap.size w2.heap.size fn fc fa (.slice none 0 0) u x (strs rs) wr hFr hxb hM hfo hfM (Nat.le_refl _) (by omega)
              have HRO := hidp hro
              have HFM := hidp hfM
              have HRM := hidp hrM
              have HRF := hidp hrf2
              have HRS := hidp hrs
              have HBL := hidp hbl
              have HRN := hidp hrn
              have HFN := hidp hfn
              have HRL := hidp hrl
              have hrb : rn ≤ 65536 := by omega
              clear hx hcs hcf hoa hM hfo hro hfM hrM hrf2 hrs hbl hrn hfn hrl
              go_wp2_with fail
              refine had.mono ?_
              rintro e w5 ⟨ret, g, c5, rfl, hsp, hrt, hM5, hown5, hgM, hgA, hkp, hb5⟩
              have HO5 := hidp (show w5.ownsRow w2.heap.size 9 1 (.slice (some ⟨g, 0, none⟩) (fn + 1) c5) (fn + 1) (strs (rs ++ [ret])) by rw [← strs_snoc]; exact hown5)
              have HRO5 := hidp (own_kept HRO.out (w' := w5) fun k hk => hkp k (own_lt HRO.out k hk).2 (fun e => HRM.out (by rw [hk, e])) (fun e => HRF.out k hk e.symm))
              have HGR := hidp (show ∀ k, (Value.slice ra rn rc).ownBlock = some k → k ≠ g from fun k hk e => by
                subst e
                rcases hgA with h | h
                · exact HRF.out k hk h
                · have := (own_lt HRO.out k hk).2; omega)
              have HM5 := hidp hM5
              have HSP := hidp hsp
              have HB5 := hidp (HBL.out.trans hb5)
              have hz5 := hb5.size
              clear had hsp hM5 hown5 hgA hkp hb5
              have hcu := cut11 x w5 (by omega)
              cases hct : cut x with
              | none =>
                have hcu' := hcu.mono (R' := fun e w' => e = .returned (.tuple #[.int .i64 (x.size : Int), .bool false]) ∧ Below w5.heap.size w5 w') fun e w' ⟨h1, h2⟩ => by
                  unfold cutPost at h1; rw [hct] at h1
                  exact ⟨h1, h2⟩
                have hre : ret = x := by
                  have h := HSP.out
                  unfold shortPost at h; rw [hct] at h
                  simpa using h
                subst hre
                clear hcu hct HSP
                go_wp2_with fail
                refine hcu'.mono ?_
                rintro e w6 ⟨rfl, hb6⟩
                have HRO6 := hidp (own_kept HRO5.out (w' := w6) fun k hk => hb6.block k (own_lt HRO5.out k hk).2)
                have HO6 := hidp (own_kept HO5.out (w' := w6) fun k hk => hb6.block k (own_lt HO5.out k hk).2)
                have HM6 := hidp ((hb6.block w2.heap.size (lt_row HM5.out)).trans HM5.out)
                have HB6 := hidp (HB5.out.trans (hb6.mono (by omega)))
                have hz6 := hb6.size
                clear hb6 hcu'
                go_wp2_with (at_builtin; refine wpList_append_lies _ rfl _ _ 22 rfl w2.heap.size 9 i0 (.string ⟨#[]⟩) 1 16 Tryf.underlying22 HI.out hz0 hz1 hz2 rfl (by decide) _ _ _ rfl (HRO6.out.alloc _) ⟨w6.heap.size, 0, none⟩ 1 1 [Value.string ret] rfl rfl (cell_one_new _ _ _) (one_str ret) (by decide) ?c3 ?c4 ?c5 _ rfl ?_)
                case c3 => unfold maxLen; omega
                case c4 => omega
                case c5 => first | omega | (simp; omega)
                intro g7 c7 w7 hown7 hgrow hat _
                have HI7 := hidp (inv_step HRN.out HFN.out HRL.out HRO6.out HO6.out HM6.out HRM.out HGR.out hgM HRS.out hrt hown7 hgrow hat)
                have HB7 := hidp ((HB6.out.alloc (by omega) _).grown hgrow (by simp; omega) (fun k e => (own_lt HRO6.out k e).1))
                clear hown7 hgrow hat
                go_wp2
                go_roundw
                case rel => exact ⟨i + 1, by go_num, by omega, HI7.out, HB7.out⟩
                case measure => simp [intOf]; omega
              | some k =>
                have hkl := cut_lt hct
                have hcu' := hcu.mono (R' := fun e w' => e = .returned (.tuple #[.int .i64 (k : Int), .bool true]) ∧ Below w5.heap.size w5 w') fun e w' ⟨h1, h2⟩ => by
                  unfold cutPost at h1; rw [hct] at h1
                  exact ⟨h1, h2⟩
                obtain ⟨t, ht, hre⟩ : ∃ t : ByteArray, t.size ≤ 100 ∧ ret = x.extract 0 k ++ dots ++ t ++ more := by
                  have h := HSP.out
                  unfold shortPost at h; rw [hct] at h
                  obtain ⟨t, h1, _, h3⟩ := h
                  exact ⟨t, h1, by simpa using h3⟩
                have hhs : (x.extract 0 k ++ dots).size = k + 8 := by
                  rw [ByteArray.size_append, ByteArray.size_extract]
                  have e1 : dots.size = 8 := rfl
                  omega
                have hsr : ret.size = k + 8 + t.size + 5 := by
                  rw [hre, ByteArray.size_append, ByteArray.size_append, hhs]
                  rfl
                have hpx := fun wx => prefix13 ret (x.extract 0 k ++ dots) wx (by rw [hhs]; omega) (by rw [hre]; exact head_eq _ _ _ _)
                unfold dots at hpx
                clear hcu hct HSP hre hhs hsr
                go_wp2_with fail
                refine hcu'.mono ?_
                rintro e w6 ⟨rfl, hb6⟩
                have HRO6 := hidp (own_kept HRO5.out (w' := w6) fun k hk => hb6.block k (own_lt HRO5.out k hk).2)
                have HO6 := hidp (own_kept HO5.out (w' := w6) fun k hk => hb6.block k (own_lt HO5.out k hk).2)
                have HM6 := hidp ((hb6.block w2.heap.size (lt_row HM5.out)).trans HM5.out)
                have HB6 := hidp (HB5.out.trans (hb6.mono (by omega)))
                have hz6 := hb6.size
                clear hb6 hcu'
                go_wp2_with fail
                refine (hpx _).mono ?_
                rintro e w6' ⟨rfl, rfl⟩
                clear hpx
                go_wp2_with (at_builtin; refine wpList_append_lies _ rfl _ _ 22 rfl w2.heap.size 9 i0 (.string ⟨#[]⟩) 1 16 Tryf.underlying22 HI.out hz0 hz1 hz2 rfl (by decide) _ _ _ rfl (HRO6.out.alloc _) ⟨w6'.heap.size, 0, none⟩ 1 1 [Value.string ret] rfl rfl (cell_one_new _ _ _) (one_str ret) (by decide) ?c3 ?c4 ?c5 _ rfl ?_)
                case c3 => unfold maxLen; omega
                case c4 => omega
                case c5 => first | omega | (simp; omega)
                intro g7 c7 w7 hown7 hgrow hat _
                have HI7 := hidp (inv_step HRN.out HFN.out HRL.out HRO6.out HO6.out HM6.out HRM.out HGR.out hgM HRS.out hrt hown7 hgrow hat)
                have HB7 := hidp ((HB6.out.alloc (by omega) _).grown hgrow (by simp; omega) (fun k e => (own_lt HRO6.out k e).1))
                clear hown7 hgrow hat
                go_wp2
                go_roundw
                case rel => exact ⟨i + 1, by go_num, by omega, HI7.out, HB7.out⟩
                case measure => simp [intOf]; omega
            · have hlt' : ¬ (i : Int) < (n1 : Int) := by omega
              have hc0 : wr.cell? ⟨w2.heap.size, 0, none⟩ = some (.slice fa fn fc) := by rw [cell_of_row wr _ 0 _ 42 (0, 0) hM]; rfl
              have hfc := facts10 w2.heap.size _ wr hc0
              have hS1 := (own_in (by omega) hfo).strs
              have hS2 := (own_in (by omega) hro).strs
              have hrl6 : rs.length ≤ 65536 := by omega
              have heq := equal16 _ _ rs wr hS1 hS2 (by omega)
              have hfl : fn = rs.length := by omega
              have HS2 := hidp hS2
              have HM := hidp hM
              have HFO := hidp hfo
              have HRO := hidp hro
              have HRS := hidp hrs
              have HFL := hidp hfl
              have HBL := hidp hbl
              clear hc0 hS1 hS2 hM hfo hro hrs hfl hbl hfM hrM hrf2 hrn hfn hrl
              go_wp2_with fail
              refine hfc.mono ?_
              rintro e w4 ⟨rfl, rfl⟩
              go_wp2_with fail
              refine heq.mono ?_
              rintro e w5 ⟨rfl, q, hw5⟩
              have hM5 : w5.heap[w2.heap.size]? = some (.cells #[.slice fa fn fc, .slice none 0 0, .bool u] 42 (0, 0)) := by rw [hw5]; exact HM.out
              have hO5 : w5.ownsRow w2.heap.size 9 1 (.slice fa fn fc) fn (strs rs) := by rw [hw5]; exact HFO.out
              have hR5 : w5.ownsRow w2.heap.size 9 1 (.slice ra rn rc) rn (strs rs) := by rw [hw5]; exact HRO.out
              have hB5 : Below w2.heap.size w2 w5 := by rw [hw5]; exact ⟨HBL.out.os, HBL.out.tape, HBL.out.output, HBL.out.size, HBL.out.block⟩
              have hres := result17 w2.heap.size w2.heap.size fn fc fa u row rs w5 HFL.out hM5 hO5 hrl6 HRS.out
              have HR5 := hidp hR5
              have HB5 := hidp hB5
              have hz5 := hB5.size
              clear hw5 hM5 hO5 hR5 hB5 hfc heq
              obtain ⟨D, hD⟩ : ∃ D : ByteArray, ⟨(jn rs).toArray⟩ = D := ⟨_, rfl⟩
              have HD := hidp hD
              rw [hD] at hres
              clear hD
              go_wp2_with fail
              refine hres.mono ?_
              rintro e w6 ⟨rfl, hb6⟩
              have HB6 := hidp (HB2.out.trans ((HB5.out.trans (hb6.mono hz5)).mono hz2'))
              have hR6 := own_kept HR5.out (w' := w6) fun k hk => hb6.block k (own_lt HR5.out k hk).2
              have HR6 := hidp hR6
              have hz6 := hb6.size
              have hrn : rn = rs.length := by have := HRO.out.1; simp [strs] at this; omega
              have hj := fun (wx : World) (h : wx.ownsRow w2.heap.size 9 1 (.slice ra rn rc) rn (strs rs)) => join18 _ rs wx (own_in hrn h).strs hrl6 HRS.out
              rw [HD.out] at hj
              clear hb6 hres hR6 hrn
              unfold res3
              cases u with
              | false =>
                go_wp2_with fail
                go_region_with (go_at_call 18; refine (hj _ ?_).mono ?_; exact (World.ownsRow.alloc HR6.out _); rintro e w7 ⟨rfl, hb7⟩; have hc7 : w7.cell? ⟨w6.heap.size, 2, none⟩ = some (.string D) := (hb7.cell (p := ⟨w6.heap.size, 2, none⟩) (by simp)).trans (new3 w6 _ _ _ 38))
                all_goals
                  have HB7 := hidp (HB6.out.trans ((((Below.refl w6.heap.size w6).alloc (Nat.le_refl _) _).drew.trans (hb7.mono (by simp))).mono HB6.out.size))
                  clear hb7 hc7
                  go_wp2
                  go_ret
                  exact ⟨rfl, HB7.out⟩
              | true =>
                go_wp2_with fail
                go_region_with (go_at_call 18; refine (hj _ ?_).mono ?_; exact (World.ownsRow.alloc HR6.out _); rintro e w7 ⟨rfl, hb7⟩; have hc7 : w7.cell? ⟨w6.heap.size, 2, none⟩ = some (.string D) := (hb7.cell (p := ⟨w6.heap.size, 2, none⟩) (by simp)).trans (new3 w6 _ _ _ 38))
                all_goals
                  have HB7 := hidp (HB6.out.trans ((((Below.refl w6.heap.size w6).alloc (Nat.le_refl _) _).drew.trans (hb7.mono (by simp))).mono HB6.out.size))
                  clear hb7 hc7
                  go_wp2
                  go_ret
                  exact ⟨rfl, HB7.out⟩
end Go.Proofs.Qxb6604511aFmt
