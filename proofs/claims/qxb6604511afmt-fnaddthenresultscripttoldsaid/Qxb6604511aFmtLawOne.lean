import Derived.Test.Qxb6604511aFmtAddWalk
namespace Go.Proofs.Qxb6604511aFmt
open Go.RowKit Go.Extern.Stop Go.Stop Go.Extern

/-! ### FnAddRecordsShortened -/
def StrIn (w : World) (v : Value) (xs : List ByteArray) : Prop := (v = .slice none 0 0 ∧ xs = []) ∨ ∃ a n c, v = .slice (some a) n c ∧ n = xs.length ∧ ∀ j (h : j < xs.length), w.cell? (a.add j) = some (.string xs[j])
theorem StrIn.strs {w : World} {v : Value} {xs : List ByteArray} (h : StrIn w v xs) : Strs w v xs := by
  rcases h with ⟨rfl, rfl⟩ | ⟨a, n, c, rfl, hn, hc⟩
  · exact ⟨_, _, _, rfl, rfl, fun h => by omega⟩
  · exact ⟨_, _, _, rfl, hn, fun _ => ⟨a, rfl, hc⟩⟩
theorem own_in {w : World} {B n c : Nat} {a : Option Addr} {xs : List ByteArray} (hn : n = xs.length) (h : w.ownsRow B 9 1 (.slice a n c) n (strs xs)) : StrIn w (.slice a n c) xs := by
  have h0 := h
  rcases h.2 with ⟨e, h0⟩ | ⟨g, cap, cur, e, _⟩
  · left
    refine ⟨e, List.eq_nil_of_length_eq_zero (by omega)⟩
  · simp only [Value.slice.injEq] at e
    obtain ⟨rfl, _, rfl⟩ := e
    refine .inr ⟨_, _, _, rfl, hn, fun j hj => ?_⟩
    have hadd : (⟨g, 0, none⟩ : Addr).add j = ⟨g, j, none⟩ := by unfold Addr.add; split <;> simp_all
    rw [hadd]
    exact own_cell h0 j hj
theorem strs_snoc (xs : List ByteArray) (s : ByteArray) : strs xs ++ [.string s] = strs (xs ++ [s]) := by simp [strs]
def oneMore : ByteArray := ⟨#[49, 32, 99, 104, 97, 114, 97, 99, 116, 101, 114, 32, 109, 111, 114, 101]⟩
theorem one_more : oneChar ++ more = oneMore := by decide
theorem head_eq (a b t m : ByteArray) : (a ++ b ++ t ++ m).extract 0 (a ++ b).size = a ++ b := by
  have h : a ++ b ++ t ++ m = (a ++ b) ++ (t ++ m) := ByteArray.append_assoc
  rw [h]
  exact ByteArray.extract_append_eq_left rfl
theorem tail_eq (a m : ByteArray) : (a ++ m).extract ((a ++ m).size - m.size) (a ++ m).size = m := by
  rw [ByteArray.size_append]
  exact ByteArray.extract_append_eq_right (by omega) rfl
def lawPost (w : World) (e : Ending) (w' : World) : Prop := e = .returned (.bool true) ∧ Below w.heap.size w w'
theorem retb {a b : Bool} (h : a = b) : Ending.returned (.bool a) = .returned (.bool b) := by rw [h]

set_option maxHeartbeats 2000000 in
set_option maxRecDepth 100000 in
theorem law3 (F : Interp) (v : Value) (xs : List ByteArray) (f : ByteArray) (w : World) (hF : F.told.answers w.tape) (hv : StrIn w v xs) :
    Calls Tryf.prog 3 #[v, .string f] w fun e w' => lawPost w e w' := by
  obtain ⟨a, n, c, rfl, hn, _⟩ := hv.strs
  have hz5 := zz5 _ xs f w hv.strs
  have HV := hidp hv
  have HN := hidp hn
  clear hv hn
  go_enter Tryf.func3, Tryf.ntmps3
  go_wp2_with fail
  refine hz5.mono ?_
  rintro e w0 ⟨⟨b, rfl, hb⟩, rfl⟩
  cases b with
  | false =>
    go_wp2
    go_ret
    exact ⟨rfl, Below.refl _ _⟩
  | true =>
    have hsz := hb rfl
    have hnb : n ≤ 1048576 := by have := HN.out; omega
    have hfb : f.size ≤ 1048576 := by omega
    have hfb' : ¬ (1048576 : Int) < (f.size : Int) := by omega
    clear hz5 hb
    by_cases hn6 : 65536 < n
    · have hn6' : (65536 : Int) < (n : Int) := by omega
      go_wp2
      go_ret
      exact ⟨rfl, Below.refl _ _⟩
    · have hn6' : ¬ (65536 : Int) < (n : Int) := by omega
      have hz6 := zz6 _ xs w0 HV.out.strs (by have := HN.out; omega) (by omega)
      go_wp2_with fail
      refine hz6.mono ?_
      rintro e w1 ⟨⟨r, rfl, hr⟩, rfl⟩
      clear hz6
      by_cases hrf : 1048576 < r + f.size
      · have hrf' : (1048576 : Int) < (r : Int) + (f.size : Int) := by omega
        go_wp2
        go_ret
        exact ⟨rfl, Below.refl _ _⟩
      · have hrf' : ¬ (1048576 : Int) < (r : Int) + (f.size : Int) := by omega
        have hcl := clone7 _ xs w1 HV.out (by omega)
        go_wp2_with fail
        refine hcl.mono ?_
        rintro e w2 ⟨⟨v1, a1, n1, c1, rfl, rfl, hn1, hown1⟩, hb2⟩
        have HO1 := hidp hown1
        have HN1 := hidp hn1
        have HB2 := hidp hb2
        have hz2 := hb2.size
        have hcl2 := clone7 _ xs w2 (own_in hn1 hown1) (by omega)
        clear hcl hown1 hn1 hb2
        go_wp2_with fail
        refine hcl2.mono ?_
        rintro e w3 ⟨⟨v2, a2, n2, c2, rfl, rfl, hn2, hown2⟩, hb3⟩
        have HO2 := hidp hown2
        have HN2 := hidp hn2
        have HB3 := hidp hb3
        have hz3 := hb3.size
        have hnw := new8 a2 none n2 0 c2 0 false w3
        clear hcl2 hown2 hn2 hb3
        go_wp2_with fail
        refine hnw.mono ?_
        rintro e w4 ⟨rfl, hw4⟩
        have hM4 : w4.heap[w3.heap.size]? = some (.cells #[.slice a2 n2 c2, .slice none 0 0, .bool false] 42 (0, 0)) := by rw [hw4]; exact heap_alloc_new _ _
        have hb4 : Below w3.heap.size w3 w4 := by rw [hw4]; exact (Below.refl _ _).alloc (Nat.le_refl _) _
        have hz4 : w4.heap.size = w3.heap.size + 1 := by rw [hw4]; simp
        have ho4 : w4.ownsRow w2.heap.size 9 1 (.slice a2 n2 c2) n2 (strs xs) := own_kept HO2.out fun k hk => hb4.block k (own_lt HO2.out k hk).2
        have hne : (Value.slice a2 n2 c2).ownBlock ≠ some w3.heap.size := fun h => by have := (own_lt HO2.out _ h).2; omega
        have hF4 : F.told.answers w4.tape := by rw [hb4.tape, HB3.out.tape, HB2.out.tape]; exact hF
        have hn2' : n2 ≤ 1048576 := by have h1 := HN2.out; have h2 := HN.out; omega
        have had := add9 F w2.heap.size w3.heap.size n2 c2 a2 (.slice none 0 0) false f (strs xs) w4 hF4 hfb hM4 ho4 hne (by omega) hn2'
        have HB4 := hidp hb4
        clear hw4 hM4 hb4 ho4 hne hnw
        go_wp2_with fail
        refine had.mono ?_
        rintro e w5 ⟨ret, g, c5, rfl, hsp, hrs, hM5, hown5, hgM, _, _, hb5⟩
        have HB5 := hidp hb5
        have HO5 := hidp (show w5.ownsRow w2.heap.size 9 1 (.slice (some ⟨g, 0, none⟩) (n2 + 1) c5) (n2 + 1) (strs (xs ++ [ret])) by rw [← strs_snoc]; exact hown5)
        have HSP := hidp hsp
        have hc5 : w5.cell? ⟨w3.heap.size, 0, none⟩ = some (.slice (some ⟨g, 0, none⟩) (n2 + 1) c5) := by rw [cell_of_row w5 _ 0 _ 42 (0, 0) hM5]; rfl
        have hz5 := hb5.size
        have hfc := facts10 w3.heap.size _ w5 hc5
        have HO1' := hidp (own_kept HO1.out (w' := w5) fun k hk => (hb5.block k (own_lt HO1.out k hk).2).trans ((HB4.out.block k (by have := (own_lt HO1.out k hk).2; omega)).trans (HB3.out.block k (own_lt HO1.out k hk).2)))
        have HBt := hidp (HB2.out.trans ((HB3.out.trans ((HB4.out.mono hz3).trans hb5)).mono hz2))
        clear had hsp hM5 hown5 hb5 hc5 HV HO1 HO2 HB2 HB3 HB4
        go_wp2_with fail
        refine hfc.mono ?_
        rintro e w6 ⟨rfl, rfl⟩
        have hnn : n1 = n2 := by have h1 := HN1.out; have h2 := HN2.out; omega
        subst hnn
        clear hfc
        obtain ⟨a1', n1', c1', e1, hn1', hcf⟩ := (own_in HN1.out HO1'.out).strs
        simp only [Value.slice.injEq] at e1
        obtain ⟨rfl, rfl, rfl⟩ := e1
        clear hn1'
        have HNx := hidp (show (xs ++ [ret]).length = n1 + 1 by simp; exact HN1.out.symm)
        have HGot := hidp (fun j (hj : j < (xs ++ [ret]).length) => own_cell HO5.out j hj)
        have HFx := hidp hcf
        clear hcf
        go_wp2_with fail
        go_loopw [9] (fun vi wr => ∃ i q : Nat, vi = .int .i64 (i : Int) ∧ i ≤ n1 ∧ wr = w6.drewN q) (fun vi _ => n1 - (intOf vi).toNat)
        case atStart => exact ⟨0, 0, rfl, Nat.zero_le _, rfl⟩
        case round =>
          obtain ⟨i, q, rfl, hi, rfl⟩ := hrel
          by_cases hlt : i < n1
          · obtain ⟨ad, rfl, hcs⟩ := HFx.out (by omega)
            have hiL : i < xs.length := by rw [← HN1.out]; exact hlt
            have hca := hcs i hiL
            have hcg := HGot.out i (by simp; omega)
            rw [List.getElem_append_left hiL] at hcg
            obtain ⟨x, hx⟩ : ∃ x, xs[i] = x := ⟨_, rfl⟩
            rw [hx] at hca hcg
            have hlt' : (i : Int) < (n1 : Int) := by omega
            have hlt2 : (i : Int) < (n1 : Int) + 1 := by omega
            clear hcs hx
            go_wp2
            go_quiet (fail)
            go_wp2
            go_roundw
            case rel => exact ⟨i + 1, _, by go_num, by omega, rfl⟩
            case measure => simp [intOf]; omega
          · have hlt' : ¬ (i : Int) < (n1 : Int) := by omega
            have hcg := HGot.out n1 (by rw [HNx.out]; omega)
            have hgr : (xs ++ [ret])[n1]'(by rw [HNx.out]; omega) = ret := by
              have := HN1.out
              rw [List.getElem_append_right (by omega)]
              simp
            rw [hgr] at hcg
            obtain ⟨w7, hw7⟩ : ∃ w7, w7 = w6.drewN q := ⟨_, rfl⟩
            have hcg7 : w7.cell? ⟨g, n1, none⟩ = some (.string ret) := by rw [hw7]; exact hcg
            have HB7 : Hid (Below w1.heap.size w1 w7) := hidp (by rw [hw7]; exact ⟨HBt.out.os, HBt.out.tape, HBt.out.output, HBt.out.size, HBt.out.block⟩)
            rw [← hw7]
            have hcu := cut11 f w7 (by omega)
            clear hcg hgr hw7
            cases hct : cut f with
            | none =>
              have hcu' := hcu.mono (R' := fun e w' => e = .returned (.tuple #[.int .i64 (f.size : Int), .bool false]) ∧ Below w1.heap.size w1 w') fun e w' ⟨h1, h2⟩ => by
                unfold cutPost at h1; rw [hct] at h1
                exact ⟨h1, HB7.out.trans (h2.mono HB7.out.size)⟩
              have hre : ret = f := by
                have h := HSP.out
                unfold shortPost at h; rw [hct] at h
                simpa using h
              subst hre
              clear hcu hct HSP
              go_wp2_with fail
              refine hcu'.mono ?_
              rintro e w8 ⟨rfl, hb8⟩
              have HB8 := hidp hb8
              clear hb8 hcu'
              go_wp2
              go_ret
              exact ⟨rfl, HB8.out⟩
            | some k =>
              have hkl := cut_lt hct
              have hcu' := hcu.mono (R' := fun e w' => e = .returned (.tuple #[.int .i64 (k : Int), .bool true]) ∧ Below w1.heap.size w1 w') fun e w' ⟨h1, h2⟩ => by
                unfold cutPost at h1; rw [hct] at h1
                exact ⟨h1, HB7.out.trans (h2.mono HB7.out.size)⟩
              obtain ⟨t, ht, ht1, hre⟩ : ∃ t : ByteArray, t.size ≤ 100 ∧ (Lib.runeCount (f.extract k f.size) = 1 → t = oneChar) ∧ ret = f.extract 0 k ++ dots ++ t ++ more := by
                have h := HSP.out
                unfold shortPost at h; rw [hct] at h
                obtain ⟨t, h1, h2, h3⟩ := h
                exact ⟨t, h1, h2, by simpa using h3⟩
              have HRE := hidp hre
              have HT1 := hidp ht1
              clear hcu hct HSP hre ht1
              go_wp2_with fail
              refine hcu'.mono ?_
              rintro e w8 ⟨rfl, hb8⟩
              have HB8 := hidp hb8
              have hz8 := hb8.size
              have hru := runes12 (f.extract k f.size) w8 (by simp; omega)
              have hle := Lib.runeCount_le (f.extract k f.size)
              clear hb8 hcu'
              have hle2 : Lib.runeCount (f.extract k f.size) ≤ 1048576 := by simp at hle; omega
              obtain ⟨r2, hr2⟩ : ∃ r2, Lib.runeCount (f.extract k f.size) = r2 := ⟨_, rfl⟩
              rw [hr2] at hru hle2
              have HR2 := hidp hr2
              clear hle hr2
              go_wp2_with fail
              refine hru.mono ?_
              rintro e w9 ⟨rfl, hb9⟩
              have HB9 := hidp (HB8.out.trans (hb9.mono hz8))
              have hhs : (f.extract 0 k ++ dots).size = k + 8 := by
                rw [ByteArray.size_append, ByteArray.size_extract]
                have e1 : dots.size = 8 := rfl
                omega
              clear hb9 hru
              by_cases hr1 : r2 = 1
              · subst hr1
                have hx : ret = f.extract 0 k ++ ⟨#[46, 46, 46, 32, 97, 110, 100, 32]⟩ ++ ⟨#[49, 32, 99, 104, 97, 114, 97, 99, 116, 101, 114, 32, 109, 111, 114, 101]⟩ := by
                  rw [HRE.out, HT1.out HR2.out]
                  exact (ByteArray.append_assoc).trans (congrArg (fun z => f.extract 0 k ++ dots ++ z) one_more)
                subst hx
                go_wp2
                go_ret
                exact ⟨rfl, HB9.out⟩
              · have hr1' : ((r2 : Int) == 1) = false := by simp; omega
                have hsr : ret.size = k + 8 + t.size + 5 := by
                  rw [HRE.out, ByteArray.size_append, ByteArray.size_append, hhs]
                  rfl
                have hpx := prefix13 ret (f.extract 0 k ++ dots) w9 (by rw [hhs]; omega) (by rw [HRE.out]; exact head_eq _ _ _ _)
                have hsx := suffix14 ret more w9 (by omega) (by rw [hsr]; show 5 ≤ _; omega) (by rw [HRE.out]; exact tail_eq _ _)
                clear hhs hsr
                unfold dots at hpx
                unfold more at hsx
                go_wp2_with fail
                refine hpx.mono ?_
                rintro e w10 ⟨rfl, rfl⟩
                go_wp2_with fail
                refine hsx.mono ?_
                rintro e w11 ⟨rfl, rfl⟩
                go_wp2
                go_ret
                exact ⟨rfl, HB9.out⟩
end Go.Proofs.Qxb6604511aFmt
