import Derived.Test.Qxb6604511aFmtJoinWalk
namespace Go.Proofs.Qxb6604511aFmt
open Go.RowKit Go.Extern.Stop Go.Stop Go.Extern

/-! ### strings.Join of an owned row, (*finding).result, ZZresult -/
theorem join22 (B n c : Nat) (a : Option Addr) (xs : List ByteArray) (w : World) (hn : n = xs.length) (ho : w.ownsRow B 9 1 (.slice a n c) n (strs xs)) (hl : xs.length ≤ 65536) (hx : ∀ x ∈ xs, x.size ≤ 1048800) :
    Calls Tryf.prog 22 #[.slice a n c, .string ⟨#[59, 32]⟩] w fun e w' => e = .returned (.string ⟨(jn xs).toArray⟩) ∧ Below w.heap.size w w' := by
  have h0 := ho
  rcases ho.2 with ⟨e, h00⟩ | ⟨g, cap, cur, e, _, hrow, hle, _⟩
  · simp only [Value.slice.injEq] at e
    obtain ⟨rfl, rfl, rfl⟩ := e
    have hxs : xs = [] := List.eq_nil_of_length_eq_zero (by omega)
    subst hxs
    exact (Tryf.strings_Join_none none 0 ⟨#[59, 32]⟩ w).mono fun e w' ⟨h1, h2⟩ => ⟨h1, by rw [h2]; exact Below.refl _ _⟩
  · simp only [Value.slice.injEq] at e
    obtain ⟨rfl, _, rfl⟩ := e
    subst hn
    have hjl := jn_len xs hx xs.length (Nat.le_refl _)
    rw [List.take_length] at hjl
    exact (Tryf.strings_Join g 0 c xs ⟨#[59, 32]⟩ w (fun j x hj => by
      have hjl : j < xs.length := (List.getElem?_eq_some_iff.1 hj).1
      rw [Nat.zero_add, own_cell h0 j hjl]
      rw [List.getElem?_eq_getElem hjl] at hj
      simpa using hj) (lt_row hrow) (by omega) hle (show (jn xs).length ≤ _ by omega))
theorem results_row1 {fn : Func} {p : Tmp} {ty : TypeId} (h : fn.results = #[.cell p ty]) (tmps : Array Value) (w : World) (g : Nat) (cs : Array Value)
    (hp : tmps.getD p undef = .pointer (some ⟨g, 0, none⟩)) (hl : (loadVar ty ⟨g, 0, none⟩).run Tryf.prog w = .ok (.agg cs) w) :
    (results fn tmps).run Tryf.prog w = .ok (.agg cs) w := by
  have hp' : tmps[p]?.getD undef = .pointer (some ⟨g, 0, none⟩) := by simpa using hp
  simp [results, h, hp', asAddr, hl]
theorem info38 : (Tryf.prog.info? 38).map (·.size) = some 3 := by kernel_rfl
theorem load38 (w : World) (g : Nat) (cs : Array Value) (hs : cs.size = 3) (hg : w.heap[g]? = some (.cells cs 38 (0, 0))) : (loadVar 38 ⟨g, 0, none⟩).run Tryf.prog w = .ok (.agg cs) w :=
  run_loadVar_row w g 38 38 cs (0, 0) _ hg Tryf.underlying38 rfl (by rw [hs]; exact info38)
def zero38 : Array Value := #[.string ⟨#[]⟩, .int .u8 0, .string ⟨#[]⟩]
def res3 (r d : ByteArray) (u : Bool) : Array Value := #[.string r, .int .u8 (if u then 2 else 0), .string d]
theorem res3_one (r d : ByteArray) (u : Bool) : (res3 r d u).all (·.oneCell') = true := by cases u <;> kernel_rfl
set_option maxHeartbeats 1000000 in
set_option maxRecDepth 100000 in
theorem result20 (B M n c : Nat) (a : Option Addr) (u : Bool) (row : ByteArray) (xs : List ByteArray) (w : World) (hn : n = xs.length) (hM : w.heap[M]? = some (.cells #[.slice a n c, .slice none 0 0, .bool u] 42 (0, 0)))
    (ho : w.ownsRow B 9 1 (.slice a n c) n (strs xs)) (hl : xs.length ≤ 65536) (hx : ∀ x ∈ xs, x.size ≤ 1048800) :
    Calls Tryf.prog 20 #[.pointer (some ⟨M, 0, none⟩), .string row] w fun e w' => e = .returned (.agg (res3 row ⟨(jn xs).toArray⟩ u)) ∧ Below w.heap.size w w' := by
  have hMl := lt_row hM
  have hMa : (w.alloc (.cells zero38 38)).heap[M]? = some (.cells #[.slice a n c, .slice none 0 0, .bool u] 42 (0, 0)) := (Below.heap_alloc _ _ _ hMl).trans hM
  have hc0 : (w.alloc (.cells zero38 38)).cell? ⟨M, 0, none⟩ = some (.slice a n c) := by rw [cell_of_row _ M 0 _ 42 (0, 0) hMa]; rfl
  have hc1 : (w.alloc (.cells zero38 38)).cell? ⟨M, 1, none⟩ = some (.slice none 0 0) := by rw [cell_of_row _ M 1 _ 42 (0, 0) hMa]; rfl
  have hc2 : (w.alloc (.cells zero38 38)).cell? ⟨M, 2, none⟩ = some (.bool u) := by rw [cell_of_row _ M 2 _ 42 (0, 0) hMa]; rfl
  have hj := join22 B n c a xs (w.alloc (.cells zero38 38)) hn (World.ownsRow.alloc ho _) hl hx
  have HZ := hidp (heap_alloc_new w (.cells zero38 38))
  have HB := hidp ((Below.refl w.heap.size w).alloc (Nat.le_refl _) (.cells zero38 38))
  have hsz : (w.alloc (.cells zero38 38)).heap.size = w.heap.size + 1 := by simp
  have HSZ := hidp hsz
  clear hM hMa ho hn hsz
  unfold zero38 at hc0 hc1 hc2 hj
  cases u with
  | false =>
    go_enter Tryf.func20, Tryf.ntmps20
    go_wp2_with fail
    refine hj.mono ?_
    rintro e w1 ⟨rfl, hb1⟩
    have HB1 := hidp (HB.out.trans (hb1.mono (by have := HSZ.out; unfold zero38 at this; omega)))
    have HZ1 := hidp ((hb1.block w.heap.size (by simp)).trans HZ.out)
    clear hb1 hj hc0 hc1 hc2
    go_wp2_with (refine wpList_store_row rfl 38 (.tmp 4) (.tmp 30) rfl w.heap.size (res3 row ⟨(jn xs).toArray⟩ false) rfl rfl 38 zero38 HZ1.out info38 rfl (res3_one _ _ _) ?_)
    have HS2 := hidp (setRow_heap w1 w.heap.size zero38 (res3 row ⟨(jn xs).toArray⟩ false) 38 _ HZ1.out)
    refine bodyPost_ret (v := .agg (res3 row ⟨(jn xs).toArray⟩ false)) (results_row1 Tryf.results20 _ _ w.heap.size _ rfl (load38 _ _ _ rfl HS2.out)) rfl ?_
    exact ⟨rfl, HB1.out.trans ⟨rfl, rfl, rfl, by simp, fun k hk => setRow_other w1 _ k _ (by omega)⟩⟩
  | true =>
    go_enter Tryf.func20, Tryf.ntmps20
    go_wp2_with fail
    refine hj.mono ?_
    rintro e w1 ⟨rfl, hb1⟩
    have HB1 := hidp (HB.out.trans (hb1.mono (by have := HSZ.out; unfold zero38 at this; omega)))
    have HZ1 := hidp ((hb1.block w.heap.size (by simp)).trans HZ.out)
    clear hb1 hj hc0 hc1 hc2
    go_wp2_with (refine wpList_store_row rfl 38 (.tmp 4) (.tmp 30) rfl w.heap.size (res3 row ⟨(jn xs).toArray⟩ true) rfl rfl 38 zero38 HZ1.out info38 rfl (res3_one _ _ _) ?_)
    have HS2 := hidp (setRow_heap w1 w.heap.size zero38 (res3 row ⟨(jn xs).toArray⟩ true) 38 _ HZ1.out)
    refine bodyPost_ret (v := .agg (res3 row ⟨(jn xs).toArray⟩ true)) (results_row1 Tryf.results20 _ _ w.heap.size _ rfl (load38 _ _ _ rfl HS2.out)) rfl ?_
    exact ⟨rfl, HB1.out.trans ⟨rfl, rfl, rfl, by simp, fun k hk => setRow_other w1 _ k _ (by omega)⟩⟩
set_option maxRecDepth 100000 in
theorem result17 (B M n c : Nat) (a : Option Addr) (u : Bool) (row : ByteArray) (xs : List ByteArray) (w : World) (hn : n = xs.length) (hM : w.heap[M]? = some (.cells #[.slice a n c, .slice none 0 0, .bool u] 42 (0, 0)))
    (ho : w.ownsRow B 9 1 (.slice a n c) n (strs xs)) (hl : xs.length ≤ 65536) (hx : ∀ x ∈ xs, x.size ≤ 1048800) :
    Calls Tryf.prog 17 #[.pointer (some ⟨M, 0, none⟩), .string row] w fun e w' => e = .returned (.agg (res3 row ⟨(jn xs).toArray⟩ u)) ∧ Below w.heap.size w w' := by
  have hMl := lt_row hM
  have hj := result20 B M n c a u row xs (w.alloc (.cells zero38 38)) hn ((Below.heap_alloc _ _ _ hMl).trans hM) (World.ownsRow.alloc ho _) hl hx
  have HZ := hidp (heap_alloc_new w (.cells zero38 38))
  have HB := hidp ((Below.refl w.heap.size w).alloc (Nat.le_refl _) (.cells zero38 38))
  have hsz : (w.alloc (.cells zero38 38)).heap.size = w.heap.size + 1 := by simp
  have HSZ := hidp hsz
  obtain ⟨r3, hr3⟩ : ∃ r3, res3 row ⟨(jn xs).toArray⟩ u = r3 := ⟨_, rfl⟩
  have h3s : r3.size = 3 := by rw [← hr3]; rfl
  have h31 : r3.all (·.oneCell') = true := by rw [← hr3]; exact res3_one _ _ _
  have H3S := hidp h3s
  have H31 := hidp h31
  have HR := hidp hr3
  rw [hr3] at hj
  clear hM ho hn hsz hr3 h3s h31
  unfold zero38 at hj
  go_enter Tryf.func17, Tryf.ntmps17
  go_wp2_with fail
  refine hj.mono ?_
  rintro e w1 ⟨rfl, hb1⟩
  have HB1 := hidp (HB.out.trans (hb1.mono (by have := HSZ.out; unfold zero38 at this; omega)))
  have HZ1 := hidp ((hb1.block w.heap.size (by simp)).trans HZ.out)
  clear hb1 hj
  go_wp2_with (refine wpList_store_row rfl 38 (.tmp 4) (.tmp 7) rfl w.heap.size r3 rfl rfl 38 zero38 HZ1.out (by rw [H3S.out]; exact info38) (by rw [H3S.out]; rfl) H31.out ?_)
  have HS2 := hidp (setRow_heap w1 w.heap.size zero38 r3 38 _ HZ1.out)
  refine bodyPost_ret (v := .agg r3) (results_row1 Tryf.results17 _ _ w.heap.size _ rfl (load38 _ _ _ H3S.out HS2.out)) rfl ?_
  exact ⟨by rw [HR.out], HB1.out.trans ⟨rfl, rfl, rfl, by simp, fun k hk => setRow_other w1 _ k _ (by omega)⟩⟩
end Go.Proofs.Qxb6604511aFmt
