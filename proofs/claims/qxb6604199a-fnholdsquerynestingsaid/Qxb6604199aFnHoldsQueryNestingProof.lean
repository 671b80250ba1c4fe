/- The proof of 'Rows.FnHoldsQueryNestingSaid': the frame was laid by the kit's program; the walk is filled. -/
import Derived.Test.Qxb6604199aRows
import Derived.Test.Qxb6604199aNestWalks
import Derived.WalkKit
import Derived.ProofKit
import Derived.OpenShut
import Derived.ShutString
namespace Go.Proofs.Qxb6604199a.fnHoldsQueryNesting
open Go.ChangeShapes Go.WideShapes Go.ChangeAt Go.RowKit
open Go.ChangeMaps (open_string shut_string)
set_option linter.unusedVariables false      -- a walk need not use every 'w<i>' (that an integer argument fits its kind)

theorem own : ownKnob Try.prog.godebug = none := by kernel_rfl

/-! ### STEP 1: THE WALK: the Go text returns true. 'Grown w w'': the world has at most new blocks (Derived/RowKit3.lean). Part the cases AHEAD of 'go_enter' where a test parts the walk; take each callee by a contract of your own. -/
theorem query_as (c E : ByteArray) (hE : E = qry c) (hc : c.size ≤ 1048576) (w : World) :
    Calls Try.prog 14 #[.string c] w fun e w' => e = .returned (.string E) ∧ w' = w := by
  rw [hE]; exact query14 c w hc
theorem place_as (Z O : ByteArray) (hZ : Z = qry ⟨#[0]⟩) (hO : O = qry ⟨#[1]⟩) (w : World) :
    Calls Try.prog 15 #[.string Z, .string O] w fun e w' => e = .returned (.int .i64 332) ∧ Grown w w' := by
  rw [hZ, hO]; exact (place15 w).mono fun e w' ⟨he, n, hn⟩ => ⟨he, by rw [hn]; exact Grown.refl w⟩
theorem nest_as (s : ByteArray) (b : Bool) (hb : nestB s.data.toList = b) (hs : s.size ≤ 2000000) (w : World) :
    Calls Try.prog 18 #[.string s] w fun e w' => e = .returned (.bool b) ∧ w' = w := by
  rw [← hb]; exact nest18 s w hs
theorem odd_as (s : ByteArray) (b : Bool) (hb : oddN false s.data.toList = b) (hs : s.size ≤ 2000000) (w : World) :
    Calls Try.prog 19 #[.string s] w fun e w' => e = .returned (.bool b) ∧ w' = w := by
  rw [← hb]; exact odd19 s w hs

set_option maxHeartbeats 1000000 in
theorem walk (a0 : ByteArray) (w0 : a0.size ≤ maxLen) (w : World) :
    Calls Try.prog 8 #[.string a0] w fun e w' => e = .returned (.bool true) ∧ Grown w w' := by
  unfold maxLen at w0
  by_cases h0 : 1048576 < a0.size
  · go_enter Try.func8, Try.ntmps8
    go_wp2
    go_ret
    exact ⟨rfl, Grown.refl _⟩
  have h0' : a0.size ≤ 1048576 := by omega
  obtain ⟨E, hE⟩ : ∃ E, E = qry ⟨#[]⟩ := ⟨_, rfl⟩
  obtain ⟨Z, hZ⟩ : ∃ Z, Z = qry ⟨#[0]⟩ := ⟨_, rfl⟩
  obtain ⟨O, hO⟩ : ∃ O, O = qry ⟨#[1]⟩ := ⟨_, rfl⟩
  obtain ⟨Q, hQ⟩ : ∃ Q, Q = qry a0 := ⟨_, rfl⟩
  have hEs : E.size = 374 := by rw [hE]; exact emp_size
  have hQs : Q.size ≤ 2000000 := by rw [hQ, qry_size]; omega
  have qE := query_as _ E hE (by decide)
  have qZ := query_as _ Z hZ (by decide)
  have qO := query_as _ O hO (by decide)
  have qQ := query_as _ Q hQ h0'
  have pl := place_as Z O hZ hO
  have eB : E.extract 0 332 = preB := by rw [hE]; exact frame_pre
  have eA : E.extract 332 374 = postB := by rw [hE]; exact frame_post
  have nB := nest_as (E.extract 0 332) true (by rw [eB]; exact nest_pre) (by rw [eB, preB_size]; omega)
  have oB := odd_as (E.extract 0 332) false (by rw [eB]; exact odd_preB) (by rw [eB, preB_size]; omega)
  have nA := nest_as (E.extract 332 374) true (by rw [eA]; exact nest_post) (by rw [eA, postB_size]; omega)
  have oA := odd_as (E.extract 332 374) false (by rw [eA]; exact odd_postB) (by rw [eA, postB_size]; omega)
  obtain ⟨P, hP⟩ : ∃ P, nestB a0.data.toList = P := ⟨_, rfl⟩
  obtain ⟨R, hR⟩ : ∃ R, oddN false a0.data.toList = R := ⟨_, rfl⟩
  have nC := nest_as a0 P hP (by omega)
  have oC := odd_as a0 R hR (by omega)
  have nQ := nest_as Q P (by rw [hQ, nest_qry]; exact hP) hQs
  have oQ := odd_as Q R (by rw [hQ, odd_qry]; exact hR) hQs
  clear hE hZ hO hQ hP hR hQs eB eA
  go_enter Try.func8, Try.ntmps8
  go_wp2_with (go_at_call 17; go_in)
  refine (qE _).mono ?_; rintro e w' ⟨rfl, rfl⟩
  go_wp2_with fail
  refine (qZ _).mono ?_; rintro e w' ⟨rfl, rfl⟩
  go_wp2_with fail
  refine (qO _).mono ?_; rintro e w' ⟨rfl, rfl⟩
  go_wp2_with fail
  refine (pl _).mono ?_; rintro e w1 ⟨rfl, hg⟩
  have HG := hid hg
  clear hg
  go_wp2_with fail
  refine (nB _).mono ?_; rintro e w' ⟨rfl, rfl⟩
  go_wp2_with fail
  refine (oB _).mono ?_; rintro e w' ⟨rfl, rfl⟩
  go_wp2_with fail
  refine (nA _).mono ?_; rintro e w' ⟨rfl, rfl⟩
  go_wp2_with fail
  refine (oA _).mono ?_; rintro e w' ⟨rfl, rfl⟩
  go_wp2_with fail
  refine (qQ _).mono ?_; rintro e w' ⟨rfl, rfl⟩
  go_wp2_with fail
  refine (nQ _).mono ?_; rintro e w' ⟨rfl, rfl⟩
  go_wp2_with fail
  refine (nC _).mono ?_; rintro e w' ⟨rfl, rfl⟩
  go_wp2_with fail
  refine (oQ _).mono ?_; rintro e w' ⟨rfl, rfl⟩
  go_wp2_with fail
  refine (oC _).mono ?_; rintro e w' ⟨rfl, rfl⟩
  go_wp2_with fail
  go_ret
  exact ⟨rfl, HG.out⟩

/-! ### THE ROW's STEP: WRITTEN OUT: LEAVE IT -/
set_option maxRecDepth 100000 in
theorem lifted (os : Os) (started : os.Started) (H : Type) (enc : TypeId × Value → H) :
    ReturnsInHanded {} Try.checked os 8 .any (Rows.fnHoldsQueryNestingSpec.pre6 enc Try.prog Try.f8 Rows.fnHoldsQueryNestingRow.domain false) (Rows.fnHoldsQueryNestingSpec.post enc Try.prog Try.f8 false true false false) := by
  refine returnsInHanded_of_change (C := Try.checked) own started (by kernel_rfl) Try.func8
    (ChangeSpec.witness6 (enc := enc) (C := Try.checked) false ⟨#[], #[.string ByteArray.empty], []⟩ 8 (by kernel_rfl) (by kernel_rfl) (by kernel_rfl) (by kernel_rfl)) ?_
  intro W base args ds gs before hval0 hW hcnd _
  have hval : ∀ (j : Nat) t v, Try.f8.params[j]? = some t → args[j]? = some v → Value.okWide Try.prog W .any base t v := hval0
  have hW' := hW
  obtain ⟨p, q, hA0, hV, rfl, hfz, hnd⟩ := hW
  have hA : DataW.TrodAll enc Try.prog W 0 (fun _ => true) true Try.f8.params.toList args.toList ds p := hA0
  rw [Try.params8] at hA hval
  obtain ⟨v0, vs0, d0, ds0, p0, q0, hargs, rfl, rfl, h0, r0⟩ := trodAll_cons hA
  obtain ⟨rfl, rfl, rfl⟩ := trodAll_nil r0
  obtain rfl : args = #[v0] := by cases args; simp_all
  obtain ⟨rfl, rfl⟩ := trodVars_none hV
  obtain ⟨a0, rfl, rfl, rfl, w0⟩ := open_string Try.underlying9 (hval 0 9 v0 rfl rfl) h0
  clear hA0 hval0
  simp only [List.append_nil] at hW'
  refine (walk a0 w0 W).mono fun e W' ⟨he, hg⟩ => ?_
  subst he
  exact ⟨_, rfl, post_of_same (pa := []) (pv := []) hW' (fun _ _ _ => (trodAll_cons_mk (shut_bool Try.underlying4 _) trodAll_mk0)) (fun sp _ => (trodAll_cons_mk (shut_string Try.underlying9 w0) trodAll_mk0)) (fun _ _ => rfl) rfl
    (hg.frame _) hg.2.1 (ok_one (by kernel_rfl) rfl (okWide_bool_mk Try.underlying4 _))⟩

theorem over : Rows.fnHoldsQueryNestingRow.holds Try.pinned (OpenSpec.ofChange Rows.fnHoldsQueryNestingSpec) :=
  OpenClaim.holds_of_wide 8 Try.f8 rfl rfl rfl rfl rfl rfl rfl ⟨rfl, rfl, rfl, rfl, rfl⟩ rfl rfl rfl rfl rfl (by kernel_rfl) Try.func8 (by kernel_rfl)
    (of_decide_eq_true (by kernel_rfl)) (by unfold Func.isWrapper; first | (rw [if_pos (by decide +kernel)]; kernel_rfl) | (rw [if_neg (by decide +kernel)]; exact ⟨rfl, rfl⟩))
    (fun os started H enc _ => lifted os started H enc)

/-- ████ THE STATEMENT ████ -/
theorem proved : Rows.FnHoldsQueryNestingSaid :=
  over
end Go.Proofs.Qxb6604199a.fnHoldsQueryNesting
